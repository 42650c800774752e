import PyProof.Rows.All
import PyProof.AutoIntOps
import PyProof.SliceList
import PyProof.StrWalks
import PyProof.StrLawsTight
import PyProof.TupleOfSeq
import PyProof.SetRoads
import PyProof.Rows.SetFrom
import KE.KDictOf
import Wide.FinOn
import OpenK.AllK
import Wide.All
import Lean
import PySem.Challenge.RW_xc0029_01
set_option autoImplicit false
set_option Elab.async false
set_option linter.unusedVariables false
set_option linter.unusedSimpArgs false
set_option linter.unusedSectionVars false
set_option maxRecDepth 100000
namespace Mine
section
universe u v w x y z p q r s t o
theorem zR{P1 P2:Prop}{Q:Prop}(H:(P1∧P2)) (k:P1→P2→Q):Q:=k  H.1 H.2
theorem z9{P1 P2 P3:Prop}{Q:Prop}(H:(P1∧P2∧P3)) (k:P1→P2→P3→Q):Q:=k  H.1 H.2.1 H.2.2
theorem Ja{P1 P2 P3 P4:Prop}{Q:Prop}(H:(P1∧P2∧P3∧P4)) (k:P1→P2→P3→P4→Q):Q:=k  H.1 H.2.1 H.2.2.1 H.2.2.2
theorem zco{P1 P2 P3 P4 P5:Prop}{Q:Prop}(H:(P1∧P2∧P3∧P4∧P5)) (k:P1→P2→P3→P4→P5→Q):Q:=k  H.1 H.2.1 H.2.2.1 H.2.2.2.1 H.2.2.2.2
theorem zd{α:Sort u}{P1 P2:α→Prop}{Q:Prop}(H:(∃a,P1 a∧P2 a)) (k:∀a,P1 a→P2 a→Q):Q:=H.elim fun a H=>k a H.1 H.2
theorem qD{α:Sort u}{P1 P2 P3:α→Prop}{Q:Prop}(H:(∃a,P1 a∧P2 a∧P3 a)) (k:∀a,P1 a→P2 a→P3 a→Q):Q:=H.elim fun a H=>k a H.1 H.2.1 H.2.2
theorem jK{α:Sort u}{P1 P2 P3 P4:α→Prop}{Q:Prop}(H:(∃a,P1 a∧P2 a∧P3 a∧P4 a)) (k:∀a,P1 a→P2 a→P3 a→P4 a→Q):Q:=H.elim fun a H=>k a H.1 H.2.1 H.2.2.1 H.2.2.2
theorem zpS{α:Sort u}{P1 P2 P3 P4 P5:α→Prop}{Q:Prop}(H:(∃a,P1 a∧P2 a∧P3 a∧P4 a∧P5 a)) (k:∀a,P1 a→P2 a→P3 a→P4 a→P5 a→Q):Q:=H.elim fun a H=>k a H.1 H.2.1 H.2.2.1 H.2.2.2.1 H.2.2.2.2
theorem Zu{α:Sort u}{β:Sort v}{P1:α→β→Prop}{Q:Prop}(H:(∃a b,P1 a b)) (k:∀a b,P1 a b→Q):Q:=H.elim fun a H=>H.elim fun b H=>k a b H
theorem Qd{α:Sort u}{β:Sort v}{P1 P2:α→β→Prop}{Q:Prop}(H:(∃a b,P1 a b∧P2 a b)) (k:∀a b,P1 a b→P2 a b→Q):Q:=H.elim fun a H=>H.elim fun b H=>k a b H.1 H.2
theorem Zk{α:Sort u}{β:Sort v}{P1 P2 P3:α→β→Prop}{Q:Prop}(H:(∃a b,P1 a b∧P2 a b∧P3 a b)) (k:∀a b,P1 a b→P2 a b→P3 a b→Q):Q:=H.elim fun a H=>H.elim fun b H=>k a b H.1 H.2.1 H.2.2
theorem ziO{α:Sort u}{β:Sort v}{P1 P2 P3 P4:α→β→Prop}{Q:Prop}(H:(∃a b,P1 a b∧P2 a b∧P3 a b∧P4 a b)) (k:∀a b,P1 a b→P2 a b→P3 a b→P4 a b→Q):Q:=H.elim fun a H=>H.elim fun b H=>k a b H.1 H.2.1 H.2.2.1 H.2.2.2
theorem zdR{α:Sort u}{β:Sort v}{P1 P2 P3 P4 P5:α→β→Prop}{Q:Prop}(H:(∃a b,P1 a b∧P2 a b∧P3 a b∧P4 a b∧P5 a b)) (k:∀a b,P1 a b→P2 a b→P3 a b→P4 a b→P5 a b→Q):Q:=H.elim fun a H=>H.elim fun b H=>k a b H.1 H.2.1 H.2.2.1 H.2.2.2.1 H.2.2.2.2
theorem zpw{α:Sort u}{β:Sort v}{P1 P2 P3 P4 P5 P6 P7 P8 P9:α→β→Prop}{Q:Prop}(H:(∃a b,P1 a b∧P2 a b∧P3 a b∧P4 a b∧P5 a b∧P6 a b∧P7 a b∧P8 a b∧P9 a b)) (k:∀a b,P1 a b→P2 a b→P3 a b→P4 a b→P5 a b→P6 a b→P7 a b→P8 a b→P9 a b→Q):Q:=H.elim fun a H=>H.elim fun b H=>k a b H.1 H.2.1 H.2.2.1 H.2.2.2.1 H.2.2.2.2.1 H.2.2.2.2.2.1 H.2.2.2.2.2.2.1 H.2.2.2.2.2.2.2.1 H.2.2.2.2.2.2.2.2
theorem zmB{α:Sort u}{β:Sort v}{γ:Sort w}{P1:α→β→γ→Prop}{Q:Prop}(H:(∃a b c,P1 a b c)) (k:∀a b c,P1 a b c→Q):Q:=H.elim fun a H=>H.elim fun b H=>H.elim fun c H=>k a b c H
theorem zY{α:Sort u}{β:Sort v}{γ:Sort w}{P1 P2:α→β→γ→Prop}{Q:Prop}(H:(∃a b c,P1 a b c∧P2 a b c)) (k:∀a b c,P1 a b c→P2 a b c→Q):Q:=H.elim fun a H=>H.elim fun b H=>H.elim fun c H=>k a b c H.1 H.2
theorem qC{α:Sort u}{β:Sort v}{γ:Sort w}{P1 P2 P3:α→β→γ→Prop}{Q:Prop}(H:(∃a b c,P1 a b c∧P2 a b c∧P3 a b c)) (k:∀a b c,P1 a b c→P2 a b c→P3 a b c→Q):Q:=H.elim fun a H=>H.elim fun b H=>H.elim fun c H=>k a b c H.1 H.2.1 H.2.2
theorem zbg{α:Sort u}{β:Sort v}{γ:Sort w}{P1 P2 P3 P4:α→β→γ→Prop}{Q:Prop}(H:(∃a b c,P1 a b c∧P2 a b c∧P3 a b c∧P4 a b c)) (k:∀a b c,P1 a b c→P2 a b c→P3 a b c→P4 a b c→Q):Q:=H.elim fun a H=>H.elim fun b H=>H.elim fun c H=>k a b c H.1 H.2.1 H.2.2.1 H.2.2.2
theorem zmA{α:Sort u}{β:Sort v}{γ:Sort w}{P1 P2 P3 P4 P5 P6:α→β→γ→Prop}{Q:Prop}(H:(∃a b c,P1 a b c∧P2 a b c∧P3 a b c∧P4 a b c∧P5 a b c∧P6 a b c)) (k:∀a b c,P1 a b c→P2 a b c→P3 a b c→P4 a b c→P5 a b c→P6 a b c→Q):Q:=H.elim fun a H=>H.elim fun b H=>H.elim fun c H=>k a b c H.1 H.2.1 H.2.2.1 H.2.2.2.1 H.2.2.2.2.1 H.2.2.2.2.2
theorem zpv{α:Sort u}{β:Sort v}{γ:Sort w}{δ:Sort x}{P1:α→β→γ→δ→Prop}{Q:Prop}(H:(∃a b c d,P1 a b c d)) (k:∀a b c d,P1 a b c d→Q):Q:=H.elim fun a H=>H.elim fun b H=>H.elim fun c H=>H.elim fun d H=>k a b c d H
theorem zpu{α:Sort u}{β:Sort v}{γ:Sort w}{δ:Sort x}{P1 P2:α→β→γ→δ→Prop}{Q:Prop}(H:(∃a b c d,P1 a b c d∧P2 a b c d)) (k:∀a b c d,P1 a b c d→P2 a b c d→Q):Q:=H.elim fun a H=>H.elim fun b H=>H.elim fun c H=>H.elim fun d H=>k a b c d H.1 H.2
theorem zmz{α:Sort u}{β:Sort v}{γ:Sort w}{δ:Sort x}{P1 P2 P3 P4:α→β→γ→δ→Prop}{Q:Prop}(H:(∃a b c d,P1 a b c d∧P2 a b c d∧P3 a b c d∧P4 a b c d)) (k:∀a b c d,P1 a b c d→P2 a b c d→P3 a b c d→P4 a b c d→Q):Q:=H.elim fun a H=>H.elim fun b H=>H.elim fun c H=>H.elim fun d H=>k a b c d H.1 H.2.1 H.2.2.1 H.2.2.2
theorem zmy{α:Sort u}{β:Sort v}{γ:Sort w}{δ:Sort x}{P1 P2 P3 P4 P5:α→β→γ→δ→Prop}{Q:Prop}(H:(∃a b c d,P1 a b c d∧P2 a b c d∧P3 a b c d∧P4 a b c d∧P5 a b c d)) (k:∀a b c d,P1 a b c d→P2 a b c d→P3 a b c d→P4 a b c d→P5 a b c d→Q):Q:=H.elim fun a H=>H.elim fun b H=>H.elim fun c H=>H.elim fun d H=>k a b c d H.1 H.2.1 H.2.2.1 H.2.2.2.1 H.2.2.2.2
theorem zmx{α:Sort u}{β:Sort v}{γ:Sort w}{δ:Sort x}{P1 P2 P3 P4 P5 P6:α→β→γ→δ→Prop}{Q:Prop}(H:(∃a b c d,P1 a b c d∧P2 a b c d∧P3 a b c d∧P4 a b c d∧P5 a b c d∧P6 a b c d)) (k:∀a b c d,P1 a b c d→P2 a b c d→P3 a b c d→P4 a b c d→P5 a b c d→P6 a b c d→Q):Q:=H.elim fun a H=>H.elim fun b H=>H.elim fun c H=>H.elim fun d H=>k a b c d H.1 H.2.1 H.2.2.1 H.2.2.2.1 H.2.2.2.2.1 H.2.2.2.2.2
theorem zdQ{α:Sort u}{β:Sort v}{γ:Sort w}{δ:Sort x}{P1 P2 P3 P4 P5 P6 P7 P8:α→β→γ→δ→Prop}{Q:Prop}(H:(∃a b c d,P1 a b c d∧P2 a b c d∧P3 a b c d∧P4 a b c d∧P5 a b c d∧P6 a b c d∧P7 a b c d∧P8 a b c d)) (k:∀a b c d,P1 a b c d→P2 a b c d→P3 a b c d→P4 a b c d→P5 a b c d→P6 a b c d→P7 a b c d→P8 a b c d→Q):Q:=H.elim fun a H=>H.elim fun b H=>H.elim fun c H=>H.elim fun d H=>k a b c d H.1 H.2.1 H.2.2.1 H.2.2.2.1 H.2.2.2.2.1 H.2.2.2.2.2.1 H.2.2.2.2.2.2.1 H.2.2.2.2.2.2.2
theorem zpt{α:Sort u}{β:Sort v}{γ:Sort w}{δ:Sort x}{P1 P2 P3 P4 P5 P6 P7 P8 P9:α→β→γ→δ→Prop}{Q:Prop}(H:(∃a b c d,P1 a b c d∧P2 a b c d∧P3 a b c d∧P4 a b c d∧P5 a b c d∧P6 a b c d∧P7 a b c d∧P8 a b c d∧P9 a b c d)) (k:∀a b c d,P1 a b c d→P2 a b c d→P3 a b c d→P4 a b c d→P5 a b c d→P6 a b c d→P7 a b c d→P8 a b c d→P9 a b c d→Q):Q:=H.elim fun a H=>H.elim fun b H=>H.elim fun c H=>H.elim fun d H=>k a b c d H.1 H.2.1 H.2.2.1 H.2.2.2.1 H.2.2.2.2.1 H.2.2.2.2.2.1 H.2.2.2.2.2.2.1 H.2.2.2.2.2.2.2.1 H.2.2.2.2.2.2.2.2
theorem zps{α:Sort u}{β:Sort v}{γ:Sort w}{δ:Sort x}{ε:Sort y}{P1:α→β→γ→δ→ε→Prop}{Q:Prop}(H:(∃a b c d e,P1 a b c d e)) (k:∀a b c d e,P1 a b c d e→Q):Q:=H.elim fun a H=>H.elim fun b H=>H.elim fun c H=>H.elim fun d H=>H.elim fun e H=>k a b c d e H
theorem zpr{α:Sort u}{β:Sort v}{γ:Sort w}{δ:Sort x}{ε:Sort y}{P1 P2 P3 P4 P5 P6:α→β→γ→δ→ε→Prop}{Q:Prop}(H:(∃a b c d e,P1 a b c d e∧P2 a b c d e∧P3 a b c d e∧P4 a b c d e∧P5 a b c d e∧P6 a b c d e)) (k:∀a b c d e,P1 a b c d e→P2 a b c d e→P3 a b c d e→P4 a b c d e→P5 a b c d e→P6 a b c d e→Q):Q:=H.elim fun a H=>H.elim fun b H=>H.elim fun c H=>H.elim fun d H=>H.elim fun e H=>k a b c d e H.1 H.2.1 H.2.2.1 H.2.2.2.1 H.2.2.2.2.1 H.2.2.2.2.2
theorem zhS{k p n:Nat}(h:k≤2*n):(k-1)/2-p/2≤n:=Nat.le_trans (Nat.sub_le _ _) (Nat.div_le_of_le_mul (Nat.le_trans (Nat.sub_le _ _) h))
theorem zh0{k l:Nat}(c:Nat) (hk:k<l):min (k+1) l+c+(l-(k+1))=l+c:=by rw[Nat.min_eq_left hk,Nat.add_right_comm,Nat.add_sub_cancel' hk]
theorem Jz{a n:Nat}(h:a≤n) (hn:n<9223372036854775808):(a:Int)<2^63:=Int.ofNat_lt.mpr (Nat.lt_of_le_of_lt h hn)
theorem zpC{a n:Nat}(h:a≤n) (hn:n<65536):(a:Int)<2^16:=Int.ofNat_lt.mpr (Nat.lt_of_le_of_lt h hn)
theorem zpE(a:Nat):-(2^63:Int)≤(a:Int):=Int.le_trans (by decide) (Int.natCast_nonneg a)
end
section
open PySem PySem.W
set_option genSizeOf false
set_option genInjectivity false
theorem Qh{α:Type}{x:Option α}(h:∀o,x=some o→False):x=none:=by
 cases x with
 | none=>rfl
 | some o=>exact(h o rfl).elim
theorem zH{α:Type}{x:Option α}{o:α}{P:Prop}(h:x=none) (e:x=some o):P:=by rw[h] at e;cases e
theorem Z1{α:Type}{x:Option α}{a b:α}(h:x=some a) (e:x=some b):a=b:=Option.some.inj (h.symm.trans e)
inductive D where
 | none
 | bool (b:Bool)
 | int (i:Int)
 | str (s:Str)
 | tup (l:List D)
 | lst (l:List D)
 | dicS (l:List (Str×D))
 | dicI (l:List (Int×D))
 | inst (c:Addr) (l:List (Str×D))
 | raw (v:Value)
noncomputable abbrev FZ:=Addr→Option Obj
noncomputable def FZ.le(F G:FZ):Prop:=∀a o,F a=some o→G a=some o
theorem FZ.le.refl(F:FZ):F.le F:=fun _ _ e=>e
theorem FZ.le.trans{F G H:FZ}(a:F.le G) (b:G.le H):F.le H:=fun _ _ e=>b _ _ (a _ _ e)
noncomputable def DictO{prog:Program}{w:World}{K:Type} [DecidableEq K] (knd:KeyKind prog w K) (o:Obj) (kvs:List (K×Value)):Prop:=
 ∃es ep,o.ExactDict∧o.data=.dict es ep∧KeysOf knd es∧Pairs knd es.toList kvs∧(kvs.map (·.1)).Nodup
theorem DictO.of{prog:Program}{w:World}{K:Type} [DecidableEq K] {knd:KeyKind prog w K}{h:Heap}{a:Addr}{o:Obj}{kvs:List (K×Value)}(x:DictO knd o kvs) (e:h.get? a=some o):h.DictOf knd a kvs:=
 ⟨o,x.imp fun _=>Exists.imp fun _ r=>⟨e,r⟩⟩
theorem DictO.to{prog:Program}{w:World}{K:Type} [DecidableEq K] {knd:KeyKind prog w K}{h:Heap}{a:Addr}{kvs:List (K×Value)}(x:h.DictOf knd a kvs):∃o,h.get? a=some o∧DictO knd o kvs:=
 x.imp fun _ x=>x.elim fun es x=>x.elim fun ep r=>⟨r.1,es,ep,r.2⟩
mutual
inductive V (prog:Program) (w:World) (F:FZ):Value→D→Prop
 | none:V prog w F .none .none
 | bool (b):V prog w F (.bool b) (.bool b)
 | int (i t):V prog w F (.int i t) (.int i)
 | str (x t):V prog w F (.str x t) (.str x)
 | tup {a o vs n ds}:F a=some o→o={cls:=.type "tuple",data:=.seq vs n}→Vs prog w F vs.toList ds→V prog w F (.ref a) (.tup ds)
 | lst {a o vs n ds}:F a=some o→o={cls:=.type "list",data:=.seq vs n}→Vs prog w F vs.toList ds→V prog w F (.ref a) (.lst ds)
 | dicS {a o kvs ds}:F a=some o→a≠sysModules→DictO (strKind prog w) o kvs→kvs.map (·.1)=ds.map (·.1)→Vs prog w F (kvs.map (·.2)) (ds.map (·.2))→V prog w F (.ref a) (.dicS ds)
 | dicI {a o kvs ds}:F a=some o→a≠sysModules→DictO (intKind prog w) o kvs→kvs.map (·.1)=ds.map (·.1)→Vs prog w F (kvs.map (·.2)) (ds.map (·.2))→V prog w F (.ref a) (.dicI ds)
 | inst {a o dx od kvs c ds}:F a=some o→o={cls:=.ref c,dict:=some dx}→F dx=some od→DictO (strKind prog w) od kvs→
   kvs.map (·.1)=ds.map (·.1)→Vs prog w F (kvs.map (·.2)) (ds.map (·.2))→V prog w F (.ref a) (.inst c ds)
 | raw (v):V prog w F v (.raw v)
inductive Vs (prog:Program) (w:World) (F:FZ):List Value→List D→Prop
 | nil:Vs prog w F [] []
 | cons {v d vs ds}:V prog w F v d→Vs prog w F vs ds→Vs prog w F (v::vs) (d::ds)
end
section
variable {prog:Program}{w:World}
noncomputable def zo7(prog:Program) (w:World) (F:FZ) (v:Value):D→Prop
 | .none=>v=.none
 | .bool b=>v=.bool b
 | .int i=>∃t,v=.int i t
 | .str x=>∃t,v=.str x t
 | .tup ds=>∃a vs n,v=.ref a∧F a=some {cls:=.type "tuple",data:=.seq vs n}∧Vs prog w F vs.toList ds
 | .lst ds=>∃a vs n,v=.ref a∧F a=some {cls:=.type "list",data:=.seq vs n}∧Vs prog w F vs.toList ds
 | .dicS ds=>∃a o kvs,v=.ref a∧F a=some o∧a≠sysModules∧DictO (strKind prog w) o kvs∧kvs.map (·.1)=ds.map (·.1)∧Vs prog w F (kvs.map (·.2)) (ds.map (·.2))
 | .dicI ds=>∃a o kvs,v=.ref a∧F a=some o∧a≠sysModules∧DictO (intKind prog w) o kvs∧kvs.map (·.1)=ds.map (·.1)∧Vs prog w F (kvs.map (·.2)) (ds.map (·.2))
 | .inst c ds=>∃a dx od kvs,v=.ref a∧F a=some {cls:=.ref c,dict:=some dx}∧F dx=some od∧DictO (strKind prog w) od kvs∧kvs.map (·.1)=ds.map (·.1)∧Vs prog w F (kvs.map (·.2)) (ds.map (·.2))
 | .raw u=>v=u
noncomputable def zpA(prog:Program) (w:World) (F:FZ) (vs:List Value):List D→Prop
 | []=>vs=[]
 | d::ds=>∃v vs',vs=v::vs'∧V prog w F v d∧Vs prog w F vs' ds
theorem V.inv{F:FZ}{v:Value}{d:D}(h:V prog w F v d):zo7 prog w F v d:=
 V.rec (motive_1:=fun v d _=>zo7 prog w F v d) (motive_2:=fun _ _ _=>True) rfl (fun _=>rfl) (fun _ t=>⟨t,rfl⟩) (fun _ t=>⟨t,rfl⟩) (fun h1 h2 h3 _=>⟨_,_,_,rfl,h2▸h1,h3⟩) (fun h1 h2 h3 _=>⟨_,_,_,rfl,h2▸h1,h3⟩)
  (fun h1 h2 h3 h4 h5 _=>⟨_,_,_,rfl,h1,h2,h3,h4,h5⟩) (fun h1 h2 h3 h4 h5 _=>⟨_,_,_,rfl,h1,h2,h3,h4,h5⟩) (fun h1 h2 h3 h4 h5 h6 _=>⟨_,_,_,_,rfl,h2▸h1,h3,h4,h5,h6⟩) (fun _=>rfl) trivial (fun _ _ _ _=>trivial) h
theorem Vs.inv{F:FZ}{vs:List Value}{ds:List D}(h:Vs prog w F vs ds):zpA prog w F vs ds:=by
 cases h with
 | nil=>exact rfl
 | cons h1 h2=>exact⟨_,_,rfl,h1,h2⟩
theorem Vs.one{F:FZ}{vs:List Value}{d:D}(h:Vs prog w F vs [d]):∃v,vs=[v]∧V prog w F v d:=by
 obtain⟨v,_,rfl,h1,h2⟩:=h.inv
 obtain rfl:=h2.inv
 exact⟨v,rfl,h1⟩
theorem Vs.two{F:FZ}{vs:List Value}{d e:D}(h:Vs prog w F vs [d,e]):∃v u,vs=[v,u]∧V prog w F v d∧V prog w F u e:=by
 obtain⟨v,_,rfl,h1,h2⟩:=h.inv
 obtain⟨u,rfl,h3⟩:=h2.one
 exact⟨v,u,rfl,h1,h3⟩
theorem Vs.uncons{F:FZ}{v:Value}{vs:List Value}{d:D}{ds:List D}(h:Vs prog w F (v::vs) (d::ds)):V prog w F v d∧Vs prog w F vs ds:=by
 obtain⟨_,_,e,h1,h2⟩:=h.inv
 rw[(List.cons.inj e).1,(List.cons.inj e).2];exact⟨h1,h2⟩
theorem V.mono{F G:FZ}(hle:F.le G) {v d}(h:V prog w F v d):V prog w G v d:=
 V.rec (motive_1:=fun v d _=>V prog w G v d) (motive_2:=fun vs ds _=>Vs prog w G vs ds) .none .bool .int .str (fun h1 h2 _ h3=>.tup (hle _ _ h1) h2 h3) (fun h1 h2 _ h3=>.lst (hle _ _ h1) h2 h3)
  (fun h1 h2 h3 h4 _ h5=>.dicS (hle _ _ h1) h2 h3 h4 h5) (fun h1 h2 h3 h4 _ h5=>.dicI (hle _ _ h1) h2 h3 h4 h5) (fun h1 h2 h3 h4 h5 _ h6=>.inst (hle _ _ h1) h2 (hle _ _ h3) h4 h5 h6) .raw .nil (fun _ _ h t=>.cons h t) h
theorem Vs.ind{F:FZ}{P:List Value→List D→Prop}(h0:P [] []) (hs:∀v d vs ds,V prog w F v d→Vs prog w F vs ds→P vs ds→P (v::vs) (d::ds)) {vs ds}(h:Vs prog w F vs ds):P vs ds:=by
 induction ds generalizing vs with
 | nil=>obtain rfl:=h.inv;exact h0
 | cons d ds ih=>obtain⟨v,vs',rfl,h1,h2⟩:=h.inv;exact hs v d vs' ds h1 h2 (ih h2)
theorem Vs.mono{F G:FZ}(hle:F.le G) {vs ds}(h:Vs prog w F vs ds):Vs prog w G vs ds:=h.ind (P:=Vs prog w G) .nil fun _ _ _ _ h _ t=>.cons (h.mono hle) t
theorem Vs.length{F:FZ} {vs ds}(h:Vs prog w F vs ds):vs.length=ds.length:=h.ind (P:=fun vs ds=>vs.length=ds.length) rfl fun _ _ _ _ _ _ t=>congrArg (·+1) t
theorem Vs.append{F:FZ} {vs ds vs' ds'} (h:Vs prog w F vs ds) (h':Vs prog w F vs' ds'):Vs prog w F (vs++vs') (ds++ds'):=h.ind (P:=fun vs ds=>Vs prog w F (vs++vs') (ds++ds')) h' fun _ _ _ _ h _ t=>.cons h t
theorem Vs.get{F:FZ} {vs ds}(i:Nat) {d}(h:Vs prog w F vs ds):ds[i]?=some d→∃v,vs[i]?=some v∧V prog w F v d:=
 h.ind (P:=fun vs ds=>∀i,ds[i]?=some d→∃v,vs[i]?=some v∧V prog w F v d) (fun _ e=>zH rfl e) (fun v _ _ _ h _ t i=>match i with
  | 0=>fun e=>⟨v,rfl,Option.some.inj e▸h⟩
  | i+1=>t i) i
end
noncomputable def XC(h:Heap) (c X:Addr) (p₀ ps:Array Value):Prop:=h.IsCode c X ps∧h.TableAt c X ps∧∃more,ps=p₀++more
theorem XC.keeps{h h':Heap}{c X:Addr}{p₀ ps:Array Value}(x:XC h c X p₀ ps) (hk:∀b o,h.get? b=some o→h'.get? b=some o):XC h' c X p₀ ps:=⟨x.1.keeps hk,x.2.1.keeps hk,x.2.2⟩
theorem XC.frame{h h':Heap}{c X:Addr}{p₀ ps:Array Value}(x:XC h c X p₀ ps) (k1:∀o,h.get? c=some o→h'.get? c=some o) (k2:∀o,h.get? X=some o→h'.get? X=some o):XC h' c X p₀ ps:=
 ⟨x.1.at2 k1 k2,x.2.1.at2 k1 k2,x.2.2⟩
theorem XC.atX{h:Heap}{c X:Addr}{p₀ ps:Array Value}(x:XC h c X p₀ ps):h.get? X=some {cls:=.none,data:=.fields ps}:=x.2.1.2
theorem XC.ne{h:Heap}{c X:Addr}{p₀ ps:Array Value}(x:XC h c X p₀ ps):c≠X:=
 x.1.elim fun _ x=>x.elim fun _ x=>x.elim fun _ x=>x.elim fun _ x=>x.elim fun _ x=>x.elim fun _ x=>x.elim fun _ x=>x.elim fun _ x=>x.elim fun _ x=>x.elim fun _ x=>x.2.2.2.2.2.2.2.2.2.2
theorem XC.atC{h:Heap}{c X:Addr}{p₀ ps:Array Value}(x:XC h c X p₀ ps):∃o,h.get? c=some o:=x.2.1.1.imp fun _ x=>x.elim fun _ x=>x.1
structure Gx where
 prog:Program
 w:World
 cX:Addr
 X:Addr
 h₀:Heap
 mg:Str→Option Value
 mb:Str→Option Value
 gns:h₀.Ns mainGlobals mg
 bns:h₀.Ns builtinsNs mb
 nolim:h₀.NoLimit
 ps₀:Array Value
 hX:∃ps,XC h₀ cX X ps₀ ps
 boot:∀x:Str,x≠"__name__"→mb x=bootBuiltins x
 bmain:∃bm ob,mg "__builtins__"=some (.ref bm)∧bm≠builtinsNs∧h₀.get? bm=some ob∧ob.cls=.type "module"∧ob.dict=some builtinsNs∧ob.data=.plain
noncomputable def zas(g:Array GenState):Prop:=∀x∈g,x.bare=true
structure Grow (G:Gx) (wr:List Addr) (F:FZ) (s:Shared) (F':FZ) (s':Shared):Prop where
 le:F.le F'
 new:∀a o,F' a=some o→F a=some o∨s.heap.get? a=none
 keep:∀b o,b≠G.X→b∉wr→s.heap.get? b=some o→s'.heap.get? b=some o
 dom:∀b o,s.heap.get? b=some o→∃o',s'.heap.get? b=some o'
 os:s'.os=s.os
 gens:zas s.gens→zas s'.gens
 fin:∀a o,F' a=some o→s'.heap.get? a=some o
 code:(∃ps,XC s.heap G.cX G.X G.ps₀ ps)→∃ps,XC s'.heap G.cX G.X G.ps₀ ps
namespace Grow
variable {G:Gx}{wr:List Addr}{F F' F'':FZ}{s s' s'':Shared}
theorem trans(x:Grow G wr F s F' s') (y:Grow G wr F' s' F'' s''):Grow G wr F s F'' s'' where
 le:=x.le.trans y.le
 new a o h:=(y.new a o h).elim (x.new a o) fun h1=>.inr (Qh fun o' e=>let ⟨_,e'⟩:=x.dom a o' e;zH h1 e')
 keep b o hx hb e:=y.keep b o hx hb (x.keep b o hx hb e)
 dom b o e:=let ⟨o',e'⟩:=x.dom b o e;y.dom b o' e'
 os:=y.os.trans x.os
 gens h:=y.gens (x.gens h)
 fin:=y.fin
 code h:=y.code (x.code h)
theorem refl(hf:∀a o,F a=some o→s.heap.get? a=some o):Grow G wr F s F s:=
 ⟨.refl F,fun _ _ h=>.inl h,fun _ _ _ _ e=>e,fun _ o e=>⟨o,e⟩,rfl,id,hf,id⟩
theorem wider{wr':List Addr}(x:Grow G wr F s F' s') (h:∀a∈wr,a∈wr'):Grow G wr' F s F' s':=
 ⟨x.le,x.new,fun b o hx hb=>x.keep b o hx fun hm=>hb (h b hm),x.dom,x.os,x.gens,x.fin,x.code⟩
theorem of_keep{h':Heap}{tk:Nat}(hf:∀a o,F a=some o→s.heap.get? a=some o) (hk:∀b o,s.heap.get? b=some o→h'.get? b=some o) :
  Grow G wr F s F {s with heap:=h',toks:=tk}:=
 ⟨.refl F,fun _ _ h=>.inl h,fun b o _ _ e=>hk b o e,fun b o e=>⟨o,hk b o e⟩,rfl,id,fun a o e=>hk a o (hf a o e),fun⟨ps,hc⟩=>⟨ps,hc.keeps hk⟩⟩
theorem tok{tk:Nat}(hf:∀a o,F a=some o→s.heap.get? a=some o):Grow G wr F s F {s with toks:=tk}:=
 of_keep (h':=s.heap) hf (fun _ _ e=>e)
end Grow
noncomputable def FZ.put(F:FZ) (a:Addr) (o:Obj):FZ:=fun b=>if b=a then some o else F b
theorem FZ.put_self(F:FZ) (a:Addr) (o:Obj):F.put a o a=some o:=if_pos rfl
theorem FZ.put_ne(F:FZ) {a b:Addr}(o:Obj) (h:b≠a):F.put a o b=F b:=if_neg h
theorem FZ.le_put{F:FZ}{a:Addr}{o:Obj}(h:F a=none):F.le (F.put a o):=fun b o' e=>(FZ.put_ne F o fun hb=>zH (hb▸h) e).trans e
theorem FZ.of_put{F:FZ}{a b:Addr}{o o':Obj}(h:F.put a o b=some o'):(b=a∧o=o')∨F b=some o':=
 (Classical.em (b=a)).elim (fun hb=>.inl ⟨hb,Z1 (if_pos hb) h⟩) fun hb=>.inr ((FZ.put_ne F o hb).symm.trans h)
inductive MO where
 | lst (l:List D)
 | dicS (l:List (Str×D))
 | dicI (l:List (Int×D))
 | set (l:List Str)
 | raw (o:Obj)
noncomputable def MAt(G:Gx) (F:FZ) (h:Heap) (a:Addr):MO→Prop
 | .lst ds=>∃vs n,h.get? a=some {cls:=.type "list",data:=.seq vs n}∧Vs G.prog G.w F vs.toList ds
 | .dicS ds=>∃o kvs,h.get? a=some o∧a≠sysModules∧DictO (strKind G.prog G.w) o kvs∧kvs.map (·.1)=ds.map (·.1)∧Vs G.prog G.w F (kvs.map (·.2)) (ds.map (·.2))
 | .dicI ds=>∃o kvs,h.get? a=some o∧a≠sysModules∧DictO (intKind G.prog G.w) o kvs∧kvs.map (·.1)=ds.map (·.1)∧Vs G.prog G.w F (kvs.map (·.2)) (ds.map (·.2))
 | .set l=>h.SetOf (strKind G.prog G.w) a (fun k=>decide (k∈l)) l.length
 | .raw o=>h.get? a=some o
theorem MAt.mono{G:Gx}{F F':FZ}{h h':Heap}{a:Addr}(hle:F.le F') (hk:∀o,h.get? a=some o→h'.get? a=some o) {mo:MO}(x:MAt G F h a mo):MAt G F' h' a mo:=by
 cases mo with
 | lst=>exact Exists.imp (fun _=>Exists.imp fun _ x=>⟨hk _ x.1,x.2.mono hle⟩) x
 | dicS=>exact Exists.imp (fun _=>Exists.imp fun _ x=>⟨hk _ x.1,x.2.1,x.2.2.1,x.2.2.2.1,x.2.2.2.2.mono hle⟩) x
 | dicI=>exact Exists.imp (fun _=>Exists.imp fun _ x=>⟨hk _ x.1,x.2.1,x.2.2.1,x.2.2.2.1,x.2.2.2.2.mono hle⟩) x
 | set=>exact Exists.imp (fun _=>Exists.imp fun _=>Exists.imp fun _=>Exists.imp fun _ x=>⟨hk _ x.1,x.2⟩) x
 | raw=>exact hk _ x
theorem MAt.some{G:Gx}{F:FZ}{h:Heap}{a:Addr}{mo:MO}(x:MAt G F h a mo):∃o,h.get? a=some o:=by
 cases mo with
 | lst=>exact x.elim fun _ x=>x.elim fun _ x=>⟨_,x.1⟩
 | dicS=>exact x.elim fun _ x=>x.elim fun _ x=>⟨_,x.1⟩
 | dicI=>exact x.elim fun _ x=>x.elim fun _ x=>⟨_,x.1⟩
 | set=>exact x.elim fun _ x=>x.elim fun _ x=>x.elim fun _ x=>x.elim fun _ x=>⟨_,x.1⟩
 | raw=>exact⟨_,x⟩
noncomputable abbrev Rho:=List (Str×D)
noncomputable abbrev Sig:=List (Addr×MO)
structure Base (G:Gx) (F:FZ) (σ:Sig) (s:Shared):Prop where
 fin:∀a o,F a=some o→s.heap.get? a=some o
 base:∀a o,G.h₀.get? a=some o→a≠G.X→F a=some o
 xF:F G.X=none
 code:∃ps,XC s.heap G.cX G.X G.ps₀ ps
 bare:zas s.gens
 own:∀p∈σ,MAt G F s.heap p.1 p.2∧F p.1=none∧p.1≠G.X
 nodup:(σ.map (·.1)).Nodup
noncomputable def Bound(env:Env) (h:Heap) (x:Str) (v:Value):Prop:=
 (env.kindOf x=some .local∧∃m,h.Ns env.locals m∧m x=some v)∨
 ((env.kindOf x=some .cell∨env.kindOf x=some .free)∧∃c,env.cells.lookup x=some c∧h.IsCell c (some v))
structure Holds (G:Gx) (env:Env) (F:FZ) (ρ:Rho) (σ:Sig) (s:Shared):Prop extends Base G F σ s where
 kind:env.scope.kind=.function
 globals:env.globals=mainGlobals
 builtins:env.builtins=builtinsNs
 vars:∀x d,ρ.lookup x=some d→∃v,Bound env s.heap x v∧V G.prog G.w F v d
 locals:(∃m,s.heap.Ns env.locals m)∧F env.locals=none∧env.locals≠G.X∧env.locals∉σ.map (·.1)
 cells:∀x c,(x,c)∈env.cells→(∃v,s.heap.IsCell c v)∧F c=none∧c≠G.X∧c∉σ.map (·.1)∧c≠env.locals
 apart:env.cells.Pairwise fun x y=>x.2≠y.2
structure AOk (n:Nat) (A:Around):Prop where
 handled:A.handled=none
 depth:A.depth+n≤900
 units:A.units+10*n≤9000
structure PE (G:Gx) (n:Nat) (env:Env) (e:Expr) (ρ:Rho) (σ:Sig) (d:D):Prop where
 out:∀(A:Around) (F:FZ) (s:Shared) (Q:Value→Shared→Prop) (E:Value→Shared→Prop),AOk n A→Holds G env F ρ σ s→
  (∀v F' s',Grow G [] F s F' s'→V G.prog G.w F' v d→Q v s')→wpAny (model G.prog G.w) A (eval e env) Q E s
theorem Bound.at{env:Env}{h h':Heap}{x:Str}{v:Value}(hb:Bound env h x v) (hl:∀o,h.get? env.locals=some o→h'.get? env.locals=some o)
  (hc:∀c,env.cells.lookup x=some c→∀o,h.get? c=some o→h'.get? c=some o):Bound env h' x v:=by
 exact hb.imp (fun x=>⟨x.1,x.2.imp fun _ x=>⟨x.1.at' hl,x.2⟩⟩) fun x=>⟨x.1,x.2.imp fun c x=>⟨x.1,x.2.imp fun o ho=>⟨hc c x.1 o ho.1,ho.2⟩⟩⟩
theorem Za{G:Gx}{wr:List Addr}{F F':FZ}{s s':Shared}(g:Grow G wr F s F' s') {a:Addr}{o:Obj}(h:F a=none) (ho:s.heap.get? a=some o):F' a=none:=
 Qh fun o' e=>(g.new _ _ e).elim (fun h'=>zH h h') fun h'=>zH h' ho
theorem zaC{α:Type}(a:α):a∉([]:List α):=List.not_mem_nil
theorem Base.grow{G:Gx}{F F':FZ}{σ:Sig}{s s':Shared}(H:Base G F σ s) (g:Grow G [] F s F' s'):Base G F' σ s' where
 fin:=g.fin
 base a o h hx:=g.le _ _ (H.base a o h hx)
 xF:=H.code.elim fun _ hc=>Za g H.xF hc.atX
 code:=g.code H.code
 bare:=g.gens H.bare
 own p hp:=(H.own p hp).elim fun hm hr=>⟨hm.mono g.le fun o e=>g.keep _ _ hr.2 (zaC _) e,hm.some.elim fun _ e=>Za g hr.1 e,hr.2⟩
 nodup:=H.nodup
theorem Holds.grow{G:Gx}{env:Env}{F F':FZ}{ρ:Rho}{σ:Sig}{s s':Shared}(H:Holds G env F ρ σ s) (g:Grow G [] F s F' s'):Holds G env F' ρ σ s' where
 toBase:=H.toBase.grow g
 kind:=H.kind
 globals:=H.globals
 builtins:=H.builtins
 vars x d h:=(H.vars x d h).elim fun v hv=>⟨v,hv.1.at (fun o e=>g.keep _ _ H.locals.2.2.1 (zaC _) e) (fun c hc o e=>g.keep _ _ (H.cells x c (mem_of_lookup hc)).2.2.1 (zaC _) e),hv.2.mono g.le⟩
 locals:=H.locals.1.elim fun m hn=>⟨⟨m,hn.at' fun o e=>g.keep _ _ H.locals.2.2.1 (zaC _) e⟩,hn.elim fun _ ⟨_,_,ho,_⟩=>Za g H.locals.2.1 ho,H.locals.2.2⟩
 cells x c hm:=(H.cells x c hm).1.elim fun v hc=>hc.elim fun o ho=>⟨⟨v,o,g.keep _ _ (H.cells x c hm).2.2.1 (zaC _) ho.1,ho.2⟩,Za g (H.cells x c hm).2.1 ho.1,(H.cells x c hm).2.2⟩
 apart:=H.apart
theorem Holds.weak{G:Gx}{env:Env}{F:FZ}{ρ ρ':Rho}{σ:Sig}{s:Shared}(H:Holds G env F ρ σ s) (h:∀x d,ρ'.lookup x=some d→ρ.lookup x=some d):Holds G env F ρ' σ s:=
 {H with vars:=fun x d e=>H.vars x d (h x d e)}
theorem AOk.less{n m:Nat}{A:Around}(h:AOk n A) (hm:m≤n):AOk m A:=⟨h.handled,Nat.le_trans (Nat.add_le_add_left hm _) h.depth,Nat.le_trans (Nat.add_le_add_left (Nat.mul_le_mul_left 10 hm) _) h.units⟩
end
section
open PySem PySem.W
variable {G:Gx}{n:Nat}{env:Env}{ρ:Rho}{σ:Sig}
inductive Rd (σ:Sig):D→D→Prop
 | self (d):Rd σ d d
 | lst {a l}:(a,MO.lst l)∈σ→Rd σ (.raw (.ref a)) (.lst l)
 | dicS {a l}:(a,MO.dicS l)∈σ→Rd σ (.raw (.ref a)) (.dicS l)
 | dicI {a l}:(a,MO.dicI l)∈σ→Rd σ (.raw (.ref a)) (.dicI l)
section
variable {F:FZ}{s:Shared}{v:Value}{d:D}
noncomputable def RdInv(σ:Sig) (d:D):D→Prop
 | .lst l=>d=.lst l∨∃a,d=.raw (.ref a)∧(a,MO.lst l)∈σ
 | .dicS l=>d=.dicS l∨∃a,d=.raw (.ref a)∧(a,MO.dicS l)∈σ
 | .dicI l=>d=.dicI l∨∃a,d=.raw (.ref a)∧(a,MO.dicI l)∈σ
 | e=>d=e
theorem RdInv.self(d:D):RdInv σ d d:=by
 cases d with
 | lst=>exact .inl rfl
 | dicS=>exact .inl rfl
 | dicI=>exact .inl rfl
 | _=>exact rfl
theorem Rd.inv{d e:D}(h:Rd σ d e):RdInv σ d e:=
 Rd.rec (motive:=fun d e _=>RdInv σ d e) RdInv.self (fun h=>.inr ⟨_,rfl,h⟩) (fun h=>.inr ⟨_,rfl,h⟩) (fun h=>.inr ⟨_,rfl,h⟩) h
theorem ZA{ds:List D}(H:Base G F σ s) (hv:V G.prog G.w F v d) (e:Rd σ d (.lst ds)):∃a vs m,v=.ref a∧s.heap.get? a=some {cls:=.type "list",data:=.seq vs m}∧Vs G.prog G.w F vs.toList ds:=by
 rcases e.inv with rfl | ⟨a,rfl,hm⟩
 ·exact Exists.imp (fun _=>Exists.imp fun _=>Exists.imp fun _ x=>⟨x.1,H.fin _ _ x.2.1,x.2.2⟩) hv.inv
 ·exact⟨a,Exists.imp (fun _=>Exists.imp fun _ x=>⟨hv.inv,x⟩) (H.own _ hm).1⟩
theorem zbL{ds:List D}(H:Base G F σ s) (hv:V G.prog G.w F v d) (e:Rd σ d (.tup ds)):∃a vs m,v=.ref a∧s.heap.get? a=some {cls:=.type "tuple",data:=.seq vs m}∧Vs G.prog G.w F vs.toList ds:=by
 obtain rfl:=e.inv
 exact Exists.imp (fun _=>Exists.imp fun _=>Exists.imp fun _ x=>⟨x.1,H.fin _ _ x.2.1,x.2.2⟩) hv.inv
theorem zaz{ds:List (Str×D)}(H:Base G F σ s) (hv:V G.prog G.w F v d) (e:Rd σ d (.dicS ds)):∃a o kvs,v=.ref a∧s.heap.get? a=some o∧a≠sysModules∧DictO (strKind G.prog G.w) o kvs∧kvs.map (·.1)=ds.map (·.1)∧Vs G.prog G.w F (kvs.map (·.2)) (ds.map (·.2)):=by
 rcases e.inv with rfl | ⟨a,rfl,hm⟩
 ·exact Exists.imp (fun _=>Exists.imp fun _=>Exists.imp fun _ x=>⟨x.1,H.fin _ _ x.2.1,x.2.2⟩) hv.inv
 ·exact⟨a,Exists.imp (fun _=>Exists.imp fun _ x=>⟨hv.inv,x⟩) (H.own _ hm).1⟩
theorem zej{ds:List (Int×D)}(H:Base G F σ s) (hv:V G.prog G.w F v d) (e:Rd σ d (.dicI ds)):∃a o kvs,v=.ref a∧s.heap.get? a=some o∧a≠sysModules∧DictO (intKind G.prog G.w) o kvs∧kvs.map (·.1)=ds.map (·.1)∧Vs G.prog G.w F (kvs.map (·.2)) (ds.map (·.2)):=by
 rcases e.inv with rfl | ⟨a,rfl,hm⟩
 ·exact Exists.imp (fun _=>Exists.imp fun _=>Exists.imp fun _ x=>⟨x.1,H.fin _ _ x.2.1,x.2.2⟩) hv.inv
 ·exact⟨a,Exists.imp (fun _=>Exists.imp fun _ x=>⟨hv.inv,x⟩) (H.own _ hm).1⟩
end
theorem zn{i k pos}:PE G n env (.Constant (.int i) k pos) ρ σ (.int i):=.mk fun A F s Q E hA H h=>
 wpAny_Constant_int (h _ F _ (.tok H.fin) (.int _ _))
theorem jb{x k pos}:PE G n env (.Constant (.str x) k pos) ρ σ (.str x):=.mk fun A F s Q E hA H h=>
 wpAny_Constant_str (h _ F _ (.tok H.fin) (.str _ _))
theorem zni{b k pos}:PE G n env (.Constant (.bool b) k pos) ρ σ (.bool b):=.mk fun A F s Q E hA H h=>
 wpAny_Constant_bool (h _ F _ (.refl H.fin) (.bool _))
theorem znf{k pos}:PE G n env (.Constant .none k pos) ρ σ .none:=.mk fun A F s Q E hA H h=>
 wpAny_Constant_none (h _ F _ (.refl H.fin) .none)
theorem zbT{x:Str}{d:D}{A:Around}{F:FZ}{s:Shared}{Q:Value→Shared→Prop}{E:Value→Shared→Prop}(hx:ρ.lookup x=some d) (H:Holds G env F ρ σ s) (h:∀v,V G.prog G.w F v d→Q v s)
  (hc:(x==("__classdict__":Str))=false:=by decide):wpAny (model G.prog G.w) A (loadName env x) Q E s:=by
 refine zd (H.vars x d hx) fun v hb hv=>?_
 rcases hb with⟨k,m,hn,e⟩ | ⟨k,c,e,hcell⟩
 ·exact wpAny_loadName_local H.kind k hn e (h v hv)
 ·rcases k with k | k
  ·exact wpAny_loadName_cell H.kind k e hcell (h v hv)
  ·exact wpAny_loadName_free H.kind k e hcell (h v hv) hc
theorem zng{x:Str} {pos}{d:D}(hx:ρ.lookup x=some d) (hd:(x==("__debug__":Str))=false:=by decide) (hc:(x==("__classdict__":Str))=false:=by decide):PE G n env (.Name x pos) ρ σ d:=
 .mk fun A F s Q E hA H h=>wpAny_Name (zbT hx H (fun v hv=>h v F s (.refl H.fin) hv) hc) hd
theorem Base.gns{F:FZ}{s:Shared}(H:Base G F σ s) {a:Addr} {m}(hn:G.h₀.Ns a m):s.heap.Ns a m:=by
 refine hn.at' fun o e=>H.fin _ _ (H.base _ _ e fun hx=>?_)
 refine Exists.elim (G.hX) fun ps hc=>?_
 refine qC hn fun o' es ep e' hd' _=>?_
 rw[hx,hc.atX] at e'
 rw[←Option.some.inj e'] at hd';cases hd'
theorem jr{x:Str} {pos}{v:Value}(hk:env.kindOf x=some .globalImplicit) (hg:G.mg x=some v) (hd:(x==("__debug__":Str))=false:=by decide):PE G n env (.Name x pos) ρ σ (.raw v):=
 .mk fun A F s Q E hA H h=>Calls.Name_function_global H.kind hk (Calls.loadGlobal_global (env:=env) (by rw[H.globals];exact H.toBase.gns G.gns) hg (h v F s (.refl H.fin) (.raw v))) hd
theorem ziz{x:Str} {pos}{v:Value}(hk:env.kindOf x=some .globalImplicit) (hg:G.mg x=none) (hb:bootBuiltins x=some v) (hx:x≠"__name__":=by decide) (hd:(x==("__debug__":Str))=false:=by decide):PE G n env (.Name x pos) ρ σ (.raw v):=
 .mk fun A F s Q E hA H h=>Calls.Name_function_global H.kind hk (Calls.loadGlobal_builtin (env:=env) (by rw[H.globals];exact H.toBase.gns G.gns) hg (by rw[H.builtins];exact H.toBase.gns G.bns) ((G.boot x hx).trans hb) (h v F s (.refl H.fin) (.raw v))) hd
structure BinJ (G:Gx) (n:Nat) (σ:Sig) (op:Operator) (d₁ d₂ d:D):Prop where
 out:∀(A:Around) (F:FZ) (s:Shared) (Q E:Value→Shared→Prop) (v₁ v₂:Value),AOk n A→Base G F σ s→V G.prog G.w F v₁ d₁→V G.prog G.w F v₂ d₂→
  (∀v F' s',Grow G [] F s F' s'→V G.prog G.w F' v d→Q v s')→wpAny (model G.prog G.w) A (binaryOp op v₁ v₂) Q E s
structure CmpJ (G:Gx) (n:Nat) (σ:Sig) (op:CmpOp) (d₁ d₂:D) (b:Bool):Prop where
 out:∀(A:Around) (F:FZ) (s:Shared) (Q E:Value→Shared→Prop) (v₁ v₂:Value),AOk n A→Base G F σ s→V G.prog G.w F v₁ d₁→V G.prog G.w F v₂ d₂→
  (∀F' s',Grow G [] F s F' s'→Q (.bool b) s')→wpAny (model G.prog G.w) A (compareOp op v₁ v₂) Q E s
theorem zk{l r:Expr} {op pos}{d₁ d₂ d:D}(hl:PE G n env l ρ σ d₁) (hr:PE G n env r ρ σ d₂) (ho:BinJ G n σ op d₁ d₂ d):PE G n env (.BinOp l op r pos) ρ σ d:=
 .mk fun A F s Q E hA H h=>wpAny_BinOp (hl.out A F s _ E hA H fun v₁ F₁ s₁ g₁ V₁=>hr.out A F₁ s₁ _ E hA (H.grow g₁) fun v₂ F₂ s₂ g₂ V₂=>
  ho.out A F₂ s₂ Q E v₁ v₂ hA ((H.grow g₁).grow g₂).toBase (V₁.mono g₂.le) V₂ fun v F' s' g₃ hv=>h v F' s' ((g₁.trans g₂).trans g₃) hv)
theorem J4{l r:Expr} {op pos}{d₁ d₂:D}{b:Bool}(hl:PE G n env l ρ σ d₁) (hr:PE G n env r ρ σ d₂) (ho:CmpJ G n σ op d₁ d₂ b) (hm:behindInMarks op r=false:=by with_unfolding_all rfl) :
  PE G n env (.Compare l [op] [r] pos) ρ σ (.bool b):=
 .mk fun A F s Q E hA H h=>wpAny_Compare1 (hl.out A F s _ E hA H fun v₁ F₁ s₁ g₁ V₁=>hr.out A F₁ s₁ _ E hA (H.grow g₁) fun v₂ F₂ s₂ g₂ V₂=>
  ho.out A F₂ s₂ Q E v₁ v₂ hA ((H.grow g₁).grow g₂).toBase (V₁.mono g₂.le) V₂ fun F' s' g₃=>h _ F' s' ((g₁.trans g₂).trans g₃) (.bool b)) hm
theorem BinJ.ints{op:Operator}{a b:Int}{d:D}(h:∀(A:Around) (F:FZ) (s:Shared) (Q E:Value→Shared→Prop) (t₁ t₂:Tok),AOk n A→Base G F σ s→(∀v F' s',Grow G [] F s F' s'→V G.prog G.w F' v d→Q v s')→wpAny (model G.prog G.w) A (binaryOp op (.int a t₁) (.int b t₂)) Q E s) :
  BinJ G n σ op (.int a) (.int b) d:=.mk fun A F s Q E v₁ v₂ hA H h₁ h₂ hQ=>by
 refine Exists.elim (h₁.inv) fun _ q2_=>?_
 subst q2_
 refine Exists.elim (h₂.inv) fun _ q1_=>?_
 subst q1_
 exact h A F s Q E _ _ hA H hQ
theorem CmpJ.ints{op:CmpOp}{a b:Int}{r:Bool}(h:∀(A:Around) (F:FZ) (s:Shared) (Q E:Value→Shared→Prop) (t₁ t₂:Tok),Q (.bool r) s→wpAny (model G.prog G.w) A (compareOp op (.int a t₁) (.int b t₂)) Q E s) :
  CmpJ G n σ op (.int a) (.int b) r:=.mk fun A F s Q E v₁ v₂ hA H h₁ h₂ hQ=>by
 refine Exists.elim (h₁.inv) fun _ q4_=>?_
 subst q4_
 refine Exists.elim (h₂.inv) fun _ q3_=>?_
 subst q3_
 exact h A F s Q E _ _ (hQ F s (.refl H.fin))
theorem ZP{a b:Int}:BinJ G n σ .Add (.int a) (.int b) (.int (a+b)):=.ints fun A F s Q E t₁ t₂ hA H h=>PySem.P.add_int (h _ F _ (.tok H.fin) (.int _ _))
theorem jy{a b:Int}:BinJ G n σ .Sub (.int a) (.int b) (.int (a-b)):=.ints fun A F s Q E t₁ t₂ hA H h=>PySem.P.sub_int (h _ F _ (.tok H.fin) (.int _ _))
theorem JV{a b:Int}(hm:IntMulOk a b):BinJ G n σ .Mult (.int a) (.int b) (.int (a*b)):=.ints fun A F s Q E t₁ t₂ hA H h=>PySem.P.mul_int (h _ F _ (.tok H.fin) (.int _ _)) hm
theorem zeu{a b:Int}(hb:0≤b) (hm:(Builtin.Int.intBits a:Int)*b≤2^27):BinJ G n σ .Pow (.int a) (.int b) (.int (a^b.toNat)):=.ints fun A F s Q E t₁ t₂ hA H h=>PyProof.Rows.pow_int hb hm (h _ F _ (.tok H.fin) (.int _ _))
theorem zcq{a b:Int}(hb:b≠0):BinJ G n σ .Mod (.int a) (.int b) (.int (a.fmod b)):=.ints fun A F s Q E t₁ t₂ hA H h=>PyProof.Rows.mod_int_or hA.handled (fun e=>absurd e hb) (fun _=>h _ F _ (.tok H.fin) (.int _ _))
theorem zev{a b:Int}(hb:b≠0) (hp:Builtin.divisionGoesByPylong a b=false):BinJ G n σ .FloorDiv (.int a) (.int b) (.int (a.fdiv b)):=.ints fun A F s Q E t₁ t₂ hA H h=>PyProof.Rows.floordiv_int_or hA.handled (fun e=>absurd e hb) (fun _=>h _ F _ (.tok H.fin) (.int _ _)) (fun _=>.inl hp)
theorem zew{a b:Int}:BinJ G n σ .BitAnd (.int a) (.int b) (.int (Builtin.bitAnd a b)):=.ints fun A F s Q E t₁ t₂ hA H h=>PyProof.Rows.and_int (h _ F _ (.tok H.fin) (.int _ _))
theorem znY{a b:Int}(hb:0≤b) (hm:(Builtin.Int.intBits a:Int)+b≤2^27):BinJ G n σ .LShift (.int a) (.int b) (.int (a*2^b.toNat)):=.ints fun A F s Q E t₁ t₂ hA H h=>PyProof.Rows.lshift_int_or hA.handled (fun e=>absurd e (by lia)) (fun _=>hm) (fun _=>h _ F _ (.tok H.fin) (.int _ _))
theorem zb9{a:Int}{b:Bool}:BinJ G n σ .Mult (.int a) (.bool b) (.int (a*if b=true then 1 else 0)):=.mk fun A F s Q E v₁ v₂ hA H h₁ h₂ h=>by
 refine Exists.elim (h₁.inv) fun _ q5_=>?_
 subst q5_
 obtain rfl:=h₂.inv
 exact PySem.IntBool.mul_int_bool (h _ F _ (.tok H.fin) (.int _ _))
theorem qK{a b:Int}:CmpJ G n σ .Eq (.int a) (.int b) (a==b):=.ints fun _ _ _ _ _ _ _ h=>PySem.P.eq_int h
theorem Q7{a b:Int}:CmpJ G n σ .Lt (.int a) (.int b) (decide (a<b)):=.ints fun _ _ _ _ _ _ _ h=>PySem.P.lt_int h
theorem jO{a b:Int}:CmpJ G n σ .Gt (.int a) (.int b) (decide (a>b)):=.ints fun _ _ _ _ _ _ _ h=>PySem.P.gt_int h
theorem jP{a b:Int}:CmpJ G n σ .GtE (.int a) (.int b) (decide (a≥b)):=.ints fun _ _ _ _ _ _ _ h=>PySem.P.ge_int h
theorem zbo{a b:Int}:CmpJ G n σ .LtE (.int a) (.int b) (decide (a≤b)):=.ints fun _ _ _ _ _ _ _ h=>PySem.P.le_int h
theorem zbn{a b:Int}:CmpJ G n σ .NotEq (.int a) (.int b) (a != b):=.ints fun _ _ _ _ _ _ _ h=>PySem.P.ne_int h
end
section
open PySem PySem.W
variable {G:Gx}{n:Nat}{env:Env}{ρ:Rho}{σ:Sig}
theorem QR(h:Heap):h.get? h.objs.size=none:=Qh fun _ e=>absurd (Heap.lt_size e) (Nat.lt_irrefl _)
theorem Base.fresh{F:FZ}{s:Shared}(H:Base G F σ s):F s.heap.objs.size=none:=Qh fun _ e=>absurd (Heap.lt_size (H.fin _ _ e)) (Nat.lt_irrefl _)
theorem Base.noF{F:FZ}{s:Shared}(H:Base G F σ s) {c:Addr}(h:s.heap.objs.size≤c):F c=none:=Qh fun _ e=>absurd (Heap.lt_size (H.fin _ _ e)) (Nat.not_lt.mpr h)
theorem Base.noσ{F:FZ}{s:Shared}(H:Base G F σ s) {c:Addr}(h:s.heap.objs.size≤c):c∉σ.map (·.1):=fun hm=>(List.mem_map.mp hm).elim fun p hp=>(H.own p hp.1).1.some.elim fun _ e=>absurd (Heap.lt_size e) (Nat.not_lt.mpr (hp.2▸h))
theorem Base.noX{F:FZ}{s:Shared}(H:Base G F σ s) {c:Addr}(h:s.heap.objs.size≤c):c≠G.X:=fun e=>H.code.elim fun _ hx=>absurd (Heap.lt_size hx.atX) (Nat.not_lt.mpr (e▸h))
theorem Grow.push{F:FZ}{s:Shared}{o:Obj}{wr:List Addr}(hf:∀a o,F a=some o→s.heap.get? a=some o) (ho:o.isFreed=false):Grow G wr F s (F.put s.heap.objs.size o) {s with heap:=s.heap.push o} where
 le:=FZ.le_put (Qh fun _ e=>absurd (Heap.lt_size (hf _ _ e)) (Nat.lt_irrefl _))
 new a o' h:=(FZ.of_put h).elim (fun x=>.inr (x.1▸QR _)) .inl
 keep b o' _ _ e:=Heap.get?_push_of_some _ e
 dom b o' e:=⟨o',Heap.get?_push_of_some _ e⟩
 os:=rfl
 gens:=id
 fin a o' h:=(FZ.of_put h).elim (fun x=>x.1▸x.2▸Heap.get?_push_size _ ho) fun h=>Heap.get?_push_of_some _ (hf _ _ h)
 code:=fun hc=>hc.imp fun _ hc=>hc.keeps fun _ _ e=>Heap.get?_push_of_some _ e
theorem Grow.push0{F:FZ}{s:Shared}{o:Obj}{wr:List Addr}(hf:∀a o,F a=some o→s.heap.get? a=some o):Grow G wr F s F {s with heap:=s.heap.push o}:=
 .of_keep (tk:=s.toks) hf fun _ _ e=>Heap.get?_push_of_some _ e
structure PEs (G:Gx) (n:Nat) (env:Env) (es:List Expr) (ρ:Rho) (σ:Sig) (ds:List D):Prop where
 out:∀(A:Around) (F:FZ) (s:Shared) (Q:List Value→Shared→Prop) (E:Value→Shared→Prop) (pos:Pos),AOk n A→Holds G env F ρ σ s→
  (∀vs F' s',Grow G [] F s F' s'→Vs G.prog G.w F' vs ds→Q vs s')→wpAny (model G.prog G.w) A (spliced (backTo pos (starEach es env))) Q E s
theorem zj:PEs G n env [] ρ σ []:=.mk fun A F s Q E pos hA H h=>wpAny_items_nil (h _ F s (.refl H.fin) .nil)
theorem zg{e:Expr}{es:List Expr}{d:D}{ds:List D}(he:PE G n env e ρ σ d) (hes:PEs G n env es ρ σ ds)
  (hn:∀env,starEach (e::es) env=(false,eval e env)::starEach es env:=by intro _;rfl):PEs G n env (e::es) ρ σ (d::ds):=.mk fun A F s Q E pos hA H h=>
 wpAny_items_cons (he.out A F s _ E hA H fun v F₁ s₁ g₁ V₁=>hes.out A F₁ s₁ _ E pos hA (H.grow g₁) fun vs F₂ s₂ g₂ V₂=>h _ F₂ s₂ (g₁.trans g₂) (.cons (V₁.mono g₂.le) V₂)) (hn env)
theorem Zh{k:Nat}(h:k≤1000000):k≤sizeLine:=by rw[sizeLine_eq];lia
theorem zlz{es:List Expr} {k pos}{ds:List D}(h:PEs G n env es ρ σ ds) (hl:ds.length≤1000000):PE G n env (.Tuple es k pos) ρ σ (.tup ds):=.mk fun A F s Q E hA H hQ=>
 wpAny_Tuple (h.out A F s _ E pos hA H fun vs F₁ s₁ g₁ V₁=>⟨by rw[V₁.length];exact Zh hl,
  hQ _ _ _ (g₁.trans (.push g₁.fin rfl)) (.tup (FZ.put_self ..) rfl (by simpa using V₁.mono (FZ.le_put (H.toBase.grow g₁).fresh)))⟩)
theorem znh{es:List Expr} {pos}{ds:List D}(h:PEs G n env es ρ σ ds) (hl:ds.length≤1000000):PE G n env (.List es pos) ρ σ (.lst ds):=.mk fun A F s Q E hA H hQ=>
 wpAny_List (h.out A F s _ E pos hA H fun vs F₁ s₁ g₁ V₁=>⟨by rw[V₁.length];exact Zh hl,
  hQ _ _ _ (g₁.trans (.push g₁.fin rfl)) (.lst (FZ.put_self ..) rfl (by simpa using V₁.mono (FZ.le_put (H.toBase.grow g₁).fresh)))⟩)
structure CallJ (G:Gx) (n:Nat) (σ:Sig) (f:Value) (ds:List D) (d:D):Prop where
 out:∀(A:Around) (F:FZ) (s:Shared) (Q E:Value→Shared→Prop) (vs:List Value),AOk n A→Base G F σ s→Vs G.prog G.w F vs ds→
  (∀v F' s',Grow G [] F s F' s'→V G.prog G.w F' v d→Q v s')→wpAny (model G.prog G.w) A (call f vs) Q E s
noncomputable def ji(G:Gx) (σ:Sig) (f:Value):Prop:=∀(F:FZ) (s:Shared),Base G F σ s→∃k,(k=Keeper.frame∨k=Keeper.machine∨k=Keeper.boundFrame)∧Looks (model G.prog G.w) s.heap (keeperOf f) k
theorem zm{id:String}:ji G σ (.builtin id):=fun F s H=>⟨.machine,.inr (.inl rfl),Looks.of_pure rfl⟩
theorem z2{id:String}:ji G σ (.type id):=fun F s H=>⟨.machine,.inr (.inl rfl),Looks.of_pure rfl⟩
theorem Base.h0{F:FZ}{s:Shared}(H:Base G F σ s) {a:Addr}{o:Obj}(h:G.h₀.get? a=some o) (hx:a≠G.X):s.heap.get? a=some o:=H.fin _ _ (H.base _ _ h hx)
theorem zgi{f:Addr}{o:Obj}{fd:FuncData}(ho:G.h₀.get? f=some o) (hx:f≠G.X) (hd:o.data=.func fd):ji G σ (.ref f):=fun F s H=>
 ⟨.frame,.inl rfl,by
  unfold keeperOf
  exact(Looks.ld (part:=none) (H.h0 ho hx)).andThen (by rw[hd];exact .now)⟩
noncomputable abbrev qr(es:List Expr):Prop:=∀(pos:Pos) (env:Env),(backTo pos (starEach es env)).any (·.1)=false
theorem qy{A:Around}{M:Model}{E:Value→Shared→Prop}{s:Shared}{f:Value}{es:List Expr}{pos:Pos}{Q:Args→Shared→Prop}
  (hs:(backTo pos (starEach es env)).any (·.1)=false)
  (h:wpAny M A (spliced (backTo pos (starEach es env))) (fun vs s'=>Q ⟨vs,[]⟩ s') E s):wpAny M A (evalArgs f true (backTo pos (starEach es env)) []) Q E s:=by
 generalize backTo pos (starEach es env)=l at *
 cases l with
 | nil=>exact wpAny_bind (wpAny_mono h (fun vs s' h'=>wpAny_holding (wpAny_bind (wpAny_pure (wpAny_bind (wpAny_pure (wpAny_pure h')))))) fun _ _ x=>x)
 | cons x r=>
  obtain⟨b,x⟩:=x
  cases b with
  | false=>exact Calls.evalArgs_plain h
  | true=>cases hs
theorem jn{pos:Pos}{f:Value}{args:List Expr}{A:Around}{s:Shared}{Q E:Value→Shared→Prop}(hs:qr args) (hk:ji G σ f)
  (h:wpAny (model G.prog G.w) A (spliced (backTo pos (starEach args env))) (fun vs s'=>(∃F',Base G F' σ s')∧wpAny (model G.prog G.w) A (call f vs) Q E s') E s) :
  wpAny (model G.prog G.w) A (callWith pos f [] (backTo pos (starEach args env)) (backToKw pos (keywordEach [] env))) Q E s:=
 callWith_of (P:=fun h=>∃F' s',Base G F' σ s'∧s'.heap=h) (by rw[hs];rfl) (fun h x=>x.elim fun F' x=>x.elim fun s' x=>x.2▸hk F' s' x.1)
  (qy (hs _ _) (wpAny_mono h (fun vs s' x=>⟨x.1.imp fun F' B=>⟨s',B,rfl⟩,x.2⟩) fun _ _ x=>x))
theorem zF{f:Expr}{args:List Expr} {pos}{fv:Value}{ds:List D}{d:D}(hf:PE G n env f ρ σ (.raw fv)) (ha:PEs G n env args ρ σ ds) (hc:CallJ G n σ fv ds d) (hk:ji G σ fv)
  (hs:qr args:=by intro _ _;rfl)
  (he:∀env,eval (.Call f args [] pos) env=(do callWith pos (←eval f env) [] (backTo pos (starEach args env)) (backToKw pos (keywordEach [] env))):=by intro _;rfl) :
  PE G n env (.Call f args [] pos) ρ σ d:=.mk fun A F s Q E hA H hQ=>by
 rw[he]
 refine wpAny_bind (hf.out A F s _ E hA H fun v F₁ s₁ g₁ V₁=>?_)
 obtain rfl:=V₁.inv
 exact jn hs hk (ha.out A F₁ s₁ _ E pos hA (H.grow g₁) fun vs F₂ s₂ g₂ V₂=>⟨⟨F₂,((H.grow g₁).grow g₂).toBase⟩,
  hc.out A F₂ s₂ Q E vs hA ((H.grow g₁).grow g₂).toBase V₂ fun v F' s' g₃ hv=>hQ v F' s' ((g₁.trans g₂).trans g₃) hv⟩)
structure GetJ (G:Gx) (n:Nat) (σ:Sig) (d₁ d₂ d:D):Prop where
 out:∀(A:Around) (F:FZ) (s:Shared) (Q E:Value→Shared→Prop) (v₁ v₂:Value),AOk n A→Base G F σ s→V G.prog G.w F v₁ d₁→V G.prog G.w F v₂ d₂→
  (∀v F' s',Grow G [] F s F' s'→V G.prog G.w F' v d→Q v s')→
  (∃T id,s.TypeIs v₁ T∧typeLookup (.type T) "__getitem__"=pure (some (.builtin id)))∧wpAny (model G.prog G.w) A (getItem v₁ v₂) Q E s
theorem jS(slice:Expr) (o i:Value):subscripted slice false o i=operate (match slice with | .Slice _ _ none _=>[i,o] | _=>[o,i]) (getItem o i):=by
 cases slice with
 | Slice a b c d=>cases c<;>rfl
 | _=>rfl
theorem zv{value slice:Expr} {pos}{d₁ d₂ d:D}(h₁:PE G n env value ρ σ d₁) (h₂:PE G n env slice ρ σ d₂) (hg:GetJ G n σ d₁ d₂ d):PE G n env (.Subscript value slice pos) ρ σ d:=
 .mk fun A F s Q E hA H hQ=>PyProof.Rows.Subscript_ (h₁.out A F s _ E hA H fun v₁ F₁ s₁ g₁ V₁=>h₂.out A F₁ s₁ _ E hA (H.grow g₁) fun v₂ F₂ s₂ g₂ V₂=>by
  refine zR (hg.out A F₂ s₂ Q E v₁ v₂ hA ((H.grow g₁).grow g₂).toBase (V₁.mono g₂.le) V₂ fun v F' s' g₃ hv=>hQ v F' s' ((g₁.trans g₂).trans g₃) hv) fun q1_ hw=>?_
  obtain⟨T,id,hT,hl⟩:=q1_
  exact PyProof.Rows.tail_any hT hl hw (jS slice v₁ v₂))
theorem zaI{d:D}{ds:List D}{i:Int}{x:D}(hr:Rd σ d (.lst ds)) (h0:0≤i) (hx:ds[i.toNat]?=some x) (hi:i<2^63:=by omega):GetJ G n σ d (.int i) x:=.mk fun A F s Q E v₁ v₂ hA H h₁ h₂ hQ=>by
 refine qC (ZA H h₁ hr) fun a vs m q3_ ho hv=>?_
 subst q3_
 refine Exists.elim (h₂.inv) fun _ q2_=>?_
 subst q2_
 refine zd (hv.get _ hx) fun v e hv'=>?_
 have hl:s.heap.IsList a vs:=⟨_,ho,rfl,_,rfl⟩
 exact⟨⟨_,_,hl.typeIs,list_getitem_lookup⟩,wpAny_getItem_list hl h0 hi (by simpa using e) (hQ v F s (.refl H.fin) hv')⟩
theorem znG{d:D}{ds:List D}{i:Int}{x:D}(hr:Rd σ d (.tup ds)) (h0:0≤i) (hx:ds[i.toNat]?=some x) (hi:i<2^63:=by lia):GetJ G n σ d (.int i) x:=.mk fun A F s Q E v₁ v₂ hA H h₁ h₂ hQ=>by
 refine qC (zbL H h₁ hr) fun a vs m q5_ ho hv=>?_
 subst q5_
 refine Exists.elim (h₂.inv) fun _ q4_=>?_
 subst q4_
 refine zd (hv.get _ hx) fun v e hv'=>?_
 have hl:s.heap.IsTuple a vs:=⟨_,ho,rfl,_,rfl⟩
 have hlt:i.toNat<vs.size:=(List.getElem?_eq_some_iff.mp e).1
 refine⟨⟨_,_,hl.typeIs,PySem.F.slot_tuple_getitem.lookup⟩,P.getItem_tuple (k:=i.toNat) ho (Int.le_trans (by decide) h0) hi (seqIndex_of h0 ((Int.toNat_lt h0).mp hlt)) (Array.getElem?_toList▸e) (hQ v F s (.refl H.fin) hv')⟩
theorem zhU{K α:Type} [DecidableEq K] {k:K}{p:K×α}{l:List (K×α)}(e:p.1=k):((p::l).find? fun p=>p.1=k).map (·.2)=some p.2:=by
 rw[List.find?_cons_of_pos (p:=fun p:K×α=>decide (p.1=k)) (decide_eq_true e)];rfl
theorem zcm{K α:Type} [DecidableEq K] {k:K}{p:K×α}{l:List (K×α)}(e:¬p.1=k):((p::l).find? fun p=>p.1=k).map (·.2)=(l.find? fun p=>p.1=k).map (·.2):=by
 rw[List.find?_cons_of_neg (p:=fun p:K×α=>decide (p.1=k)) (mt of_decide_eq_true e)]
theorem zcr{K:Type} [DecidableEq K] {F:FZ}(k:K) {ds:List (K×D)}:∀{kvs:List (K×Value)},kvs.map (·.1)=ds.map (·.1)→Vs G.prog G.w F (kvs.map (·.2)) (ds.map (·.2))→
  (valueAt kvs k=none∧(ds.find? fun p=>p.1=k).map (·.2)=none)∨∃v x,valueAt kvs k=some v∧(ds.find? fun p=>p.1=k).map (·.2)=some x∧V G.prog G.w F v x:=by
 induction ds with
 | nil=>exact fun hk _=>.inl ⟨by rw[List.map_eq_nil_iff.mp hk];rfl,rfl⟩
 | cons p ds ih=>
  intro kvs hk hv
  cases kvs with
  | nil=>cases hk
  | cons q kvs=>
   have h1:q.1=p.1:=(List.cons.inj hk).1
   by_cases e:q.1=k
   ·exact .inr ⟨_,_,zhU e,zhU (h1▸e),hv.uncons.1⟩
   ·exact(ih (List.cons.inj hk).2 hv.uncons.2).imp (fun x=>⟨(zcm e).trans x.1,(zcm (h1▸e)).trans x.2⟩) fun x=>x.imp fun _ x=>x.imp fun _ x=>⟨(zcm e).trans x.1,(zcm (h1▸e)).trans x.2.1,x.2.2⟩
theorem zgQ{K:Type} [DecidableEq K] {k:K}{kvs:List (K×Value)}{ds:List (K×D)}(hk:kvs.map (·.1)=ds.map (·.1)):(kvs.any fun kv=>kv.1=k)=ds.any fun kv=>kv.1=k:=
 List.any_map.symm.trans ((congrArg (List.any · fun x=>decide (x=k)) hk).trans List.any_map)
theorem zav{K:Type} [DecidableEq K] {k:K}{kvs:List (K×Value)}{ds:List (K×D)}(hk:kvs.map (·.1)=ds.map (·.1)):(valueAt kvs k).isSome=ds.any fun p=>p.1=k:=
 Option.isSome_map.trans (List.isSome_find?.trans (zgQ hk))
theorem QM{K:Type} [DecidableEq K] {F:FZ}{k:K}{x:D}{kvs:List (K×Value)}{ds:List (K×D)}(hk:kvs.map (·.1)=ds.map (·.1)) (hv:Vs G.prog G.w F (kvs.map (·.2)) (ds.map (·.2)))
  (h:(ds.find? fun p=>p.1=k).map (·.2)=some x):∃v,valueAt kvs k=some v∧V G.prog G.w F v x:=
 (zcr k hk hv).elim (fun e=>zH e.2 h) fun x=>x.imp fun v x=>x.elim fun y x=>⟨x.1,Z1 x.2.1 h▸x.2.2⟩
theorem zfT{prog:Program}{w:World}{x:Str}{t:Tok}:(strKind prog w).is x (.str x t)=true:=beq_self_eq_true x
theorem zkg{prog:Program}{w:World}{x:Int}{t:Tok}:(intKind prog w).is x (.int x t)=true:=beq_self_eq_true x
theorem zdf{prog:Program}{w:World}{F:FZ}{v:Value}{x:Str}(h:V prog w F v (.str x)):(strKind prog w).is x v=true:=by
 refine Exists.elim (h.inv) fun _ q6_=>?_
 subst q6_
 exact zfT
theorem zgp{prog:Program}{w:World}{F:FZ}{v:Value}{x:Int}(h:V prog w F v (.int x)):(intKind prog w).is x v=true:=by
 refine Exists.elim (h.inv) fun _ q7_=>?_
 subst q7_
 exact zkg
theorem jX{K α β:Type}{kvs:List (K×α)}{ds:List (K×β)}(hk:kvs.map (·.1)=ds.map (·.1)):kvs.length=ds.length:=by
 have h:=congrArg List.length hk
 rwa[List.length_map,List.length_map] at h
theorem qo{d:D}{ds:List (Str×D)}{k:Str}{x:D}(hr:Rd σ d (.dicS ds)) (hx:(ds.find? fun p=>p.1=k).map (·.2)=some x):GetJ G n σ d (.str k) x:=.mk fun A F s Q E v₁ v₂ hA H h₁ h₂ hQ=>by
 refine zY (zaz H h₁ hr) fun a o kvs q9_ y=>?_
 subst q9_
 refine Exists.elim (h₂.inv) fun _ q8_=>?_
 subst q8_
 have hD:=y.2.2.1.of y.1
 exact(QM y.2.2.2.1 y.2.2.2.2 hx).elim fun v e=>⟨⟨_,_,hD.typeIs,slot_dict_getitem.lookup⟩,wpAny_getItem_of (knd:=strKind G.prog G.w) zfT hD.mapOf e.1 (hQ v F _ (.tok H.fin) e.2)⟩
theorem zcQ{d:D}{ds:List (Int×D)}{k:Int}{x:D}(hr:Rd σ d (.dicI ds)) (hx:(ds.find? fun p=>p.1=k).map (·.2)=some x):GetJ G n σ d (.int k) x:=.mk fun A F s Q E v₁ v₂ hA H h₁ h₂ hQ=>by
 refine zY (zej H h₁ hr) fun a o kvs q11_ y=>?_
 subst q11_
 refine Exists.elim (h₂.inv) fun _ q10_=>?_
 subst q10_
 have hD:=y.2.2.1.of y.1
 exact(QM y.2.2.2.1 y.2.2.2.2 hx).elim fun v e=>⟨⟨_,_,hD.typeIs,slot_dict_getitem.lookup⟩,wpAny_getItem_of (knd:=intKind G.prog G.w) zkg hD.mapOf e.1 (hQ v F _ (.tok H.fin) e.2)⟩
end
section
open PySem PySem.W PySem.SeqAt
variable {G:Gx}{n:Nat}{env:Env}{ρ:Rho}{σ:Sig}
mutual
noncomputable def eqD:D→D→Bool
 | .int a,.int b=>a==b
 | .str a,.str b=>a==b
 | .tup a,.tup b=>qz a b
 | .lst a,.lst b=>qz a b
 | _,_=>false
noncomputable def qz:List D→List D→Bool
 | [],[]=>true
 | a::as,b::bs=>eqD a b&&qz as bs
 | _,_=>false
end
mutual
inductive Like:Nat→D→D→Prop
 | int {k a b}:Like k (.int a) (.int b)
 | str {k a b}:Like k (.str a) (.str b)
 | tup {k as bs}:Likes k as bs→Like (k+1) (.tup as) (.tup bs)
 | lst {k as bs}:Likes k as bs→Like (k+1) (.lst as) (.lst bs)
inductive Likes:Nat→List D→List D→Prop
 | nil {k}:Likes k [] []
 | nilL {k as}:Likes k [] as
 | nilR {k as}:Likes k as []
 | cons {k a as b bs}:Like k a b→Likes k as bs→Likes k (a::as) (b::bs)
end
section
variable {prog:Program}{w:World}{F:FZ}
theorem zb2{d e:D}{ds es:List D}:qz (d::ds) (e::es)=(eqD d e&&qz ds es):=rfl
theorem Vs.nil_of{vs:List Value}{es:List D}(h1:Vs prog w F vs []) (h2:Vs prog w F vs es):es=[]:=by
 obtain rfl:=h1.inv
 exact List.eq_nil_of_length_eq_zero h2.length.symm
noncomputable def zmp(o:Obj):Array Value:=match o.data with
 | .seq vs _=>vs
 | _=>#[]
theorem zjy{v:Value}{ds es:List D}(h1:V prog w F v (.tup ds)) (h2:V prog w F v (.tup es)):∃vs,Vs prog w F vs ds∧Vs prog w F vs es:=by
 refine zY (h1.inv) fun a vs n q1_ x=>?_
 subst q1_
 refine zY (h2.inv) fun a' vs' n' e y=>?_
 have e0:F a=some _:=Value.ref.inj e▸y.1
 have e1:vs=vs':=congrArg zmp (Z1 x.1 e0)
 exact⟨_,x.2,e1▸y.2⟩
theorem zjz{v:Value}{ds es:List D}(h1:V prog w F v (.lst ds)) (h2:V prog w F v (.lst es)):∃vs,Vs prog w F vs ds∧Vs prog w F vs es:=by
 refine zY (h1.inv) fun a vs n q2_ x=>?_
 subst q2_
 refine zY (h2.inv) fun a' vs' n' e y=>?_
 have e0:F a=some _:=Value.ref.inj e▸y.1
 have e1:vs=vs':=congrArg zmp (Z1 x.1 e0)
 exact⟨_,x.2,e1▸y.2⟩
theorem V.same{k:Nat}{d e:D}{v:Value}(hl:Like k d e):V prog w F v d→V prog w F v e→eqD d e=true:=
 Like.rec (motive_1:=fun k d e _=>∀v,V prog w F v d→V prog w F v e→eqD d e=true) (motive_2:=fun k ds es _=>∀vs,Vs prog w F vs ds→Vs prog w F vs es→qz ds es=true)
  (fun v h1 h2=>h1.inv.elim fun _ e=>h2.inv.elim fun _ e'=>beq_iff_eq.mpr (Value.int.inj (e.symm.trans e')).1)
  (fun v h1 h2=>h1.inv.elim fun _ e=>h2.inv.elim fun _ e'=>beq_iff_eq.mpr (Value.str.inj (e.symm.trans e')).1)
  (fun _ ih v h1 h2=>(zjy h1 h2).elim fun vs x=>ih vs x.1 x.2) (fun _ ih v h1 h2=>(zjz h1 h2).elim fun vs x=>ih vs x.1 x.2)
  (fun _ _ _=>rfl) (fun _ h1 h2=>by rw[h1.nil_of h2];rfl) (fun _ h1 h2=>by rw[h2.nil_of h1];rfl)
  (fun _ _ ih1 ih2 vs h1 h2=>by
   refine Qd (h1.inv) fun v vs1 q3_ p=>?_
   subst q3_
   exact Bool.and_eq_true_iff.mpr ⟨ih1 _ p.1 h2.uncons.1,ih2 _ p.2 h2.uncons.2⟩) hl v
theorem zbh:∀{ds es:List D},qz ds es=((List.range (min ds.length es.length)).all (fun j=>eqD (ds.getD j .none) (es.getD j .none))&&ds.length==es.length):=by
 intro ds
 induction ds with
 | nil=>intro es;cases es<;>rfl
 | cons d ds ih=>
  intro es
  cases es with
  | nil=>rfl
  | cons e es=>
   have e2:(ds.length+1==es.length+1)=(ds.length==es.length):=Bool.eq_iff_iff.mpr (beq_iff_eq.trans (Nat.succ_inj.trans beq_iff_eq.symm))
   rw[zb2,ih,←Bool.and_assoc,List.length_cons,List.length_cons,e2,Nat.add_min_add_right,List.range_succ_eq_map,List.all_cons,List.all_map]
   rfl
theorem zgB{ds es:List D}(h:ds.length≠es.length):qz ds es=false:=by rw[zbh,beq_eq_false_iff_ne.mpr h,Bool.and_false]
theorem ze6{ds es:List D}(hl:ds.length=es.length):qz ds es=(List.range ds.length).all (fun j=>eqD (ds.getD j .none) (es.getD j .none)):=by
 rw[zbh,←hl,Nat.min_self,beq_self_eq_true,Bool.and_true]
theorem zjQ{s:Shared}(hf:∀a o,F a=some o→s.heap.get? a=some o) {A:Around}{a b:Addr}{vs vs':Array Value}{n n':Nat}{ds es:List D}(x:F a=some {cls:=.type "tuple",data:=.seq vs n}∧Vs prog w F vs.toList ds)
  (y:F b=some {cls:=.type "tuple",data:=.seq vs' n'}∧Vs prog w F vs'.toList es) (hu:A.units<cLine)
  (he:∀j (h1:j<vs.toList.length) (h2:j<vs'.toList.length),EqAt A.in1 s vs.toList[j] vs'.toList[j] (eqD (ds.getD j .none) (es.getD j .none))):RcAt A s (.ref a) (.ref b) (qz ds es):=by
 rw[zbh,←x.2.length,←y.2.length]
 exact RcAt.tuples ⟨_,hf _ _ x.1,rfl,_,rfl⟩ ⟨_,hf _ _ y.1,rfl,_,rfl⟩ hu he
theorem zjR{s:Shared}(hf:∀a o,F a=some o→s.heap.get? a=some o) {A:Around}{a b:Addr}{vs vs':Array Value}{n n':Nat}{ds es:List D}(x:F a=some {cls:=.type "list",data:=.seq vs n}∧Vs prog w F vs.toList ds)
  (y:F b=some {cls:=.type "list",data:=.seq vs' n'}∧Vs prog w F vs'.toList es) (hu:A.units<cLine)
  (he:∀j (h1:j<vs.toList.length) (h2:j<vs'.toList.length),EqAt A.in1 s vs.toList[j] vs'.toList[j] (eqD (ds.getD j .none) (es.getD j .none))):RcAt A s (.ref a) (.ref b) (qz ds es):=by
 by_cases hl:ds.length=es.length
 ·rw[ze6 hl,←x.2.length]
  exact RcAt.lists ⟨_,hf _ _ x.1,rfl,_,rfl⟩ ⟨_,hf _ _ y.1,rfl,_,rfl⟩ (x.2.length.trans (hl.trans y.2.length.symm)) hu he
 ·rw[zgB hl]
  exact RcAt.lists_lengths ⟨_,hf _ _ x.1,rfl,_,rfl⟩ ⟨_,hf _ _ y.1,rfl,_,rfl⟩ (bne_iff_ne.mpr fun e=>hl (x.2.length.symm.trans (e.trans y.2.length))) hu
theorem J1{A:Around}{k:Nat}(h:A.units+k<cLine):A.units<cLine:=Nat.lt_of_le_of_lt (Nat.le_add_right _ _) h
theorem jT{A:Around}{k:Nat}(h:A.units+(k+1)<cLine):A.in1.units+k<cLine:=Nat.lt_of_le_of_lt (Nat.le_of_eq (Nat.add_right_comm A.units 1 k)) h
theorem AOk.room{A:Around}{k:Nat}(hA:AOk n A) (hk:k≤100):A.units+k<cLine:=Nat.lt_of_le_of_lt (Nat.add_le_add (Nat.le_trans (Nat.le_add_right _ _) hA.units) hk) (by decide:9100<cLine)
noncomputable def EqM(prog:Program) (w:World) (F:FZ) (s:Shared) (k:Nat) (d e:D):Prop:=∀(A:Around) (v v':Value),A.units+k<cLine→V prog w F v d→V prog w F v' e→EqAt A s v v' (eqD d e)
noncomputable def zca(prog:Program) (w:World) (F:FZ) (s:Shared) (k:Nat) (ds es:List D):Prop:=∀(A:Around) (vs vs':List Value),A.units+k<cLine→Vs prog w F vs ds→Vs prog w F vs' es→∀j (h1:j<vs.length) (h2:j<vs'.length),EqAt A s vs[j] vs'[j] (eqD (ds.getD j .none) (es.getD j .none))
section
variable {s:Shared}{k:Nat}
theorem zkE{a b:Int}:EqM prog w F s k (.int a) (.int b):=fun A v v' hu h1 h2=>by
 refine Exists.elim (h1.inv) fun t q5_=>?_
 subst q5_
 refine Exists.elim (h2.inv) fun t' q4_=>?_
 subst q4_
 exact EqAt.int_int _ _ _ _
theorem zkC{a b:Str}:EqM prog w F s k (.str a) (.str b):=fun A v v' hu h1 h2=>by
 refine Exists.elim (h1.inv) fun t q7_=>?_
 subst q7_
 refine Exists.elim (h2.inv) fun t' q6_=>?_
 subst q6_
 exact EqAt.str_str _ _ _ _
theorem zkB(hf:∀a o,F a=some o→s.heap.get? a=some o) {ds es:List D}(h:Likes k ds es) (ih:zca prog w F s k ds es):EqM prog w F s (k+1) (.tup ds) (.tup es):=fun A v v' hu hv hv'=>by
 refine zY (hv.inv) fun a vs n q9_ x=>?_
 subst q9_
 refine zY (hv'.inv) fun b vs' n' q8_ y=>?_
 subst q8_
 by_cases hab:a=b
 ·subst hab
  rw[V.same (.tup h) hv hv']
  exact EqAt.same _
 ·exact EqAt.of_refs hab (zjQ hf x y (J1 hu) (ih A.in1 _ _ (jT hu) x.2 y.2))
theorem zkD(hf:∀a o,F a=some o→s.heap.get? a=some o) {ds es:List D}(h:Likes k ds es) (ih:zca prog w F s k ds es):EqM prog w F s (k+1) (.lst ds) (.lst es):=fun A v v' hu hv hv'=>by
 refine zY (hv.inv) fun a vs n q11_ x=>?_
 subst q11_
 refine zY (hv'.inv) fun b vs' n' q10_ y=>?_
 subst q10_
 by_cases hab:a=b
 ·subst hab
  rw[V.same (.lst h) hv hv']
  exact EqAt.same _
 ·exact EqAt.of_refs hab (zjR hf x y (J1 hu) (ih A.in1 _ _ (jT hu) x.2 y.2))
theorem zcp{as:List D}:zca prog w F s k [] as:=fun A vs vs' _ h1 _ j hj=>by
 rw[h1.inv] at hj;exact absurd hj (Nat.not_lt_zero _)
theorem zhX{as:List D}:zca prog w F s k as []:=fun A vs vs' _ _ h2 j _ hj=>by
 rw[h2.inv] at hj;exact absurd hj (Nat.not_lt_zero _)
theorem zhY{a b:D}{as bs:List D}(ih1:EqM prog w F s k a b) (ih2:zca prog w F s k as bs):zca prog w F s k (a::as) (b::bs):=fun A vs vs' hu h1 h2 j hj hj'=>by
 refine Qd (h1.inv) fun v vs1 q13_ p=>?_
 subst q13_
 refine Qd (h2.inv) fun v' vs2 q12_ q=>?_
 subst q12_
 cases j with
 | zero=>exact ih1 A v v' hu p.1 q.1
 | succ j=>exact ih2 A vs1 vs2 hu p.2 q.2 j (Nat.lt_of_succ_lt_succ hj) (Nat.lt_of_succ_lt_succ hj')
end
theorem zmC{s:Shared}(hf:∀a o,F a=some o→s.heap.get? a=some o) {k:Nat}{d e:D}{A:Around}{v v':Value}(hl:Like k d e) (hu:A.units+k<cLine) (h1:V prog w F v d) (h2:V prog w F v' e):EqAt A s v v' (eqD d e):=
 Like.rec (motive_1:=fun k d e _=>EqM prog w F s k d e) (motive_2:=fun k ds es _=>zca prog w F s k ds es) zkE zkC (zkB hf) (zkD hf) zcp zcp zhX (fun _ _=>zhY) hl A v v' hu h1 h2
theorem zdS{s:Shared}(hf:∀a o,F a=some o→s.heap.get? a=some o) {k:Nat}{ds es:List D}{A:Around}{vs vs':List Value}(hl:Likes k ds es) (hu:A.units+k<cLine) (h1:Vs prog w F vs ds) (h2:Vs prog w F vs' es) :
  ∀j (h1:j<vs.length) (h2:j<vs'.length),EqAt A s vs[j] vs'[j] (eqD (ds.getD j .none) (es.getD j .none)):=
 Likes.rec (motive_1:=fun k d e _=>EqM prog w F s k d e) (motive_2:=fun k ds es _=>zca prog w F s k ds es) zkE zkC (zkB hf) (zkD hf) zcp zcp zhX (fun _ _=>zhY) hl A vs vs' hu h1 h2
end
theorem zgD{k:Nat}{d e:D}(h:Like k d e) (hk:k≤100:=by decide) (hnum:∀a b,¬(d=.int a∧e=.int b)) (hstr:∀a b,¬(d=.str a∧e=.str b)):CmpJ G n σ .Eq d e (eqD d e):=
 Like.rec (motive_1:=fun k d e _=>k≤100→(∀a b,¬(d=.int a∧e=.int b))→(∀a b,¬(d=.str a∧e=.str b))→CmpJ G n σ .Eq d e (eqD d e)) (motive_2:=fun _ _ _ _=>True)
  (fun _ hn _=>absurd ⟨rfl,rfl⟩ (hn _ _)) (fun _ _ hn=>absurd ⟨rfl,rfl⟩ (hn _ _))
  (fun h _ hk _ _=>.mk fun A F s Q E v₁ v₂ hA H h₁ h₂ hQ=>by
   refine zY (h₁.inv) fun a vs n q17_ x=>?_
   subst q17_
   refine zY (h₂.inv) fun b vs' n' q16_ y=>?_
   subst q16_
   exact zjQ H.fin x y (J1 (hA.room hk)) (zdS H.fin h (jT (hA.room hk)) x.2 y.2) G.prog G.w E Q (hQ F s (.refl H.fin)))
  (fun h _ hk _ _=>.mk fun A F s Q E v₁ v₂ hA H h₁ h₂ hQ=>by
   refine zY (h₁.inv) fun a vs n q15_ x=>?_
   subst q15_
   refine zY (h₂.inv) fun b vs' n' q14_ y=>?_
   subst q14_
   exact zjR H.fin x y (J1 (hA.room hk)) (zdS H.fin h (jT (hA.room hk)) x.2 y.2) G.prog G.w E Q (hQ F s (.refl H.fin)))
  trivial trivial trivial (fun _ _ _ _=>trivial) h hk hnum hstr
section
variable {prog:Program}{w:World}{F:FZ}
theorem zlJ{k:Nat}{x:D}{i:Int}(h:Like k x (.int i)):∃j,x=.int j:=by cases h;exact⟨_,rfl⟩
theorem zlH{k:Nat}{x:D}{i:Str}(h:Like k x (.str i)):∃j,x=.str j:=by cases h;exact⟨_,rfl⟩
theorem zlG{k:Nat}{x:D}{l:List D}(h:Like k x (.tup l)):∃j as,x=.tup as∧Likes j as l:=by
 cases h with
 | tup h=>exact⟨_,_,rfl,h⟩
theorem zlI{k:Nat}{x:D}{l:List D}(h:Like k x (.lst l)):∃j as,x=.lst as∧Likes j as l:=by
 cases h with
 | lst h=>exact⟨_,_,rfl,h⟩
theorem zdC{k:Nat}{a b:D}{as bs:List D}(h:Likes k (a::as) (b::bs)):Like k a b∧Likes k as bs:=by
 cases h with
 | cons h t=>exact⟨h,t⟩
theorem V.eqD_det{k k':Nat}{x x' d:D}{v:Value}(hl:Like k x d) (hl':Like k' x' d) (h:V prog w F v x) (h':V prog w F v x'):eqD x d=eqD x' d:=
 Like.rec (motive_1:=fun k x d _=>∀k' x' v,Like k' x' d→V prog w F v x→V prog w F v x'→eqD x d=eqD x' d)
  (motive_2:=fun k xs ds _=>∀k' xs' vs,Likes k' xs' ds→Vs prog w F vs xs→Vs prog w F vs xs'→qz xs ds=qz xs' ds)
  (fun k' x' v hl' h h'=>by
   refine Exists.elim (zlJ hl') fun j q22_=>?_
   subst q22_
   exact h.inv.elim fun _ e=>h'.inv.elim fun _ e'=>(Value.int.inj (e.symm.trans e')).1▸rfl)
  (fun k' x' v hl' h h'=>by
   refine Exists.elim (zlH hl') fun j q21_=>?_
   subst q21_
   exact h.inv.elim fun _ e=>h'.inv.elim fun _ e'=>(Value.str.inj (e.symm.trans e')).1▸rfl)
  (fun _ ih k' x' v hl' h h'=>by
   refine Qd (zlG hl') fun j as' q20_ hs=>?_
   subst q20_
   exact(zjy h h').elim fun vs x=>ih _ _ _ hs x.1 x.2)
  (fun _ ih k' x' v hl' h h'=>by
   refine Qd (zlI hl') fun j as' q19_ hs=>?_
   subst q19_
   exact(zjz h h').elim fun vs x=>ih _ _ _ hs x.1 x.2)
  (fun k' xs' vs _ h h'=>by rw[h.nil_of h']) (fun k' xs' vs _ h h'=>by rw[h.nil_of h'])
  (fun {k as} k' xs' vs _ h h'=>by
   cases as with
   | nil=>rw[h.nil_of h']
   | cons a as=>
    cases xs' with
    | nil=>cases h'.nil_of h
    | cons=>rfl)
  (fun _ _ ih1 ih2 k' xs' vs hl' h h'=>by
   refine Qd (h.inv) fun v vs1 q18_ p=>?_
   subst q18_
   cases xs' with
   | nil=>cases h'.inv
   | cons x' xs'=>rw[zb2,zb2,ih1 _ _ _ (zdC hl').1 p.1 h'.uncons.1,ih2 _ _ _ (zdC hl').2 p.2 h'.uncons.2]) hl k' x' v hl' h h'
theorem Vs.mem{vs ds}(h:Vs prog w F vs ds):∀y∈vs,∃x∈ds,V prog w F y x:=
 h.ind (P:=fun vs ds=>∀y∈vs,∃x∈ds,V prog w F y x) (fun _ h=>absurd h List.not_mem_nil) fun v d vs ds h _ ih y hy=>(List.mem_cons.mp hy).elim (fun e=>⟨d,.head _,e▸h⟩) fun hy=>(ih y hy).imp fun x hx=>⟨.tail _ hx.1,hx.2⟩
theorem Vs.any{p:D→Bool}{q:Value→Bool} {vs ds}(h:Vs prog w F vs ds):(∀v d,v∈vs→d∈ds→V prog w F v d→q v=p d)→vs.any q=ds.any p:=
 h.ind (P:=fun vs ds=>(∀v d,v∈vs→d∈ds→V prog w F v d→q v=p d)→vs.any q=ds.any p) (fun _=>rfl) fun v d vs ds h _ ih H=>
  congr (congrArg or (H _ _ (.head _) (.head _) h)) (ih fun v d h1 h2=>H v d (.tail _ h1) (.tail _ h2))
end
open Classical in
noncomputable def za9(prog:Program) (w:World) (F:FZ) (ds:List D) (d:D) (v:Value):Bool:=decide (∃x∈ds,V prog w F v x∧eqD x d=true)
open Classical in
theorem zcl{prog:Program}{w:World}{F:FZ}{ds:List D}{d:D}{k:Nat}(h:∀x∈ds,Like k x d) {v:Value}{x:D}(hx:x∈ds) (hv:V prog w F v x):za9 prog w F ds d v=eqD x d:=
 Bool.eq_iff_iff.mpr (decide_eq_true_iff.trans ⟨fun y=>y.elim fun x' y=>(V.eqD_det (h x hx) (h x' y.1) hv y.2.1).trans y.2.2,fun e=>⟨x,hx,hv,e⟩⟩)
theorem zdK{k:Nat}{d:D}{ds:List D}{F:FZ}{s:Shared}{A:Around}{vs:Array Value}{v:Value}(H:Base G F σ s) (hA:AOk n A) (h:∀x∈ds,Like k x d) (hk:k+1≤100) (hv:Vs G.prog G.w F vs.toList ds) (h₁:V G.prog G.w F v d) :
  (∀y,y∈vs→EqAt A.in1 s y v (za9 G.prog G.w F ds d y))∧vs.any (za9 G.prog G.w F ds d)=ds.any fun x=>eqD x d:=
 ⟨fun y hy=>(hv.mem y (Array.mem_toList_iff.mpr hy)).elim fun x hx=>zcl h hx.1 hx.2▸zmC H.fin (h x hx.1) (jT (hA.room hk)) hx.2 h₁,
  Array.any_toList.symm.trans (hv.any fun v x hv hx hvx=>zcl h hx hvx)⟩
theorem zkj{k:Nat}{d e:D}{ds:List D}(hr:Rd σ e (.lst ds)) (h:∀x∈ds,Like k x d) (hk:k+1≤100:=by decide):CmpJ G n σ .In d e (ds.any fun x=>eqD x d):=.mk fun A F s Q E v₁ v₂ hA H h₁ h₂ hQ=>by
 refine zY (ZA H h₂ hr) fun a vs m q23_ x=>?_
 subst q23_
 have y:=zdK H hA h hk x.2 h₁
 exact in_listAt (za9 G.prog G.w F ds d) ⟨_,x.1,rfl,_,rfl⟩ y.1 (y.2.symm▸hQ F s (.refl H.fin))
theorem zeT{k:Nat}{d e:D}{ds:List D}(hr:Rd σ e (.lst ds)) (h:∀x∈ds,Like k x d) (hk:k+1≤100:=by decide):CmpJ G n σ .NotIn d e (!ds.any fun x=>eqD x d):=.mk fun A F s Q E v₁ v₂ hA H h₁ h₂ hQ=>by
 refine zY (ZA H h₂ hr) fun a vs m q24_ x=>?_
 subst q24_
 have y:=zdK H hA h hk x.2 h₁
 exact notIn_listAt (za9 G.prog G.w F ds d) ⟨_,x.1,rfl,_,rfl⟩ y.1 (y.2.symm▸hQ F s (.refl H.fin))
theorem znD{e:D}{x:Str}{ds:List (Str×D)}(hr:Rd σ e (.dicS ds)):CmpJ G n σ .In (.str x) e (ds.any fun p=>p.1=x):=.mk fun A F s Q E v₁ v₂ hA H h₁ h₂ hQ=>by
 refine zY (zaz H h₂ hr) fun a o kvs q26_ y=>?_
 subst q26_
 refine Exists.elim (h₁.inv) fun _ q25_=>?_
 subst q25_
 exact wpAny_in_of (knd:=strKind G.prog G.w) (k:=x) zfT (beq_eq_false_iff_ne.mpr y.2.1) (y.2.2.1.of y.1).mapOf (zav y.2.2.2.1▸hQ F _ (.tok H.fin))
end
section
open PySem PySem.W
variable {G:Gx}{n:Nat}{env:Env}{ρ:Rho}{σ:Sig}
structure PT (G:Gx) (n:Nat) (env:Env) (e:Expr) (ρ:Rho) (σ:Sig) (b:Bool):Prop where
 out:∀(A:Around) (F:FZ) (s:Shared) (Q:Bool→Shared→Prop) (E:Value→Shared→Prop),AOk n A→Holds G env F ρ σ s→
  (∀F' s',Grow G [] F s F' s'→Q b s')→wpAny (model G.prog G.w) A (isTrue e env (eval e env)) Q E s
structure PTs (G:Gx) (n:Nat) (env:Env) (op:BoolOp) (es:List Expr) (ρ:Rho) (σ:Sig) (b:Bool):Prop where
 out:∀(A:Around) (F:FZ) (s:Shared) (Q:Bool→Shared→Prop) (E:Value→Shared→Prop),AOk n A→Holds G env F ρ σ s→
  (∀F' s',Grow G [] F s F' s'→Q b s')→wpAny (model G.prog G.w) A (allTrue op es env) Q E s
theorem zU{l r:Expr} {op pos}{d₁ d₂:D}{b:Bool}(hl:PE G n env l ρ σ d₁) (hr:PE G n env r ρ σ d₂) (ho:CmpJ G n σ op d₁ d₂ b) (hm:behindInMarks op r=false:=by with_unfolding_all rfl) :
  PT G n env (.Compare l [op] [r] pos) ρ σ b:=
 .mk fun A F s Q E hA H h=>wpAny_isTrue_Compare1 (hl.out A F s _ E hA H fun v₁ F₁ s₁ g₁ V₁=>hr.out A F₁ s₁ _ E hA (H.grow g₁) fun v₂ F₂ s₂ g₂ V₂=>
  ho.out A F₂ s₂ _ E v₁ v₂ hA ((H.grow g₁).grow g₂).toBase (V₁.mono g₂.le) V₂ fun F' s' g₃=>wpAny_truthy_bool (h F' s' ((g₁.trans g₂).trans g₃))) hm
theorem zaA{e:Expr}{b:Bool}(he:PE G n env e ρ σ (.bool b)) (hw:∀env whole,isTrue e env whole=(do let v ←whole;standAt e.pos;holding [v] (truthy v)):=by intro _ _;rfl):PT G n env e ρ σ b:=
 .mk fun A F s Q E hA H h=>wpAny_isTrue_value (he.out A F s _ E hA H fun v F₁ s₁ g₁ V₁=>by obtain rfl:=V₁.inv;exact wpAny_truthy_bool (h F₁ s₁ g₁)) (hw _ _)
theorem zdp{e:Expr}{i:Int}(he:PE G n env e ρ σ (.int i)) (hw:∀env whole,isTrue e env whole=(do let v ←whole;standAt e.pos;holding [v] (truthy v)):=by intro _ _;rfl):PT G n env e ρ σ (i != 0):=
 .mk fun A F s Q E hA H h=>wpAny_isTrue_value (he.out A F s _ E hA H fun v F₁ s₁ g₁ V₁=>by obtain⟨_,rfl⟩:=V₁.inv;exact PySem.P.truthy_int (h F₁ s₁ g₁)) (hw _ _)
theorem zjU{e:Expr} {pos}{b:Bool}(he:PT G n env e ρ σ b):PT G n env (.UnaryOp .Not e pos) ρ σ (!b):=
 .mk fun A F s Q E hA H h=>wpAny_isTrue_Not (he.out A F s _ E hA H fun F' s' g=>h F' s' g)
theorem j6:PTs G n env .And [] ρ σ true:=.mk fun A F s Q E hA H h=>wpAny_allTrue_And_nil (h F s (.refl H.fin))
theorem zdn:PTs G n env .Or [] ρ σ false:=.mk fun A F s Q E hA H h=>wpAny_allTrue_Or_nil (h F s (.refl H.fin))
theorem jp{e:Expr}{es:List Expr}{b c:Bool}(he:PT G n env e ρ σ b) (hes:b=true→PTs G n env .And es ρ σ c):PTs G n env .And (e::es) ρ σ (b&&c):=
 .mk fun A F s Q E hA H h=>wpAny_allTrue_And_cons (he.out A F s _ E hA H fun F' s' g=>by
  cases b with
  | false=>exact h F' s' g
  | true=>exact(hes rfl).out A F' s' Q E hA (H.grow g) fun F'' s'' g'=>h F'' s'' (g.trans g'))
theorem zdo{e:Expr}{es:List Expr}{b c:Bool}(he:PT G n env e ρ σ b) (hes:b=false→PTs G n env .Or es ρ σ c):PTs G n env .Or (e::es) ρ σ (b||c):=
 .mk fun A F s Q E hA H h=>wpAny_allTrue_Or_cons (he.out A F s _ E hA H fun F' s' g=>by
  cases b with
  | true=>exact h F' s' g
  | false=>exact(hes rfl).out A F' s' Q E hA (H.grow g) fun F'' s'' g'=>h F'' s'' (g.trans g'))
theorem jq{op:BoolOp}{es:List Expr} {pos}{b:Bool}(h:PTs G n env op es ρ σ b):PT G n env (.BoolOp op es pos) ρ σ b:=
 .mk fun A F s Q E hA H hQ=>wpAny_isTrue_BoolOp (h.out A F s Q E hA H hQ)
theorem zcK{t a b:Expr} {pos}{c:Bool}{d:D}(ht:PT G n env t ρ σ c) (ha:c=true→PE G n env a ρ σ d) (hb:c=false→PE G n env b ρ σ d):PE G n env (.IfExp t a b pos) ρ σ d:=
 .mk fun A F s Q E hA H h=>wpAny_IfExp (ht.out A F s _ E hA H fun F' s' g=>by
  cases c with
  | true=>exact(ha rfl).out A F' s' Q E hA (H.grow g) fun v F'' s'' g'=>h v F'' s'' (g.trans g')
  | false=>exact(hb rfl).out A F' s' Q E hA (H.grow g) fun v F'' s'' g'=>h v F'' s'' (g.trans g'))
structure PBs (G:Gx) (n:Nat) (env:Env) (op:BoolOp) (es:List Expr) (ρ:Rho) (σ:Sig) (b:Bool):Prop where
 out:∀(pos:Pos) (A:Around) (F:FZ) (s:Shared) (Q:Value→Shared→Prop) (E:Value→Shared→Prop),AOk n A→Holds G env F ρ σ s→
  (∀F' s',Grow G [] F s F' s'→Q (.bool b) s')→wpAny (model G.prog G.w) A (boolOp pos op (evalEach es env)) Q E s
theorem zhH{op:BoolOp}{e:Expr}{b:Bool}(he:PE G n env e ρ σ (.bool b)):PBs G n env op [e] ρ σ b:=
 .mk fun pos A F s Q E hA H h=>he.out A F s Q E hA H fun v F' s' g hv=>by obtain rfl:=hv.inv;exact h F' s' g
theorem zcf{e e':Expr}{es:List Expr}{b c:Bool}(he:PE G n env e ρ σ (.bool b)) (hes:b=true→PBs G n env .And (e'::es) ρ σ c):PBs G n env .And (e::e'::es) ρ σ (b&&c):=
 .mk fun pos A F s Q E hA H h=>by
  show wpAny _ A (do
   let v ←eval e env
   standAt pos
   let t ←holding [v] (truthy v)
   match BoolOp.And,t with
   | .And,false | .Or,true=>pure v
   | _,_=>boolOp pos .And (evalEach (e'::es) env)) Q E s
  refine wpAny_bind (he.out A F s _ E hA H fun v F' s' g hv=>?_)
  obtain rfl:=hv.inv
  refine wpAny_bind (wpAny_standAt (wpAny_bind (wpAny_holding (wpAny_truthy_bool ?_))))
  cases b with
  | false=>exact wpAny_pure (h F' s' g)
  | true=>exact(hes rfl).out pos A F' s' Q E hA (H.grow g) fun F'' s'' g'=>h F'' s'' (g.trans g')
theorem zeR{op:BoolOp}{es:List Expr} {pos}{b:Bool}(h:PBs G n env op es ρ σ b):PE G n env (.BoolOp op es pos) ρ σ (.bool b):=
 .mk fun A F s Q E hA H hQ=>by rw[arm_eval_BoolOp];exact h.out pos A F s Q E hA H fun F' s' g=>hQ _ F' s' g (.bool b)
theorem zoy{e:Expr} {pos}{i:Int}(he:PE G n env e ρ σ (.int i)):PE G n env (.UnaryOp .USub e pos) ρ σ (.int (-i)):=
 .mk fun A F s Q E hA H h=>wpAny_UnaryOp (he.out A F s _ E hA H fun v F' s' g hv=>by obtain⟨_,rfl⟩:=hv.inv;exact PySem.P.neg_int (h _ F' _ (g.trans (.tok g.fin)) (.int _ _)))
theorem zhQ{a b:Bool}:CmpJ G n σ .Is (.bool a) (.bool b) (a==b):=.mk fun A F s Q E v₁ v₂ hA H h₁ h₂ h=>by
 obtain rfl:=h₁.inv
 obtain rfl:=h₂.inv
 have e:(Value.bool a==Value.bool b)=(a==b):=by cases a<;>cases b<;>rfl
 exact wpAny_is_plain rfl (e▸h F s (.refl H.fin))
theorem zaG{a:Int}{b:Bool}:CmpJ G n σ .IsNot (.int a) (.bool b) true:=.mk fun A F s Q E v₁ v₂ hA H h₁ h₂ h=>by
 refine Exists.elim (h₁.inv) fun _ q1_=>?_
 subst q1_
 obtain rfl:=h₂.inv
 exact wpAny_isNot_other rfl (by simp) (h F s (.refl H.fin))
theorem QG{x y:Str}(hl:x.length+y.length≤1000000):BinJ G n σ .Add (.str x) (.str y) (.str (x++y)):=.mk fun A F s Q E v₁ v₂ hA H h₁ h₂ h=>by
 refine Exists.elim (h₁.inv) fun _ q3_=>?_
 subst q3_
 refine Exists.elim (h₂.inv) fun _ q2_=>?_
 subst q2_
 exact PyProof.Rows.add_str (fun t' tk=>h _ F _ (.tok H.fin) (.str _ _)) (Zh hl)
noncomputable def qx(x:Str) (i:Int):Str:=⟨(List.replicate i.toNat x.cps.toList).flatten.toArray⟩
theorem foldl_append(l:List (Array Nat)) (a:Array Nat):(l.foldl (·++·) a).toList=a.toList++(l.map (·.toList)).flatten:=by
 induction l generalizing a with
 | nil=>simp
 | cons x l ih=>rw[List.foldl_cons,ih];simp
theorem Jy(x:Str) (i:Int):(qx x i).length=i.toNat*x.length:=by
 show(qx x i).cps.size=_*x.cps.size
 unfold qx
 simp
theorem zfX{i:Int}(h0:-(2^63:Int)≤i) (hi:i<2^63):(decide (i < -(2^63:Int))||decide (i≥2^63))=false:=Bool.or_eq_false_iff.mpr ⟨decide_eq_false (Int.not_lt.mpr h0),decide_eq_false (Int.not_le.mpr hi)⟩
theorem zcD{x:Str}{i:Int}(h0:-(2^63:Int)≤i) (h1:i<2^16) (h2:x.length≤10):BinJ G n σ .Mult (.str x) (.int i) (.str (qx x i)):=.mk fun A F s Q E v₁ v₂ hA H h₁ h₂ h=>by
 refine Exists.elim (h₁.inv) fun t q5_=>?_
 subst q5_
 refine Exists.elim (h₂.inv) fun _ q4_=>?_
 subst q4_
 have hn:i.toNat≤2^16:=Int.toNat_le.mpr (Int.le_of_lt h1)
 have hl:(qx x i).length≤sizeLine:=Zh (by rw[Jy];exact Nat.le_trans (Nat.mul_le_mul hn h2) (by decide))
 refine PySem.P.mul_str (zfX h0 (Int.lt_trans h1 (by decide))) (fun h3 _=>?_) (fun _ _=>?_) ?_
 ·refine Int.not_lt.mpr (Int.le_trans (Int.ofNat_le.mpr h2) (Int.le_ediv_of_mul_le (Int.lt_of_lt_of_le (by decide) (Int.not_lt.mp h3)) ?_))
  exact Int.le_trans (Int.mul_le_mul_of_nonneg_left (Int.le_of_lt h1) (by decide)) (by decide)
 ·exact decide_eq_false (Nat.not_lt.mpr (Zh (Nat.le_trans (Nat.mul_le_mul h2 hn) (by decide))))
 ·by_cases h3:i<1
  ·have e:qx x i=Str.empty:=by unfold qx;rw[Int.toNat_of_nonpos (Int.lt_add_one_iff.mp h3)];rfl
   rw[if_pos h3,←e]
   exact⟨hl,h _ F _ (.tok H.fin) (.str _ _)⟩
  ·rw[if_neg h3]
   by_cases h4:(i==1||x.length==0)=true
   ·have e:qx x i=x:=by
     rcases Bool.or_eq_true_iff.mp h4 with h4 | h4
     ·obtain rfl:i=1:=beq_iff_eq.mp h4
      unfold qx;simp
     ·have:x.cps=#[]:=Array.eq_empty_of_size_eq_zero (beq_iff_eq.mp h4)
      unfold qx;rw[this];simp[←this]
    rw[if_pos h4]
    rw[e] at h
    exact h _ F s (.refl H.fin) (V.str x t)
   ·have e:(⟨(List.replicate i.toNat x.cps).foldl (·++·) #[]⟩:Str)=qx x i:=by
     unfold qx
     congr 1
     apply Array.toList_inj.mp
     rw[foldl_append]
     simp
    rw[if_neg h4,e]
    exact⟨hl,h _ F _ (.tok H.fin) (.str _ _)⟩
theorem ziX{x y:Str}:CmpJ G n σ .Eq (.str x) (.str y) (x==y):=.mk fun A F s Q E v₁ v₂ hA H h₁ h₂ h=>by
 refine Exists.elim (h₁.inv) fun _ q7_=>?_
 subst q7_
 refine Exists.elim (h₂.inv) fun _ q6_=>?_
 subst q6_
 exact PyProof.Rows.eq_str (h F s (.refl H.fin))
theorem ziW{x y:Str}:CmpJ G n σ .NotEq (.str x) (.str y) (x != y):=.mk fun A F s Q E v₁ v₂ hA H h₁ h₂ h=>by
 refine Exists.elim (h₁.inv) fun _ q9_=>?_
 subst q9_
 refine Exists.elim (h₂.inv) fun _ q8_=>?_
 subst q8_
 exact PyProof.Rows.ne_str (h F s (.refl H.fin))
theorem znH{x:Str}{i:Int}{c:Nat}(h0:0≤i) (hc:x.cps[i.toNat]?=some c) (hi:i<2^63:=by lia):GetJ G n σ (.str x) (.int i) (.str ⟨#[c]⟩):=.mk fun A F s Q E v₁ v₂ hA H h₁ h₂ hQ=>by
 refine Exists.elim (h₁.inv) fun t q11_=>?_
 subst q11_
 refine Exists.elim (h₂.inv) fun _ q10_=>?_
 subst q10_
 refine⟨⟨"str",_,rfl,PySem.F.slot_str_getitem.lookup⟩,PySem.P.getItem_str (c:=c) (zfX (Int.le_trans (by decide) h0) hi) ?_ (hQ _ F _ (.tok H.fin) (.str _ _))⟩
 rw[show seqIndex? i x.length=_ from seqIndex_of h0 ((Int.toNat_lt h0).mp (Array.getElem?_eq_some_iff.mp hc).1)]
 exact hc
theorem jg{d₁ d₂:D}{l₁ l₂:List D}(h₁:Rd σ d₁ (.lst l₁)) (h₂:Rd σ d₂ (.lst l₂)) (hl:l₁.length+l₂.length≤1000000):BinJ G n σ .Add d₁ d₂ (.lst (l₁++l₂)):=.mk fun A F s Q E v₁ v₂ hA H e₁ e₂ h=>by
 refine zY (ZA H e₁ h₁) fun a vs m q13_ x=>?_
 subst q13_
 refine zY (ZA H e₂ h₂) fun a' vs' m' q12_ y=>?_
 subst q12_
 refine PySem.P.add_list x.1 y.1 (h _ _ _ (.push H.fin rfl) (.lst (FZ.put_self ..) rfl ?_)) (Zh (Nat.le_trans (Nat.le_of_eq (congr (congrArg (·+·) x.2.length) y.2.length)) hl))
 rw[Array.toList_append]
 exact(x.2.append y.2).mono (FZ.le_put H.fresh)
theorem ZX{d:D}{l:List D}(hr:Rd σ d (.lst l)) (hl:l.length<2^40):CallJ G n σ (.builtin "len") [d] (.int l.length):=.mk fun A F s Q E vs hA H hv h=>by
 refine zd (hv.one) fun _ q15_ h1=>?_
 subst q15_
 refine zY (ZA H h1 hr) fun a vs m q14_ x=>?_
 subst q14_
 have k1:vs.size=l.length:=x.2.length
 refine Calls.call_len_list ⟨_,x.1,rfl,_,rfl⟩ (k1▸Int.ofNat_lt.mpr (Nat.lt_trans hl (by decide))) ?_
 rw[k1]
 exact h _ F _ (.tok H.fin) (.int _ _)
end
section
open PySem PySem.W
variable {G:Gx}{n:Nat}{env:Env}{ρ:Rho}{σ:Sig}
noncomputable def stW(env:Env) (x:Str):List Addr:=match env.kindOf x with
 | some .cell=>(env.cells.lookup x).toList
 | _=>[env.locals]
noncomputable def tW(env:Env) (xs:List Str):List Addr:=xs.flatMap (stW env)
noncomputable def zG(env:Env) (x:Str):Prop:=env.kindOf x=some .local∨(env.kindOf x=some .cell∧(env.cells.lookup x).isSome=true)
theorem QC{x y:Str}{d:D}{ρ:Rho}:((x,d)::ρ).lookup y=if y=x then some d else ρ.lookup y:=by
 rw[List.lookup_cons]
 by_cases h:y=x
 ·rw[if_pos h,h,beq_self_eq_true]
 ·rw[if_neg h,beq_eq_false_iff_ne.mpr h]
theorem jd{x y:Str}{d e:D}{ρ:Rho}(h:((x,d)::ρ).lookup y=some e):(y=x∧d=e)∨(y≠x∧ρ.lookup y=some e):=by
 rw[QC] at h
 by_cases hy:y=x
 ·exact .inl ⟨hy,Option.some.inj ((if_pos hy).symm.trans h)⟩
 ·exact .inr ⟨hy,(if_neg hy).symm.trans h⟩
theorem zj2{h:Heap}{a:Addr}{m m':Str→Option Value}(x:h.Ns a m) (y:h.Ns a m') (k:Str):m k=m' k:=by
 refine zbg x fun o es ep h1 h2 _ h3=>?_
 refine zbg y fun o' es' ep' k1 k2 _ k3=>?_
 rw[←Z1 h1 k1,h2] at k2
 rw[←h3,←k3,(Data.dict.inj k2).1]
theorem Base.cX_F{F:FZ}{s:Shared}(H:Base G F σ s):∃o,F G.cX=some o:=G.hX.elim fun _ hc=>hc.atC.imp fun _ e=>H.base _ _ e hc.ne
theorem Base.ne_cX{F:FZ}{s:Shared}(H:Base G F σ s) {a:Addr}(h:F a=none):a≠G.cX:=fun e=>H.cX_F.elim fun _ e'=>zH (e▸h) e'
theorem Grow.turn{F:FZ}{s:Shared}{a:Addr}{h':Heap}{tk:Nat}(H:Base G F σ s) (hs:Heap.SameBut a s.heap h') (ha:∃o,h'.get? a=some o) (hF:F a=none) (hx:a≠G.X):Grow G [a] F s F {s with heap:=h',toks:=tk} where
 le:=.refl F
 new _ _ e:=.inl e
 keep b o _ hb e:=hs.extBut b o (fun h=>hb (h▸.head _)) e
 dom b o e:=(Classical.em (b=a)).elim (fun h=>h▸ha) fun h=>⟨o,hs.extBut b o h e⟩
 os:=rfl
 gens:=id
 fin b o e:=hs.extBut b o (fun h=>zH (h▸hF) e) (H.fin b o e)
 code hc:=hc.imp fun _ hc=>hc.frame (fun _ e=>hs.extBut _ _ (Ne.symm (H.ne_cX hF)) e) (fun _ e=>hs.extBut _ _ (Ne.symm hx) e)
theorem Base.turned{F:FZ}{s:Shared}{a:Addr}{h':Heap}{tk:Nat}(H:Base G F σ s) (g:Grow G [a] F s F {s with heap:=h',toks:=tk}) (hσ:a∉σ.map (·.1)):Base G F σ {s with heap:=h',toks:=tk} where
 fin:=g.fin
 base:=H.base
 xF:=H.xF
 code:=g.code H.code
 bare:=H.bare
 own p hp:=(H.own p hp).imp (fun hm=>hm.mono (.refl F) fun o e=>g.keep _ _ (H.own p hp).2.2 (fun h=>hσ (List.mem_singleton.mp h▸List.mem_map_of_mem hp)) e) id
 nodup:=H.nodup
theorem QL{x:Str}{d:D}{v:Value}{A:Around}{F:FZ}{s:Shared}{Q:Unit→Shared→Prop}{E:Value→Shared→Prop}(H:Holds G env F ρ σ s) (hv:V G.prog G.w F v d) (hk:zG env x)
  (hQ:∀s',Grow G (stW env x) F s F s'→Holds G env F ((x,d)::ρ) σ s'→Q () s'):wpAny (model G.prog G.w) A (storeName env x v) Q E s:=by
 unfold stW at hQ
 rcases hk with hk | ⟨hk,hc⟩
 ·refine Exists.elim (H.locals.1) fun m hn=>?_
  refine wpAny_storeName_local hk hn (fun h' hn' hs'=>?_) (by rw[H.kind];rfl)
  rw[hk] at hQ
  have g:Grow G [env.locals] F s F {s with heap:=h',toks:=s.toks+1}:=.turn H.toBase hs' (hn'.imp fun _ x=>x.elim fun _ x=>x.elim fun _ x=>x.1) H.locals.2.1 H.locals.2.2.1
  exact hQ _ g {
   toBase:=H.toBase.turned g H.locals.2.2.2,kind:=H.kind,globals:=H.globals,builtins:=H.builtins,apart:=H.apart,locals:=⟨⟨_,hn'⟩,H.locals.2⟩,
   vars:=fun y dy hy=>(jd hy).elim (fun e=>⟨v,.inl ⟨e.1▸hk,_,hn',if_pos e.1⟩,e.2▸hv⟩) fun e=>(H.vars y dy e.2).imp fun v' b=>
    ⟨b.1.imp (fun b=>⟨b.1,_,hn',b.2.elim fun m' b=>(if_neg e.1).trans ((zj2 hn b.1 y).trans b.2)⟩) fun b=>⟨b.1,b.2.imp fun c b=>⟨b.1,b.2.sameBut hs' (H.cells y c (mem_of_lookup b.1)).2.2.2.2⟩⟩,b.2⟩,
   cells:=fun y c hm=>(H.cells y c hm).imp (fun b=>b.imp fun u b=>b.sameBut hs' (H.cells y c hm).2.2.2.2) id}
 ·refine Exists.elim (Option.isSome_iff_exists.mp hc) fun c hc=>?_
  have hm:=mem_of_lookup hc
  refine zR (H.cells x c hm) fun q1_ hr=>?_
  obtain⟨u,hcell⟩:=q1_
  refine wpAny_storeName_cell H.kind hk hc hcell fun h' hc' hs'=>?_
  rw[hk,hc] at hQ
  have g:Grow G [c] F s F {s with heap:=h',toks:=s.toks}:=.turn H.toBase hs' (hc'.imp fun _ x=>x.1) hr.1 hr.2.1
  exact hQ _ g {
   toBase:=H.toBase.turned g hr.2.2.1,kind:=H.kind,globals:=H.globals,builtins:=H.builtins,apart:=H.apart,locals:=H.locals.imp (fun b=>b.imp fun m b=>b.sameBut hs' (Ne.symm hr.2.2.2)) id,
   vars:=fun y dy hy=>(jd hy).elim (fun e=>⟨v,.inr ⟨.inl (e.1▸hk),c,e.1▸hc,hc'⟩,e.2▸hv⟩) fun e=>(H.vars y dy e.2).imp fun v' b=>
    ⟨b.1.imp (fun b=>⟨b.1,b.2.imp fun m' b=>⟨b.1.sameBut hs' (Ne.symm hr.2.2.2),b.2⟩⟩) fun b=>⟨b.1,b.2.imp fun c' b=>⟨b.1,b.2.sameBut hs' fun hcc=>e.1 (name_of_addr H.apart (mem_of_lookup b.1) (hcc▸hm))⟩⟩,b.2⟩,
   cells:=fun y c' hm'=>(H.cells y c' hm').imp (fun b=>(Classical.em (c'=c)).elim (fun h=>h▸⟨_,hc'⟩) fun h=>b.imp fun u b=>b.sameBut hs' h) id}
noncomputable def Z4:List Expr→Option (List Str)
 | []=>some []
 | .Name x _::r=>(Z4 r).map (x::·)
 | _=>none
theorem zbQ{e:Expr}{u4:List Expr}{names:List Str}(h:Z4 (e::u4)=some names):∃x pos xs,e=.Name x pos∧Z4 u4=some xs∧names=x::xs:=by
 cases e with
 | Name x pos=>exact(Option.map_eq_some_iff.mp h).elim fun xs y=>⟨x,pos,xs,rfl,y.1,y.2.symm⟩
 | _=>exact zH rfl h
theorem zdb{A:Around}{E:Value→Shared→Prop}{F:FZ}{u4:List Expr}:∀{names:List Str}{vs:List Value}{ds:List D}{ρ:Rho}{s:Shared}{Q:Unit→Shared→Prop},Z4 u4=some names→Vs G.prog G.w F vs ds→vs.length=names.length→
  (∀x∈names,zG env x)→Holds G env F ρ σ s→(∀s',Grow G (tW env names) F s F s'→Holds G env F ((names.zip ds).reverse++ρ) σ s'→Q () s')→
  wpAny (model G.prog G.w) A (assignInOrder ((assignEach u4 env).map (·.2)) vs) Q E s:=by
 induction u4 with
 | nil=>
  intro names vs ds ρ s Q hn hv hl hs H hQ
  cases hn
  obtain rfl:=List.eq_nil_of_length_eq_zero hl
  exact wpAny_pure (hQ s (.refl H.fin) H)
 | cons e u4 ih=>
  intro names vs ds ρ s Q hn hv hl hs H hQ
  refine qC (zbQ hn) fun x pos xs q2_ h1 q3_=>?_
  subst q2_
  subst q3_
  cases vs with
  | nil=>cases hl
  | cons v vs=>
   cases ds with
   | nil=>cases hv.inv
   | cons d ds=>
    refine wpAny_bind (wpAny_holding (wpAny_assign_Name (QL H hv.uncons.1 (hs x (.head _)) fun s' g H'=>ih h1 hv.uncons.2 (Nat.succ.inj hl) (fun y hy=>hs y (.tail _ hy)) H' fun s'' g' H''=>?_)))
    refine hQ s'' ((g.wider fun a ha=>List.mem_append_left _ ha).trans (g'.wider fun a ha=>List.mem_append_right _ ha)) ?_
    rw[List.zip_cons_cons,List.reverse_cons,List.append_assoc]
    exact H''
theorem Q9(env:Env) {u4:List Expr}:∀{names:List Str},Z4 u4=some names→(assignEach u4 env).length=names.length∧(assignEach u4 env).findIdx? (·.1)=none:=by
 induction u4 with
 | nil=>intro names h;cases h;exact⟨rfl,rfl⟩
 | cons e u4 ih=>
  intro names h
  refine qC (zbQ h) fun x pos xs q4_ h1 q5_=>?_
  subst q4_
  subst q5_
  refine⟨congrArg (·+1) (ih h1).1,?_⟩
  show((false,_)::assignEach u4 env).findIdx? (·.1)=none
  rw[List.findIdx?_cons,(ih h1).2];rfl
inductive Tgt:Expr→List Str→Prop
 | name (x pos):Tgt (.Name x pos) [x]
 | tuple {u4 names} (k pos):Z4 u4=some names→Tgt (.Tuple u4 k pos) names
inductive Binds:Expr→D→Rho→Prop
 | name (x pos d):Binds (.Name x pos) d [(x,d)]
 | tuple {u4 names ds} (k pos):Z4 u4=some names→ds.length=names.length→Binds (.Tuple u4 k pos) (.tup ds) (names.zip ds).reverse
theorem Tgt.inv{e:Expr}{names:List Str}(h:Tgt e names):(∃x pos,e=.Name x pos∧names=[x])∨∃u4 k pos,e=.Tuple u4 k pos∧Z4 u4=some names:=
 Tgt.rec (motive:=fun e names _=>(∃x pos,e=.Name x pos∧names=[x])∨∃u4 k pos,e=.Tuple u4 k pos∧Z4 u4=some names) (fun x pos=>.inl ⟨x,pos,rfl,rfl⟩) (fun {u4 names} k pos h=>.inr ⟨u4,k,pos,rfl,h⟩) h
theorem Tgt.name_inv{x:Str}{pos:Pos}{names:List Str}(h:Tgt (.Name x pos) names):names=[x]:=h.inv.elim (fun y=>y.elim fun _ y=>y.elim fun _ y=>(Expr.Name.inj y.1).1▸y.2) fun y=>y.elim fun _ y=>y.elim fun _ y=>y.elim fun _ y=>nomatch y.1
theorem Tgt.tup_inv{u4:List Expr} {k}{pos:Pos}{names:List Str}(h:Tgt (.Tuple u4 k pos) names):Z4 u4=some names:=h.inv.elim (fun y=>y.elim fun _ y=>y.elim fun _ y=>nomatch y.1) fun y=>y.elim fun _ y=>y.elim fun _ y=>y.elim fun _ y=>(Expr.Tuple.inj y.1).1▸y.2
theorem Binds.inv{e:Expr}{d:D}{b:Rho}(h:Binds e d b):(∃x pos,e=.Name x pos∧b=[(x,d)])∨∃u4 names ds k pos,e=.Tuple u4 k pos∧d=.tup ds∧b=(names.zip ds).reverse∧Z4 u4=some names∧ds.length=names.length:=
 Binds.rec (motive:=fun e d b _=>(∃x pos,e=.Name x pos∧b=[(x,d)])∨∃u4 names ds k pos,e=.Tuple u4 k pos∧d=.tup ds∧b=(names.zip ds).reverse∧Z4 u4=some names∧ds.length=names.length)
  (fun x pos _=>.inl ⟨x,pos,rfl,rfl⟩) (fun {u4 names ds} k pos h1 h2=>.inr ⟨u4,names,ds,k,pos,rfl,rfl,rfl,h1,h2⟩) h
theorem zcV{F:FZ}{s:Shared}{h':Heap}(H:Base G F σ s) (he:Heap.ExtBut s.heap.objs.size s.heap h'):Grow G [] F s F {s with heap:=h'}:=
 .of_keep (tk:=s.toks) H.fin fun b o e=>he b o (Nat.ne_of_lt (Heap.lt_size e)) e
theorem Jj{A:Around}{E:Value→Shared→Prop}{F:FZ}{u0:Expr}{names:List Str}{d:D}{b:Rho}{v:Value}{s:Shared}{Q:Unit→Shared→Prop}(hA:A.handled=none) (ht:Tgt u0 names) (hb:Binds u0 d b)
  (hv:V G.prog G.w F v d) (hs:∀x∈names,zG env x) (H:Holds G env F ρ σ s) (hQ:∀s',Grow G (tW env names) F s F s'→Holds G env F (b++ρ) σ s'→Q () s') :
  wpAny (model G.prog G.w) A (assign u0 env v) Q E s:=by
 rcases hb.inv with⟨x,pos,rfl,rfl⟩ | ⟨u4,names',ds,k,pos,rfl,rfl,rfl,hn,hl⟩
 ·obtain rfl:names=[x]:=ht.name_inv
  exact wpAny_assign_Name (QL H hv (hs x (.head _)) fun s' g H'=>hQ s' (g.wider fun _ h=>List.mem_append_left _ h) H')
 ·obtain rfl:names'=names:=Z1 hn ht.tup_inv
  refine zY (hv.inv) fun a vs m q6_ x=>?_
  subst q6_
  refine wpAny_assign_Tuple hA ⟨_,H.fin _ _ x.1,rfl,_,rfl⟩ ((Q9 env hn).1.trans (hl.symm.trans x.2.length.symm)) (Q9 env hn).2 fun h' he=>?_
  have g:=zcV H.toBase he
  exact zdb hn x.2 (x.2.length.trans hl) hs (H.grow g) fun s'' g' H'=>hQ s'' ((g.wider fun _ h=>absurd h List.not_mem_nil).trans g') H'
end
section
open PySem PySem.W
variable {G:Gx}{n:Nat}{env:Env}{ρ:Rho}{σ:Sig}
structure Off (G:Gx) (env:Env) (F:FZ) (σ:Sig) (W:List Addr):Prop where
 fz:∀a∈W,F a=none
 own:∀a∈W,a∉σ.map (·.1)
 loc:∀a∈W,a≠env.locals
 cel:∀a∈W,∀x c,(x,c)∈env.cells→a≠c
 x:∀a∈W,a≠G.X
theorem Off.new{F F':FZ}{s:Shared}{W:List Addr}(H:Holds G env F ρ σ s) (h:∀a∈W,s.heap.get? a=none∧F' a=none):Off G env F' σ W:=
 ⟨fun a ha=>(h a ha).2,fun a ha hm=>(List.mem_map.mp hm).elim fun p hp=>(H.own p hp.1).1.some.elim fun _ e=>zH ((hp.2:p.1=a)▸(h a ha).1) e,
  fun a ha e=>H.locals.1.elim fun m hn=>hn.elim fun _ x=>x.elim fun _ x=>x.elim fun _ x=>zH (e▸(h a ha).1) x.1,fun a ha x c hm e=>(H.cells x c hm).1.elim fun v hv=>hv.elim fun _ y=>zH (e▸(h a ha).1) y.1,
  fun a ha e=>H.code.elim fun _ hx=>zH (e▸(h a ha).1) hx.atX⟩
theorem Base.growOff{F F':FZ}{s s':Shared}{W:List Addr}(H:Base G F σ s) (g:Grow G W F s F' s') (ho:∀a∈W,a∉σ.map (·.1)):Base G F' σ s' where
 fin:=g.fin
 base a o h hx:=g.le _ _ (H.base a o h hx)
 xF:=H.code.elim fun _ hc=>Za g H.xF hc.atX
 code:=g.code H.code
 bare:=g.gens H.bare
 own p hp:=(H.own p hp).elim fun hm hr=>⟨hm.mono g.le fun o e=>g.keep _ _ hr.2 (fun hW=>ho _ hW (List.mem_map_of_mem hp)) e,hm.some.elim fun _ e=>Za g hr.1 e,hr.2⟩
 nodup:=H.nodup
theorem Holds.growOff{F F':FZ}{s s':Shared}{W:List Addr}(H:Holds G env F ρ σ s) (g:Grow G W F s F' s') (ho:Off G env F σ W):Holds G env F' ρ σ s' where
 toBase:=H.toBase.growOff g ho.own
 kind:=H.kind
 globals:=H.globals
 builtins:=H.builtins
 vars x d h:=(H.vars x d h).imp fun v hv=>⟨hv.1.at (fun o e=>g.keep _ _ H.locals.2.2.1 (fun hW=>ho.loc _ hW rfl) e) (fun c hc o e=>g.keep _ _ (H.cells x c (mem_of_lookup hc)).2.2.1 (fun hW=>ho.cel _ hW x c (mem_of_lookup hc) rfl) e),hv.2.mono g.le⟩
 locals:=H.locals.1.elim fun m hn=>⟨⟨m,hn.at' fun o e=>g.keep _ _ H.locals.2.2.1 (fun hW=>ho.loc _ hW rfl) e⟩,hn.elim fun _ x=>x.elim fun _ x=>x.elim fun _ x=>Za g H.locals.2.1 x.1,H.locals.2.2⟩
 cells x c hm:=(H.cells x c hm).1.elim fun v hc=>hc.elim fun o ho'=>⟨⟨v,o,g.keep _ _ (H.cells x c hm).2.2.1 (fun hW=>ho.cel _ hW x c hm rfl) ho'.1,ho'.2⟩,Za g (H.cells x c hm).2.1 ho'.1,(H.cells x c hm).2.2⟩
 apart:=H.apart
theorem Off.grow{F F':FZ}{s s':Shared}{W W':List Addr}(ho:Off G env F σ W) (g:Grow G W' F s F' s') (hs:∀a∈W,∃o,s.heap.get? a=some o):Off G env F' σ W where
 fz a ha:=(hs a ha).elim fun _ e=>Za g (ho.fz a ha) e
 own:=ho.own
 loc:=ho.loc
 cel:=ho.cel
 x:=ho.x
structure HeadJ (G:Gx) (n:Nat) (u0:Expr) (names:List Str) (I:Addr) (F₀:FZ) (fp wr:List Addr) (bs:List Rho) (St:Nat→Heap→Prop):Prop where
 sub:∀b∈wr,b∈fp
 fpF:∀b∈fp,b∈wr∨∃o,F₀ b=some o
 frame:∀i h h',St i h→(∀b∈fp,∀o,h.get? b=some o→h'.get? b=some o)→St i h'
 dom:∀i h,St i h→∀b∈wr,∃o,h.get? b=some o
 self:∀(i:Nat) (A:Around) (s:Shared) (Q E:Value→Shared→Prop),A.handled=none→St i s.heap→Q (.ref I) s→wpAny (model G.prog G.w) A (pyIter (.ref I)) Q E s
 step:∀i b,bs[i]?=some b→∀(env:Env),(∀x∈names,zG env x)→∀(A:Around) (F:FZ) (s:Shared) (ρ:Rho) (σ:Sig) (E:Value→Shared→Prop) (Q:Unit→Shared→Prop),AOk n A→F₀.le F→Holds G env F ρ σ s→Off G env F σ wr→St i s.heap→
  (∀F' s',Grow G (wr++tW env names) F s F' s'→Holds G env F' (b++ρ) σ s'→St (i+1) s'.heap→Q () s')→
  wpAny (model G.prog G.w) A (pyNext (.ref I)) (fun r s₁=>match r with
   | none=>False
   | some v=>wpAny (model G.prog G.w) A (letOwnedTupleGo u0 (.ref I) v) (fun _ s₂=>wpAny (model G.prog G.w) A (assign u0 env v) Q E s₂) E s₁) E s
 done:∀(A:Around) (s:Shared) (E:Value→Shared→Prop) (Q:Option Value→Shared→Prop),AOk n A→St bs.length s.heap→
  (∀h' tk,(∀b o,b∉wr→s.heap.get? b=some o→h'.get? b=some o)→Q none {s with heap:=h',toks:=tk})→wpAny (model G.prog G.w) A (pyNext (.ref I)) Q E s
theorem Grow.unfresh{F F':FZ}{s s':Shared}{W Z:List Addr}(g:Grow G (W++Z) F s F' s') (hz:∀z∈Z,s.heap.get? z=none):Grow G W F s F' s':=
 ⟨g.le,g.new,fun b o hx hb e=>g.keep b o hx (fun hm=>(List.mem_append.mp hm).elim hb fun h=>zH (hz b h) e) e,g.dom,g.os,g.gens,g.fin,g.code⟩
theorem Grow.fin_end{F F':FZ}{s s':Shared}{W wr:List Addr}{h':Heap}{tk:Nat}(g:Grow G W F s F' s') (hc:∃ps,XC s.heap G.cX G.X G.ps₀ ps) (hk:∀b o,b∉wr→s'.heap.get? b=some o→h'.get? b=some o) (hf:∀a∈wr,s.heap.get? a=none) (hF:∀a∈wr,F' a=none) :
  Grow G W F s F' {s' with heap:=h',toks:=tk} where
 le:=g.le
 new:=g.new
 keep b o hx hb e:=hk b o (fun hm=>zH (hf b hm) e) (g.keep b o hx hb e)
 dom b o e:=(g.dom b o e).imp fun o' e'=>hk b o' (fun hm=>zH (hf b hm) e) e'
 os:=g.os
 gens:=g.gens
 fin a o e:=hk a o (fun hm=>zH (hF a hm) e) (g.fin a o e)
 code hc':=hc.elim fun _ x=>x.atC.elim fun _ k1=>(g.code hc').imp fun _ hx=>hx.frame (fun _ e=>hk _ _ (fun hm=>zH (hf _ hm) k1) e) (fun _ e=>hk _ _ (fun hm=>zH (hf _ hm) x.atX) e)
theorem HeadJ.keep{u0:Expr}{names:List Str}{I:Addr}{F₀:FZ}{fp wr:List Addr}{bs:List Rho}{St:Nat→Heap→Prop}(J:HeadJ G n u0 names I F₀ fp wr bs St) {i:Nat}{W:List Addr}{F F':FZ}{s s':Shared}
  (hf:∀a o,F a=some o→s.heap.get? a=some o) (h0:F₀.le F) (g:Grow G W F s F' s') (hW:∀a∈wr,a∉W∧a≠G.X) (hst:St i s.heap):St i s'.heap:=by
 refine J.frame i _ _ hst fun b hb o e=>?_
 exact(J.fpF b hb).elim (fun h=>g.keep b o (hW b h).2 (hW b h).1 e) fun x=>x.elim fun o' h=>Z1 (hf _ _ (h0 _ _ h)) e▸g.fin _ _ (g.le _ _ (h0 _ _ h))
theorem Grow.heap{F:FZ}{s:Shared}{wr:List Addr}{h':Heap}{tk:Nat}(H:Base G F σ s) (hk:∀b o,b∉wr→s.heap.get? b=some o→h'.get? b=some o) (hd:∀b∈wr,∃o,h'.get? b=some o) (hF:∀a∈wr,F a=none) (hX:∀a∈wr,a≠G.X) :
  Grow G wr F s F {s with heap:=h',toks:=tk} where
 le:=.refl F
 new _ _ e:=.inl e
 keep b o _ hb e:=hk b o hb e
 dom b o e:=(Classical.em (b∈wr)).elim (hd b) fun hb=>⟨o,hk b o hb e⟩
 os:=rfl
 gens:=id
 fin a o e:=hk a o (fun ha=>zH (hF a ha) e) (H.fin a o e)
 code:=fun hc=>hc.imp fun _ hx=>hx.frame (fun _ e=>hk _ _ (fun hm=>H.cX_F.elim fun _ e'=>zH (hF _ hm) e') e) (fun _ e=>hk _ _ (fun hm=>hX _ hm rfl) e)
theorem zhz{env:Env}{x:Str}{c:Addr}(hm:c∈stW env x):c=env.locals∨∃y,(y,c)∈env.cells:=by
 unfold stW at hm
 split at hm
 ·exact .inr ⟨x,mem_of_lookup (Option.mem_toList.mp hm)⟩
 ·exact .inl (List.mem_singleton.mp hm)
theorem Holds.tW_none{F:FZ}{s:Shared}{names:List Str}(H:Holds G env F ρ σ s) {c:Addr}(hm:c∈tW env names):F c=none:=
 (List.mem_flatMap.mp hm).elim fun _ y=>(zhz y.2).elim (fun e=>e▸H.locals.2.1) fun z=>z.elim fun y hy=>(H.cells y c hy).2.1
theorem Off.not_tW{F:FZ}{names:List Str}{wr:List Addr}(ho:Off G env F σ wr) {c:Addr}(h:c∈wr):c∉tW env names:=fun hm=>
 (List.mem_flatMap.mp hm).elim fun _ y=>(zhz y.2).elim (fun e=>ho.loc _ h e) fun z=>z.elim fun y hy=>ho.cel _ h y c hy rfl
theorem zbx{u0:Expr}{names:List Str}{I:Addr}{F₀:FZ}{fp wr:List Addr}{ds:List D}{bs:List Rho}{P:Nat→Value→Prop}{St:Nat→Heap→Prop}
  (W:∀A:Around,A.handled=none→Walks G.prog G.w A I fp wr ds.length P St) (hP:∀(i:Nat) (v:Value) (d:D),P i v→ds[i]?=some d→V G.prog G.w F₀ v d) (ht:Tgt u0 names)
  (hb:∀(i:Nat) (d:D) (b:Rho),ds[i]?=some d→bs[i]?=some b→Binds u0 d b) (hlen:bs.length=ds.length) (hfp:∀b∈fp,b∈wr∨∃o,F₀ b=some o) (hdom:∀i h,St i h→∀b∈wr,∃o,h.get? b=some o)
  (hgo:∀(A:Around) (E:Value→Shared→Prop) (i:Nat) (v:Value) (s:Shared) (Q:Unit→Shared→Prop),St (i+1) s.heap→Q () s→wpAny (model G.prog G.w) A (letOwnedTupleGo u0 (.ref I) v) Q E s) :
  HeadJ G n u0 names I F₀ fp wr bs St where
 self i A s Q E hA hst hQ:=(W A hA).self i s Q E hst hQ
 sub:=(W {handled:=none} rfl).sub
 fpF:=hfp
 frame:=(W {handled:=none} rfl).frame
 dom:=hdom
 step i b hbi env hs A F s ρ σ E Q hA h0 H ho hst hQ:=by
  have hi:i<ds.length:=by rw[←hlen];exact(List.getElem?_eq_some_iff.mp hbi).1
  have hd:ds[i]?=some ds[i]:=List.getElem?_eq_getElem hi
  refine(W A hA.handled).item i s _ E hi hst fun v h' tk hPv hst' hk=>?_
  have g:Grow G wr F s F {s with heap:=h',toks:=tk}:=.heap H.toBase hk (hdom _ _ hst') ho.fz ho.x
  refine hgo A E i v _ _ hst' ?_
  refine Jj hA.handled ht (hb i _ _ hd hbi) ((hP i v _ hPv hd).mono h0) hs (H.growOff g ho) fun s'' g' H'=>?_
  refine hQ F s'' ((g.wider fun a ha=>List.mem_append_left _ ha).trans (g'.wider fun a ha=>List.mem_append_right _ ha)) H' ((W A hA.handled).frame _ _ _ hst' fun c hc o e=>g'.keep c o ?_ ?_ e)
  ·exact(hfp c hc).elim (ho.x c) fun x hX=>x.elim fun o' h=>zH (hX▸H.xF) (h0 _ _ h)
  ·exact(hfp c hc).elim ho.not_tW fun x hm=>x.elim fun o' h=>zH (H.tW_none hm) (h0 _ _ h)
 done A s E Q hA hst hQ:=(W A hA.handled).done s _ E (hlen▸hst) hQ
structure ItJ (G:Gx) (n:Nat) (σ:Sig) (u0:Expr) (names:List Str) (d:D) (bs:List Rho):Prop where
 out:∀(A:Around) (F:FZ) (s:Shared) (v:Value) (Q E:Value→Shared→Prop),AOk n A→Base G F σ s→V G.prog G.w F v d→
  (∀I fp wr St F' s',Grow G [] F s F' s'→HeadJ G n u0 names I F' fp wr bs St→St 0 s'.heap→(∀a∈wr,s.heap.get? a=none∧(∃o,s'.heap.get? a=some o)∧F' a=none)→Q (.ref I) s')→
  wpAny (model G.prog G.w) A (pyIter v) Q E s
structure ItE (G:Gx) (n:Nat) (env:Env) (e:Expr) (ρ:Rho) (σ:Sig) (u0:Expr) (names:List Str) (bs:List Rho):Prop where
 out:∀(A:Around) (F:FZ) (s:Shared) (Q E:Value→Shared→Prop),AOk n A→Holds G env F ρ σ s→
  (∀I fp wr St F' s',Grow G [] F s F' s'→HeadJ G n u0 names I F' fp wr bs St→St 0 s'.heap→(∀a∈wr,s.heap.get? a=none∧(∃o,s'.heap.get? a=some o)∧F' a=none)→Q (.ref I) s')→
  wpAny (model G.prog G.w) A (eval e env) (fun x s₁=>wpAny (model G.prog G.w) A (pyIter x) Q E s₁) E s
theorem Zi{W:List Addr}{F F':FZ}{s s':Shared}(g:Grow G W F s F' s') {a:Addr}(h:s'.heap.get? a=none):s.heap.get? a=none:=Qh fun o e=>(g.dom a o e).elim fun _ e'=>zH h e'
theorem zN{e:Expr}{d:D}{u0:Expr}{names:List Str}{bs:List Rho}(h:PE G n env e ρ σ d) (hi:ItJ G n σ u0 names d bs):ItE G n env e ρ σ u0 names bs:=.mk fun A F s Q E hA H hQ=>
 h.out A F s _ E hA H fun v F₁ s₁ g₁ V₁=>hi.out A F₁ s₁ v Q E hA (H.grow g₁).toBase V₁ fun I fp wr St F' s' g₂ J st hwr=>
  hQ I fp wr St F' s' (g₁.trans g₂) J st fun a ha=>⟨Zi g₁ (hwr a ha).1,(hwr a ha).2⟩
noncomputable def J7(e:Expr) (acc:Value) (env:Env):Sem Unit:=match e with
 | .ListComp elt _ _ _=>(do let _ ←call (.builtin "list.append") [acc,←eval elt env])
 | .SetComp elt _ _ _=>(do let v ←eval elt env;standAt elt.pos;let _ ←call (.builtin "set.add") [acc,v])
 | .DictComp k v _ _ _=>(do
    let kv ←eval k env
    let vv ←holding [kv] (eval v env)
    match acc with
    | .ref d=>do
     standAt {k.pos with endLine:=v.pos.endLine,endCol:=v.pos.endCol}
     holding [kv,vv] (dictSet d kv vv)
    | _=>unsupported "internal:dictcomp")
 | _=>unsupported "internal:not-a-comprehension"
noncomputable def qc:Expr→Bool
 | .ListComp .. | .SetComp .. | .DictComp ..=>true
 | _=>false
noncomputable def zfv(nx:Option (Expr×Expr×List Expr)) (e:Expr) (k:Nat) (acc:Value) (env:Env) (rest:Sem Fin):Sem Fin:=match nx with
 | none=>J7 e acc env>>=fun _=>rest
 | some p=>(do
  let x ←eval p.2.1 env
  standAt p.2.1.pos
  let x ←foldedSetIterable p.2.1 env x
  let i ←holding [x] (pyIter x)
  let _ ←runOwn (.compStart e k i acc env) env
  rest)
theorem zbX{e:Expr}(hc:qc e=true):(∃x g s p,e=.ListComp x g s p)∨(∃x g s p,e=.SetComp x g s p)∨∃k v g s p,e=.DictComp k v g s p:=by
 cases e with
 | ListComp x g s p=>exact .inl ⟨x,g,s,p,rfl⟩
 | SetComp x g s p=>exact .inr (.inl ⟨x,g,s,p,rfl⟩)
 | DictComp k v g s p=>exact .inr (.inr ⟨k,v,g,s,p,rfl⟩)
 | _=>exact Bool.noConfusion hc
noncomputable def zpk(nx:Option (Expr×Expr×List Expr)) (u0 iter:Expr) (u6:List Expr) (e:Expr) (depth:Nat) (it acc:Value) (env:Env):Sem Fin:=(do
 standAt iter.pos
 match ←pyNext it with
 | none=>pure (.done .next)
 | some v=>
  letOwnedTupleGo u0 it v
  assign u0 env v
  let mut ok:=true
  for c in u6 do
   if ok then ok ←isTrue c env (eval c env)
  if ok then zfv nx e (depth+1) acc env (again (.compLoop e depth it acc env))
  else again (.compLoop e depth it acc env))
noncomputable abbrev zbp(p:Expr×Expr×List Expr):Comprehension:=⟨p.1,p.2.1,p.2.2,0⟩
theorem zb5{e:Expr}{depth:Nat}{u0 iter:Expr}{u6:List Expr}{it acc:Value}{env:Env}(hc:qc e=true) (hg:(clausesOf e)[depth]?=some ⟨u0,iter,u6,0⟩) {nx:Option (Expr×Expr×List Expr)}(h2:(clausesOf e)[depth+1]?=nx.map zbp) :
  compTurn e depth it acc env=zpk nx u0 iter u6 e depth it acc env:=by
 rcases zbX hc with⟨elt,gens,sc,pos,rfl⟩ | ⟨elt,gens,sc,pos,rfl⟩ | ⟨k,v,gens,sc,pos,rfl⟩
 ·delta compTurn
  dsimp only
  rw[show gens[depth]?=_ from hg,show gens[depth+1]?=_ from h2]
  cases nx<;>rfl
 ·delta compTurn
  dsimp only
  rw[show gens[depth]?=_ from hg,show gens[depth+1]?=_ from h2]
  cases nx<;>rfl
 ·delta compTurn
  dsimp only
  rw[show gens[depth]?=_ from hg,show gens[depth+1]?=_ from h2]
  cases nx<;>rfl
theorem zhJ{e:Expr}(x5:∀g∈clausesOf e,g.is_async=0) (k:Nat):∃nx,(clausesOf e)[k]?=Option.map zbp nx:=by
 cases h:(clausesOf e)[k]? with
 | none=>exact⟨none,rfl⟩
 | some g=>
  have h0:=x5 g (List.mem_of_getElem? h)
  obtain⟨t,i,f,a⟩:=g
  exact⟨some (t,i,f),congrArg some (congrArg (Comprehension.mk t i f) h0)⟩
theorem JM{e:Expr}(hc:qc e=true) (A:Around) (d:Nat) (it acc:Value) (env:Env):(A.under (.compStart e d it acc env)=A∧A.under (.compLoop e d it acc env)=A)∧(Code.compStart e d it acc env).isFrame=false∧(Code.compLoop e d it acc env).isFrame=false:=by
 rcases zbX hc with⟨_,_,_,_,rfl⟩ | ⟨_,_,_,_,rfl⟩ | ⟨_,_,_,_,_,rfl⟩<;>exact⟨⟨rfl,rfl⟩,rfl,rfl⟩
end
section
open PySem PySem.W
variable {G:Gx}{n:Nat}{env:Env}{ρ:Rho}{σ:Sig}
noncomputable def MO.sz:MO→Nat
 | .lst l=>l.length
 | .dicS l=>l.length
 | .dicI l=>l.length
 | .set l=>l.length
 | .raw _=>0
inductive Upd:Sig→Addr→MO→MO→Sig→Prop
 | head (σ a mo mo'):Upd ((a,mo)::σ) a mo mo' ((a,mo')::σ)
 | tail (p) {σ a mo mo' σ'}:Upd σ a mo mo' σ'→Upd (p::σ) a mo mo' (p::σ')
theorem Upd.map{σ σ':Sig}{a:Addr}{mo mo':MO}(u:Upd σ a mo mo' σ'):σ'.map (·.1)=σ.map (·.1):=by
 induction u with
 | head=>rfl
 | tail p _ ih=>exact congrArg (p.1::·) ih
theorem Upd.mem{σ σ':Sig}{a:Addr}{mo mo':MO}(u:Upd σ a mo mo' σ'):(a,mo)∈σ:=by
 induction u with
 | head=>exact .head _
 | tail p _ ih=>exact .tail _ ih
theorem Upd.of_mem{σ σ':Sig}{a:Addr}{mo mo':MO}(u:Upd σ a mo mo' σ') (hn:(σ.map (·.1)).Nodup):∀p∈σ',p=(a,mo')∨(p∈σ∧p.1≠a):=by
 induction u with
 | head σ a mo mo'=>exact fun p hp=>(List.mem_cons.mp hp).imp id fun h=>⟨.tail _ h,fun e=>(List.nodup_cons.mp hn).1 (e▸List.mem_map_of_mem (f:=(·.1)) h)⟩
 | tail q u ih=>exact fun p hp=>(List.mem_cons.mp hp).elim (fun h=>.inr ⟨h▸.head _,fun e=>(List.nodup_cons.mp hn).1 (show q.1∈_ from h▸e.symm▸List.mem_map_of_mem (f:=(·.1)) u.mem)⟩) fun h=>(ih (List.nodup_cons.mp hn).2 p h).imp id fun h=>⟨.tail _ h.1,h.2⟩
theorem Base.upd{F:FZ}{s:Shared}{a:Addr}{mo mo':MO}{σ':Sig}{h':Heap}{tk:Nat}(H:Base G F σ s) (u:Upd σ a mo mo' σ') (hs:Heap.SameBut a s.heap h') (hm:MAt G F h' a mo') :
  Base G F σ' {s with heap:=h',toks:=tk}∧Grow G [a] F s F {s with heap:=h',toks:=tk}:=
 have x:=(H.own _ u.mem).2
 have g:Grow G [a] F s F {s with heap:=h',toks:=tk}:=.turn H hs hm.some x.1 x.2
 ⟨{fin:=g.fin,base:=H.base,xF:=H.xF,code:=g.code H.code,bare:=H.bare,own:=fun p hp=>(u.of_mem H.nodup p hp).elim (fun e=>e▸⟨hm,x⟩) fun y=>(H.own p y.1).imp (fun h1=>h1.mono (.refl F) fun o e=>hs.extBut _ _ y.2 e) id,nodup:=u.map▸H.nodup},g⟩
theorem Holds.upd{F:FZ}{s:Shared}{a:Addr}{mo mo':MO}{σ':Sig}{h':Heap}{tk:Nat}(H:Holds G env F ρ σ s) (u:Upd σ a mo mo' σ') (hs:Heap.SameBut a s.heap h') (hm:MAt G F h' a mo') :
  Holds G env F ρ σ' {s with heap:=h',toks:=tk}∧Grow G [a] F s F {s with heap:=h',toks:=tk}:=
 have x:=H.toBase.upd (tk:=tk) u hs hm
 have ha:a∈σ.map (·.1):=List.mem_map_of_mem (f:=(·.1)) u.mem
 ⟨{
  toBase:=x.1,kind:=H.kind,globals:=H.globals,builtins:=H.builtins,apart:=H.apart
  vars:=fun x d h=>(H.vars x d h).imp fun v b=>⟨b.1.at (fun o e=>hs.extBut _ _ (fun e'=>H.locals.2.2.2 (e'▸ha)) e) (fun c hc o e=>hs.extBut _ _ (fun e'=>(H.cells x c (mem_of_lookup hc)).2.2.2.1 (e'▸ha)) e),b.2⟩
  locals:=H.locals.imp (fun b=>b.imp fun m b=>b.sameBut hs fun e=>H.locals.2.2.2 (e▸ha)) fun b=>⟨b.1,b.2.1,u.map▸b.2.2⟩
  cells:=fun x c hm'=>(H.cells x c hm').imp (fun b=>b.imp fun v b=>b.sameBut hs fun e=>(H.cells x c hm').2.2.2.1 (e▸ha)) fun b=>⟨b.1,b.2.1,u.map▸b.2.2.1,b.2.2.2⟩},x.2⟩
theorem Base.drop{F:FZ}{s:Shared}{p:Addr×MO}(H:Base G F (p::σ) s):Base G F σ s:=
 {fin:=H.fin,base:=H.base,xF:=H.xF,code:=H.code,bare:=H.bare,own:=fun q hq=>H.own q (List.mem_cons_of_mem _ hq),nodup:=(List.nodup_cons.mp H.nodup).2}
theorem Holds.drop{F:FZ}{s:Shared}{p:Addr×MO}(H:Holds G env F ρ (p::σ) s):Holds G env F ρ σ s:=
 {toBase:=H.toBase.drop,kind:=H.kind,globals:=H.globals,builtins:=H.builtins,apart:=H.apart,vars:=H.vars,
  locals:=⟨H.locals.1,H.locals.2.1,H.locals.2.2.1,fun h=>H.locals.2.2.2 (List.mem_cons_of_mem _ h)⟩,
  cells:=fun x c hm=>(H.cells x c hm).imp id fun b=>⟨b.1,b.2.1,fun h=>b.2.2.1 (List.mem_cons_of_mem _ h),b.2.2.2⟩}
structure App (α:Type) where
 app:MO→α→MO
 K:MO→Prop
 keeps:∀mo x,K mo→K (app mo x)
 sz:∀mo x,(app mo x).sz≤mo.sz+1
noncomputable def JR(G:Gx) (n:Nat) (env:Env) (W:List Addr) {α:Type}(P:App α) (m:Addr→Sem Fin→Sem Fin) (ρ:Rho) (σ:Sig) (out:List α):Prop:=
 ∀(rest:Sem Fin) (A:Around) (F:FZ) (s:Shared) (a:Addr) (mo:MO) (E:Value→Shared→Prop) (Q:Fin→Shared→Prop),AOk n A→P.K mo→mo.sz+out.length≤1000000→Holds G env F ρ ((a,mo)::σ) s→
  (∀F' s',Grow G (a::W) F s F' s'→Holds G env F' ρ ((a,out.foldl P.app mo)::σ) s'→wpAny (model G.prog G.w) A rest Q E s')→wpAny (model G.prog G.w) A (m a rest) Q E s
noncomputable def zi9:MO→D→MO
 | .lst l,d=>.lst (l++[d])
 | mo,_=>mo
noncomputable def AL:App D where
 app:=zi9
 K mo:=∃l,mo=.lst l
 keeps mo x h:=h.elim fun _ e=>e▸⟨_,rfl⟩
 sz mo x:=by
  cases mo with
  | lst l=>exact Nat.le_of_eq List.length_append
  | _=>exact Nat.le_succ _
theorem zky{elt:Expr} {gens scope pos}{W:List Addr}{d:D}(h:PE G n env elt ρ σ d) :
  JR G n env W AL (fun a rest=>J7 (.ListComp elt gens scope pos) (.ref a) env>>=fun _=>rest) ρ σ [d]:=fun rest A F s a mo E Q hA hK hsz H hQ=>by
 refine wpAny_bind ?_
 show wpAny _ A (do let _ ←call (.builtin "list.append") [.ref a,←eval elt env]) _ E s
 refine wpAny_bind (h.out A F s _ E hA H.drop fun v F₁ s₁ g₁ V₁=>?_)
 refine Exists.elim hK fun l q1_=>?_
 subst q1_
 refine Zu (((H.grow g₁).own _ (.head _)).1) fun vs m e=>?_
 refine wpAny_bind (wpAny_list_append_plain ⟨m,e.1⟩ (fun h' hp hs=>hp.elim fun m' e'=>?_) (Zh (Nat.le_trans (Nat.le_of_eq e.2.length) (Nat.le_of_succ_le hsz))))
 have x:=(H.grow g₁).upd (tk:=s₁.toks) (.head ..) hs (mo':=.lst (l++[d])) ⟨_,m',e',by rw[Array.toList_push];exact e.2.append (.cons V₁ .nil)⟩
 exact wpAny_pure (hQ F₁ _ ((g₁.wider fun _ h=>absurd h List.not_mem_nil).trans (x.2.wider fun _ h=>List.mem_singleton.mp h▸.head _)) x.1)
noncomputable def Zl{K:Type} [DecidableEq K] (l:List (K×D)) (k:K) (d:D):List (K×D):=if l.any (fun p=>p.1=k) then l.map (fun p=>if p.1=k then (p.1,d) else p) else l++[(k,d)]
theorem zbu{K:Type} [DecidableEq K] (l:List (K×D)) (k:K) (d:D):(Zl l k d).length≤l.length+1:=by
 unfold Zl;split<;>simp
noncomputable def zme:MO→Str×D→MO
 | .dicS l,(k,d)=>.dicS (Zl l k d)
 | mo,_=>mo
noncomputable def AS:App (Str×D) where
 app:=zme
 K mo:=∃l,mo=.dicS l
 keeps mo x h:=h.elim fun _ e=>e▸⟨_,rfl⟩
 sz mo x:=by
  cases mo with
  | dicS l=>exact zbu _ _ _
  | _=>exact Nat.le_succ _
noncomputable def zmf:MO→Int×D→MO
 | .dicI l,(k,d)=>.dicI (Zl l k d)
 | mo,_=>mo
noncomputable def AI:App (Int×D) where
 app:=zmf
 K mo:=∃l,mo=.dicI l
 keeps mo x h:=h.elim fun _ e=>e▸⟨_,rfl⟩
 sz mo x:=by
  cases mo with
  | dicI l=>exact zbu _ _ _
  | _=>exact Nat.le_succ _
theorem zhT{K α:Type} [DecidableEq K] {k:K}{v:α}(l:List (K×α)):(l.map fun p=>if p.1=k then (p.1,v) else p).map (·.1)=l.map (·.1):=by
 rw[List.map_map]
 exact congrArg (List.map · l) (funext fun p=>(apply_ite Prod.fst _ _ _).trans (ite_self _))
theorem zic{K:Type} [DecidableEq K] {prog:Program}{w:World}{F:FZ}{k:K}{v:Value}{d:D}(hv:V prog w F v d) {ds:List (K×D)}:∀{kvs:List (K×Value)},kvs.map (·.1)=ds.map (·.1)→Vs prog w F (kvs.map (·.2)) (ds.map (·.2))→
  Vs prog w F ((kvs.map fun p=>if p.1=k then (p.1,v) else p).map (·.2)) ((ds.map fun p=>if p.1=k then (p.1,d) else p).map (·.2)):=by
 induction ds with
 | nil=>intro kvs h _;rw[List.map_eq_nil_iff.mp h];exact .nil
 | cons p ds ih=>
  intro kvs h hs
  cases kvs with
  | nil=>cases h
  | cons q kvs=>
   refine .cons ?_ (ih (List.cons.inj h).2 hs.uncons.2)
   show V prog w F (if q.1=k then (q.1,v) else q).2 (if p.1=k then (p.1,d) else p).2
   rw[show q.1=p.1 from(List.cons.inj h).1]
   by_cases e:p.1=k
   ·rw[if_pos e,if_pos e];exact hv
   ·rw[if_neg e,if_neg e];exact hs.uncons.1
theorem zaU{K:Type} [DecidableEq K] {prog:Program}{w:World}{F:FZ}{k:K}{v:Value}{d:D}(hv:V prog w F v d) {kvs:List (K×Value)}{ds:List (K×D)}(h:kvs.map (·.1)=ds.map (·.1)) (hs:Vs prog w F (kvs.map (·.2)) (ds.map (·.2))) :
  (stored kvs k v).map (·.1)=(Zl ds k d).map (·.1)∧Vs prog w F ((stored kvs k v).map (·.2)) ((Zl ds k d).map (·.2)):=by
 unfold stored Zl
 rw[zgQ h]
 split
 ·rw[zhT,zhT]
  exact⟨h,zic hv h hs⟩
 ·rw[List.map_append,List.map_append,List.map_append,List.map_append,h]
  exact⟨rfl,hs.append (.cons hv .nil)⟩
end
section
open PySem PySem.W
variable {G:Gx}{n:Nat}{env:Env}{ρ:Rho}{σ:Sig}
theorem zgC{K:Type} [DecidableEq K] {knd:KeyKind G.prog G.w K}{mk:List (K×D)→MO}{P:App (K×D)}{ke ve:Expr} {gens scope pos}{W:List Addr}{k:K}{d kd:D}
  (hM:∀F h a l,MAt G F h a (mk l)=∃o kvs,h.get? a=some o∧a≠sysModules∧DictO knd o kvs∧kvs.map (·.1)=l.map (·.1)∧Vs G.prog G.w F (kvs.map (·.2)) (l.map (·.2)))
  (hP:∀mo,P.K mo→∃l,mo=mk l) (hz:∀l,(mk l).sz=l.length) (ha:∀l,P.app (mk l) (k,d)=mk (Zl l k d)) (hi:∀F v,V G.prog G.w F v kd→knd.is k v=true)
  (hk:PE G n env ke ρ σ kd) (hv:PE G n env ve ρ σ d) :
  JR G n env W P (fun a rest=>J7 (.DictComp ke ve gens scope pos) (.ref a) env>>=fun _=>rest) ρ σ [(k,d)]:=fun rest A F s a mo E Q hA hK hsz H hQ=>by
 refine wpAny_bind ?_
 show wpAny _ A (do
    let kv ←eval ke env
    let vv ←holding [kv] (eval ve env)
    standAt {ke.pos with endLine:=ve.pos.endLine,endCol:=ve.pos.endCol}
    holding [kv,vv] (dictSet a kv vv)) _ E s
 refine Exists.elim (hP mo hK) fun l q1_=>?_
 subst q1_
 refine wpAny_bind (hk.out A F s _ E hA H.drop fun kv F₁ s₁ g₁ V₁=>wpAny_bind (wpAny_holding (hv.out A F₁ s₁ _ E hA (H.grow g₁).drop fun vv F₂ s₂ g₂ V₂=>?_)))
 have H₂:=(H.grow g₁).grow g₂
 refine Zu (hM _ _ _ _▸(H₂.own _ (.head _)).1) fun o kvs x=>?_
 rw[hz] at hsz
 refine wpAny_bind (wpAny_standAt (wpAny_holding (wpAny_dictSet_pairs (knd:=knd) (k:=k) (hi _ _ V₁) (x.2.2.1.of x.1) (fun h' hp hs=>?_) (Zh (Nat.le_trans (Nat.le_of_eq (jX x.2.2.2.1)) (Nat.le_of_succ_le hsz))))))
 refine Exists.elim (DictO.to hp) fun o' e'=>?_
 have y:=H₂.upd (tk:=s₂.toks+1) (.head ..) hs (mo':=mk (Zl l k d)) (by rw[hM];exact⟨o',_,e'.1,x.2.1,e'.2,zaU (k:=k) V₂ x.2.2.2.1 x.2.2.2.2⟩)
 exact hQ F₂ _ (((g₁.trans g₂).wider fun _ h=>absurd h List.not_mem_nil).trans (y.2.wider fun _ h=>List.mem_singleton.mp h▸.head _)) (by rw[List.foldl_cons,List.foldl_nil,ha];exact y.1)
theorem zkz{ke ve:Expr} {gens scope pos}{W:List Addr}{k:Str}{d:D}(hk:PE G n env ke ρ σ (.str k)) (hv:PE G n env ve ρ σ d) :
  JR G n env W AS (fun a rest=>J7 (.DictComp ke ve gens scope pos) (.ref a) env>>=fun _=>rest) ρ σ [(k,d)]:=
 zgC (knd:=strKind G.prog G.w) (mk:=.dicS) (fun _ _ _ _=>rfl) (fun _ h=>h) (fun _=>rfl) (fun _=>rfl) (fun _ _=>zdf) hk hv
theorem zkA{ke ve:Expr} {gens scope pos}{W:List Addr}{k:Int}{d:D}(hk:PE G n env ke ρ σ (.int k)) (hv:PE G n env ve ρ σ d) :
  JR G n env W AI (fun a rest=>J7 (.DictComp ke ve gens scope pos) (.ref a) env>>=fun _=>rest) ρ σ [(k,d)]:=
 zgC (knd:=intKind G.prog G.w) (mk:=.dicI) (fun _ _ _ _=>rfl) (fun _ h=>h) (fun _=>rfl) (fun _=>rfl) (fun _ _=>zgp) hk hv
noncomputable abbrev zhv(u6:List Expr) (env:Env):Sem Bool:=forIn u6 true fun c r=>if r=true then do let ok ←isTrue c env (eval c env);pure (ForInStep.yield ok) else pure (ForInStep.yield r)
structure PIf (G:Gx) (n:Nat) (env:Env) (u6:List Expr) (ρ:Rho) (σ:Sig) (b:Bool):Prop where
 out:∀(A:Around) (F:FZ) (s:Shared) (Q:Bool→Shared→Prop) (E:Value→Shared→Prop),AOk n A→Holds G env F ρ σ s→(∀F' s',Grow G [] F s F' s'→Q b s')→
  wpAny (model G.prog G.w) A (zhv u6 env) Q E s
theorem zW:PIf G n env [] ρ σ true:=.mk fun A F s Q E hA H h=>wpAny_tests_nil (h F s (.refl H.fin))
theorem ZM{e:Expr}{b:Bool}(h:PT G n env e ρ σ b):PIf G n env [e] ρ σ b:=.mk fun A F s Q E hA H hQ=>wpAny_tests_one (h.out A F s Q E hA H hQ)
noncomputable def TailJ(G:Gx) (n:Nat) (env:Env) (W:List Addr) {α:Type}(P:App α) (e:Expr) (k:Nat) (ρ:Rho) (σ:Sig) (out:List α):Prop:=
 ((clausesOf e)[k]?=none∧JR G n env W P (fun a rest=>J7 e (.ref a) env>>=fun _=>rest) ρ σ out)∨
 (∃u0 iter u6,(clausesOf e)[k]?=some ⟨u0,iter,u6,0⟩∧JR G n env W P (fun a rest=>do
     let x ←eval iter env
     standAt iter.pos
     let x ←foldedSetIterable iter env x
     let i ←holding [x] (pyIter x)
     let _ ←runOwn (.compStart e k i (.ref a) env) env
     rest) ρ σ out)
theorem TailJ.any{W:List Addr}{α:Type}{P:App α}{e:Expr}{k:Nat}{out:List α}(h:TailJ G n env W P e k ρ σ out):∃nx,(clausesOf e)[k]?=Option.map zbp nx∧JR G n env W P (fun a rest=>zfv nx e k (.ref a) env rest) ρ σ out:=
 h.elim (fun x=>⟨none,x⟩) fun⟨t,i,f,x⟩=>⟨some (t,i,f),x⟩
theorem zkF{A:Around}{s:Shared}{E:Value→Shared→Prop}{Q:Fin→Shared→Prop}{e:Expr}{depth:Nat}{u0 iter:Expr}{u6:List Expr}{a:Addr}{names:List Str}
  {W:List Addr}{α:Type}{P:App α}{F:FZ}{mo:MO}{out:List α}{b:Rho}{p:Bool}{I:Addr}{F₀:FZ}{fp wr:List Addr}{bs:List Rho}{St:Nat→Heap→Prop}{i:Nat}
  (hc:qc e=true) (x5:∀g∈clausesOf e,g.is_async=0) (hg:(clausesOf e)[depth]?=some ⟨u0,iter,u6,0⟩) (J:HeadJ G n u0 names I F₀ fp wr bs St) (hi:bs[i]?=some b) (hs:∀x∈names,zG env x)
  (hA:AOk n A) (h0:F₀.le F) (H:Holds G env F ρ ((a,mo)::σ) s) (ho:Off G env F ((a,mo)::σ) wr) (hst:St i s.heap)
  (hp:PIf G n env u6 (b++ρ) σ p) (ht:p=true→TailJ G n env W P e (depth+1) (b++ρ) σ out) (hf:p=false→out=[])
  (hK:P.K mo) (hsz:mo.sz+out.length≤1000000) (hWr:∀c∈wr,c≠a∧c∉W∧c∉tW env names)
  (hQ:∀F' s',Grow G (wr++tW env names++(a::W)) F s F' s'→Holds G env F' (b++ρ) ((a,out.foldl P.app mo)::σ) s'→St (i+1) s'.heap→Q (.again (.compLoop e depth (.ref I) (.ref a) env)) s') :
  wpAny (model G.prog G.w) A (compTurn e depth (.ref I) (.ref a) env) Q E s:=by
 obtain⟨nx,h2,hE⟩:∃nx,(clausesOf e)[depth+1]?=Option.map zbp nx∧(p=true→JR G n env W P (fun a rest=>zfv nx e (depth+1) (.ref a) env rest) (b++ρ) σ out):=by
  cases p with
  | false=>exact(zhJ x5 (depth+1)).imp fun _ h=>⟨h,fun h=>Bool.noConfusion h⟩
  | true=>exact(ht rfl).any.imp fun _ h=>⟨h.1,fun _=>h.2⟩
 rw[zb5 hc hg h2]
 have fin:∀F₁ s₁,Grow G (wr++tW env names) F s F₁ s₁→Holds G env F₁ (b++ρ) ((a,mo)::σ) s₁→St (i+1) s₁.heap→∀F' s',Grow G (a::W) F₁ s₁ F' s'→Holds G env F' (b++ρ) ((a,out.foldl P.app mo)::σ) s'→
   Q (.again (.compLoop e depth (.ref I) (.ref a) env)) s':=fun F₁ s₁ g₁ H₁ st₁ F' s' g₂ H₂=>
  hQ F' s' ((g₁.wider fun c hc=>List.mem_append_left _ hc).trans (g₂.wider fun c hc=>List.mem_append_right _ hc)) H₂
   (J.keep H₁.fin (h0.trans g₁.le) g₂ (fun c hc=>⟨fun hm=>(List.mem_cons.mp hm).elim (hWr c hc).1 (hWr c hc).2.1,ho.x c hc⟩) st₁)
 refine wpAny_bind (wpAny_standAt (wpAny_bind (wpAny_mono (J.step i b hi env hs A F s ρ _ E (fun _ s₁=>wpAny (model G.prog G.w) A (zhv u6 env) (fun ok s₂=>wpAny (model G.prog G.w) A
  (if ok=true then zfv nx e (depth+1) (.ref a) env (again (.compLoop e depth (.ref I) (.ref a) env)) else again (.compLoop e depth (.ref I) (.ref a) env)) Q E s₂) E s₁) hA h0 H ho hst (fun F₁ s₁ g₁ H₁ st₁=>
   hp.out A F₁ s₁ _ E hA H₁.drop fun F₂ s₂ g₂=>?_)) (fun r s₁ h₁=>?_) fun _ _ x=>x)))
 ·have g:=g₁.trans (g₂.wider fun _ h=>absurd h List.not_mem_nil)
  have st:=J.keep H₁.fin (h0.trans g₁.le) g₂ (fun c hc=>⟨List.not_mem_nil,ho.x c hc⟩) st₁
  cases p with
  | false=>
   obtain rfl:=hf rfl
   exact wpAny_pure (fin F₂ s₂ g (H₁.grow g₂) st F₂ s₂ (.refl g₂.fin) (H₁.grow g₂))
  | true=>exact hE rfl _ A F₂ s₂ a mo E Q hA hK hsz (H₁.grow g₂) fun F' s' g₃ H₃=>wpAny_pure (fin F₂ s₂ g (H₁.grow g₂) st F' s' g₃ H₃)
 ·cases r with
  | none=>exact h₁.elim
  | some v=>exact wpAny_bind (wpAny_mono h₁ (fun _ s₂ h₂=>wpAny_bind (wpAny_mono h₂ (fun _ s₃ h₃=>wpAny_bind h₃) fun _ _ x=>x)) fun _ _ x=>x)
end
section
open PySem PySem.W
variable {G:Gx}{n:Nat}{env:Env}{ρ:Rho}{σ:Sig}
theorem Holds.endOff{F:FZ}{s:Shared}{wr:List Addr}{h':Heap}{tk:Nat}(H:Holds G env F ρ σ s) (hk:∀b o,b∉wr→s.heap.get? b=some o→h'.get? b=some o) (ho:Off G env F σ wr) :
  Holds G env F ρ σ {s with heap:=h',toks:=tk} where
 fin a o e:=hk a o (fun hm=>zH (ho.fz a hm) e) (H.fin a o e)
 base:=H.base
 xF:=H.xF
 code:=H.code.imp fun _ hx=>hx.frame (fun _ e=>hk _ _ (fun hm=>H.toBase.cX_F.elim fun _ e'=>zH (ho.fz _ hm) e') e) (fun _ e=>hk _ _ (fun hm=>ho.x _ hm rfl) e)
 bare:=H.bare
 own p hp:=(H.own p hp).imp (fun hm=>hm.mono (.refl F) fun o e=>hk _ _ (fun hw=>ho.own _ hw (List.mem_map_of_mem hp)) e) id
 nodup:=H.nodup
 kind:=H.kind
 globals:=H.globals
 builtins:=H.builtins
 vars x d h:=(H.vars x d h).imp fun v b=>⟨b.1.at (fun o e=>hk _ _ (fun hW=>ho.loc _ hW rfl) e) (fun c hc o e=>hk _ _ (fun hW=>ho.cel _ hW x c (mem_of_lookup hc) rfl) e),b.2⟩
 locals:=H.locals.imp (fun b=>b.imp fun m hn=>hn.at' fun o e=>hk _ _ (fun hW=>ho.loc _ hW rfl) e) id
 cells x c hm:=(H.cells x c hm).imp (fun b=>b.imp fun v b=>b.imp fun o b=>⟨hk _ _ (fun hW=>ho.cel _ hW x c hm rfl) b.1,b.2⟩) id
 apart:=H.apart
theorem Off.retype{F:FZ}{W:List Addr}{a:Addr}{mo mo':MO}(h:Off G env F ((a,mo)::σ) W):Off G env F ((a,mo')::σ) W:=⟨h.fz,h.own,h.loc,h.cel,h.x⟩
theorem Off.sub{F:FZ}{W W':List Addr}(h:Off G env F σ W) (hs:∀a∈W',a∈W):Off G env F σ W':=⟨fun a ha=>h.fz a (hs a ha),fun a ha=>h.own a (hs a ha),fun a ha=>h.loc a (hs a ha),fun a ha=>h.cel a (hs a ha),fun a ha=>h.x a (hs a ha)⟩
theorem znK{α:Type}(P:App α) (l:List α) {mo:MO}(h:P.K mo):P.K (l.foldl P.app mo):=by
 induction l generalizing mo with
 | nil=>exact h
 | cons x l ih=>exact ih (P.keeps _ _ h)
theorem zlU{α:Type}(P:App α) (l:List α) (mo:MO):(l.foldl P.app mo).sz≤mo.sz+l.length:=by
 induction l generalizing mo with
 | nil=>exact Nat.le_refl _
 | cons x l ih=>exact Nat.le_trans (ih (P.app mo x)) (Nat.le_trans (Nat.add_le_add_right (P.sz mo x) _) (Nat.le_of_eq (Nat.add_right_comm mo.sz 1 l.length)))
theorem zha{b ρ:Rho}{names:List Str}(hb:∀p∈b,p.1∈names) (hr:∀x∈names,ρ.lookup x=none) (x:Str) (d:D) (h:ρ.lookup x=some d):(b++ρ).lookup x=some d:=by
 induction b with
 | nil=>exact h
 | cons p b ih=>
  refine QC.trans ?_
  by_cases hxy:x=p.1
  ·exact zH (hr x (hxy▸hb p (.head _))) h
  ·rw[if_neg hxy]
   exact ih fun q hq=>hb q (.tail _ hq)
theorem zfP{α:Type}(l:List (List α)) (k:Nat):(l.take k).flatten.length≤l.flatten.length:=by
 rw[show l.flatten=(l.take k).flatten++(l.drop k).flatten by rw[←List.flatten_append,List.take_append_drop],List.length_append]
 exact Nat.le_add_right _ _
theorem zfc{A:Around}{s₀ s:Shared}{R:Result→Shared→Prop}{e:Expr}{depth:Nat}{u0 iter:Expr}{u6:List Expr}{a:Addr}{names:List Str}
  {W:List Addr}{α:Type}{P:App α}{F₁ F:FZ}{mo:MO}{Zb:List (List α)}{I:Addr}{F₀:FZ}{fp wr:List Addr}{bs:List Rho}{St:Nat→Heap→Prop}
  (hc:qc e=true) (x5:∀g∈clausesOf e,g.is_async=0) (hg:(clausesOf e)[depth]?=some ⟨u0,iter,u6,0⟩) (J:HeadJ G n u0 names I F₀ fp wr bs St) (hs:∀x∈names,zG env x)
  (hA:AOk n A) (h0:F₀.le F) (hco:∃ps,XC s₀.heap G.cX G.X G.ps₀ ps) (g₀:Grow G [] F₁ s₀ F s) (hz:∀c∈wr,s₀.heap.get? c=none)
  (H:Holds G env F ρ ((a,mo)::σ) s) (ho:Off G env F ((a,mo)::σ) wr) (hst:St 0 s.heap)
  (hl:Zb.length=bs.length) (x0:∀b∈bs,∀p∈b,p.1∈names) (v7:∀x∈names,ρ.lookup x=none)
  (turn:∀(i:Nat) (b:Rho) (out:List α),bs[i]?=some b→Zb[i]?=some out→∃p,PIf G n env u6 (b++ρ) σ p∧(p=true→TailJ G n env W P e (depth+1) (b++ρ) σ out)∧(p=false→out=[]))
  (hK:P.K mo) (hsz:mo.sz+Zb.flatten.length≤1000000) (hWr:∀c∈wr,c≠a∧c∉W∧c∉tW env names)
  (hR:∀F' s',Grow G (tW env names++(a::W)) F₁ s₀ F' s'→Holds G env F' ρ ((a,Zb.flatten.foldl P.app mo)::σ) s'→R (.ok .next) s') :
  codeAny (model G.prog G.w) A (.compLoop e depth (.ref I) (.ref a) env) R s:=by
 refine codeAny_loop (M:=model G.prog G.w) rfl (fun k s'=>∃i F',i≤bs.length∧k=bs.length-i∧Grow G (wr++tW env names++(a::W)) F s F' s'∧Holds G env F' ρ ((a,(Zb.take i).flatten.foldl P.app mo)::σ) s'∧St i s'.heap) ?_ bs.length
  ⟨0,F,Nat.zero_le _,rfl,.refl H.fin,by simpa using H,hst⟩
 intro k s' q2_
 refine zdR q2_ fun i F' hi q3_ g H' st=>?_
 subst q3_
 have hden:(model G.prog G.w).den (.compLoop e depth (.ref I) (.ref a) env)=(compTurn e depth (.ref I) (.ref a) env).onRaise (fun x=>do noteFrame x env;theTreesLotGoes x):=if_neg (Bool.eq_false_iff.mp (JM hc A depth _ _ env).2.2)
 rw[hden,(JM hc A depth _ _ env).1.2]
 refine wpAny_noted ?_
 have ho':Off G env F' ((a,(Zb.take i).flatten.foldl P.app mo)::σ) wr:=(ho.grow g (fun c hc=>J.dom 0 _ hst c hc)).retype
 by_cases hlt:i<bs.length
 ·have hb:bs[i]?=some bs[i]:=List.getElem?_eq_getElem hlt
  have hlo:i<Zb.length:=hl▸hlt
  have u3:Zb[i]?=some Zb[i]:=List.getElem?_eq_getElem hlo
  refine qD (turn i _ _ hb u3) fun p hp ht hf=>?_
  have hfl:(Zb.take (i+1)).flatten=(Zb.take i).flatten++Zb[i]:=by
   rw[List.take_add_one,u3,List.flatten_append]
   exact congrArg _ (List.append_nil _)
  refine zkF hc x5 hg J hb hs hA (h0.trans g.le) H' ho' st hp ht hf (znK P _ hK) ?_ hWr ?_
  ·refine Nat.le_trans (Nat.add_le_add_right (zlU P _ mo) _) (Nat.le_trans ?_ hsz)
   rw[Nat.add_assoc,←List.length_append,←hfl]
   exact Nat.add_le_add_left (zfP _ _) _
  ·intro F'' s'' g' H'' st'
   refine⟨rfl,bs.length-(i+1),Nat.sub_succ_lt_self _ _ hlt,i+1,F'',hlt,rfl,g.trans g',?_,st'⟩
   rw[hfl,List.foldl_append]
   exact H''.weak (zha (x0 _ (List.getElem_mem hlt)) v7)
 ·obtain rfl:i=bs.length:=Nat.le_antisymm hi (Nat.le_of_not_lt hlt)
  refine Exists.elim (zhJ x5 (depth+1)) fun nx h2=>?_
  rw[zb5 hc hg h2]
  refine wpAny_bind (wpAny_standAt (wpAny_bind (J.done A s' _ _ hA st fun h' tk hk=>wpAny_pure ?_)))
  refine hR F' _ ?_ ?_
  ·refine Grow.fin_end (wr:=wr) (Grow.unfresh ((g₀.wider fun _ h=>absurd h List.not_mem_nil).trans (g.wider (wr':=tW env names++(a::W)++wr) fun c hc=>?_)) hz) hco hk hz ho'.fz
   rw[List.append_assoc] at hc
   exact(List.mem_append.mp hc).elim (List.mem_append_right _) (List.mem_append_left _)
  ·have:=H'.endOff (tk:=tk) hk ho'
   rwa[←hl,List.take_length] at this
end
section
open PySem PySem.W
variable {G:Gx}{n:Nat}{env:Env}{ρ:Rho}{σ:Sig}
theorem zdY{A:Around}{s:Shared}{R:Result→Shared→Prop}{e:Expr}{k:Nat}{u0 iter:Expr}{u6:List Expr}{it acc:Value}(hc:qc e=true) (hg:(clausesOf e)[k]?=some ⟨u0,iter,u6,0⟩)
  (hself:∀(Q E:Value→Shared→Prop),Q it s→wpAny (model G.prog G.w) A (pyIter it) Q E s) (h:codeAny (model G.prog G.w) A (.compLoop e k it acc env) R s) :
  codeAny (model G.prog G.w) A (.compStart e k it acc env) R s:=by
 refine codeAny_of_tree ?_
 have hden:(model G.prog G.w).den (.compStart e k it acc env)=(compStart e k it acc env).onRaise (fun x=>do noteFrame x env;standAt theWindowsPlace):=if_neg (Bool.eq_false_iff.mp (JM hc A k _ _ env).2.1)
 rw[hden,(JM hc A k _ _ env).1.1]
 refine wpAny_notedAt ?_
 unfold compStart
 rw[hg]
 show wpAny _ _ (ask>>=_) _ _ s
 refine wpAny_bind (wpAny_askSetting (wpAny_ite ?_))
 split
 ·exact wpAny_pure (And.intro rfl h)
 ·refine wpAny_bind (wpAny_rule ?_)
  show wpAny _ _ (standAt iter.pos>>=_) _ _ s
  exact wpAny_bind (wpAny_standAt (wpAny_bind (hself _ _ (wpAny_pure (And.intro rfl h)))))
noncomputable def zbt(G:Gx) (n:Nat) (env:Env) (W:List Addr) {α:Type}(P:App α) (e:Expr) (k:Nat) (u6:List Expr) (ρ:Rho) (σ:Sig) (b:Rho) (out:List α):Prop:=
 ∃p,PIf G n env u6 (b++ρ) σ p∧(p=true→TailJ G n env W P e (k+1) (b++ρ) σ out)∧(p=false→out=[])
theorem zkx{e:Expr}{k:Nat}{u0 iter:Expr}{u6:List Expr}{names:List Str}{W:List Addr}{α:Type}{P:App α}{bs:List Rho}{Zb:List (List α)}
  (hc:qc e=true) (x5:∀g∈clausesOf e,g.is_async=0) (hg:(clausesOf e)[k]?=some ⟨u0,iter,u6,0⟩) (v9:∀x,foldedSetIterable iter env x=pure x)
  (v8:ItE G n env iter ρ σ u0 names bs) (hs:∀x∈names,zG env x) (hl:Zb.length=bs.length) (x0:∀b∈bs,∀p∈b,p.1∈names) (v7:∀x∈names,ρ.lookup x=none)
  (turn:∀(i:Nat) (b:Rho) (out:List α),bs[i]?=some b→Zb[i]?=some out→zbt G n env W P e k u6 ρ σ b out) (htW:∀c∈tW env names,c∈W) (hWe:∀c∈W,c=env.locals∨∃x,(x,c)∈env.cells) :
  TailJ G n env W P e k ρ σ Zb.flatten:=by
 refine .inr ⟨u0,iter,u6,hg,fun rest A F s a mo E Q hA hK hsz H hQ=>?_⟩
 suffices key:wpAny (model G.prog G.w) A (eval iter env) (fun x s₁=>wpAny (model G.prog G.w) A (pyIter x) (fun i s₂=>wpAny (model G.prog G.w) A (do let _ ←runOwn (.compStart e k i (.ref a) env) env;rest) Q E s₂) E s₁) E s by
  refine wpAny_bind (wpAny_mono key (fun x s₁ h₁=>wpAny_bind (wpAny_standAt ?_)) fun _ _ y=>y)
  rw[v9]
  exact wpAny_bind (wpAny_pure (wpAny_bind (wpAny_holding h₁)))
 refine v8.out A F s _ E hA H.drop fun I fp wr St F₂ s₂ g₂ J st hwr=>?_
 have H₂:=H.grow g₂
 have ex:∀c,(c=env.locals∨∃x,(x,c)∈env.cells)→∃o,s.heap.get? c=some o:=fun c hc=>
  hc.elim (fun e=>e▸H.locals.1.elim fun m hn=>hn.imp fun _ x=>x.elim fun _ x=>x.elim fun _ x=>x.1) fun y=>y.elim fun x hx=>(H.cells x c hx).1.elim fun v hv=>hv.imp fun _ x=>x.1
 have ne:∀c∈wr,∀b,(∃o,s.heap.get? b=some o)→c≠b:=fun c hc b he h=>he.elim fun _ e=>zH (h▸(hwr _ hc).1) e
 have off:Off G env F₂ ((a,mo)::σ) wr:=⟨fun c hc=>(hwr c hc).2.2,fun c hc hm=>(List.mem_map.mp hm).elim fun p hp=>ne _ hc _ (H.own p hp.1).1.some hp.2.symm,fun c hc e=>ne _ hc _ (ex c (.inl e)) rfl,
  fun c hc x c' hm e=>ne _ hc _ (ex c' (.inr ⟨x,hm⟩)) e,fun c hc=>ne c hc _ (H.code.elim fun _ hx=>⟨_,hx.atX⟩)⟩
 refine wpAny_bind (wpAny_runOwn ?_)
 refine zdY hc hg (fun Q E hq=>J.self 0 _ s₂ Q E hA.handled st hq) ?_
 refine zfc (s₀:=s) (F₁:=F) (W:=W) hc x5 hg J hs hA (.refl F₂) H.code g₂ (fun c hc=>(hwr c hc).1) H₂ off st hl x0 v7 turn hK hsz (fun c hc'=>⟨ne c hc' _ (H.own _ (.head _)).1.some,fun hm=>ne _ hc' _ (ex c (hWe c hm)) rfl,fun hm=>ne _ hc' _ (ex c (hWe c (htW c hm))) rfl⟩) ?_
 exact fun F' s' g₃ H₃=>hQ F' s' (g₃.wider fun c hc'=>(List.mem_append.mp hc').elim (fun h=>.tail _ (htW c h)) id) H₃
end
section
open PySem PySem.W
variable {G:Gx}{n:Nat}{env:Env}{ρ:Rho}{σ:Sig}
noncomputable def QW(scope:Scope) (env:Env):List (Str×Addr):=scope.names.foldl (fun cs p=>if p.2==.free then (p.1,(env.cells.lookup p.1).getD 0)::cs else cs) []
theorem ziY{scope:Scope}(h:∀p∈scope.names,p.2=.free→(env.cells.lookup p.1).isSome=true):closureFor scope env=pure (QW scope env):=by
 unfold closureFor QW
 have key:∀(l:List (Str×NameKind)) (acc:List (Str×Addr)),(∀p∈l,p.2=.free→(env.cells.lookup p.1).isSome=true)→
   (forIn l acc fun(x:Str×NameKind) (r:List (Str×Addr))=>match x with
    | (name,kind)=>if kind==.free then (do let c ←cellOf env name;pure (ForInStep.yield ((name,c)::r))) else pure (ForInStep.yield r):Sem (List (Str×Addr)))=
   pure (l.foldl (fun cs p=>if p.2==.free then (p.1,(env.cells.lookup p.1).getD 0)::cs else cs) acc):=by
  intro l
  induction l with
  | nil=>intro acc _;rfl
  | cons p l ih=>
   intro acc hl
   obtain⟨x,k⟩:=p
   rw[List.forIn_cons,List.foldl_cons]
   by_cases hk:k=.free
   ·subst hk
    obtain⟨c,hc⟩:=Option.isSome_iff_exists.mp (hl (x,.free) List.mem_cons_self rfl)
    have e:cellOf env x=pure c:=by unfold cellOf;rw[hc]
    simp only[beq_self_eq_true,if_true,e]
    rw[hc]
    exact ih _ fun p hp=>hl p (List.mem_cons_of_mem _ hp)
   ·have hb:(k==NameKind.free)=false:=by simpa using hk
    simp only[hb,Bool.false_eq_true,if_false]
    exact ih _ fun p hp=>hl p (List.mem_cons_of_mem _ hp)
 have:=key scope.names [] h
 exact(congrArg (fun m:Sem (List (Str×Addr))=>m>>=fun r=>pure r) this).trans rfl
theorem zcC{scope:Scope}(hn:(scope.names.map (·.1)).Nodup) {x:Str}{c:Addr}(hx:scope.names.lookup x=some .free) (hc:env.cells.lookup x=some c):(QW scope env).lookup x=some c:=by
 unfold QW
 have key:∀(l:List (Str×NameKind)) (acc:List (Str×Addr)),(l.map (·.1)).Nodup→(l.lookup x=some .free∨((∀p∈l,p.1≠x)∧acc.lookup x=some c))→
   (l.foldl (fun cs p=>if p.2==.free then (p.1,(env.cells.lookup p.1).getD 0)::cs else cs) acc).lookup x=some c:=by
  intro l
  induction l with
  | nil=>
   intro acc _ h
   rcases h with h | h
   ·cases h
   ·exact h.2
  | cons p l ih=>
   intro acc hnd h
   obtain⟨y,k⟩:=p
   simp only[List.map_cons,List.nodup_cons] at hnd
   rw[List.foldl_cons]
   refine ih _ hnd.2 ?_
   rcases h with h | h
   ·rw[List.lookup_cons] at h
    by_cases hxy:x=y
    ·subst hxy
     simp at h
     subst h
     refine .inr ⟨fun p hp e=>hnd.1 (e▸List.mem_map_of_mem hp),?_⟩
     simp[hc]
    ·have:(x==y)=false:=by simpa using hxy
     simp only[this] at h
     exact .inl h
   ·refine .inr ⟨fun p hp=>h.1 p (List.mem_cons_of_mem _ hp),?_⟩
    have hne:y≠x:=h.1 (y,k) List.mem_cons_self
    by_cases hk:(k==NameKind.free)=true
    ·rw[if_pos hk,List.lookup_cons]
     have:(x==y)=false:=by simpa using Ne.symm hne
     simp only[this];exact h.2
    ·rw[if_neg hk];exact h.2
 exact key _ _ hn (.inl hx)
theorem zcZ{scope:Scope}{x:Str}{c:Addr}(hs:∀p∈scope.names,p.2=.free→(env.cells.lookup p.1).isSome=true) (h:(x,c)∈QW scope env):env.cells.lookup x=some c:=by
 unfold QW at h
 have key:∀(l:List (Str×NameKind)) (acc:List (Str×Addr)),(∀p∈l,p.2=.free→(env.cells.lookup p.1).isSome=true)→(∀q∈acc,env.cells.lookup q.1=some q.2)→
   ∀q∈l.foldl (fun cs p=>if p.2==.free then (p.1,(env.cells.lookup p.1).getD 0)::cs else cs) acc,env.cells.lookup q.1=some q.2:=by
  intro l
  induction l with
  | nil=>intro acc _ h q hq;exact h q hq
  | cons p l ih=>
   intro acc hl hacc q hq
   rw[List.foldl_cons] at hq
   refine ih _ (fun p hp=>hl p (List.mem_cons_of_mem _ hp)) ?_ q hq
   by_cases hk:(p.2==NameKind.free)=true
   ·rw[if_pos hk]
    exact List.forall_mem_cons.mpr ⟨(Option.isSome_iff_exists.mp (hl p List.mem_cons_self (beq_iff_eq.mp hk))).elim fun c hc=>hc.trans (congrArg some (by rw[hc];rfl)),hacc⟩
   ·rw[if_neg hk];exact hacc
 exact key _ _ hs (by simp) (x,c) h
theorem Q8{y:Str}{kd:NameKind}{r:List (Str×NameKind)}{k:Nat}{acc:List (Str×Addr)}{P:List (Str×Addr)→Prop}(h1:kd=.cell→P (cellsFrom (k+1) r ((y,k)::acc))) (h2:kd≠.cell→P (cellsFrom k r acc)):P (cellsFrom k ((y,kd)::r) acc):=by
 unfold cellsFrom
 by_cases hk:(kd==NameKind.cell)=true
 ·rw[if_pos hk];exact h1 (beq_iff_eq.mp hk)
 ·rw[if_neg hk];exact h2 fun e=>hk (beq_iff_eq.mpr e)
theorem zfs{x:Str}{c:Addr}{names:List (Str×NameKind)}:∀{k:Nat}{acc:List (Str×Addr)},(x,c)∈cellsFrom k names acc→(x,c)∈acc∨(k≤c∧(x,NameKind.cell)∈names):=by
 induction names with
 | nil=>exact fun h=>.inl h
 | cons p r ih=>
  obtain⟨y,kd⟩:=p
  intro k acc
  refine Q8 (P:=fun l=>(x,c)∈l→_) (fun e h=>(ih h).elim (fun h=>(List.mem_cons.mp h).elim (fun h=>.inr ⟨Nat.le_of_eq (congrArg Prod.snd h).symm,?_⟩) .inl) fun h=>.inr ⟨Nat.le_of_succ_le h.1,List.mem_cons_of_mem _ h.2⟩) fun _ h=>(ih h).imp id fun h=>⟨h.1,List.mem_cons_of_mem _ h.2⟩
  rw[e,show x=y from congrArg Prod.fst h];exact List.mem_cons_self
theorem znv{α:Type}{x:Str}{c:α}{l:List (Str×α)}:List.lookup x ((x,c)::l)=some c:=by rw[List.lookup_cons,beq_self_eq_true]
theorem zmw{α:Type}{x y:Str}{c:α}{l:List (Str×α)}(h:x≠y):List.lookup x ((y,c)::l)=List.lookup x l:=by rw[List.lookup_cons,beq_eq_false_iff_ne.mpr h]
theorem zby{x:Str}{names:List (Str×NameKind)}:∀{k lo:Nat}{acc:List (Str×Addr)},lo≤k→((x,NameKind.cell)∈names∨∃c,acc.lookup x=some c∧lo≤c)→∃c,(cellsFrom k names acc).lookup x=some c∧lo≤c:=by
 induction names with
 | nil=>exact fun _ h=>h.elim (fun h=>absurd h List.not_mem_nil) id
 | cons p r ih=>
  obtain⟨y,kd⟩:=p
  intro k lo acc hlo h
  refine Q8 (P:=fun l=>∃c,l.lookup x=some c∧lo≤c) (fun _=>ih (Nat.le_succ_of_le hlo) ((Classical.em (x=y)).elim (fun q=>.inr ⟨k,q▸znv,hlo⟩) fun q=>h.imp (fun hm=>(List.mem_cons.mp hm).elim (fun e=>absurd (congrArg Prod.fst e) q) id) fun h=>h.imp fun c hc=>⟨(zmw q).trans hc.1,hc.2⟩))
   fun e=>ih hlo (h.imp (fun hm=>(List.mem_cons.mp hm).elim (fun q=>absurd (congrArg Prod.snd q).symm e) id) id)
theorem zfr{x:Str}{names:List (Str×NameKind)}:∀{k:Nat}{acc:List (Str×Addr)},(x,NameKind.cell)∉names→(cellsFrom k names acc).lookup x=acc.lookup x:=by
 induction names with
 | nil=>exact fun _=>rfl
 | cons p r ih=>
  obtain⟨y,kd⟩:=p
  intro k acc h
  have hr:(x,NameKind.cell)∉r:=fun hm=>h (List.mem_cons_of_mem _ hm)
  exact Q8 (P:=fun l=>l.lookup x=acc.lookup x) (fun e=>(ih hr).trans (zmw fun q=>h (by rw[e,q];exact List.mem_cons_self))) fun _=>ih hr
noncomputable def qd(scope:Scope) (env:Env) (C:Addr):Env:=
 {scope:=relabel scope env,locals:=C,globals:=env.globals,cells:=cellsFrom (C+1) scope.names (QW scope env),qual:=env.qual,func:=none,code:=env.code,frame:=env.frame,builtins:=env.builtins}
theorem zgb{M:Model}{A:Around}{E:Value→Shared→Prop}{s:Shared}{scope:Scope}{Q:Env→Shared→Prop}
  (h:∀u1,{u1 with scope:=relabel scope env}=qd scope env s.heap.objs.size→u1.locals=s.heap.objs.size→Q u1 {s with heap:=pushCells (s.heap.push {cls:=.type "dict",data:=.dict #[]}) scope.names}) :
  wpAny M A (newFunctionEnv scope env.globals (QW scope env) [] env.qual none .none (some env)) Q E s:=by
 simp only[newFunctionEnv,Option.isSome_some,if_true]
 refine wpAny_bind (wpAny_alloc ?_)
 refine wpAny_bind (wpAny_layCells _ (fun name kind cells=>by cases hkc:kind==NameKind.cell<;>simp[hkc]) _ _ _ _ ?_)
 refine wpAny_bind ?_
 rw[List.forIn_nil]
 refine wpAny_pure (wpAny_pure (h _ ?_ rfl))
 unfold qd
 rw[show({s with heap:=s.heap.push {cls:=.type "dict",data:=.dict #[]}}:Shared).heap.objs.size=s.heap.objs.size+1 from Heap.size_push ..]
theorem jm:∀{names:List (Str×NameKind)}{h:Heap}{acc:List (Str×Addr)}{x:Str}{c:Addr},(x,c)∈cellsFrom h.objs.size names acc→(x,c)∈acc∨((pushCells h names).IsCell c none∧h.objs.size≤c)
 | [],_,_,_,_,h=>.inl h
 | (y,kd)::r,h,acc,x,c,hm=>by
  unfold cellsFrom at hm
  unfold pushCells
  by_cases hk:(kd==NameKind.cell)=true
  ·rw[if_pos hk] at hm ⊢
   have hm':(x,c)∈cellsFrom (h.push {cls:=.type "cell",data:=.cell none}).objs.size r ((y,h.objs.size)::acc):=by rw[Heap.size_push];exact hm
   rcases jm hm' with h1 | ⟨h1,h2⟩
   ·rcases List.mem_cons.mp h1 with h1 | h1
    ·cases h1
     exact .inr ⟨Heap.IsCell.keeps ⟨_,Heap.get?_push_size _ rfl,rfl⟩ (pushCells_keeps r _),Nat.le_refl _⟩
    ·exact .inl h1
   ·rw[Heap.size_push] at h2
    exact .inr ⟨h1,by lia⟩
  ·rw[if_neg hk] at hm ⊢
   exact jm hm
theorem zd2{names:List (Str×NameKind)}:∀{k:Nat}{acc:List (Str×Addr)},(acc.Pairwise fun x y=>x.2≠y.2)→(∀p∈acc,p.2<k)→(cellsFrom k names acc).Pairwise fun x y=>x.2≠y.2:=by
 induction names with
 | nil=>exact fun h _=>h
 | cons p r ih=>
  obtain⟨y,kd⟩:=p
  intro k acc h hlt
  exact Q8 (P:=fun l=>l.Pairwise fun x y=>x.2≠y.2) (fun _=>ih (acc:=(y,k)::acc) (List.pairwise_cons.mpr ⟨fun p hp e=>absurd (hlt p hp) (Nat.not_lt.mpr (Nat.le_of_eq e)),h⟩) (List.forall_mem_cons.mpr ⟨Nat.lt_succ_self _,fun p hp=>Nat.lt_succ_of_lt (hlt p hp)⟩)) fun _=>ih h hlt
theorem ziZ{scope:Scope}(hn:(scope.names.map (·.1)).Nodup) (hs:∀p∈scope.names,p.2=.free→(env.cells.lookup p.1).isSome=true) (ha:env.cells.Pairwise fun x y=>x.2≠y.2) :
  (QW scope env).Pairwise fun x y=>x.2≠y.2:=by
 unfold QW
 have key:∀(l:List (Str×NameKind)) (acc:List (Str×Addr)),(l.map (·.1)).Nodup→(∀p∈l,p.2=.free→(env.cells.lookup p.1).isSome=true)→(∀q∈acc,env.cells.lookup q.1=some q.2∧q.1∉l.map (·.1))→(acc.Pairwise fun x y=>x.2≠y.2)→
   (l.foldl (fun cs p=>if p.2==.free then (p.1,(env.cells.lookup p.1).getD 0)::cs else cs) acc).Pairwise fun x y=>x.2≠y.2:=by
  intro l
  induction l with
  | nil=>intro acc _ _ _ h;exact h
  | cons p l ih=>
   intro acc hnd hl hacc hp
   have hn:=List.nodup_cons.mp hnd
   have hl':=List.forall_mem_cons.mp hl
   have hacc':∀q∈acc,env.cells.lookup q.1=some q.2∧q.1∉l.map (·.1):=fun q hq=>⟨(hacc q hq).1,List.not_mem_of_not_mem_cons (hacc q hq).2⟩
   rw[List.foldl_cons]
   by_cases hk:(p.2==NameKind.free)=true
   ·rw[if_pos hk]
    refine Exists.elim (Option.isSome_iff_exists.mp (hl'.1 (beq_iff_eq.mp hk))) fun c hc=>?_
    rw[hc]
    exact ih _ hn.2 hl'.2 (List.forall_mem_cons.mpr ⟨⟨hc,hn.1⟩,hacc'⟩) (List.pairwise_cons.mpr ⟨fun q hq e=>List.ne_of_not_mem_cons (hacc q hq).2 (name_of_addr ha (mem_of_lookup (hacc q hq).1) ((e:c=q.2)▸mem_of_lookup hc)),hp⟩)
   ·rw[if_neg hk]
    exact ih _ hn.2 hl'.2 hacc' hp
 exact key _ _ hn hs (by simp) List.Pairwise.nil
structure ScopeOk (scope:Scope) (env:Env):Prop where
 kind:scope.kind=.function
 nodup:(scope.names.map (·.1)).Nodup
 free:∀p∈scope.names,p.2=.free→(env.kindOf p.1=some .cell∨env.kindOf p.1=some .free)∧(env.cells.lookup p.1).isSome=true
inductive Capt (scope:Scope) (ρ:Rho):Rho→Prop
 | nil:Capt scope ρ []
 | cons (x:Str) {d:D}{ρ':Rho}:ρ.lookup x=some d→scope.names.lookup x=some .free→Capt scope ρ ρ'→Capt scope ρ ((x,d)::ρ')
theorem Capt.get{scope:Scope}{ρ ρ':Rho}(h:Capt scope ρ ρ') {x:Str}{d:D}(hx:ρ'.lookup x=some d):ρ.lookup x=some d∧scope.names.lookup x=some .free:=by
 induction h with
 | nil=>cases hx
 | cons y h1 h2 _ ih=>
  rw[QC] at hx
  by_cases hxy:x=y
  ·subst hxy;simp only[if_pos rfl] at hx;cases hx;exact⟨h1,h2⟩
  ·rw[if_neg hxy] at hx;exact ih hx
theorem zbK{scope:Scope}{env:Env}{x:Str}(hx:scope.names.lookup x=some .free):(relabel scope env).names.lookup x=some .cell∨(relabel scope env).names.lookup x=some .free:=by
 unfold relabel
 generalize scope.names=l at hx
 induction l with
 | nil=>cases hx
 | cons p l ih=>
  obtain⟨y,k⟩:=p
  rw[List.lookup_cons] at hx
  by_cases hxy:x=y
  ·subst hxy
   simp at hx
   subst hx
   simp only[List.map_cons]
   split<;>simp
  ·have hb:(x==y)=false:=by simpa using hxy
   simp only[hb] at hx
   have:=ih hx
   simp only[List.map_cons]
   split<;>simpa [List.lookup_cons,hb] using this
theorem ziJ{scope:Scope}{F:FZ}{s:Shared}{ρ':Rho}(H:Holds G env F ρ σ s) (hok:ScopeOk scope env) (hc:Capt scope ρ ρ') :
  Holds G (qd scope env s.heap.objs.size) F ρ' σ {s with heap:=pushCells (s.heap.push {cls:=.type "dict",data:=.dict #[]}) scope.names}∧
  Grow G [] F s F {s with heap:=pushCells (s.heap.push {cls:=.type "dict",data:=.dict #[]}) scope.names}:=by
 have hk:∀b o,s.heap.get? b=some o→(pushCells (s.heap.push {cls:=.type "dict",data:=.dict #[]}) scope.names).get? b=some o:=fun b o e=>pushCells_keeps _ _ _ _ (Heap.get?_push_of_some _ e)
 have g:Grow G [] F s F {s with heap:=pushCells (s.heap.push {cls:=.type "dict",data:=.dict #[]}) scope.names}:=.of_keep (tk:=s.toks) H.fin hk
 have fresh:∀{c o},s.heap.get? c=some o→c≠s.heap.objs.size∧c<s.heap.objs.size:=fun e=>⟨Nat.ne_of_lt (Heap.lt_size e),Heap.lt_size e⟩
 have hfree:∀p∈scope.names,p.2=.free→(env.cells.lookup p.1).isSome=true:=fun p hp h=>(hok.free p hp h).2
 have Fno:∀c,s.heap.objs.size≤c→F c=none:=fun c h=>by
  cases e:F c with
  | none=>rfl
  | some o=>exact absurd (Heap.lt_size (H.fin _ _ e)) (Nat.not_lt.mpr h)
 have σno:∀c,s.heap.objs.size≤c→c∉σ.map (·.1):=fun c h hm=>by
  refine zd (List.mem_map.mp hm) fun p hp q6_=>?_
  subst q6_
  obtain⟨o,e⟩:=(H.own p hp).1.some
  exact absurd (Heap.lt_size e) (Nat.not_lt.mpr h)
 have Xno:∀c,s.heap.objs.size≤c→c≠G.X:=fun c h e=>by
  obtain⟨ps,hcode⟩:=H.code
  obtain⟨_,_,_,_,_,_,_,_,_,op,_,_,_,_,_,_,_,hp,_⟩:=hcode.1
  exact absurd (Heap.lt_size hp) (Nat.not_lt.mpr (e▸h))
 refine⟨{toBase:=H.toBase.grow g,kind:=?_,globals:=H.globals,builtins:=H.builtins,vars:=?_,locals:=?_,cells:=?_,apart:=?_},g⟩
 ·show(relabel scope env).kind=_
  exact hok.kind
 ·intro x d hx
  obtain⟨h1,h2⟩:=hc.get hx
  refine zd (H.vars x d h1) fun v hb hv=>?_
  refine⟨v,?_,hv⟩
  have hkf:=(hok.free (x,.free) (mem_of_lookup h2) rfl).1
  rcases hb with⟨k,_⟩ | ⟨_,c,e,hcell⟩
  ·rcases hkf with h | h<;>rw[k] at h<;>cases h
  ·refine .inr ⟨zbK h2,c,?_,hcell.keeps hk⟩
   show(cellsFrom _ scope.names (QW scope env)).lookup x=some c
   rw[zfr,zcC hok.nodup h2 e]
   intro hm
   have hm2:=mem_of_lookup h2
   have:∀(l:List (Str×NameKind)),(l.map (·.1)).Nodup→(x,NameKind.free)∈l→(x,NameKind.cell)∈l→False:=by
    intro l
    induction l with
    | nil=>intro _ h;cases h
    | cons p l ih=>
     intro hnd ha hb
     simp only[List.map_cons,List.nodup_cons] at hnd
     rcases List.mem_cons.mp ha with ha | ha<;>rcases List.mem_cons.mp hb with hb | hb
     ·rw[←ha] at hb;cases hb
     ·exact hnd.1 (by rw[←ha];exact List.mem_map_of_mem (f:=(·.1)) hb)
     ·exact hnd.1 (by rw[←hb];exact List.mem_map_of_mem (f:=(·.1)) ha)
     ·exact ih hnd.2 ha hb
   exact this _ hok.nodup hm2 hm
 ·refine⟨⟨_,(Heap.Ns.new s.heap (.type "dict")).keeps (pushCells_keeps _ _)⟩,Fno _ (Nat.le_refl _),Xno _ (Nat.le_refl _),σno _ (Nat.le_refl _)⟩
 ·intro x c hm
  have hm':(x,c)∈cellsFrom (s.heap.push {cls:=.type "dict",data:=.dict #[]}).objs.size scope.names (QW scope env):=by rw[Heap.size_push];exact hm
  rcases jm hm' with h | ⟨h1,h2⟩
  ·refine zco (H.cells x c (mem_of_lookup (zcZ hfree h))) fun q5_ h3 h4 h5 _=>?_
   obtain⟨v,hcell⟩:=q5_
   exact⟨⟨v,hcell.keeps hk⟩,h3,h4,h5,by obtain⟨o,e,_⟩:=hcell;exact(fresh e).1⟩
  ·rw[Heap.size_push] at h2
   exact⟨⟨none,h1⟩,Fno _ (Nat.le_of_succ_le h2),Xno _ (Nat.le_of_succ_le h2),σno _ (Nat.le_of_succ_le h2),Nat.ne_of_gt h2⟩
 ·refine zd2 (ziZ hok.nodup hfree H.apart) fun p hp=>?_
  refine zR (H.cells p.1 p.2 (mem_of_lookup (zcZ hfree (by exact hp)))) fun q4_ _=>?_
  obtain⟨v,o,e,_⟩:=q4_
  exact Nat.lt_succ_of_lt (fresh e).2
end
section
open PySem PySem.W
variable {G:Gx}{n:Nat}{env:Env}{ρ:Rho}{σ:Sig}
noncomputable def jN(cenv:Env):List Addr:=cenv.locals::(cenv.cells.map (·.2)).filter fun c=>decide (cenv.locals<c)
noncomputable def OwnName(scope:Scope) (x:Str):Prop:=scope.names.lookup x=some .local∨scope.names.lookup x=some .cell
theorem QS{scope:Scope}{env:Env}{x:Str}{k:NameKind}(hx:scope.names.lookup x=some k) (hk:k≠.free):(relabel scope env).names.lookup x=some k:=by
 unfold relabel
 generalize scope.names=l at hx
 induction l with
 | nil=>cases hx
 | cons p l ih=>
  obtain⟨y,k'⟩:=p
  rw[List.lookup_cons] at hx
  by_cases hxy:x=y
  ·subst hxy
   simp at hx
   subst hx
   have:¬(k'=NameKind.free∧env.scope.kind=ScopeKind.function):=fun h=>hk h.1
   simp[this]
  ·have hb:(x==y)=false:=by simpa using hxy
   simp only[hb] at hx
   have:=ih hx
   simp only[List.map_cons]
   split<;>simpa [List.lookup_cons,hb] using this
theorem zf8{scope:Scope}{C:Addr}{x:Str}(h:OwnName scope x):zG (qd scope env C) x:=by
 rcases h with h | h
 ·exact .inl (QS h (by decide))
 ·refine .inr ⟨QS h (by decide),?_⟩
  refine zd (zby (names:=scope.names) (k:=C+1) (lo:=C+1) (acc:=QW scope env) (x:=x) (Nat.le_refl _) (.inl (mem_of_lookup h))) fun c hc _=>?_
  show((cellsFrom (C+1) scope.names (QW scope env)).lookup x).isSome=true
  rw[hc];rfl
theorem ziB{scope:Scope}{C:Addr}{names:List Str}(h:∀x∈names,OwnName scope x):∀c∈tW (qd scope env C) names,c∈jN (qd scope env C):=by
 intro c hc
 refine zd (List.mem_flatMap.mp hc) fun x hx hc=>?_
 unfold stW at hc
 rcases h x hx with h | h
 ·have:(qd scope env C).kindOf x=some .local:=QS h (by decide)
  rw[this] at hc
  simp at hc
  subst hc
  exact List.mem_cons_self
 ·have:(qd scope env C).kindOf x=some .cell:=QS h (by decide)
  rw[this] at hc
  refine zd (zby (names:=scope.names) (k:=C+1) (lo:=C+1) (acc:=QW scope env) (x:=x) (Nat.le_refl _) (.inl (mem_of_lookup h))) fun c' hc' hlo=>?_
  have e:(qd scope env C).cells.lookup x=some c':=hc'
  rw[e] at hc
  simp at hc
  subst hc
  refine List.mem_cons_of_mem _ (List.mem_filter.mpr ⟨List.mem_map.mpr ⟨_,mem_of_lookup e,rfl⟩,?_⟩)
  exact decide_eq_true (Nat.lt_of_succ_le hlo)
theorem zkG{cenv:Env}:∀c∈jN cenv,c=cenv.locals∨∃x,(x,c)∈cenv.cells:=by
 intro c hc
 rcases List.mem_cons.mp hc with h | h
 ·exact .inl h
 ·refine zR (List.mem_filter.mp h) fun h _=>?_
  refine zd (List.mem_map.mp h) fun p hp q1_=>?_
  subst q1_
  exact .inr ⟨p.1,hp⟩
theorem Holds.cons{F:FZ}{s:Shared}{a:Addr}{mo:MO}(H:Holds G env F ρ σ s) (hm:MAt G F s.heap a mo) (hF:F a=none) (hX:a≠G.X) (hσ:a∉σ.map (·.1)) (hL:env.locals≠a) (hc:∀x c,(x,c)∈env.cells→c≠a) :
  Holds G env F ρ ((a,mo)::σ) s:=
 {fin:=H.fin,base:=H.base,xF:=H.xF,code:=H.code,bare:=H.bare,kind:=H.kind,globals:=H.globals,builtins:=H.builtins,vars:=H.vars,apart:=H.apart,
  own:=fun p hp=>by
   rcases List.mem_cons.mp hp with rfl | hp
   ·exact⟨hm,hF,hX⟩
   ·exact H.own p hp
  nodup:=List.nodup_cons.mpr ⟨hσ,H.nodup⟩
  locals:=⟨H.locals.1,H.locals.2.1,H.locals.2.2.1,fun h=>(List.mem_cons.mp h).elim (fun e=>hL e) H.locals.2.2.2⟩
  cells:=fun x c h=>let ⟨h1,h2,h3,h4,h5⟩:=H.cells x c h;⟨h1,h2,h3,fun h'=>(List.mem_cons.mp h').elim (fun e=>hc x c h e) h4,h5⟩}
theorem Holds.consNew{F F':FZ}{s s':Shared}{a:Addr}{mo:MO}(H:Holds G env F ρ σ s) (g:Grow G [] F s F' s') (ha:s.heap.get? a=none) (hm:MAt G F' s'.heap a mo) (hF:F' a=none):Holds G env F' ρ ((a,mo)::σ) s':=by
 refine(H.grow g).cons hm hF ?_ ?_ ?_ ?_
 ·rintro rfl
  obtain⟨ps,hcode⟩:=H.code
  obtain⟨_,_,_,_,_,_,_,_,_,op,_,_,_,_,_,_,_,hp,_⟩:=hcode.1
  rw[hp] at ha;cases ha
 ·intro h
  refine zd (List.mem_map.mp h) fun p hp q10_=>?_
  subst q10_
  obtain⟨o,e⟩:=(H.own p hp).1.some
  rw[e] at ha;cases ha
 ·rintro rfl
  refine zR (H.locals) fun q8_ _=>?_
  obtain⟨m,o,_,_,e,_⟩:=q8_
  rw[e] at ha;cases ha
 ·rintro x c h rfl
  refine zR (H.cells x _ h) fun q7_ _=>?_
  obtain⟨v,o,e,_⟩:=q7_
  rw[e] at ha;cases ha
noncomputable def zat(G:Gx) (v3:Sem Value) (mo:MO):Prop:=
 ∀(A:Around) (F:FZ) (σ:Sig) (s:Shared) (Q E:Value→Shared→Prop),Base G F σ s→(∀a s',Grow G [] F s F s'→s.heap.get? a=none→MAt G F s'.heap a mo→F a=none→Q (.ref a) s')→wpAny (model G.prog G.w) A v3 Q E s
theorem Jw{A:Around}{F:FZ}{s:Shared}{E:Value→Shared→Prop}{Q:Value→Shared→Prop}{use:Option (Value→Sem Unit)}{e:Expr}{scope:Scope}{pos:Pos}{v3:Sem Value}{u0 iter:Expr}{u6:List Expr}{gs:List Comprehension}
  {names:List Str}{ρ':Rho}{bs:List Rho}{α:Type}{P:App α}{Zb:List (List α)}{mo:MO}
  (hA:AOk n A) (H:Holds G env F ρ σ s)
  (hc:qc e=true) (x5:∀g∈clausesOf e,g.is_async=0) (hg:clausesOf e=⟨u0,iter,u6,0⟩::gs) (v9:∀x,foldedSetIterable iter env x=pure x)
  (hok:ScopeOk scope env) (v4:Capt scope ρ ρ') (hacc:zat G v3 mo) (v8:ItE G n env iter ρ σ u0 names bs) (hs:∀x∈names,OwnName scope x)
  (hl:Zb.length=bs.length) (x0:∀b∈bs,∀p∈b,p.1∈names) (v7:∀x∈names,ρ'.lookup x=none)
  (turn:∀(C:Addr) (i:Nat) (b:Rho) (out:List α),bs[i]?=some b→Zb[i]?=some out→zbt G n (qd scope env C) (jN (qd scope env C)) P e 0 u6 ρ' σ b out)
  (hK:P.K mo) (hsz:mo.sz+Zb.flatten.length≤1000000)
  (hQ:∀a F' s' C,Grow G [] F s F' s'→s.heap.get? a=none→MAt G F' s'.heap a (Zb.flatten.foldl P.app mo)→F' a=none→s.heap.get? C=none→F' C=none→C≠a→(∃m,s'.heap.Ns C m)→compPost (model G.prog G.w) A E use Q (.ref a) C (.ok .next) s') :
  wpAny (model G.prog G.w) A (comprehension e scope env pos v3 false (eval iter env) use) Q E s:=by
 refine wpAny_comprehension_free (cl:=QW scope env) hg v9 (ziY fun p hp h=>(hok.free p hp h).2) hok.kind (fun p hp h=>?_) ?_
 ·have:=hok.nodup
  have key:∀(l:List (Str×NameKind)),(l.map (·.1)).Nodup→p∈l→l.lookup p.1=some p.2:=by
   intro l
   induction l with
   | nil=>intro _ h;cases h
   | cons q l ih=>
    intro hnd hm
    simp only[List.map_cons,List.nodup_cons] at hnd
    rw[List.lookup_cons]
    rcases List.mem_cons.mp hm with rfl | hm
    ·simp
    ·have:(p.1==q.1)=false:=by
      cases hb:p.1==q.1 with
      | false=>rfl
      | true=>exact absurd (beq_iff_eq.mp hb▸List.mem_map_of_mem (f:=(·.1)) hm) hnd.1
     simp only[this]
     exact ih hnd.2 hm
  rw[key _ this hp,h]
 refine v8.out A F s _ E hA H fun I fp wr St F₂ s₂ g₁ J st hwr=>?_
 have H₂:=H.grow g₁
 refine hacc A F₂ σ s₂ _ E H₂.toBase fun a s₃ g₃ ha hm hF=>?_
 have H₃:Holds G env F₂ ρ ((a,mo)::σ) s₃:=H₂.consNew g₃ ha hm hF
 refine zgb fun u1 he hloc=>?_
 obtain⟨H₄,g₄⟩:=ziJ H₃ hok v4
 rw[he,hloc]
 generalize hC:s₃.heap.objs.size=C at *
 have none_s:∀{c:Addr},s₃.heap.get? c=none→s.heap.get? c=none:=fun {c} h=>by
  cases e':s.heap.get? c with
  | none=>rfl
  | some o=>
   obtain⟨o',e''⟩:=(g₁.trans g₃).dom c o e'
   rw[h] at e'';cases e''
 have big:∀{c:Addr},C≤c→s₃.heap.get? c=none:=fun {c} h=>by
  cases e':s₃.heap.get? c with
  | none=>rfl
  | some o=>exact absurd (Heap.lt_size e') (Nat.not_lt.mpr (hC▸h))
 have wnone:∀c∈jN (qd scope env C),s₃.heap.get? c=none:=by
  intro c hc
  rcases List.mem_cons.mp hc with h | h
  ·exact big (by rw[h];exact Nat.le_refl _)
  ·exact big (Nat.le_of_lt (of_decide_eq_true (List.mem_filter.mp h).2))
 have anone:s.heap.get? a=none:=by
  cases e':s.heap.get? a with
  | none=>rfl
  | some o=>
   obtain⟨o',e''⟩:=g₁.dom a o e'
   rw[ha] at e'';cases e''
 have wrnone:∀c∈wr,s.heap.get? c=none:=fun c hc=>(hwr c hc).1
 have g04:=(g₁.trans g₃).trans g₄
 have st3:St 0 s₃.heap:=J.keep H₂.fin (.refl _) g₃ (fun c hc=>⟨by simp,fun e'=>by
  subst e'
  obtain⟨ps,hcode⟩:=H.code
  obtain⟨_,_,_,_,_,_,_,_,_,op,_,_,_,_,_,_,_,hp,_⟩:=hcode.1
  rw[(hwr _ hc).1] at hp;cases hp⟩) st
 have wrX:∀c∈wr,c≠G.X:=fun c hc e'=>by
  subst e'
  refine Exists.elim (H.code) fun ps hcode=>?_
  obtain⟨_,_,_,_,_,_,_,_,_,op,_,_,_,_,_,_,_,hp,_⟩:=hcode.1
  rw[(hwr _ hc).1] at hp;cases hp
 have st4:=J.keep H₃.fin (.refl _) g₄ (fun c hc=>⟨by simp,wrX c hc⟩) st3
 have wr2:∀c∈wr,∃o,s₂.heap.get? c=some o:=fun c hc=>(hwr c hc).2.1
 have wr3:∀c∈wr,∃o,s₃.heap.get? c=some o:=fun c hc=>let ⟨o,e'⟩:=wr2 c hc;g₃.dom c o e'
 have ne3:∀c∈wr,∀b,s₃.heap.get? b=none→c≠b:=fun c hc b hb e'=>by
  obtain⟨o,h⟩:=wr3 c hc
  subst e';rw[h] at hb;cases hb
 have wra:∀c∈wr,c≠a:=fun c hc e'=>by
  obtain⟨o,h⟩:=wr2 c hc
  subst e';rw[h] at ha;cases ha
 have off:Off G (qd scope env C) F₂ ((a,mo)::σ) wr:=by
  refine⟨fun c hc=>(hwr c hc).2.2,fun c hc hm'=>?_,fun c hc=>ne3 c hc _ (big (Nat.le_refl _)),fun c hc x c' hm'=>?_,wrX⟩
  ·rcases List.mem_cons.mp hm' with h | h
   ·exact wra c hc h
   ·refine zd (List.mem_map.mp h) fun p hp q11_=>?_
    subst q11_
    obtain⟨o,e'⟩:=(H.own p hp).1.some
    rw[(hwr _ hc).1] at e';cases e'
  ·have hm2:(x,c')∈cellsFrom (C+1) scope.names (QW scope env):=hm'
   rcases zfs hm2 with h | ⟨h,_⟩
   ·intro e'
    subst e'
    refine zR (H.cells x c (mem_of_lookup (zcZ (fun p hp h=>(hok.free p hp h).2) h))) fun q9_ _=>?_
    obtain⟨v,o,e'',_⟩:=q9_
    rw[(hwr _ hc).1] at e'';cases e''
   ·exact ne3 c hc _ (big (Nat.le_of_succ_le h))
 refine zdY hc (by rw[hg];rfl) (fun Q E hq=>J.self 0 _ _ Q E hA.handled st4 hq) ?_
 refine zfc (s₀:=s) (F₁:=F) (W:=jN (qd scope env C)) hc x5 (by rw[hg];rfl) J (fun x hx=>zf8 (hs x hx)) hA (.refl F₂) H.code g04 wrnone H₄ off st4 hl x0 v7 (turn C) hK hsz (fun c hc'=>⟨wra c hc',fun hm'=>ne3 c hc' _ (wnone c hm') rfl,fun hm'=>ne3 c hc' _ (wnone c (ziB hs c hm')) rfl⟩) ?_
 intro F' s' g H'
 have gend:Grow G [] F s F' s':=(g.wider (wr':=[]++(tW (qd scope env C) names++a::jN (qd scope env C))) (by simp)).unfresh fun z hz=>by
  rcases List.mem_append.mp hz with h | h
  ·exact none_s (wnone z (ziB hs z h))
  ·rcases List.mem_cons.mp h with h | h
   ·rw[h];exact anone
   ·exact none_s (wnone z h)
 refine z9 (H'.own _ List.mem_cons_self) fun hm' hF' _=>?_
 refine hQ a F' s' C gend anone hm' hF' (none_s (big (Nat.le_refl _))) H'.locals.2.1 (fun e'=>?_) H'.locals.1
 exact H'.locals.2.2.2 (by show(qd scope env C).locals∈_;rw[show(qd scope env C).locals=a from e'];exact List.mem_cons_self)
end
section
open PySem PySem.W
variable {G:Gx}{n:Nat}{env:Env}{ρ:Rho}{σ:Sig}
theorem zc2{gs:List Comprehension}(h:gs.all (fun g=>g.is_async==0)=true):∀g∈gs,g.is_async=0:=fun g hg=>eq_of_beq (List.all_eq_true.mp h g hg)
theorem Grow.freeze{F F':FZ}{s s':Shared}{W:List Addr}{a:Addr}{o:Obj}(g:Grow G W F s F' s') (ha:s.heap.get? a=none) (hF:F' a=none) (ho:s'.heap.get? a=some o):Grow G W F s (F'.put a o) s':=
 ⟨g.le.trans (FZ.le_put hF),fun b o' h=>by
  rcases FZ.of_put h with⟨rfl,_⟩ | h
  ·exact .inr ha
  ·exact g.new b o' h,g.keep,g.dom,g.os,g.gens,fun b o' h=>by
  rcases FZ.of_put h with⟨rfl,rfl⟩ | h
  ·exact ho
  ·exact g.fin b o' h,g.code⟩
theorem zbe(l:List D):∀acc:List D,l.foldl zi9 (.lst acc)=.lst (acc++l):=by
 induction l with
 | nil=>simp
 | cons d l ih=>intro acc;rw[List.foldl_cons];show l.foldl zi9 (.lst (acc++[d]))=_;rw[ih];simp
noncomputable def qj{K:Type} [DecidableEq K] (l:List (K×D)) (kvs:List (K×D)):List (K×D):=kvs.foldl (fun acc p=>Zl acc p.1 p.2) l
theorem zbd(l:List (Str×D)):∀acc:List (Str×D),l.foldl zme (.dicS acc)=.dicS (qj acc l):=by
 induction l with
 | nil=>intro acc;rfl
 | cons d l ih=>intro acc;rw[List.foldl_cons];show l.foldl zme (.dicS (Zl acc d.1 d.2))=_;rw[ih];rfl
theorem ziM(l:List (Int×D)):∀acc:List (Int×D),l.foldl zmf (.dicI acc)=.dicI (qj acc l):=by
 induction l with
 | nil=>intro acc;rfl
 | cons d l ih=>intro acc;rw[List.foldl_cons];show l.foldl zmf (.dicI (Zl acc d.1 d.2))=_;rw[ih];rfl
theorem zfn{K:Type} [DecidableEq K]:∀(l acc:List (K×D)),((acc++l).map (·.1)).Nodup→qj acc l=acc++l:=by
 intro l
 induction l with
 | nil=>intro acc _;simp[qj]
 | cons p l ih=>
  intro acc h
  have hnot:¬(acc.any fun q=>q.1=p.1)=true:=by
   rw[List.any_eq_true]
   intro q2_
   refine zd q2_ fun q hq e=>?_
   simp only[decide_eq_true_eq] at e
   rw[List.map_append,List.nodup_append] at h
   exact h.2.2 q.1 (List.mem_map_of_mem hq) p.1 (by simp) e
  show qj (Zl acc p.1 p.2) l=_
  have e:Zl acc p.1 p.2=acc++[p]:=by unfold Zl;rw[if_neg hnot]
  rw[e,ih (acc++[p]) (by simpa using h)]
  simp
theorem zc4:zat G (newList []) (.lst []):=fun A F σ s Q E H h=>
 wpAny_newList (h _ _ (.push0 H.fin) (by
  cases e:s.heap.get? s.heap.objs.size with
  | none=>rfl
  | some o=>exact absurd (Heap.lt_size e) (Nat.lt_irrefl _)) ⟨#[],0,Heap.get?_push_size _ rfl,.nil⟩ H.fresh) (Zh (by simp))
theorem qE{F:FZ}{s:Shared}(H:Base G F σ s):s.heap.objs.size≠sysModules:=by
 have:=(H.gns G.gns).lt
 have h3:mainGlobals=3:=rfl
 have h1:sysModules=1:=rfl
 rw[h3] at this
 rw[h1]
 intro e
 rw[e] at this
 exact absurd this (by decide)
theorem ZV(h:Heap):h.get? h.objs.size=none:=by
 cases e:h.get? h.objs.size with
 | none=>rfl
 | some o=>exact absurd (Heap.lt_size e) (Nat.lt_irrefl _)
theorem zh4{A:Around}{F:FZ}{s:Shared}{Q E:Value→Shared→Prop}(H:Base G F σ s) (h:∀a s',Grow G [] F s F s'→s.heap.get? a=none→F a=none→a≠sysModules→s'.heap.get? a=some {cls:=.type "dict",data:=.dict #[]}→Q (.ref a) s'):wpAny (model G.prog G.w) A newDict Q E s:=by
 unfold newDict
 exact wpAny_newObj_type (h _ _ (.push0 H.fin) (ZV _) H.fresh (qE H) (Heap.get?_push_size _ rfl))
theorem QV{prog:Program}{w:World}{K:Type} [DecidableEq K] {knd:KeyKind prog w K}:DictO knd {cls:=.type "dict",data:=.dict #[]} []:=
 ⟨#[],0,⟨rfl,rfl,rfl⟩,rfl,fun _ he=>by simp at he,.nil,List.nodup_nil⟩
theorem zc5:zat G newDict (.dicS []):=fun A F σ s Q E H h=>
 zh4 H fun a s' g ha hF hs e=>h a s' g ha ⟨_,[],e,hs,QV,rfl,.nil⟩ hF
theorem zmk:zat G newDict (.dicI []):=fun A F σ s Q E H h=>
 zh4 H fun a s' g ha hF hs e=>h a s' g ha ⟨_,[],e,hs,QV,rfl,.nil⟩ hF
noncomputable def MO.toD:MO→D
 | .lst l=>.lst l
 | .dicS l=>.dicS l
 | .dicI l=>.dicI l
 | .set _=>.none
 | .raw _=>.none
noncomputable def MO.known:MO→Prop
 | .set _=>False
 | .raw _=>False
 | _=>True
theorem MAt.frozen{F:FZ}{h:Heap}{a:Addr}{mo:MO}(hm:MAt G F h a mo) (hk:mo.known) (hF:F a=none):∃o,h.get? a=Option.some o∧V G.prog G.w (F.put a o) (.ref a) mo.toD:=by
 cases mo with
 | lst l=>obtain⟨vs,m,e,hv⟩:=hm;exact⟨_,e,.lst (FZ.put_self ..) rfl (hv.mono (FZ.le_put hF))⟩
 | dicS l=>obtain⟨o,kvs,e,h1,h2,h3,h4⟩:=hm;exact⟨o,e,.dicS (FZ.put_self ..) h1 h2 h3 (h4.mono (FZ.le_put hF))⟩
 | dicI l=>obtain⟨o,kvs,e,h1,h2,h3,h4⟩:=hm;exact⟨o,e,.dicI (FZ.put_self ..) h1 h2 h3 (h4.mono (FZ.le_put hF))⟩
 | set l=>exact hk.elim
 | raw o=>exact hk.elim
theorem znS{e:Expr}{scope:Scope}{pos:Pos}{v3:Sem Value}{u0 iter:Expr}{u6:List Expr}{gs:List Comprehension}
  {names:List Str}{ρ':Rho}{bs:List Rho}{α:Type}{P:App α}{Zb:List (List α)}{mo:MO}
  (he:∀env,eval e env=comprehension e scope env pos v3 false (eval iter env))
  (hc:qc e=true) (x5:∀g∈clausesOf e,g.is_async=0) (hg:clausesOf e=⟨u0,iter,u6,0⟩::gs) (v9:∀x,foldedSetIterable iter env x=pure x)
  (hok:ScopeOk scope env) (v4:Capt scope ρ ρ') (hacc:zat G v3 mo) (v8:ItE G n env iter ρ σ u0 names bs) (hs:∀x∈names,OwnName scope x)
  (hl:Zb.length=bs.length) (x0:∀b∈bs,∀p∈b,p.1∈names) (v7:∀x∈names,ρ'.lookup x=none)
  (turn:∀(C:Addr) (i:Nat) (b:Rho) (out:List α),bs[i]?=some b→Zb[i]?=some out→zbt G n (qd scope env C) (jN (qd scope env C)) P e 0 u6 ρ' σ b out)
  (hK:P.K mo) (hsz:mo.sz+Zb.flatten.length≤1000000) (hkn:(Zb.flatten.foldl P.app mo).known) :
  PE G n env e ρ σ (Zb.flatten.foldl P.app mo).toD:=.mk fun A F s Q E hA H hQ=>by
 rw[he]
 refine Jw hA H hc x5 hg v9 hok v4 hacc v8 hs hl x0 v7 turn hK hsz fun a F' s' C g ha hm hF hC hFC hCa hns=>?_
 refine Exists.elim hns fun m hn=>?_
 refine⟨m,hn,fun h' hs'=>?_⟩
 have hk:∀b o,b∉[C]→s'.heap.get? b=some o→h'.get? b=some o:=fun b o hb e=>hs'.extBut b o (by simpa using hb) e
 have g':=g.fin_end (tk:=s'.toks) (wr:=[C]) H.code hk (fun c hc=>by simp at hc;subst hc;exact hC) (fun c hc=>by simp at hc;subst hc;exact hFC)
 have hm':MAt G F' h' a (Zb.flatten.foldl P.app mo):=hm.mono (.refl F') fun o e=>hs'.extBut _ _ (Ne.symm hCa) e
 refine zd (hm'.frozen hkn hF) fun o e1 hv=>?_
 exact hQ _ _ _ (g'.freeze ha hF e1) hv
end
section
open PySem PySem.W
variable {G:Gx}{n:Nat}{env:Env}{ρ:Rho}{σ:Sig}
inductive BindsL (u0:Expr):List D→List Rho→Prop
 | nil:BindsL u0 [] []
 | cons {d ds b bs}:Binds u0 d b→BindsL u0 ds bs→BindsL u0 (d::ds) (b::bs)
theorem BindsL.map{u0:Expr}{β:Type}{g:β→D}{b:β→Rho}{xs:List β}(h:∀y∈xs,Binds u0 (g y) (b y)):BindsL u0 (xs.map g) (xs.map b):=by
 induction xs with
 | nil=>exact .nil
 | cons x xs ih=>exact .cons (h x (.head _)) (ih fun y hy=>h y (.tail _ hy))
theorem BindsL.length{u0:Expr}{ds:List D}{bs:List Rho}(h:BindsL u0 ds bs):bs.length=ds.length:=by
 induction h with
 | nil=>rfl
 | cons _ _ ih=>exact congrArg (·+1) ih
theorem BindsL.get{u0:Expr}{ds:List D}{bs:List Rho}(h:BindsL u0 ds bs):∀(i:Nat) (d:D) (b:Rho),ds[i]?=some d→bs[i]?=some b→Binds u0 d b:=by
 induction h with
 | nil=>exact fun i d b h=>zH rfl h
 | cons h1 _ ih=>
  intro i d b hd hb
  cases i with
  | zero=>exact Option.some.inj hd▸Option.some.inj hb▸h1
  | succ i=>exact ih i d b hd hb
theorem BindsL.name{x:Str}{pos:Pos}{ds:List D}:BindsL (.Name x pos) ds (ds.map fun d=>[(x,d)]):=(List.map_id ds).symm▸(List.map_map▸BindsL.map (g:=id) fun y _=>.name x pos y)
theorem zhe{A:Around}{E:Value→Shared→Prop}{s:Shared}{u0:Expr}{names:List Str}{I l:Addr}{i:Nat}{v:Value}{Q:Unit→Shared→Prop}(ht:Tgt u0 names) (hit:s.heap.IsListIter I l i) (hQ:Q () s) :
  wpAny (model G.prog G.w) A (letOwnedTupleGo u0 (.ref I) v) Q E s:=by
 rcases ht.inv with⟨x,pos,rfl,_⟩ | ⟨u4,k,pos,rfl,_⟩
 ·exact wpAny_pure hQ
 ·cases v with
  | ref T=>exact wpAny_letOwnedTupleGo_listiter hit hQ
  | _=>exact wpAny_pure hQ
theorem q6{h:Heap}{a:Addr}{o:Obj}(e:h.get? a=some o):a≠h.objs.size:=Nat.ne_of_lt (Heap.lt_size e)
theorem zx{α:Type}{p:α→Prop}:∀x∈([]:List α),p x:=fun _ h=>absurd h List.not_mem_nil
theorem all_cons{α:Type}{p:α→Prop}{a:α}{l:List α}(h:p a) (t:∀x∈l,p x):∀x∈a::l,p x:=fun x hx=>(List.mem_cons.mp hx).elim (fun e=>e▸h) (t x)
theorem zbW{u0:Expr}{names:List Str}{ds:List D}{bs:List Rho}{F:FZ}{s:Shared}{as:List Addr}{it:Obj}{St:Nat→Heap→Prop}{P:Nat→Value→Prop}{Q:Value→Shared→Prop}(ht:Tgt u0 names) (hb:BindsL u0 ds bs) (H:Base G F σ s) (hF:∀a∈as,∃o,F a=some o) (hit:it.isFreed=false)
  (W:∀A:Around,A.handled=none→Walks G.prog G.w A s.heap.objs.size (s.heap.objs.size::as) [s.heap.objs.size] ds.length P St) (hP:∀(i:Nat) (v:Value) (d:D),P i v→ds[i]?=some d→V G.prog G.w F v d)
  (hI:∀i h,St i h→∃o,h.get? s.heap.objs.size=some o)
  (hgo:∀(A:Around) (E:Value→Shared→Prop) (i:Nat) (v:Value) (s':Shared) (Q:Unit→Shared→Prop),St (i+1) s'.heap→Q () s'→wpAny (model G.prog G.w) A (letOwnedTupleGo u0 (.ref s.heap.objs.size) v) Q E s')
  (st:St 0 (s.heap.push it))
  (hQ:∀I fp wr St F' s',Grow G [] F s F' s'→HeadJ G n u0 names I F' fp wr bs St→St 0 s'.heap→(∀a∈wr,s.heap.get? a=none∧(∃o,s'.heap.get? a=some o)∧F' a=none)→Q (.ref I) s'):Q (.ref s.heap.objs.size) {s with heap:=s.heap.push it}:=
 hQ _ _ _ _ F _ (.push0 H.fin) (zbx W hP ht hb.get hb.length (all_cons (.inl (.head _)) fun c hc=>.inr (hF c hc)) (fun i h x=>all_cons (hI i h x) zx) hgo) st
  (all_cons ⟨QR _,⟨_,Heap.get?_push_size _ hit⟩,H.fresh⟩ zx)
theorem zaK{F:FZ}{vs:Array Value}{ds:List D}(h:Vs G.prog G.w F vs.toList ds) {i:Nat}{v:Value}{d:D}(hv:vs[i]?=some v) (hd:ds[i]?=some d):V G.prog G.w F v d:=
 (h.get i hd).elim fun _ x=>Z1 x.1 (Array.getElem?_toList.trans hv)▸x.2
theorem zgm{u0:Expr}{names:List Str}{ds:List D}{bs:List Rho}(ht:Tgt u0 names) (hb:BindsL u0 ds bs):ItJ G n σ u0 names (.lst ds) bs:=.mk fun A F s v Q E hA H hv hQ=>by
 refine zY (hv.inv) fun a vs m q1_ x=>?_
 subst q1_
 have e:=H.fin _ _ x.1
 have hl:vs.size=ds.length:=x.2.length
 exact wpAny_pyIter_list ⟨_,e,rfl,_,rfl⟩ (zbW (St:=fun i h=>h.IsListIter s.heap.objs.size a i∧h.IsList a vs) ht hb H (all_cons ⟨_,x.1⟩ zx) rfl (fun A' hA'=>by rw[←hl];exact Walks.list hA' s.heap.objs.size a (q6 e) vs) (fun i v d hP hd=>zaK x.2 hP hd) (fun i h st=>st.1.imp fun _ y=>y.1)
  (fun A' E' i v s' Q' st hq=>zhe ht st.1 hq) ⟨⟨_,Heap.get?_push_size _ rfl,rfl,rfl⟩,⟨_,Heap.get?_push_of_some _ e,rfl,_,rfl⟩⟩ hQ)
theorem zkc{x:Str}{pos:Pos}{ds:List D}:ItJ G n σ (.Name x pos) [x] (.tup ds) (ds.map fun d=>[(x,d)]):=.mk fun A F s v Q E hA H hv hQ=>by
 refine zY (hv.inv) fun a vs m q2_ x=>?_
 subst q2_
 have e:=H.fin _ _ x.1
 have hl:vs.size=ds.length:=x.2.length
 exact wpAny_pyIter_tuple ⟨_,e,rfl,_,rfl⟩ (zbW (St:=fun i h=>h.IsTupleIter s.heap.objs.size a i∧h.IsTuple a vs) (.name _ pos) BindsL.name H (all_cons ⟨_,x.1⟩ zx) rfl (fun A' hA'=>by rw[←hl];exact Walks.tuple hA' s.heap.objs.size a (q6 e) vs) (fun i v d hP hd=>zaK x.2 hP hd) (fun i h st=>st.1.imp fun _ y=>y.1)
  (fun A' E' i v s' Q' st hq=>wpAny_pure hq) ⟨⟨_,Heap.get?_push_size _ rfl,rfl,rfl⟩,⟨_,Heap.get?_push_of_some _ e,rfl,_,rfl⟩⟩ hQ)
theorem zcX{K:Type} [DecidableEq K] {knd:KeyKind G.prog G.w K}{h:Heap}{a:Addr}{o:Obj}{kvs:List (K×Value)}(hD:DictO knd o kvs) (e:h.get? a=some o):∃ep,h.DictAt knd a kvs ep:=by
 refine Zu hD fun es ep x=>?_
 exact⟨ep,o,es,e,x⟩
theorem zkd{K:Type} [DecidableEq K] {knd:KeyKind G.prog G.w K}{key:K→D}(x6:∀F k v,knd.is k v=true→V G.prog G.w F v (key k)) {x:Str}{pos:Pos}{ds:List (K×D)}{F:FZ}{s:Shared}{A:Around}{Q E:Value→Shared→Prop}{a:Addr}{o:Obj}{kvs:List (K×Value)}(H:Base G F σ s)
  (y:F a=some o∧a≠sysModules∧DictO knd o kvs∧kvs.map (·.1)=ds.map (·.1)∧Vs G.prog G.w F (kvs.map (·.2)) (ds.map (·.2)))
  (hQ:∀I fp wr St F' s',Grow G [] F s F' s'→HeadJ G n (.Name x pos) [x] I F' fp wr (ds.map fun p=>[(x,key p.1)]) St→St 0 s'.heap→(∀a∈wr,s.heap.get? a=none∧(∃o,s'.heap.get? a=some o)∧F' a=none)→Q (.ref I) s') :
  wpAny (model G.prog G.w) A (pyIter (.ref a)) Q E s:=by
 have e:=H.fin _ _ y.1
 refine Exists.elim (zcX y.2.2.1 e) fun ep hat=>?_
 refine wpAny_pyIter_dict (beq_eq_false_iff_ne.mpr y.2.1) hat (zbW (St:=fun i h=>h.IsKeyIter s.heap.objs.size a i kvs.length ep∧h.DictAt knd a kvs ep) (.name x pos) (BindsL.map (g:=fun p:K×D=>key p.1) fun y _=>.name x pos _) H (all_cons ⟨_,y.1⟩ zx) rfl (fun A' hA'=>by rw[List.length_map,←jX y.2.2.2.1];exact Walks.dictKeys hA' s.heap.objs.size a (q6 e) kvs ep) (fun i v d hP hd=>?_) (fun i h st=>st.1.imp fun _ y=>y.1)
  (fun A' E' i v s' Q' st hq=>wpAny_pure hq) ⟨⟨_,Heap.get?_push_size _ rfl,rfl,rfl⟩,hat.at' fun o e=>Heap.get?_push_of_some _ e⟩ hQ)
 refine Qd hP fun k u e1 e2=>?_
 rw[List.getElem?_map] at hd
 have e3:(kvs.map (·.1))[i]?=some k:=by rw[List.getElem?_map,e1];rfl
 rw[y.2.2.2.1,List.getElem?_map] at e3
 refine zd (Option.map_eq_some_iff.mp hd) fun p hp q3_=>?_
 subst q3_
 rw[hp] at e3
 have e4:p.1=k:=Option.some.inj e3
 exact e4▸x6 F k v e2
theorem znB{x:Str}{pos:Pos}{ds:List (Str×D)}:ItJ G n σ (.Name x pos) [x] (.dicS ds) (ds.map fun p=>[(x,.str p.1)]):=.mk fun A F s v Q E hA H hv hQ=>by
 refine zY (hv.inv) fun a o kvs q4_ y=>?_
 subst q4_
 exact zkd (key:=.str) (fun _ k v h=>(Value.isStrOf_shape (x:=k) (v:=v) h).elim fun t e=>e▸.str _ _) H y hQ
theorem znC{x:Str}{pos:Pos}{ds:List (Int×D)}:ItJ G n σ (.Name x pos) [x] (.dicI ds) (ds.map fun p=>[(x,.int p.1)]):=.mk fun A F s v Q E hA H hv hQ=>by
 refine zY (hv.inv) fun a o kvs q5_ y=>?_
 subst q5_
 exact zkd (key:=.int) (fun _ k v h=>(Value.isInt_shape (k:=k) (v:=v) h).elim fun t e=>e▸.int _ _) H y hQ
end
section
open PySem PySem.W
variable {G:Gx}{n:Nat}{env:Env}{ρ:Rho}{σ:Sig}
noncomputable def fw(env:Env) (σ:Sig):List Addr:=env.locals::env.cells.map (·.2)++σ.map (·.1)
structure Step (G:Gx) (env:Env) (F:FZ) (s:Shared) (σ:Sig) (F':FZ) (s':Shared) (σ':Sig):Prop where
 le:F.le F'
 new:∀a o,F' a=some o→F a=some o∨s.heap.get? a=none∨a∈fw env σ
 keep:∀b o,b≠G.X→b∉fw env σ→s.heap.get? b=some o→s'.heap.get? b=some o
 dom:∀b o,s.heap.get? b=some o→∃o',s'.heap.get? b=some o'
 os:s'.os=s.os
 gens:zas s.gens→zas s'.gens
 fin:∀a o,F' a=some o→s'.heap.get? a=some o
 code:(∃ps,XC s.heap G.cX G.X G.ps₀ ps)→∃ps,XC s'.heap G.cX G.X G.ps₀ ps
 fresh:∀a∈σ'.map (·.1),a∈σ.map (·.1)∨s.heap.get? a=none
theorem zgv{σ':Sig}{s:Shared}{a:Addr}(hf:∀a∈σ'.map (·.1),a∈σ.map (·.1)∨s.heap.get? a=none) (h:a∈fw env σ'):a∈fw env σ∨s.heap.get? a=none:=by
 unfold fw at *
 simp only[List.cons_append,List.mem_cons,List.mem_append] at *
 rcases h with h | h | h
 ·exact .inl (.inl h)
 ·exact .inl (.inr (.inl h))
 ·exact(hf a h).imp (fun h=>.inr (.inr h)) id
theorem Step.trans{F F' F'':FZ}{s s' s'':Shared}{σ' σ'':Sig}(x:Step G env F s σ F' s' σ') (y:Step G env F' s' σ' F'' s'' σ''):Step G env F s σ F'' s'' σ'' where
 le:=x.le.trans y.le
 new a o h:=by
  rcases y.new a o h with h1 | h1 | h1
  ·exact x.new a o h1
  ·refine .inr (.inl ?_)
   cases e:s.heap.get? a with
   | none=>rfl
   | some o'=>obtain⟨o'',e''⟩:=x.dom a o' e;rw[h1] at e'';cases e''
  ·rcases zgv x.fresh h1 with h1 | h1
   ·exact .inr (.inr h1)
   ·exact .inr (.inl h1)
 keep b o hx hb e:=y.keep b o hx (fun h=>by
  rcases zgv x.fresh h with h1 | h1
  ·exact hb h1
  ·rw[e] at h1;cases h1) (x.keep b o hx hb e)
 dom b o e:=let ⟨o',e'⟩:=x.dom b o e;y.dom b o' e'
 os:=y.os.trans x.os
 gens h:=y.gens (x.gens h)
 fin:=y.fin
 code h:=y.code (x.code h)
 fresh a h:=by
  rcases y.fresh a h with h1 | h1
  ·exact x.fresh a h1
  ·refine .inr ?_
   cases e:s.heap.get? a with
   | none=>rfl
   | some o'=>obtain⟨o'',e''⟩:=x.dom a o' e;rw[h1] at e'';cases e''
theorem Step.of{F F':FZ}{s s':Shared}{W:List Addr}{σ':Sig}(g:Grow G W F s F' s') (hW:∀a∈W,a∈fw env σ) (hf:∀a∈σ'.map (·.1),a∈σ.map (·.1)∨s.heap.get? a=none):Step G env F s σ F' s' σ':=
 ⟨g.le,fun a o h=>(g.new a o h).imp id .inl,fun b o hx hb e=>g.keep b o hx (fun h=>hb (hW b h)) e,g.dom,g.os,g.gens,g.fin,g.code,hf⟩
theorem Step.pure{F F':FZ}{s s':Shared}(g:Grow G [] F s F' s'):Step G env F s σ F' s' σ:=.of g (by simp) fun a h=>.inl h
theorem Step.refl{F:FZ}{s:Shared}(hf:∀a o,F a=some o→s.heap.get? a=some o):Step G env F s σ F s σ:=.pure (.refl hf)
theorem Step.grow{F F':FZ}{s s':Shared}{W:List Addr}{σ':Sig}(g:Step G env F s σ F' s' σ') (h:∀a∈fw env σ,s.heap.get? a=none∨(a∈W∧F' a=none)):Grow G W F s F' s' where
 le:=g.le
 new a o e:=by
  rcases g.new a o e with h1 | h1 | h1
  ·exact .inl h1
  ·exact .inr h1
  ·rcases h a h1 with h2 | ⟨_,h2⟩
   ·exact .inr h2
   ·rw[e] at h2;cases h2
 keep b o hx hb e:=g.keep b o hx (fun hm=>by
  rcases h b hm with h2 | ⟨h2,_⟩
  ·rw[e] at h2;cases h2
  ·exact hb h2) e
 dom:=g.dom
 os:=g.os
 gens:=g.gens
 fin:=g.fin
 code:=g.code
theorem zbF{x:Str}:∀a∈stW env x,a∈fw env σ:=by
 intro a h
 unfold stW at h
 unfold fw
 simp only[List.cons_append,List.mem_cons,List.mem_append]
 split at h
 ·cases e:env.cells.lookup x with
  | none=>rw[e] at h;simp at h
  | some c=>rw[e] at h;simp at h;subst h;exact .inr (.inl (List.mem_map.mpr ⟨_,mem_of_lookup e,rfl⟩))
 ·simp at h;exact .inl h
theorem zcd{xs:List Str}:∀a∈tW env xs,a∈fw env σ:=by
 intro a h
 refine zd (List.mem_flatMap.mp h) fun x _ h=>?_
 exact zbF a h
inductive Out where
 | next (ρ:Rho) (σ:Sig)
 | brk (ρ:Rho) (σ:Sig)
 | cont (ρ:Rho) (σ:Sig)
 | ret (d:D) (σ:Sig)
noncomputable def Out.sg:Out→Sig
 | .next _ σ | .brk _ σ | .cont _ σ | .ret _ σ=>σ
noncomputable def OutOk(G:Gx) (env:Env) (F:FZ) (s:Shared):Out→Flow→Prop
 | .next ρ σ,.next=>Holds G env F ρ σ s
 | .brk ρ σ,.brk=>Holds G env F ρ σ s
 | .cont ρ σ,.cont=>Holds G env F ρ σ s
 | .ret d σ,.ret v=>(∃ρ,Holds G env F ρ σ s)∧V G.prog G.w F v d
 | _,_=>False
theorem OutOk.elim{F:FZ}{s:Shared}{out:Out}{fl:Flow}{C:Out→Flow→Prop}(h:OutOk G env F s out fl) (hn:∀ρ σ,Holds G env F ρ σ s→C (.next ρ σ) .next) (hb:∀ρ σ,Holds G env F ρ σ s→C (.brk ρ σ) .brk) (hc:∀ρ σ,Holds G env F ρ σ s→C (.cont ρ σ) .cont)
  (hr:∀d σ v,(∃ρ,Holds G env F ρ σ s)∧V G.prog G.w F v d→C (.ret d σ) (.ret v)):C out fl:=by
 cases out with
 | next=>cases fl<;>first | exact False.elim h | exact hn _ _ h
 | brk=>cases fl<;>first | exact False.elim h | exact hb _ _ h
 | cont=>cases fl<;>first | exact False.elim h | exact hc _ _ h
 | ret=>cases fl<;>first | exact False.elim h | exact hr _ _ _ h
structure Y (G:Gx) (n:Nat) (env:Env) (e:Expr) (ρ:Rho) (σ:Sig) (P:D→Sig→Prop):Prop where
 out:∀(A:Around) (F:FZ) (s:Shared) (Q E:Value→Shared→Prop),AOk n A→Holds G env F ρ σ s→
  (∀d σ' v F' s',P d σ'→Step G env F s σ F' s' σ'→Holds G env F' ρ σ' s'→V G.prog G.w F' v d→Q v s')→wpAny (model G.prog G.w) A (eval e env) Q E s
structure Ys (G:Gx) (n:Nat) (env:Env) (es:List Expr) (ρ:Rho) (σ:Sig) (P:List D→Sig→Prop):Prop where
 out:∀(A:Around) (F:FZ) (s:Shared) (Q:List Value→Shared→Prop) (E:Value→Shared→Prop) (pos:Pos),AOk n A→Holds G env F ρ σ s→
  (∀ds σ' vs F' s',P ds σ'→Step G env F s σ F' s' σ'→Holds G env F' ρ σ' s'→Vs G.prog G.w F' vs ds→Q vs s')→wpAny (model G.prog G.w) A (spliced (backTo pos (starEach es env))) Q E s
structure X1 (G:Gx) (n:Nat) (env:Env) (st:Stmt) (ρ:Rho) (σ:Sig) (P:Out→Prop):Prop where
 out:∀(A:Around) (F:FZ) (s:Shared) (Q:Flow→Shared→Prop) (E:Value→Shared→Prop),AOk n A→Holds G env F ρ σ s→
  (∀out fl F' s',P out→Step G env F s σ F' s' out.sg→OutOk G env F' s' out fl→Q fl s')→wpAny (model G.prog G.w) A (exec st env) Q E s
structure X (G:Gx) (n:Nat) (env:Env) (sts:List Stmt) (ρ:Rho) (σ:Sig) (P:Out→Prop):Prop where
 out:∀(A:Around) (F:FZ) (s:Shared) (Q:Flow→Shared→Prop) (E:Value→Shared→Prop),AOk n A→Holds G env F ρ σ s→
  (∀out fl F' s',P out→Step G env F s σ F' s' out.sg→OutOk G env F' s' out fl→Q fl s')→wpAny (model G.prog G.w) A (execs sts env) Q E s
noncomputable def zpQ(G:Gx) (n:Nat) (env:Env) (rest:List Stmt) (P:Out→Prop):Out→Prop
 | .next ρ σ=>X G n env rest ρ σ P
 | o=>P o
noncomputable def Weak(ρ' ρ:Rho):Prop:=∀x d,ρ'.lookup x=some d→ρ.lookup x=some d
theorem Weak.nil{ρ:Rho}:Weak [] ρ:=fun x d h=>by cases h
theorem Weak.cons{x:Str}{d:D}{ρ' ρ:Rho}(h:ρ.lookup x=some d) (hw:Weak ρ' ρ):Weak ((x,d)::ρ') ρ:=fun y e h'=>by
 rw[QC] at h'
 by_cases hy:y=x
 ·subst hy;simp only[if_pos rfl] at h';cases h';exact h
 ·rw[if_neg hy] at h';exact hw y e h'
theorem Weak.refl{ρ:Rho}:Weak ρ ρ:=fun _ _ h=>h
theorem zz{P:Out→Prop}(h:P (.next ρ σ)):X G n env [] ρ σ P:=.mk fun A F s Q E hA H hQ=>
 wpAny_execs_nil (hQ _ .next F s h (.refl H.fin) H)
theorem zT{sts:List Stmt}{ρ':Rho}{P:Out→Prop}(hw:Weak ρ' ρ) (h:X G n env sts ρ' σ P):X G n env sts ρ σ P:=.mk fun A F s Q E hA H hQ=>h.out A F s Q E hA (H.weak hw) hQ
theorem zc{st:Stmt}{rest:List Stmt}{P:Out→Prop}(h:X1 G n env st ρ σ (zpQ G n env rest P)):X G n env (st::rest) ρ σ P:=.mk fun A F s Q E hA H hQ=>
 wpAny_execs_cons (h.out A F s _ E hA H fun out fl F' s' hP g ho=>by
  revert hP g
  apply ho.elim
  ·exact fun _ _ ho hP g=>hP.out A F' s' Q E hA ho fun out' fl' F'' s'' hP' g' ho'=>hQ out' fl' F'' s'' hP' (g.trans g') ho'
  ·exact fun _ _ ho hP g=>hQ _ _ F' s' hP g ho
  ·exact fun _ _ ho hP g=>hQ _ _ F' s' hP g ho
  ·exact fun _ _ _ ho hP g=>hQ _ _ F' s' hP g ho)
theorem q8{e:Expr}{P P':D→Sig→Prop}(h:Y G n env e ρ σ P) (hp:∀d σ',P d σ'→P' d σ'):Y G n env e ρ σ P':=.mk fun A F s Q E hA H hQ=>
 h.out A F s Q E hA H fun d σ' v F' s' hP=>hQ d σ' v F' s' (hp d σ' hP)
theorem zt{e:Expr}{d:D}{P:D→Sig→Prop}(h:PE G n env e ρ σ d) (hp:P d σ):Y G n env e ρ σ P:=.mk fun A F s Q E hA H hQ=>
 h.out A F s Q E hA H fun v F' s' g hv=>hQ d σ v F' s' hp (.pure g) (H.grow g) hv
structure PO (G:Gx) (n:Nat) (env:Env) (e:Expr) (ρ:Rho) (σ:Sig) (mo:MO):Prop where
 out:∀(A:Around) (F:FZ) (s:Shared) (Q E:Value→Shared→Prop),AOk n A→Holds G env F ρ σ s→
  (∀a F' s',Grow G [] F s F' s'→s.heap.get? a=none→MAt G F' s'.heap a mo→F' a=none→Q (.ref a) s')→wpAny (model G.prog G.w) A (eval e env) Q E s
theorem jh{e:Expr}{mo:MO}{P:D→Sig→Prop}(h:PO G n env e ρ σ mo) (hp:∀a,P (.raw (.ref a)) ((a,mo)::σ)):Y G n env e ρ σ P:=.mk fun A F s Q E hA H hQ=>
 h.out A F s Q E hA H fun a F' s' g ha hm hF=>hQ _ _ _ F' s' (hp a) (.of g (by simp) fun b hb=>by
  rcases List.mem_cons.mp hb with rfl | hb
  ·exact .inr ha
  ·exact .inl hb) (H.consNew g ha hm hF) (.raw _)
theorem qw{P:List D→Sig→Prop}(h:P [] σ):Ys G n env [] ρ σ P:=.mk fun A F s Q E pos hA H hQ=>wpAny_items_nil (hQ _ _ _ F s h (.refl H.fin) H .nil)
theorem Zn{e:Expr}{es:List Expr}{P:List D→Sig→Prop}(h:Y G n env e ρ σ fun d σ'=>Ys G n env es ρ σ' fun ds σ''=>P (d::ds) σ'')
  (hn:∀env,starEach (e::es) env=(false,eval e env)::starEach es env:=by intro _;rfl):Ys G n env (e::es) ρ σ P:=.mk fun A F s Q E pos hA H hQ=>
 wpAny_items_cons (h.out A F s _ E hA H fun d σ' v F₁ s₁ hs g₁ H₁ V₁=>hs.out A F₁ s₁ _ E pos hA H₁ fun ds σ'' vs F₂ s₂ hP g₂ H₂ V₂=>hQ _ _ _ F₂ s₂ hP (g₁.trans g₂) H₂ (.cons (V₁.mono g₂.le) V₂)) (hn env)
theorem Je{es:List Expr}{ds:List D}{P:List D→Sig→Prop}(h:PEs G n env es ρ σ ds) (hp:P ds σ):Ys G n env es ρ σ P:=.mk fun A F s Q E pos hA H hQ=>
 h.out A F s Q E pos hA H fun vs F' s' g hv=>hQ _ _ _ F' s' hp (.pure g) (H.grow g) hv
theorem Holds.stored{F:FZ}{s:Shared}{x:Str}{d:D}:True:=trivial
theorem zfE{x:Str}{px pos:Pos}{e:Expr}{P:Out→Prop}(h:Y G n env e ρ σ fun d σ'=>P (.next ((x,d)::ρ) σ')) (hk:zG env x)
  (hs:swapsWith e (some (.Name x px)) pos.line env=pure false:=by rfl):X1 G n env (.Assign [.Name x px] e pos) ρ σ P:=.mk fun A F s Q E hA H hQ=>
 wpAny_Assign_Name (h.out A F s _ E hA H fun d σ' v F₁ s₁ hP g₁ H₁ V₁=>QL H₁ V₁ hk fun s₂ g₂ H₂=>hQ _ .next F₁ s₂ hP (g₁.trans (.of g₂ zbF fun a h=>.inl h)) H₂) hs
theorem zfD{e:Expr}{pos:Pos}{P:Out→Prop}(h:Y G n env e ρ σ fun d σ'=>P (.next ρ σ')) (hi:interactive env=false)
  (hs:swapsWith e none pos.line env=pure false:=by rfl):X1 G n env (.Expr e pos) ρ σ P:=.mk fun A F s Q E hA H hQ=>
 wpAny_Expr_any (h.out A F s _ E hA H fun d σ' v F₁ s₁ hP g₁ H₁ V₁=>hQ _ .next F₁ s₁ hP g₁ H₁) hi hs
theorem z8{e:Expr}{pos:Pos}{P:Out→Prop}(h:Y G n env e ρ σ fun d σ'=>P (.ret d σ')):X1 G n env (.Return (some e) pos) ρ σ P:=.mk fun A F s Q E hA H hQ=>
 wpAny_Return_some (h.out A F s _ E hA H fun d σ' v F₁ s₁ hP g₁ H₁ V₁=>hQ _ (.ret v) F₁ s₁ hP g₁ ⟨⟨_,H₁⟩,V₁⟩)
theorem zhp{pos:Pos}{P:Out→Prop}(h:P (.brk ρ σ)):X1 G n env (.Break pos) ρ σ P:=.mk fun A F s Q E hA H hQ=>
 wpAny_Break (hQ _ .brk F s h (.refl H.fin) H)
theorem Qt{t:Expr}{b₁ b₂:List Stmt}{pos:Pos}{b:Bool}{P:Out→Prop}(ht:PT G n env t ρ σ b) (h₁:b=true→X G n env b₁ ρ σ P) (h₂:b=false→X G n env b₂ ρ σ P):X1 G n env (.If t b₁ b₂ pos) ρ σ P:=.mk fun A F s Q E hA H hQ=>
 wpAny_If (ht.out A F s _ E hA H fun F' s' g=>by
  cases b with
  | true=>exact(h₁ rfl).out A F' s' Q E hA (H.grow g) fun out fl F'' s'' hP g' ho=>hQ out fl F'' s'' hP ((Step.pure g).trans g') ho
  | false=>exact(h₂ rfl).out A F' s' Q E hA (H.grow g) fun out fl F'' s'' hP g' ho=>hQ out fl F'' s'' hP ((Step.pure g).trans g') ho)
structure InpJ (G:Gx) (n:Nat) (σ:Sig) (op:Operator) (d₁ d₂ d:D):Prop where
 out:∀(A:Around) (F:FZ) (s:Shared) (Q E:Value→Shared→Prop) (v₁ v₂:Value),AOk n A→Base G F σ s→V G.prog G.w F v₁ d₁→V G.prog G.w F v₂ d₂→
  (∀v F' s',Grow G [] F s F' s'→V G.prog G.w F' v d→Q v s')→wpAny (model G.prog G.w) A (inplaceOp op v₁ v₂) Q E s
theorem JF{x:Str}{px pos:Pos}{op:Operator}{e:Expr}{d₁ d₂ d:D}{P:Out→Prop}(hx:ρ.lookup x=some d₁) (he:PE G n env e ρ σ d₂) (ho:InpJ G n σ op d₁ d₂ d) (hk:zG env x) (hp:P (.next ((x,d)::ρ) σ))
  (hc:(x==("__classdict__":Str))=false:=by decide):X1 G n env (.AugAssign (.Name x px) op e pos) ρ σ P:=.mk fun A F s Q E hA H hQ=>
 wpAny_AugAssign_Name (zbT hx H (fun v hv=>he.out A F s _ E hA H fun v₂ F₁ s₁ g₁ V₁=>ho.out A F₁ s₁ _ E v v₂ hA (H.grow g₁).toBase (hv.mono g₁.le) V₁ fun r F₂ s₂ g₂ V₂=>
  QL ((H.grow g₁).grow g₂) V₂ hk fun s₃ g₃ H₃=>hQ _ .next F₂ s₃ hp ((Step.pure (g₁.trans g₂)).trans (.of g₃ zbF fun a h=>.inl h)) H₃) hc)
end
section
open PySem PySem.W
variable {G:Gx}{n:Nat}{env:Env}{ρ:Rho}{σ:Sig}
theorem Step.before{F F':FZ}{s s':Shared}{σ':Sig}(x:Step G env F s σ F' s' σ') {a:Addr}(h:s'.heap.get? a=none):s.heap.get? a=none:=Qh fun o e=>(x.dom a o e).elim fun _ e'=>zH h e'
theorem Step.more{F F' F'':FZ}{s s' s'':Shared}{σ':Sig}{W:List Addr}(x:Step G env F s σ F' s' σ') (y:Grow G W F' s' F'' s'') (hW:∀a∈W,a∈fw env σ'∨s.heap.get? a=none):Step G env F s σ F'' s'' σ' where
 le:=x.le.trans y.le
 new a o h:=(y.new a o h).elim (x.new a o) fun h1=>.inr (.inl (x.before h1))
 keep b o hx hb e:=y.keep b o hx (fun h=>(hW b h).elim (fun h1=>(zgv x.fresh h1).elim hb fun h2=>zH h2 e) fun h1=>zH h1 e) (x.keep b o hx hb e)
 dom b o e:=(x.dom b o e).elim fun o' e'=>y.dom b o' e'
 os:=y.os.trans x.os
 gens h:=y.gens (x.gens h)
 fin:=y.fin
 code h:=y.code (x.code h)
 fresh:=x.fresh
theorem Step.fin_end{F F':FZ}{s s':Shared}{σ':Sig}{wr:List Addr}{h':Heap}{tk:Nat}(g:Step G env F s σ F' s' σ') (hc:∃ps,XC s.heap G.cX G.X G.ps₀ ps) (hk:∀b o,b∉wr→s'.heap.get? b=some o→h'.get? b=some o) (hf:∀a∈wr,s.heap.get? a=none) (hF:∀a∈wr,F' a=none) :
  Step G env F s σ F' {s' with heap:=h',toks:=tk} σ' where
 le:=g.le
 new:=g.new
 keep b o hx hb e:=hk b o (fun hm=>zH (hf b hm) e) (g.keep b o hx hb e)
 dom b o e:=(g.dom b o e).imp fun o' e'=>hk b o' (fun hm=>zH (hf b hm) e) e'
 os:=g.os
 gens:=g.gens
 fin a o e:=hk a o (fun hm=>zH (hF a hm) e) (g.fin a o e)
 code hc':=hc.elim fun _ x=>x.atC.elim fun _ k1=>(g.code hc').imp fun _ hx=>hx.frame (fun _ e=>hk _ _ (fun hm=>zH (hf _ hm) k1) e) (fun _ e=>hk _ _ (fun hm=>zH (hf _ hm) x.atX) e)
 fresh:=g.fresh
theorem Off.fw{F:FZ}{W:List Addr}(h:Off G env F σ W) {a:Addr}(ha:a∈W):a∉Mine.fw env σ:=fun hm=>
 (List.mem_cons.mp hm).elim (h.loc a ha) fun hm=>(List.mem_append.mp hm).elim (fun hm=>(List.mem_map.mp hm).elim fun p hp=>h.cel a ha p.1 p.2 hp.1 hp.2.symm) (h.own a ha)
theorem Off.step{F F':FZ}{s s':Shared}{W:List Addr}{σ':Sig}(h:Off G env F σ W) (g:Step G env F s σ F' s' σ') (hd:∀a∈W,∃o,s.heap.get? a=some o):Off G env F' σ' W where
 fz a ha:=Qh fun o e=>(hd a ha).elim fun _ e'=>(g.new a o e).elim (fun h1=>zH (h.fz a ha) h1) fun h1=>h1.elim (fun h1=>zH h1 e') (h.fw ha)
 own a ha hm:=(hd a ha).elim fun _ e'=>(g.fresh a hm).elim (h.own a ha) fun h1=>zH h1 e'
 loc:=h.loc
 cel:=h.cel
 x:=h.x
theorem HeadJ.keepS{u0:Expr}{names:List Str}{I:Addr}{F₀:FZ}{fp wr:List Addr}{bs:List Rho}{St:Nat→Heap→Prop}(J:HeadJ G n u0 names I F₀ fp wr bs St) {i:Nat}{F F':FZ}{s s':Shared}{σ':Sig}
  (hf:∀a o,F a=some o→s.heap.get? a=some o) (h0:F₀.le F) (g:Step G env F s σ F' s' σ') (ho:Off G env F σ wr) (hst:St i s.heap):St i s'.heap:=by
 refine J.frame i _ _ hst fun b hb o e=>?_
 rcases J.fpF b hb with h | ⟨o',h⟩
 ·exact g.keep b o (ho.x b h) (ho.fw h) e
 ·have h1:=hf _ _ (h0 _ _ h)
  rw[e] at h1;cases h1
  exact g.fin _ _ (g.le _ _ (h0 _ _ h))
theorem HeadJ.step'{u0:Expr}{names:List Str}{I:Addr}{F₀:FZ}{fp wr:List Addr}{bs:List Rho}{St:Nat→Heap→Prop}(J:HeadJ G n u0 names I F₀ fp wr bs St) {i:Nat}{b:Rho}(hb:bs[i]?=some b) (hs:∀x∈names,zG env x)
  {A:Around}{F:FZ}{s:Shared}{E:Value→Shared→Prop}{QN:Shared→Prop}{Q:Unit→Shared→Prop}(hA:AOk n A) (h0:F₀.le F) (H:Holds G env F ρ σ s) (ho:Off G env F σ wr) (hst:St i s.heap)
  (hQ:∀F' s',Grow G (wr++tW env names) F s F' s'→Holds G env F' (b++ρ) σ s'→St (i+1) s'.heap→Q () s') :
  wpAny (model G.prog G.w) A (pyNext (.ref I)) (fun r s₁=>match r with
   | none=>QN s₁
   | some v=>wpAny (model G.prog G.w) A (letOwnedTupleGo u0 (.ref I) v) (fun _ s₂=>wpAny (model G.prog G.w) A (assign u0 env v) Q E s₂) E s₁) E s:=
 wpAny_mono (J.step i b hb env hs A F s ρ σ E Q hA h0 H ho hst hQ) (fun r s₁ h=>by
  cases r with
  | none=>exact h.elim
  | some v=>exact h) fun _ _ x=>x
noncomputable def zaa(I:Rho→Sig→Prop) (P:Out→Prop):Out→Prop
 | .next ρ σ=>I ρ σ
 | .cont ρ σ=>I ρ σ
 | .brk ρ σ=>P (.next ρ σ)
 | .ret d σ=>P (.ret d σ)
structure XA1 (G:Gx) (A:Around) (env:Env) (st:Stmt) (ρ:Rho) (σ:Sig) (P:Out→Prop):Prop where
 out:∀(F:FZ) (s:Shared) (Q:Flow→Shared→Prop) (E:Value→Shared→Prop),Holds G env F ρ σ s→
  (∀out fl F' s',P out→Step G env F s σ F' s' out.sg→OutOk G env F' s' out fl→Q fl s')→wpAny (model G.prog G.w) A (exec st env) Q E s
structure XA (G:Gx) (A:Around) (env:Env) (sts:List Stmt) (ρ:Rho) (σ:Sig) (P:Out→Prop):Prop where
 out:∀(F:FZ) (s:Shared) (Q:Flow→Shared→Prop) (E:Value→Shared→Prop),Holds G env F ρ σ s→
  (∀out fl F' s',P out→Step G env F s σ F' s' out.sg→OutOk G env F' s' out fl→Q fl s')→wpAny (model G.prog G.w) A (execs sts env) Q E s
theorem zfu{A:Around}{sts:List Stmt}{P:Out→Prop}(hA:AOk n A) (h:X G n env sts ρ σ P):XA G A env sts ρ σ P:=.mk fun F s Q E H hQ=>h.out A F s Q E hA H hQ
theorem JW{A:Around}{st:Stmt}{P:Out→Prop}(hA:AOk n A) (h:X1 G n env st ρ σ P):XA1 G A env st ρ σ P:=.mk fun F s Q E H hQ=>h.out A F s Q E hA H hQ
inductive ForI (G:Gx) (env:Env) (F:FZ) (s:Shared) (σ:Sig) (wr:List Addr) (F₁:FZ) (St:Nat→Heap→Prop) (I:Nat→Rho→Sig→Prop) (N k:Nat) (s':Shared):Prop
 | mk (i:Nat) (ρ':Rho) (σ':Sig) (F':FZ):k=N-i→i≤N→I i ρ' σ'→Step G env F s σ F' s' σ'→Holds G env F' ρ' σ' s'→Off G env F' σ' wr→F₁.le F'→St i s'.heap→ForI G env F s σ wr F₁ St I N k s'
inductive WhI (G:Gx) (env:Env) (F:FZ) (s:Shared) (σ:Sig) (I:Nat→Rho→Sig→Prop) (k:Nat) (s':Shared):Prop
 | mk (ρ':Rho) (σ':Sig) (F':FZ):I k ρ' σ'→Step G env F s σ F' s' σ'→Holds G env F' ρ' σ' s'→WhI G env F s σ I k s'
theorem zji{A:Around}{u0 iter:Expr}{body v5:List Stmt}{pos:Pos}{names:List Str}{bs:List Rho}{P:Out→Prop}(hA:AOk n A) (I:Nat→Rho→Sig→Prop)
  (v8:ItE G n env iter ρ σ u0 names bs) (hs:∀x∈names,zG env x) (h0:I 0 ρ σ)
  (turn:∀(i:Nat) (b ρ':Rho) (σ':Sig),I i ρ' σ'→bs[i]?=some b→XA G A env body (b++ρ') σ' (zaa (I (i+1)) P))
  (done:∀(ρ':Rho) (σ':Sig),I bs.length ρ' σ'→XA G A env v5 ρ' σ' P)
  (v9:∀x,foldedSetIterable iter env x=pure x:=by intro _;rfl):XA1 G A env (.For u0 iter body v5 pos) ρ σ P:=.mk fun F s Q E H hQ=>by
 refine wpAny_For (v8.out A F s _ E hA H fun J fp wr St F₁ s₁ g₁ hJ st hwr=>?_) v9
 have hno:∀a∈wr,s.heap.get? a=none:=fun a ha=>(hwr a ha).1
 refine codeAny_forLoop_any (ForI G env F s σ wr F₁ St I bs.length) (fun k s' x=>?_) bs.length ⟨0,ρ,σ,F₁,rfl,Nat.zero_le _,h0,.pure g₁,H.grow g₁,.new H fun a ha=>⟨(hwr a ha).1,(hwr a ha).2.2⟩,.refl _,st⟩
 obtain⟨i,ρ',σ',F',rfl,hi,hI,g,H',ho,hle,hst⟩:=x
 by_cases hlt:i<bs.length
 ·have hb:bs[i]?=some bs[i]:=List.getElem?_eq_getElem hlt
  refine hJ.step' hb hs hA hle H' ho hst fun F₂ s₂ g₂ H₂ st₂=>?_
  have ho₂:Off G env F₂ σ' wr:=ho.grow g₂ fun a ha=>hJ.dom i _ hst a ha
  have gs:Step G env F s σ F₂ s₂ σ':=g.more g₂ fun a ha=>(List.mem_append.mp ha).elim (fun h=>.inr (hno a h)) fun h=>.inl (zcd a h)
  have hle₂:F₁.le F₂:=hle.trans g₂.le
  refine(turn i _ ρ' σ' hI hb).out F₂ s₂ _ _ H₂ fun out fl F₃ s₃ hP g₃ u3=>?_
  revert hP g₃
  apply u3.elim
  ·exact fun _ _ u3 hP g₃=>⟨bs.length-(i+1),Nat.sub_succ_lt_self _ _ hlt,i+1,_,_,F₃,rfl,hlt,hP,gs.trans g₃,u3,ho₂.step g₃ (fun a ha=>hJ.dom (i+1) _ st₂ a ha),hle₂.trans g₃.le,hJ.keepS H₂.fin hle₂ g₃ ho₂ st₂⟩
  ·exact fun _ _ u3 hP g₃=>hQ (.next _ _) .next F₃ s₃ hP (gs.trans g₃) u3
  ·exact fun _ _ u3 hP g₃=>⟨bs.length-(i+1),Nat.sub_succ_lt_self _ _ hlt,i+1,_,_,F₃,rfl,hlt,hP,gs.trans g₃,u3,ho₂.step g₃ (fun a ha=>hJ.dom (i+1) _ st₂ a ha),hle₂.trans g₃.le,hJ.keepS H₂.fin hle₂ g₃ ho₂ st₂⟩
  ·exact fun _ _ _ u3 hP g₃=>hQ _ _ F₃ s₃ hP (gs.trans g₃) u3
 ·obtain rfl:i=bs.length:=Nat.le_antisymm hi (Nat.le_of_not_lt hlt)
  exact hJ.done A s' _ _ hA hst fun h' tk hk'=>(done ρ' σ' hI).out F' _ _ _ (H'.endOff hk' ho) fun out fl F₃ s₃ hP g₃ u3=>hQ out fl F₃ s₃ hP ((g.fin_end (tk:=tk) H.code hk' hno (fun a ha=>ho.fz a ha)).trans g₃) u3
theorem zab{u0 iter:Expr}{body v5:List Stmt}{pos:Pos}{names:List Str}{bs:List Rho}{P:Out→Prop}(I:Nat→Rho→Sig→Prop)
  (v8:ItE G n env iter ρ σ u0 names bs) (hs:∀x∈names,zG env x) (h0:I 0 ρ σ)
  (turn:∀(i:Nat) (b ρ':Rho) (σ':Sig),I i ρ' σ'→bs[i]?=some b→X G n env body (b++ρ') σ' (zaa (I (i+1)) P))
  (done:∀(ρ':Rho) (σ':Sig),I bs.length ρ' σ'→X G n env v5 ρ' σ' P)
  (v9:∀x,foldedSetIterable iter env x=pure x:=by intro _;rfl):X1 G n env (.For u0 iter body v5 pos) ρ σ P:=.mk fun A F s Q E hA H hQ=>
 (zji hA I v8 hs h0 (fun i b ρ' σ' hI hb=>zfu hA (turn i b ρ' σ' hI hb)) (fun ρ' σ' hI=>zfu hA (done ρ' σ' hI)) v9).out F s Q E H hQ
theorem zd8{test:Expr}{body:List Stmt}{pos:Pos}{P:Out→Prop}(I:Nat→Rho→Sig→Prop) (N:Nat) (h0:I N ρ σ)
  (turn:∀(k:Nat) (ρ':Rho) (σ':Sig),I k ρ' σ'→∃b,PT G n env test ρ' σ' b∧(b=true→X G n env body ρ' σ' (zaa (fun ρ'' σ''=>∃m,m<k∧I m ρ'' σ'') P))∧(b=false→P (.next ρ' σ'))) :
  X1 G n env (.While test body [] pos) ρ σ P:=.mk fun A F s Q E hA H hQ=>by
 refine wpAny_While (codeAny_whileLoop (WhI G env F s σ I) (fun k s' x=>?_) N ⟨ρ,σ,F,h0,.refl H.fin,H⟩)
 obtain⟨ρ',σ',F',hI,g,H'⟩:=x
 refine qD (turn k ρ' σ' hI) fun b ht h1 h2=>?_
 refine ht.out A F' s' _ _ hA H' fun F₂ s₂ g₂=>?_
 have gs:=g.trans (Step.pure (env:=env) (σ:=σ') g₂)
 cases b with
 | true=>
  refine(h1 rfl).out A F₂ s₂ _ _ hA (H'.grow g₂) fun out fl F₃ s₃ hP g₃ u3=>?_
  revert hP g₃
  apply u3.elim
  ·exact fun _ _ u3 hP g₃=>hP.imp fun m hm=>⟨hm.1,_,_,F₃,hm.2,gs.trans g₃,u3⟩
  ·exact fun _ _ u3 hP g₃=>hQ (.next _ _) .next F₃ s₃ hP (gs.trans g₃) u3
  ·exact fun _ _ u3 hP g₃=>hP.imp fun m hm=>⟨hm.1,_,_,F₃,hm.2,gs.trans g₃,u3⟩
  ·exact fun _ _ _ u3 hP g₃=>hQ _ _ F₃ s₃ hP (gs.trans g₃) u3
 | false=>exact wpAny_execs_nil (hQ _ .next F₂ s₂ (h2 rfl) gs (H'.grow g₂))
theorem jz{u4:List Expr}{e:Expr}{names:List Str} {k p pos}{P:Out→Prop}(hn:Z4 u4=some names) (h:Y G n env e ρ σ fun d σ'=>∃ds,d=.tup ds∧ds.length=names.length∧P (.next ((names.zip ds).reverse++ρ) σ'))
  (hk:∀x∈names,zG env x)
  (hs:swapsWithSole [.Tuple u4 k p] e pos.line env=pure false:=by rfl) (hw:swappedStores [.Tuple u4 k p] e env=pure none:=by rfl):X1 G n env (.Assign [.Tuple u4 k p] e pos) ρ σ P:=.mk fun A F s Q E hA H hQ=>
 PyProof.Rows.Assign_Tuple (h.out A F s _ E hA H fun d σ' v F₁ s₁ hP g₁ H₁ V₁=>by
  obtain⟨ds,rfl,hl,hP⟩:=hP
  exact Jj hA.handled (.tuple k p hn) (.tuple k p hn hl) V₁ hk H₁ fun s₂ g₂ H₂=>hQ _ .next F₁ s₂ hP (g₁.trans (.of g₂ zcd fun a h=>.inl h)) H₂) hs hw
theorem zd7{es:List Expr} {k pos}{P:D→Sig→Prop}(h:Ys G n env es ρ σ fun ds σ'=>ds.length≤1000000∧P (.tup ds) σ'):Y G n env (.Tuple es k pos) ρ σ P:=.mk fun A F s Q E hA H hQ=>
 wpAny_Tuple (h.out A F s _ E pos hA H fun ds σ' vs F₁ s₁ ⟨hl,hP⟩ g₁ H₁ V₁=>⟨by rw[V₁.length];exact Zh hl,by
  have g₂:Grow G [] F₁ s₁ _ _:=.push (o:={cls:=.type "tuple",data:=.seq vs.toArray 0}) H₁.fin rfl
  exact hQ _ σ' _ _ _ hP (g₁.trans (.pure g₂)) (H₁.grow g₂) (.tup (FZ.put_self ..) rfl (by simpa using V₁.mono (FZ.le_put H₁.toBase.fresh)))⟩)
theorem zk5{A:Around}{E:Value→Shared→Prop}{F:FZ}{names:List Str}:∀{vs:List Value}{ds:List D}{ρ:Rho}{s:Shared}{Q:Unit→Shared→Prop},Vs G.prog G.w F vs ds→vs.length=names.length→
  (∀x∈names,zG env x)→Holds G env F ρ σ s→(∀s',Grow G (tW env names) F s F s'→Holds G env F ((names.zip ds).reverse++ρ) σ s'→Q () s')→
  wpAny (model G.prog G.w) A (assignInOrder (names.map fun x=>bindName env x) vs) Q E s:=by
 induction names with
 | nil=>
  intro vs ds ρ s Q hv hl hs H hQ
  obtain rfl:=List.eq_nil_of_length_eq_zero hl
  exact wpAny_pure (hQ s (.refl H.fin) H)
 | cons x names ih=>
  intro vs ds ρ s Q hv hl hs H hQ
  cases vs with
  | nil=>cases hl
  | cons v vs=>
   cases ds with
   | nil=>cases hv.inv
   | cons d ds=>
    refine wpAny_bind (wpAny_holding (wpAny_bindName (QL H hv.uncons.1 (hs x (.head _)) fun s' g H'=>ih hv.uncons.2 (Nat.succ.inj hl) (fun y hy=>hs y (.tail _ hy)) H' fun s'' g' H''=>?_)))
    refine hQ s'' ((g.wider fun a ha=>List.mem_append_left _ ha).trans (g'.wider fun a ha=>List.mem_append_right _ ha)) ?_
    rw[List.zip_cons_cons,List.reverse_cons,List.append_assoc]
    exact H''
theorem Vs.reverse{F:FZ}{vs:List Value}{ds:List D}(h:Vs G.prog G.w F vs ds):Vs G.prog G.w F vs.reverse ds.reverse:=
 h.ind (P:=fun vs ds=>Vs G.prog G.w F vs.reverse ds.reverse) .nil fun v d vs ds h _ ih=>by rw[List.reverse_cons,List.reverse_cons];exact ih.append (.cons h .nil)
theorem JY{u4:List Expr}{e:Expr}{names:List Str} {k p pos}{P:Out→Prop}(h:Y G n env e ρ σ fun d σ'=>∃ds,d=.tup ds∧ds.length=names.length∧P (.next ((names.reverse.zip ds.reverse).reverse++ρ) σ'))
  (hk:∀x∈names,zG env x) (hw:swappedStores [.Tuple u4 k p] e env=pure (some names))
  (hs:swapsWithSole [.Tuple u4 k p] e pos.line env=pure false:=by rfl):X1 G n env (.Assign [.Tuple u4 k p] e pos) ρ σ P:=.mk fun A F s Q E hA H hQ=>
 PyProof.Rows.Assign_Tuple_swapped (names:=names) (h.out A F s _ E hA H fun d σ' v F₁ s₁ hP g₁ H₁ V₁=>by
  obtain⟨ds,rfl,hl,hP⟩:=hP
  refine zY (V₁.inv) fun a vs m q4_ x=>?_
  subst q4_
  have hsz:names.length=vs.size:=hl.symm.trans x.2.length.symm
  rw[hsz]
  refine wpAny_unpackItems_tuple hA.handled ⟨_,H₁.fin _ _ x.1,rfl,_,rfl⟩ fun h' he=>?_
  have g₂:=zcV H₁.toBase he
  exact zk5 x.2.reverse (by rw[List.length_reverse,List.length_reverse];exact hsz.symm) (fun x hx=>hk x (List.mem_reverse.mp hx)) (H₁.grow g₂) fun s₃ g₃ H₃=>hQ _ .next F₁ s₃ hP ((g₁.trans (.pure g₂)).trans (.of g₃ zcd fun a h=>.inl h)) H₃) hs hw
inductive Del:Sig→Addr→MO→Sig→Prop
 | head (σ a mo):Del ((a,mo)::σ) a mo σ
 | tail (p) {σ a mo σ'}:Del σ a mo σ'→Del (p::σ) a mo (p::σ')
theorem Del.mem{σ':Sig}{a:Addr}{mo:MO}(h:Del σ a mo σ'):(a,mo)∈σ∧(∀p∈σ',p∈σ)∧((σ.map (·.1)).Nodup→a∉σ'.map (·.1)∧(σ'.map (·.1)).Nodup):=by
 induction h with
 | head σ a mo=>exact⟨List.mem_cons_self,fun p hp=>List.mem_cons_of_mem _ hp,fun hn=>by simpa using hn⟩
 | tail p _ ih=>
  refine z9 ih fun h1 h2 h3=>?_
  refine⟨List.mem_cons_of_mem _ h1,fun q hq=>?_,fun hn=>?_⟩
  ·rcases List.mem_cons.mp hq with rfl | hq
   ·exact List.mem_cons_self
   ·exact List.mem_cons_of_mem _ (h2 q hq)
  ·simp only[List.map_cons,List.nodup_cons] at hn ⊢
   refine zR (h3 hn.2) fun h4 h5=>?_
   refine⟨fun hm=>?_,fun hm=>hn.1 ?_,h5⟩
   ·rcases List.mem_cons.mp hm with e | hm
    ·exact hn.1 (e▸List.mem_map_of_mem (f:=(·.1)) h1)
    ·exact h4 hm
   ·refine zd (List.mem_map.mp hm) fun q hq e=>?_
    exact e▸List.mem_map_of_mem (f:=(·.1)) (h2 q hq)
inductive Frz (a:Addr) (d:D) (ρ:Rho):Rho→Prop
 | nil:Frz a d ρ []
 | same {x:Str}{e:D}{ρ':Rho}:ρ.lookup x=some e→Frz a d ρ ρ'→Frz a d ρ ((x,e)::ρ')
 | froze {x:Str}{ρ':Rho}:ρ.lookup x=some (.raw (.ref a))→Frz a d ρ ρ'→Frz a d ρ ((x,d)::ρ')
theorem Frz.get{a:Addr}{d:D}{ρ ρ':Rho}(h:Frz a d ρ ρ') {x:Str}{e:D}(hx:ρ'.lookup x=some e):ρ.lookup x=some e∨(e=d∧ρ.lookup x=some (.raw (.ref a))):=by
 induction h with
 | nil=>cases hx
 | same h _ ih=>exact(jd hx).elim (fun y=>.inl (y.1▸y.2▸h)) fun y=>ih y.2
 | froze h _ ih=>exact(jd hx).elim (fun y=>.inr ⟨y.2.symm,y.1▸h⟩) fun y=>ih y.2
theorem Holds.frozen{F:FZ}{s:Shared}{a:Addr}{mo:MO}{σ':Sig}{ρ':Rho}(H:Holds G env F ρ σ s) (hd:Del σ a mo σ') (hk:mo.known) (hz:Frz a mo.toD ρ ρ') :
  ∃F',Holds G env F' ρ' σ' s∧Step G env F s σ F' s σ':=by
 refine z9 (hd.mem) fun v6 hsub hnd=>?_
 have hn:=hnd H.nodup
 have x:=H.own _ v6
 refine zd (x.1.frozen hk x.2.1) fun o ho hv=>?_
 have hamem:a∈σ.map (·.1):=List.mem_map_of_mem (f:=(·.1)) v6
 have hle:=FZ.le_put (o:=o) x.2.1
 have hne:∀b,b≠a→F b=none→F.put a o b=none:=fun b hb e=>(FZ.put_ne F o hb).trans e
 have x9:∀b o',F.put a o b=some o'→s.heap.get? b=some o':=fun b o' e=>(FZ.of_put e).elim (fun y=>y.1▸y.2▸ho) (H.fin _ _)
 have hsub1:∀b∈σ'.map (·.1),b∈σ.map (·.1):=fun b hb=>(List.mem_map.mp hb).elim fun p hp=>hp.2▸List.mem_map_of_mem (f:=(·.1)) (hsub p hp.1)
 exact⟨F.put a o,{
  fin:=x9,base:=fun b o' h hx=>hle _ _ (H.base b o' h hx),xF:=hne _ (Ne.symm x.2.2) H.xF,code:=H.code,bare:=H.bare,nodup:=hn.2,kind:=H.kind,globals:=H.globals,builtins:=H.builtins,apart:=H.apart
  own:=fun p hp=>(H.own p (hsub p hp)).imp (fun h1=>h1.mono hle fun o e=>e) fun h=>⟨hne _ (fun e=>hn.1 (e▸List.mem_map_of_mem (f:=(·.1)) hp)) h.1,h.2⟩
  vars:=fun x d hx=>(hz.get hx).elim (fun h=>(H.vars x d h).imp fun v b=>⟨b.1,b.2.mono hle⟩) fun h=>(H.vars x _ h.2).imp fun v b=>⟨b.1,by rw[h.1,show v=.ref a from b.2.inv];exact hv⟩
  locals:=H.locals.imp id fun h=>⟨hne _ (fun e=>h.2.2 (e▸hamem)) h.1,h.2.1,fun hm=>h.2.2 (hsub1 _ hm)⟩
  cells:=fun x c hm'=>(H.cells x c hm').imp id fun h=>⟨hne _ (fun e=>h.2.2.1 (e▸hamem)) h.1,h.2.1,fun hm=>h.2.2.1 (hsub1 _ hm),h.2.2.2⟩},
  hle,fun b o' e=>(FZ.of_put e).elim (fun y=>.inr (.inr (y.1▸List.mem_cons_of_mem _ (List.mem_append_right _ hamem)))) .inl,fun b o' _ _ e=>e,fun b o' e=>⟨o',e⟩,rfl,id,x9,id,fun b hb=>.inl (hsub1 b hb)⟩
theorem Qe{sts:List Stmt}{a:Addr}{mo:MO}{σ':Sig}{ρ':Rho}{P:Out→Prop}(hd:Del σ a mo σ') (hk:mo.known) (hz:Frz a mo.toD ρ ρ') (h:X G n env sts ρ' σ' P):X G n env sts ρ σ P:=.mk fun A F s Q E hA H hQ=>by
 refine zd (H.frozen hd hk hz) fun F' H' g=>?_
 exact h.out A F' s Q E hA H' fun out fl F'' s'' hP g' ho=>hQ out fl F'' s'' hP (g.trans g') ho
end
section
open PySem PySem.W
variable {G:Gx}{n:Nat}{env:Env}{ρ:Rho}{σ:Sig}
structure EnvOk (env:Env) (sc:Scope):Prop where
 kind:∀x k,sc.names.lookup x=some k→k≠.free→env.kindOf x=some k
 free:∀x,sc.names.lookup x=some .free→env.kindOf x=some .cell∨env.kindOf x=some .free
 cells:∀x,sc.names.lookup x=some .cell∨sc.names.lookup x=some .free→(env.cells.lookup x).isSome=true
 fn:env.scope.kind=.function
theorem EnvOk.local{sc:Scope}(h:EnvOk env sc) {x:Str}(e:sc.names.lookup x=some .local):zG env x:=.inl (h.kind x _ e (by decide))
theorem EnvOk.cell{sc:Scope}(h:EnvOk env sc) {x:Str}(e:sc.names.lookup x=some .cell):zG env x:=.inr ⟨h.kind x _ e (by decide),h.cells x (.inl e)⟩
theorem EnvOk.glob{sc:Scope}(h:EnvOk env sc) {x:Str}(e:sc.names.lookup x=some .globalImplicit):env.kindOf x=some .globalImplicit:=h.kind x _ e (by decide)
theorem EnvOk.inter{sc:Scope}(h:EnvOk env sc):interactive env=false:=by unfold interactive;rw[h.fn];rfl
theorem EnvOk.block{sc:Scope}(h:EnvOk env sc):env.blockKind=.function:=by unfold Env.blockKind;rw[h.fn];rfl
noncomputable def Zv(inner v0:Scope):Bool:=
 inner.kind==.function&&decide (inner.names.map (·.1)).Nodup&&inner.names.all fun p=>p.2 != .free||(v0.names.lookup p.1==some .cell||v0.names.lookup p.1==some .free)
theorem EnvOk.fits{sc inner:Scope}(h:EnvOk env sc) (e:Zv inner sc=true):ScopeOk inner env:=
 have e1:=Bool.and_eq_true_iff.mp e
 have e2:=Bool.and_eq_true_iff.mp e1.1
 ⟨eq_of_beq e2.1,of_decide_eq_true e2.2,fun p hp hf=>by
  have:=(Bool.or_eq_true_iff.mp (List.all_eq_true.mp e1.2 p hp)).resolve_left fun h=>bne_iff_ne.mp h hf
  exact(Bool.or_eq_true_iff.mp this).elim (fun h1=>⟨.inl (h.kind _ _ (eq_of_beq h1) (by decide)),h.cells _ (.inl (eq_of_beq h1))⟩) fun h1=>⟨h.free _ (eq_of_beq h1),h.cells _ (.inr (eq_of_beq h1))⟩⟩
theorem zdA{α:Type}{p:Str×α}{l:List (Str×α)}(hnd:(l.map (·.1)).Nodup) (hm:p∈l):l.lookup p.1=some p.2:=by
 induction l with
 | nil=>cases hm
 | cons q l ih=>
  rw[List.lookup_cons]
  rcases List.mem_cons.mp hm with rfl | hm
  ·rw[beq_self_eq_true]
  ·rw[beq_eq_false_iff_ne.mpr fun e:p.1=q.1=>(List.nodup_cons.mp hnd).1 (show q.1∈_ from e▸List.mem_map_of_mem (f:=(·.1)) hm)]
   exact ih (List.nodup_cons.mp hnd).2 hm
theorem EnvOk.comp{inner:Scope}{C:Addr}(h:ScopeOk inner env):EnvOk (qd inner env C) inner where
 kind x k e hk:=QS e hk
 free x e:=zbK e
 cells x e:=e.elim (fun e=>cellsFrom_some _ _ _ (.inl e)) fun e=>cellsFrom_some _ _ _ (.inr ((Option.isSome_iff_exists.mp (h.free _ (mem_of_lookup e) rfl).2).elim fun c hc=>(congrArg Option.isSome (zcC h.nodup e hc)).trans rfl))
 fn:=h.kind
structure FnOk (G:Gx) (f:Addr) (sc:Scope) (ps:List Str) (body:List Stmt):Prop where
 ne:f≠G.X
 ex:∃o fd,G.h₀.get? f=some o∧o.data=.func fd∧fd.body=.stmts body∧fd.scope=sc∧fd.closure=[]∧fd.globals=mainGlobals∧fd.builtins=builtinsNs∧
  (∀h:Heap,(∀a o,G.h₀.get? a=some o→a≠G.X→h.get? a=some o)→h.CodeRec fd.code fd.qualname)∧(∀u5:List Value,u5.length=ps.length→bindArgs fd ⟨u5,[]⟩=pure (ps.zip u5))
noncomputable def qk(sc:Scope) (ps:List Str):Bool:=
 sc.kind==.function&&!sc.isCoroutine&&!sc.isGenerator&&decide (sc.names.map (·.1)).Nodup&&decide ps.Nodup&&(sc.names.all fun p=>p.2 != .free)&&ps.all fun x=>sc.names.lookup x==some .local||sc.names.lookup x==some .cell
theorem zkU{kindOf:Str→Option NameKind}{x:Str}{l:List (Str×Value)}:∀{m:Str→Option Value},x∉l.map (·.1)→bindL kindOf l m x=m x:=by
 induction l with
 | nil=>exact fun _=>rfl
 | cons p l ih=>
  intro m h
  have h:=not_or.mp (mt List.mem_cons.mpr h)
  unfold bindL
  rw[ih h.2]
  by_cases hk:kindOf p.1=some .local
  ·exact(congrFun (if_pos hk) x).trans (if_neg h.1)
  ·exact congrFun (if_neg hk) x
theorem zkV{kindOf:Str→Option NameKind}{x:Str}{v:Value}(hk:kindOf x=some .local) {l:List (Str×Value)}:∀{m:Str→Option Value},(l.map (·.1)).Nodup→(x,v)∈l→bindL kindOf l m x=some v:=by
 induction l with
 | nil=>exact fun _ h=>absurd h List.not_mem_nil
 | cons p l ih=>
  intro m hn h
  unfold bindL
  rcases List.mem_cons.mp h with rfl | h
  ·rw[zkU (List.nodup_cons.mp hn).1,if_pos hk]
   exact if_pos rfl
  ·exact ih (List.nodup_cons.mp hn).2 h
theorem zkW{kindOf:Str→Option NameKind}{x:Str}{l:List (Str×Value)}:∀{m:Str→Option Value},x∉l.map (·.1)→bindC kindOf l m x=m x:=by
 induction l with
 | nil=>exact fun _=>rfl
 | cons p l ih=>
  intro m h
  have h:=not_or.mp (mt List.mem_cons.mpr h)
  unfold bindC
  rw[ih h.2]
  by_cases hk:kindOf p.1=some .local
  ·exact congrFun (if_pos hk) x
  ·exact(congrFun (if_neg hk) x).trans (if_neg h.1)
theorem zkX{kindOf:Str→Option NameKind}{x:Str}{v:Value}(hk:kindOf x=some .cell) {l:List (Str×Value)}:∀{m:Str→Option Value},(l.map (·.1)).Nodup→(x,v)∈l→bindC kindOf l m x=some v:=by
 induction l with
 | nil=>exact fun _ h=>absurd h List.not_mem_nil
 | cons p l ih=>
  intro m hn h
  unfold bindC
  rcases List.mem_cons.mp h with rfl | h
  ·rw[zkW (List.nodup_cons.mp hn).1,if_neg (by rw[hk];decide)]
   exact if_pos rfl
  ·exact ih (List.nodup_cons.mp hn).2 h
theorem zd1{names:List (Str×NameKind)}:∀{k:Nat}{acc:List (Str×Addr)},(names.map (·.1)).Nodup→(acc.map (·.1)).Nodup→(∀x∈acc.map (·.1),x∉names.map (·.1))→((cellsFrom k names acc).map (·.1)).Nodup:=by
 induction names with
 | nil=>exact fun _ h _=>h
 | cons p r ih=>
  intro k acc hn ha hd
  have hn:=List.nodup_cons.mp hn
  unfold cellsFrom
  split
  ·exact ih hn.2 (List.nodup_cons.mpr ⟨fun h=>hd p.1 h (.head _),ha⟩) fun x hx hm=>(List.mem_cons.mp hx).elim (fun e=>hn.1 (e▸hm)) fun hx=>hd x hx (.tail _ hm)
  ·exact ih hn.2 ha fun x hx hm=>hd x hx (.tail _ hm)
theorem zoo{F:FZ}{ps:List Str}{x:Str}{d:D}:∀{vs:List Value}{ds:List D},Vs G.prog G.w F vs ds→vs.length=ps.length→(ps.zip ds).lookup x=some d→∃v,(x,v)∈ps.zip vs∧V G.prog G.w F v d:=by
 induction ps with
 | nil=>exact fun _ _ h=>zH rfl h
 | cons p ps ih=>
  intro vs ds hv hl h
  cases ds with
  | nil=>exact zH rfl h
  | cons e ds=>
   refine Qd (hv.inv) fun v vs' q1_ y=>?_
   subst q1_
   rcases jd (ρ:=ps.zip ds) h with⟨rfl,rfl⟩ | ⟨_,h⟩
   ·exact⟨v,.head _,y.1⟩
   ·exact(ih y.2 (Nat.succ.inj hl) h).imp fun _ z=>⟨.tail _ z.1,z.2⟩
theorem Heap.nolim'{F:FZ}{s:Shared}(H:Base G F σ s):s.heap.NoLimit:=by
 exact G.nolim.imp fun _ x=>⟨H.gns x.1,x.2⟩
theorem map_fst_zip{ps:List Str}{vs:List Value}(h:vs.length=ps.length):(ps.zip vs).map (·.1)=ps:=by
 exact List.map_fst_zip (Nat.le_of_eq h.symm)
noncomputable def ZU(P:D→Sig→Prop):Out→Prop
 | .ret d σ=>P d σ
 | .next _ σ=>P .none σ
 | _=>False
noncomputable def zhV(fl:Flow):Value:=match fl with
 | .ret v=>v
 | _=>.none
inductive FinO (G:Gx) (env:Env) (F:FZ) (s:Shared) (P:D→Sig→Prop) (out:Out) (fl:Flow):Prop
 | mk (d:D) (ρ:Rho):P d out.sg→Holds G env F ρ out.sg s→V G.prog G.w F (zhV fl) d→FinO G env F s P out fl
theorem zcn{F:FZ}{s:Shared}{P:D→Sig→Prop}{out:Out}{fl:Flow}(hP:ZU P out) (ho:OutOk G env F s out fl):FinO G env F s P out fl:=by
 revert hP
 apply ho.elim
 ·exact fun ρ σ H hP=>⟨.none,ρ,hP,H,.none⟩
 ·exact fun _ _ _ hP=>False.elim hP
 ·exact fun _ _ _ hP=>False.elim hP
 ·exact fun d σ v H hP=>H.1.elim fun ρ H'=>⟨d,ρ,hP,H',H.2⟩
theorem zg4{sc:Scope}{ps:List Str}(h:qk sc ps=true):sc.kind=.function∧sc.isCoroutine=false∧sc.isGenerator=false∧(sc.names.map (·.1)).Nodup∧ps.Nodup∧(∀p∈sc.names,p.2≠.free)∧∀x∈ps,sc.names.lookup x=some .local∨sc.names.lookup x=some .cell:=
 have a1:=Bool.and_eq_true_iff.mp h
 have a2:=Bool.and_eq_true_iff.mp a1.1
 have a3:=Bool.and_eq_true_iff.mp a2.1
 have a4:=Bool.and_eq_true_iff.mp a3.1
 have a5:=Bool.and_eq_true_iff.mp a4.1
 have a6:=Bool.and_eq_true_iff.mp a5.1
 ⟨eq_of_beq a6.1,(Bool.not_eq_true' _▸a6.2:_),(Bool.not_eq_true' _▸a5.2:_),of_decide_eq_true a4.2,of_decide_eq_true a3.2,fun p hp=>bne_iff_ne.mp (List.all_eq_true.mp a2.2 p hp),fun x hx=>(Bool.or_eq_true_iff.mp (List.all_eq_true.mp a1.2 x hx)).imp eq_of_beq eq_of_beq⟩
theorem zi2{ps:List Str}{vs:List Value}{ds:List D}{F:FZ}{s s₁:Shared}(H:Base G F σ s) (hv:Vs G.prog G.w F vs ds) (hlen:vs.length=ps.length) (x:InCallC s env.locals (bindL env.kindOf (ps.zip vs) fun _=>none) env.cells (bindC env.kindOf (ps.zip vs) fun _=>none) s₁)
  (hk:∀x∈ps,env.kindOf x=some .local∨(env.kindOf x=some .cell∧(env.cells.lookup x).isSome=true)) (hps:ps.Nodup) (hcn:(env.cells.map (·.1)).Nodup) (kind:env.scope.kind=.function) (hgl:env.globals=mainGlobals) (hbu:env.builtins=builtinsNs) :
  (∀a∈fw env σ,s.heap.get? a=none∨a∈σ.map (·.1))∧s.heap.get? env.locals=none∧Grow G [] F s F s₁∧Holds G env F (ps.zip ds) σ s₁:=by
 refine Qd (x.done) fun h' tk q2_ hkeep=>?_
 subst q2_
 have g:Grow G [] F s F {s with heap:=h',toks:=tk}:=.of_keep H.fin hkeep
 have clo:∀y c,(y,c)∈env.cells→s.heap.objs.size≤c:=fun y c hm=>Nat.le_of_lt (Nat.lt_of_le_of_lt x.toInCall.fresh (x.above y c hm))
 have hz:((ps.zip vs).map (·.1)).Nodup:=by rw[map_fst_zip hlen];exact hps
 refine⟨fun a ha=>?_,Heap.get?_none_of_le x.toInCall.fresh,g,{
  toBase:=H.grow g,kind:=kind,globals:=hgl,builtins:=hbu,apart:=x.apart
  vars:=fun y d hy=>(zoo hv hlen hy).imp fun v z=>⟨(hk y (List.of_mem_zip z.1).1).imp (fun h=>⟨h,_,x.toInCall.ns,zkV h hz z.1⟩) fun h=>by
   refine Exists.elim (Option.isSome_iff_exists.mp h.2) fun c hc=>?_
   have e:=x.cell y c hc
   rw[zkX h.1 hz z.1] at e
   exact⟨.inl h.1,c,hc,e⟩,z.2⟩
  locals:=⟨⟨_,x.toInCall.ns⟩,H.noF x.toInCall.fresh,H.noX x.toInCall.fresh,H.noσ x.toInCall.fresh⟩
  cells:=fun y c hm=>⟨⟨_,x.cell y c (zdA hcn hm)⟩,H.noF (clo y c hm),H.noX (clo y c hm),H.noσ (clo y c hm),Nat.ne_of_gt (x.above y c hm)⟩}⟩
 unfold fw at ha
 rcases List.mem_cons.mp ha with h | h
 ·exact .inl (h▸Heap.get?_none_of_le x.toInCall.fresh)
 ·exact(List.mem_append.mp h).imp (fun h=>(List.mem_map.mp h).elim fun(p:Str×Addr) hp=>(hp.2:p.2=a)▸Heap.get?_none_of_le (clo p.1 p.2 hp.1)) id
theorem AOk.deeper{A:Around}(hA:AOk (n+1) A) (env:Env):AOk n (A.deeper env):=⟨hA.handled,Nat.le_trans (Nat.le_of_eq (Nat.add_right_comm A.depth 1 n)) hA.depth,
 Nat.le_trans (Nat.le_of_eq (Nat.add_right_comm A.units 3 (10*n))) (Nat.le_trans (Nat.add_le_add_left (by decide:3≤10) (A.units+10*n)) hA.units)⟩
theorem zcY{f:Addr}{sc:Scope}{ps:List Str}{body:List Stmt}{A:Around}{F:FZ}{s:Shared}{R:Result→Shared→Prop}{vs:List Value}{ds:List D}
  (hf:FnOk G f sc ps body) (hsc:qk sc ps=true) (hA:AOk (n+1) A) (H:Base G F σ s) (hv:Vs G.prog G.w F vs ds) (hl:ds.length=ps.length)
  (hb:∀(env:Env) (s₁:Shared),EnvOk env sc→(∀o fd,G.h₀.get? f=some o→o.data=.func fd→env.code=fd.code)→env.frame=some env.locals→(∀a∈fw env σ,s.heap.get? a=none∨a∈σ.map (·.1))→s.heap.get? env.locals=none→Step G env F s σ F s₁ σ→Grow G [] F s F s₁→Holds G env F (ps.zip ds) σ s₁→AOk n (A.deeper env)→
   wpAny (model G.prog G.w) (A.deeper env) (execs body env) (fun fl s'=>R (.ok (.ret (match fl with | .ret v=>v | _=>.none))) s') (fun e s'=>wpAny (model G.prog G.w) (A.deeper env) (leaving env e) (fun _ s''=>R (.error e) s'') (fun e' s''=>R (.error e') s'') s') s₁) :
  codeAny (model G.prog G.w) A (.call (.ref f) ⟨vs,[]⟩) R s:=by
 refine zpw (hf.ex) fun o fd ho hd hbody q3_ hclo hgl hbu hcr hba=>?_
 subst q3_
 have hlen:vs.length=ps.length:=hv.length.trans hl
 have k:=zg4 hsc
 have hE:EnvOk (callEnvC fd s.heap.objs.size f) fd.scope:=⟨fun y k e _=>e,fun y e=>.inr e,fun y e=>e.elim (fun e=>cellsFrom_some _ _ _ (.inl e)) fun e=>absurd rfl (k.2.2.2.2.2.1 _ (mem_of_lookup e)),k.1⟩
 refine codeAny_call_cells (Nat.lt_of_le_of_lt (Nat.le_trans (Nat.le_add_right _ _) hA.depth) (by decide)) (H.h0 ho hf.ne) hd (Heap.nolim' H) (hcr _ fun a o e hx=>H.h0 e hx) hbody (hba vs hlen) hclo (fun x hx=>(k.2.2.2.2.2.2 _ (List.of_mem_zip (a:=x.1) (b:=x.2) hx).1).imp id fun h=>⟨h,cellsFrom_some _ _ _ (.inl h)⟩) (fun s₁ x=>?_) k.2.1 k.2.2.1 k.1
 have y:=zi2 H hv hlen x (fun x hx=>(k.2.2.2.2.2.2 x hx).imp id fun h=>⟨h,cellsFrom_some _ _ _ (.inl h)⟩) k.2.2.2.2.1 (zd1 k.2.2.2.1 List.nodup_nil fun _ h=>absurd h List.not_mem_nil) k.1 hgl hbu
 exact hb _ _ hE (fun o' fd' e e'=>by rw[←Z1 ho e,hd] at e';cases e';rfl) rfl y.1 y.2.1 (.pure y.2.2.1) y.2.2.1 y.2.2.2 (hA.deeper _)
theorem zl6{f:Addr}{sc:Scope}{ps:List Str}{body:List Stmt}{A:Around}{F:FZ}{s:Shared}{R:Result→Shared→Prop}{vs:List Value}{ds:List D}
  (hf:FnOk G f sc ps body) (hsc:qk sc ps=true) (hA:AOk (n+1) A) (H:Base G F σ s) (hv:Vs G.prog G.w F vs ds) (hl:ds.length=ps.length)
  (hb:∀(env:Env) (s₁:Shared),EnvOk env sc→env.frame=some env.locals→(∀a∈fw env σ,s.heap.get? a=none∨a∈σ.map (·.1))→s.heap.get? env.locals=none→Step G env F s σ F s₁ σ→Grow G [] F s F s₁→Holds G env F (ps.zip ds) σ s₁→AOk n (A.deeper env)→
   wpAny (model G.prog G.w) (A.deeper env) (execs body env) (fun fl s'=>R (.ok (.ret (match fl with | .ret v=>v | _=>.none))) s') (fun e s'=>wpAny (model G.prog G.w) (A.deeper env) (leaving env e) (fun _ s''=>R (.error e) s'') (fun e' s''=>R (.error e') s'') s') s₁) :
  codeAny (model G.prog G.w) A (.call (.ref f) ⟨vs,[]⟩) R s:=zcY hf hsc hA H hv hl fun env s₁ hE _=>hb env s₁ hE
theorem zfH{f:Addr}{sc:Scope}{ps:List Str}{body:List Stmt}{A:Around}{F:FZ}{s:Shared}{Q E:Value→Shared→Prop}{vs:List Value}{ds:List D}
  (hf:FnOk G f sc ps body) (hsc:qk sc ps=true) (hA:AOk (n+1) A) (H:Base G F σ s) (hv:Vs G.prog G.w F vs ds) (hl:ds.length=ps.length)
  (hb:∀(env:Env) (s₁:Shared),EnvOk env sc→env.frame=some env.locals→(∀a∈fw env σ,s.heap.get? a=none∨a∈σ.map (·.1))→s.heap.get? env.locals=none→Step G env F s σ F s₁ σ→Grow G [] F s F s₁→Holds G env F (ps.zip ds) σ s₁→AOk n (A.deeper env)→
   wpAny (model G.prog G.w) (A.deeper env) (execs body env) (fun fl s'=>Q (match fl with | .ret v=>v | _=>.none) s') (fun e s'=>wpAny (model G.prog G.w) (A.deeper env) (leaving env e) (fun _ s''=>E e s'') (fun e' s''=>E e' s'') s') s₁) :
  wpAny (model G.prog G.w) A (call (.ref f) vs) Q E s:=wpAny_call (zcY hf hsc hA H hv hl fun env s₁ hE _=>hb env s₁ hE)
theorem zh9{f:Addr}{sc:Scope}{ps:List Str}{body:List Stmt}{A:Around}{F:FZ}{s:Shared}{Q E:Value→Shared→Prop}{vs:List Value}{ds:List D}{P:D→Sig→Prop}
  (hf:FnOk G f sc ps body) (hsc:qk sc ps=true) (hA:AOk (n+1) A) (H:Base G F σ s) (hv:Vs G.prog G.w F vs ds) (hl:ds.length=ps.length)
  (hb:∀env,EnvOk env sc→(∀o fd,G.h₀.get? f=some o→o.data=.func fd→env.code=fd.code)→X G n env body (ps.zip ds) σ (ZU P))
  (hQ:∀d σ' env ρ' F' s' v,P d σ'→(∀a∈fw env σ,s.heap.get? a=none∨a∈σ.map (·.1))→Step G env F s σ F' s' σ'→Holds G env F' ρ' σ' s'→V G.prog G.w F' v d→Q v s') :
  wpAny (model G.prog G.w) A (call (.ref f) vs) Q E s:=by
 refine wpAny_call (zcY hf hsc hA H hv hl fun env s₁ hE hCd _ hfw _ g _ H₁ hA'=>(hb env hE hCd).out (A.deeper env) F _ _ _ hA' H₁ fun out fl F' s' hP g₂ u3=>?_)
 obtain⟨d,ρ',hP,H',hv⟩:=zcn hP u3
 exact hQ d out.sg env ρ' F' s' _ hP hfw (g.trans g₂) H' hv
theorem zgw{f:Addr}{sc:Scope}{ps:List Str}{body:List Stmt}{ds:List D}{d:D}(hf:FnOk G f sc ps body) (hsc:qk sc ps=true) (hl:ds.length=ps.length)
  (hb:∀env,EnvOk env sc→(∀o fd,G.h₀.get? f=some o→o.data=.func fd→env.code=fd.code)→X G n env body (ps.zip ds) [] (ZU fun d' _=>d'=d)):CallJ G (n+1) σ (.ref f) ds d:=.mk fun A F s Q E vs hA H hv hQ=>
 zh9 (σ:=[]) hf hsc hA {H with own:=fun p hp=>absurd hp List.not_mem_nil,nodup:=List.nodup_nil} hv hl hb fun d' σ' env ρ' F' s' v hP hfw gs H' hv'=>
  hQ v F' s' (gs.grow fun a ha=>.inl ((hfw a ha).elim id fun h=>absurd h List.not_mem_nil)) (hP▸hv')
theorem zaJ{f:Addr}{sc:Scope}{ps:List Str}{body:List Stmt}{ds:List D}{d:D}(hf:FnOk G f sc ps body) (hsc:qk sc ps=true) (hl:ds.length=ps.length)
  (hb:∀env,EnvOk env sc→X G n env body (ps.zip ds) [] (ZU fun d' _=>d'=d)):CallJ G (n+1) σ (.ref f) ds d:=zgw hf hsc hl fun env hE _=>hb env hE
structure CallM (G:Gx) (n:Nat) (f:Value) (ds:List D) (a:Addr) (mo:MO) (d:D) (mo':MO):Prop where
 out:∀(A:Around) (F:FZ) (s:Shared) (Q E:Value→Shared→Prop) (vs:List Value),AOk n A→Base G F [(a,mo)] s→Vs G.prog G.w F vs ds→
  (∀v F' s',Grow G [a] F s F' s'→MAt G F' s'.heap a mo'→F' a=none→V G.prog G.w F' v d→Q v s')→wpAny (model G.prog G.w) A (call f vs) Q E s
theorem zoM{f:Addr}{sc:Scope}{ps:List Str}{body:List Stmt}{ds:List D}{d:D}{a:Addr}{mo mo':MO}(hf:FnOk G f sc ps body) (hsc:qk sc ps=true) (hl:ds.length=ps.length)
  (hb:∀env,EnvOk env sc→X G n env body (ps.zip ds) [(a,mo)] (ZU fun d' σ'=>d'=d∧(a,mo')∈σ')):CallM G (n+1) (.ref f) ds a mo d mo':=.mk fun A F s Q E vs hA H hv hQ=>
 zh9 (σ:=[(a,mo)]) hf hsc hA H hv hl (fun env hE _=>hb env hE) fun d' σ' env ρ' F' s' v hP hfw gs H' hv'=>
  have x:=H'.own _ hP.2
  hQ v F' s' (gs.grow fun b hb=>(hfw b hb).imp id fun h=>have e:b=a:=List.mem_singleton.mp h;e.symm▸⟨.head _,x.2.1⟩) x.1 x.2.1 (hP.1▸hv')
end
section
open PySem PySem.W
variable {G:Gx}{n:Nat}{env:Env}{ρ:Rho}{σ:Sig}
theorem j0{u4:List Expr}{k:Nat}{pos:Pos}{names:List Str}{I:Addr}{F₀:FZ}{fp wr:List Addr}{dss:List (List D)}{Pt:Nat→Array Value→Prop}{St:Nat→Heap→Prop}{Mid:Nat→Addr→Heap→Prop}
  (W:∀A:Around,A.handled=none→WalksU G.prog G.w A I fp wr dss.length Pt St Mid) (hP:∀(i:Nat) (u5:Array Value) (ds:List D),Pt i u5→dss[i]?=some ds→Vs G.prog G.w F₀ u5.toList ds)
  (hn:Z4 u4=some names) (hl:∀ds∈dss,ds.length=names.length) (hfp:∀b∈fp,b∈wr∨∃o,F₀ b=some o) (hdom:∀i h,St i h→∀b∈wr,∃o,h.get? b=some o)
  (hdomM:∀i T h,Mid i T h→∀b∈wr,∃o,h.get? b=some o) :
  HeadJ G n (.Tuple u4 k pos) names I F₀ fp wr (dss.map fun ds=>(names.zip ds).reverse) St where
 self i A s Q E hA hst hQ:=(W A hA).self i s Q E hst hQ
 sub:=(W {handled:=none} rfl).sub
 fpF:=hfp
 frame:=(W {handled:=none} rfl).frame
 dom:=hdom
 step i b hbi env hs A F s ρ σ E Q hA h0 H ho hst hQ:=by
  have hi:i<dss.length:=List.length_map (as:=dss) _▸(List.getElem?_eq_some_iff.mp hbi).1
  have hd:dss[i]?=some dss[i]:=List.getElem?_eq_getElem hi
  have hb:b=(names.zip dss[i]).reverse:=by rw[List.getElem?_map,hd] at hbi;exact(Option.some.inj hbi).symm
  refine(W A hA.handled).item i s _ E hi hst fun T u5 h' tk hPv hT hm hk=>?_
  have g₁:Grow G wr F s F {s with heap:=h',toks:=tk}:=.heap H.toBase hk (hdomM _ _ _ hm) ho.fz ho.x
  refine(W A hA.handled).go u4 k pos i T {s with heap:=h',toks:=tk} _ E hm fun h₂ hst₂ hk₂=>?_
  have g₂:Grow G wr F {s with heap:=h',toks:=tk} F {s with heap:=h₂,toks:=tk}:=.heap (H.growOff g₁ ho).toBase hk₂ (hdom _ _ hst₂) ho.fz ho.x
  have H₂:=(H.growOff g₁ ho).growOff g₂ ho
  have hv:Vs G.prog G.w F u5.toList dss[i]:=(hP i u5 _ hPv hd).mono h0
  have hlen:u5.size=names.length:=hv.length.trans (hl _ (List.getElem_mem hi))
  refine wpAny_assign_Tuple hA.handled (hT.at fun o e=>hk₂ _ _ ((W A hA.handled).apart _ _ _ hm) e) ((Q9 env hn).1.trans hlen.symm) (Q9 env hn).2 fun h₃ he=>?_
  have g₃:=zcV H₂.toBase he
  refine zdb hn hv hlen hs (H₂.grow g₃) fun s₄ g₄ H₄=>?_
  refine hQ F s₄ ((((g₁.trans g₂).trans (g₃.wider zx)).wider fun a ha=>List.mem_append_left _ ha).trans (g₄.wider fun a ha=>List.mem_append_right _ ha)) (hb▸H₄) ?_
  refine(W A hA.handled).frame _ _ _ ((W A hA.handled).frame _ _ _ hst₂ fun c hc o e=>he c o (Nat.ne_of_lt (Heap.lt_size e)) e) fun c hc o e=>?_
  exact(hfp c hc).elim (fun h=>g₄.keep c o (ho.x c h) (ho.not_tW h) e) fun x=>x.elim fun o' h=>Z1 ((H₂.grow g₃).fin _ _ (h0 _ _ h)) e▸H₄.fin _ _ (h0 _ _ h)
 done A s E Q hA hst hQ:=(W A hA.handled).done s Q E (List.length_map (as:=dss) _▸hst) hQ
theorem zep:entryFor table "dict_itemiterator.__iter__"=some Builtin.«dict_keyiterator.__iter__»:=
 entryFor_alias (id':="dict_keyiterator.__iter__") (by kernel_rfl) rfl (by decide +kernel) (by kernel_rfl)
theorem zdl{prog:Program}{w:World}{A:Around}{s:Shared}{E:Value→Shared→Prop}{it d:Addr}{i n ep:Nat}{ok ov:Value}{Q:Value→Shared→Prop}(hit:IsItemIter s.heap it d i n ep ok ov) (h:Q (.ref it) s):wpAny (model prog w) A (pyIter (.ref it)) Q E s:=by
 have hT:s.TypeIs (.ref it) "dict_itemiterator":=⟨_,hit,rfl⟩
 refine wpAny_pyIter_slot hT PySem.F.slot_dict_itemiterator_iter (wpAny_call_entry PySem.F.slot_dict_itemiterator_iter hT zep ?_ (PySem.F.args_dict_itemiterator_iter_1 _))
 show wpAny _ _ (ret (.ref it)) _ _ s
 exact wpAny_pure ⟨_,rfl,"dict_itemiterator",_,hT,PySem.F.slot_dict_itemiterator_next.lookup,h⟩
section
variable {K:Type} [DecidableEq K] {knd:KeyKind G.prog G.w K}
theorem zgY{A:Around}(hh:A.handled=none) (I d:Addr) (hne:d≠I) (kvs:List (K×Value)) (ep:Nat) :
  WalksU G.prog G.w A I [I,d] [I] kvs.length (fun i u5=>∃k key v,kvs[i]?=some (k,v)∧knd.is k key=true∧u5=#[key,v])
   (fun i h=>(∃ok ov,IsItemIter h I d i kvs.length ep ok ov)∧h.DictAt knd d kvs ep)
   (fun i T h=>(∃ok ov,IsItemIterOut h I d (i+1) kvs.length ep ok ov T)∧h.DictAt knd d kvs ep∧T≠I) where
 sub:=fun b hb=>List.mem_singleton.mp hb▸.head _
 frame:=fun i h h' st hk=>⟨st.1.imp fun _ x=>x.imp fun _ e=>hk I (.head _) _ e,st.2.at' fun o e=>hk d (.tail _ (.head _)) o e⟩
 item:=fun i s Q E hi st hQ=>by
  refine Zu (st.1) fun ok ov hit=>?_
  refine wpAny_pyNext_items_item hit st.2 (List.getElem?_eq_getElem hi) fun key h' x6 u3 hT hsz hk=>?_
  exact hQ s.heap.objs.size _ h' s.toks ⟨_,key,_,List.getElem?_eq_getElem hi,x6,rfl⟩ ⟨_,hT,rfl,_,rfl⟩ ⟨⟨_,_,u3⟩,st.2.at' fun o e=>hk d o hne e,Nat.ne_of_gt (Heap.lt_size hit)⟩ fun b o hb e=>hk b o (fun h=>hb (h▸.head _)) e
 go:=fun u4 k pos i T s Q E hm hQ=>by
  refine Zu (hm.1) fun ok ov ho=>?_
  exact wpAny_letOwnedTupleGo_items ho fun h' he' hs'=>hQ h' ⟨⟨_,_,he'⟩,hm.2.1.at' fun o e=>hs'.extBut d o hne e⟩ fun b o hb e=>hs'.extBut b o (fun h=>hb (h▸.head _)) e
 apart:=fun i T h hm hT=>hm.2.2 (List.mem_singleton.mp hT)
 done:=fun s Q E hst hQ=>hst.1.elim fun ok x=>x.elim fun ov hit=>wpAny_pyNext_items_end hh hit hst.2 (by simp) fun h' he'=>hQ h' s.toks fun b o hb e=>he' b o (fun h=>hb (h▸.head _)) e
 self:=fun i s Q E hst hQ=>hst.1.elim fun ok x=>x.elim fun ov hit=>zdl hit hQ
end
noncomputable def HeadAt(G:Gx) (n:Nat) (F:FZ) (s:Shared) (u0:Expr) (names:List Str) (bs:List Rho) (Q:Value→Shared→Prop):Prop:=
 ∀I fp wr St F' s',Grow G [] F s F' s'→HeadJ G n u0 names I F' fp wr bs St→St 0 s'.heap→(∀a∈wr,s.heap.get? a=none∧(∃o,s'.heap.get? a=some o)∧F' a=none)→Q (.ref I) s'
structure ItC (G:Gx) (n:Nat) (σ:Sig) (f:Value) (ds:List D) (u0:Expr) (names:List Str) (bs:List Rho):Prop where
 out:∀(A:Around) (F:FZ) (s:Shared) (Q E:Value→Shared→Prop) (vs:List Value),AOk n A→Base G F σ s→Vs G.prog G.w F vs ds→HeadAt G n F s u0 names bs Q→
  wpAny (model G.prog G.w) A (call f vs) (fun x s₁=>wpAny (model G.prog G.w) A (pyIter x) Q E s₁) E s
theorem HeadAt.back{F F₁:FZ}{s s₁:Shared}{u0:Expr}{names:List Str}{bs:List Rho}{Q:Value→Shared→Prop}(h:HeadAt G n F s u0 names bs Q) (g:Grow G [] F s F₁ s₁):HeadAt G n F₁ s₁ u0 names bs Q:=
 fun I fp wr St F' s' g' J st hwr=>h I fp wr St F' s' (g.trans g') J st fun a ha=>⟨Zi g (hwr a ha).1,(hwr a ha).2⟩
theorem Zw{f:Expr}{args:List Expr} {pos}{fv:Value}{ds:List D}{u0:Expr}{names:List Str}{bs:List Rho}(hf:PE G n env f ρ σ (.raw fv)) (ha:PEs G n env args ρ σ ds) (hc:ItC G n σ fv ds u0 names bs) (hk:ji G σ fv)
  (hs:qr args:=by intro _ _;rfl)
  (he:∀env,eval (.Call f args [] pos) env=(do callWith pos (←eval f env) [] (backTo pos (starEach args env)) (backToKw pos (keywordEach [] env))):=by intro _;rfl) :
  ItE G n env (.Call f args [] pos) ρ σ u0 names bs:=.mk fun A F s Q E hA H hQ=>by
 rw[he]
 refine wpAny_bind (hf.out A F s _ E hA H fun v F₁ s₁ g₁ V₁=>?_)
 obtain rfl:=V₁.inv
 exact jn hs hk (ha.out A F₁ s₁ _ E pos hA (H.grow g₁) fun vs F₂ s₂ g₂ V₂=>⟨⟨F₂,((H.grow g₁).grow g₂).toBase⟩,hc.out A F₂ s₂ Q E vs hA ((H.grow g₁).grow g₂).toBase V₂ (HeadAt.back hQ (g₁.trans g₂))⟩)
noncomputable def qb(x:Str) (a c:Int) (k:Nat):List Rho:=(List.range k).map fun(i:Nat)=>[(x,.int (a+i*c))]
theorem zba{F:FZ}{s:Shared}{Q E:Value→Shared→Prop}{A:Around}{x:Str}{px:Pos}{r:Addr}{a b c:Int}{t u v:Tok}(H:Base G F σ s) (hr:IsRange s.heap r a b c t u v) (hsm:Builtin.Range.small a b c=true)
  (hQ:HeadAt G n F s (.Name x px) [x] (qb x a c (Builtin.Range.rangeSize a b c).toNat) Q):wpAny (model G.prog G.w) A (pyIter (.ref r)) Q E s:=by
 refine wpAny_pyIter_range hr hsm ?_
 have h0:0≤Builtin.Range.rangeSize a b c:=by
  unfold Builtin.Range.rangeSize
  split<;>split<;>try lia
  ·have:=Int.ediv_nonneg (a:=b-a-1) (b:=c) (by lia) (by lia);lia
  ·rename_i h1 h2
   have:=Int.ediv_nonneg (a:=a-b-1) (b:=-c) (by lia) (by lia);lia
 generalize hk:(Builtin.Range.rangeSize a b c).toNat=k at *
 rw[show Builtin.Range.rangeSize a b c=(k:Int) from hk▸(Int.toNat_of_nonneg h0).symm]
 refine zbW (as:=[]) (ds:=(List.range k).map fun(i:Nat)=>D.int (a+i*c)) (P:=fun i v=>∃t,v=.int (a+i*c) t) (St:=fun i h=>IsRangeIter h s.heap.objs.size (a+(i:Nat)*c) ((k:Int)-(i:Nat)) c) (.name x px) (BindsL.map fun y _=>.name x px _) H zx rfl
  (fun A hA=>?_) (fun i v d hP hd=>?_) (fun i h st=>⟨_,st⟩) (fun A' E' i v s' Q' st hq=>wpAny_pure hq) ?_ hQ
 ·rw[List.length_map,List.length_range]
  exact Walks.range hA s.heap.objs.size a c k
 ·obtain⟨t',rfl⟩:=hP
  rw[List.getElem?_map] at hd
  refine zd (Option.map_eq_some_iff.mp hd) fun j hj q28_=>?_
  subst q28_
  obtain⟨h7,rfl⟩:=List.getElem?_eq_some_iff.mp hj
  rw[List.getElem_range]
  exact .int _ _
 ·have:=Heap.get?_push_size s.heap (o:={cls:=.type "range_iterator",data:=.fields #[rawInt a,rawInt (k:Int),rawInt c]}) rfl
  show Heap.get? _ _=_
  simpa using this
theorem za8{x:Str}{px:Pos}{b:Int}(hsm:Builtin.Range.small 0 b 1=true):ItC G n σ (.type "range") [.int b] (.Name x px) [x] (qb x 0 1 (Builtin.Range.rangeSize 0 b 1).toNat):=.mk fun A F s Q E vs hA H hv hQ=>by
 refine zd (hv.one) fun v q5_ h1=>?_
 subst q5_
 refine Exists.elim (h1.inv) fun _ q4_=>?_
 subst q4_
 refine call_range_1 ?_
 refine zba (H.grow (?g:Grow G [] F s F _)) (IsRange.new ..) hsm (hQ.back ?g)
 exact .of_keep H.fin fun _ _ e=>Heap.get?_push_of_some _ e
theorem zdG{x:Str}{px:Pos}{a b:Int}(hsm:Builtin.Range.small a b 1=true):ItC G n σ (.type "range") [.int a,.int b] (.Name x px) [x] (qb x a 1 (Builtin.Range.rangeSize a b 1).toNat):=.mk fun A F s Q E vs hA H hv hQ=>by
 refine Zk (hv.two) fun v u q8_ h1 h2=>?_
 subst q8_
 refine Exists.elim (h1.inv) fun _ q7_=>?_
 subst q7_
 refine Exists.elim (h2.inv) fun _ q6_=>?_
 subst q6_
 refine call_range_2 ?_
 refine zba (H.grow (?g:Grow G [] F s F _)) (IsRange.new ..) hsm (hQ.back ?g)
 exact .of_keep H.fin fun _ _ e=>Heap.get?_push_of_some _ e
theorem zdF{x:Str}{px:Pos}{a b c:Int}(hsm:Builtin.Range.small a b c=true) (hc:c≠0) (hp:Builtin.divisionGoesByPylong (b-a) c=false):ItC G n σ (.type "range") [.int a,.int b,.int c] (.Name x px) [x] (qb x a c (Builtin.Range.rangeSize a b c).toNat):=.mk fun A F s Q E vs hA H hv hQ=>by
 obtain⟨v,_,rfl,h1,hv⟩:=hv.inv
 refine Zk (hv.two) fun u z q32_ h2 h3=>?_
 subst q32_
 obtain⟨_,rfl⟩:=h1.inv
 obtain⟨_,rfl⟩:=h2.inv
 obtain⟨_,rfl⟩:=h3.inv
 refine call_range_3 hc ?_ (.inl hp)
 refine zba (H.grow (?g:Grow G [] F s F _)) (IsRange.new ..) hsm (hQ.back ?g)
 exact .of_keep H.fin fun _ _ e=>Heap.get?_push_of_some _ e
noncomputable def za2(ds:List D):List (List D):=ds.zipIdx.map fun p=>[.int p.2,p.1]
theorem zbw{u4:List Expr}{names:List Str}{pos:Pos}{k:Nat}{ds:List D}(hn:Z4 u4=some names) (h2:names.length=2):ItC G n σ (.type "enumerate") [.lst ds] (.Tuple u4 k pos) names ((za2 ds).map fun l=>(names.zip l).reverse):=.mk fun A F s Q E vs hA H hv hQ=>by
 refine zd (hv.one) fun _ q19_ h1=>?_
 subst q19_
 refine qC (h1.inv) fun l vs m q18_ hF hvs=>?_
 subst q18_
 have e:=H.fin _ _ hF
 have hlt:=Heap.lt_size e
 have hL:s.heap.IsList l vs:=⟨_,e,rfl,_,rfl⟩
 refine call_enumerate_list hL fun h' he hit hsz hk=>wpAny_pyIter_enum he ?_
 have g:Grow G [] F s F {s with heap:=h'}:=.of_keep (tk:=s.toks) H.fin hk
 refine hQ (s.heap.objs.size+1) [s.heap.objs.size+1,s.heap.objs.size,l] [s.heap.objs.size+1,s.heap.objs.size]
  (fun i h=>(∃old,IsEnum h (s.heap.objs.size+1) s.heap.objs.size i old)∧h.IsListIter s.heap.objs.size l i∧h.IsList l vs) F _ g
  (j0 (fun A hA=>?_) (fun i u5 ds' hP hd=>?_) hn (fun d hd=>?_) (all_cons (.inl (.head _)) (all_cons (.inl (.tail _ (.head _))) (all_cons (.inr ⟨_,hF⟩) zx))) (fun i h st=>all_cons (st.1.elim fun _ x=>⟨_,x⟩) (all_cons (st.2.1.imp fun _ x=>x.1) zx)) (fun i T h st=>all_cons (st.1.elim fun _ x=>⟨_,x⟩) (all_cons (st.2.1.imp fun _ x=>x.1) zx))
   (Pt:=fun i u5=>∃t x,vs[i]?=some x∧u5=#[.int i t,x])
   (Mid:=fun i T h=>(∃x,IsEnumOut h (s.heap.objs.size+1) s.heap.objs.size ((i:Int)+1) x T)∧h.IsListIter s.heap.objs.size l (i+1)∧h.IsList l vs∧T≠s.heap.objs.size+1∧T≠s.heap.objs.size)) ⟨⟨_,he⟩,hit,hL.at fun o e=>hk _ o e⟩
  (all_cons ⟨Heap.get?_none_of_le (Nat.le_succ _),⟨_,he⟩,H.noF (Nat.le_succ _)⟩ (all_cons ⟨QR _,hit.imp fun _ x=>x.1,H.fresh⟩ zx))
 ·rw[show(za2 ds).length=vs.size from(List.length_map _).trans (List.length_zipIdx.trans hvs.length.symm)]
  exact(WalksT.enumerate hA (s.heap.objs.size+1) s.heap.objs.size l (Nat.succ_ne_self _) (Nat.ne_of_lt (Nat.lt_succ_of_lt hlt)) (Nat.ne_of_lt hlt) vs).toU
 ·refine Qd hP fun t x hx q17_=>?_
  subst q17_
  unfold za2 at hd
  rw[List.getElem?_map,List.getElem?_zipIdx] at hd
  refine zd (Option.map_eq_some_iff.mp hd) fun p hp q16_=>?_
  subst q16_
  refine zd (Option.map_eq_some_iff.mp hp) fun d h6 q15_=>?_
  subst q15_
  rw[Nat.zero_add]
  exact .cons (.int _ _) (.cons (zaK hvs hx h6) .nil)
 ·refine zd (List.mem_map.mp hd) fun p _ q14_=>?_
  subst q14_
  exact h2.symm
theorem na{N a b:Nat}(h:a≠b):N+a≠N+b:=fun e=>h (Nat.add_left_cancel e)
theorem zaf{N l:Nat}(k:Nat) (h:l<N):l≠N+k:=Nat.ne_of_lt (Nat.lt_of_lt_of_le h (Nat.le_add_right N k))
theorem zez(N l1 l2:Nat) (h1:l1<N) (h2:l2<N):ZipApart (N+4) (N+2) (N+3) N (N+1) l1 l2:=
 ⟨na (by decide),na (by decide),na (a:=0) (by decide),na (by decide),na (by decide),na (b:=0) (by decide),na (by decide),na (b:=0) (by decide),na (by decide),na (a:=0) (by decide),zaf 4 h1,zaf 3 h1,zaf 0 h1,zaf 1 h1,zaf 4 h2,zaf 3 h2,zaf 0 h2,zaf 1 h2⟩
noncomputable def zc6(ds es:List D):List (List D):=List.zipWith (fun a b=>[a,b]) ds es
theorem zny{u4:List Expr}{names:List Str}{pos:Pos}{k:Nat}{ds es:List D}(hn:Z4 u4=some names) (h2:names.length=2):ItC G n σ (.type "zip") [.lst ds,.lst es] (.Tuple u4 k pos) names ((zc6 ds es).map fun l=>(names.zip l).reverse):=.mk fun A F s Q E vs hA H hv hQ=>by
 refine Zk (hv.two) fun _ _ q25_ h1 h2'=>?_
 subst q25_
 refine qC (h1.inv) fun l1 vs1 m q24_ hF hvs=>?_
 subst q24_
 refine qC (h2'.inv) fun l2 vs2 m2 q23_ hF2 hvs2=>?_
 subst q23_
 have e1:=H.fin _ _ hF
 have e2:=H.fin _ _ hF2
 have hL1:s.heap.IsList l1 vs1:=⟨_,e1,rfl,_,rfl⟩
 have hL2:s.heap.IsList l2 vs2:=⟨_,e2,rfl,_,rfl⟩
 refine call_zip_2 hL1 hL2 fun h' hz hTI hTO hi1 hi2 hsz hk=>wpAny_pyIter_zip hz ?_
 have g₀:Grow G [] F s F {s with heap:=h'}:=.of_keep (tk:=s.toks) H.fin hk
 have big:∀k,s.heap.get? (s.heap.objs.size+k)=none∧F (s.heap.objs.size+k)=none:=fun k=>⟨Heap.get?_none_of_le (Nat.le_add_right _ _),H.noF (Nat.le_add_right _ _)⟩
 have put:∀{o k},k≠2→F.put (s.heap.objs.size+2) o (s.heap.objs.size+k)=none:=fun h=>(FZ.put_ne _ _ (na h)).trans (big _).2
 have g:=g₀.freeze (big 2).1 (big 2).2 hTI
 have hlt1:=Heap.lt_size e1
 have hlt2:=Heap.lt_size e2
 generalize s.heap.objs.size=N at *
 refine hQ (N+4) [N+4,N+2,N+3,N,N+1,l1,l2] [N+4,N+3,N,N+1] (fun i h=>IsZip h (N+4) (N+2) (N+3) .none∧IsPair h (N+2) (.ref N) (.ref (N+1))∧(∃a b,IsPair h (N+3) a b)∧h.IsListIter N l1 i∧h.IsListIter (N+1) l2 i∧h.IsList l1 vs1∧h.IsList l2 vs2) _ _ g
  (j0 (fun A hA=>?_) (fun i u5 ds' hP hd=>?_) hn (fun d hd=>?_)
   (all_cons (.inl (.head _)) (all_cons (.inr ⟨_,FZ.put_self ..⟩) (all_cons (.inl (.tail _ (.head _))) (all_cons (.inl (.tail _ (.tail _ (.head _)))) (all_cons (.inl (.tail _ (.tail _ (.tail _ (.head _))))) (all_cons (.inr ⟨_,g.le _ _ hF⟩) (all_cons (.inr ⟨_,g.le _ _ hF2⟩) zx)))))))
   (fun i h st=>all_cons ⟨_,st.1⟩ (all_cons (st.2.2.1.elim fun _ x=>x.elim fun _ x=>⟨_,x⟩) (all_cons (st.2.2.2.1.imp fun _ x=>x.1) (all_cons (st.2.2.2.2.1.imp fun _ x=>x.1) zx))))
   (fun i T h st=>all_cons ⟨_,st.1⟩ (all_cons (st.2.2.1.elim fun _ x=>x.elim fun _ x=>⟨_,x⟩) (all_cons (st.2.2.2.1.imp fun _ x=>x.1) (all_cons (st.2.2.2.2.1.imp fun _ x=>x.1) zx))))
   (Pt:=fun i u5=>∃x y,vs1[i]?=some x∧vs2[i]?=some y∧u5=#[x,y])
   (Mid:=fun i T h=>IsZip h (N+4) (N+2) (N+3) (rawInt T)∧IsPair h (N+2) (.ref N) (.ref (N+1))∧(∃a b,IsPair h (N+3) a b)∧h.IsListIter N l1 (i+1)∧h.IsListIter (N+1) l2 (i+1)∧h.IsList l1 vs1∧h.IsList l2 vs2∧
    T≠N+4∧T≠N+3∧T≠N∧T≠N+1)) ⟨hz,hTI,⟨_,_,hTO⟩,hi1,hi2,hL1.at fun o e=>hk _ o e,hL2.at fun o e=>hk _ o e⟩
  (all_cons ⟨(big 4).1,⟨_,hz⟩,put (by decide)⟩ (all_cons ⟨(big 3).1,⟨_,hTO⟩,put (by decide)⟩ (all_cons ⟨(big 0).1,hi1.imp fun _ x=>x.1,put (k:=0) (by decide)⟩ (all_cons ⟨(big 1).1,hi2.imp fun _ x=>x.1,put (by decide)⟩ zx))))
 ·rw[show(zc6 ds es).length=min vs1.size vs2.size from List.length_zipWith.trans (congr (congrArg min hvs.length.symm) hvs2.length.symm)]
  exact(WalksT.zip2 hA (N+4) (N+2) (N+3) N (N+1) l1 l2 (zez N l1 l2 hlt1 hlt2) vs1 vs2).toU
 ·refine Zk hP fun x y hx hy q22_=>?_
  subst q22_
  refine Zk (List.getElem?_zipWith_eq_some.mp hd) fun d e h6 h7 q21_=>?_
  subst q21_
  exact .cons ((zaK hvs hx h6).mono g.le) (.cons ((zaK hvs2 hy h7).mono g.le) .nil)
 ·refine Exists.elim (List.getElem?_of_mem hd) fun i hi=>?_
  refine Zk (List.getElem?_zipWith_eq_some.mp hi) fun d e h6 h7 q20_=>?_
  subst q20_
  exact h2.symm
end
section
open PySem PySem.W
variable {G:Gx}{n:Nat}{env:Env}{ρ:Rho}{σ:Sig}
noncomputable def zey(G:Gx) (σ:Sig) (d:D) (T:String):Prop:=∀(F:FZ) (s:Shared) (v:Value),Base G F σ s→V G.prog G.w F v d→s.TypeIs v T∧(∀a,v=.ref a→∃ob,s.heap.get? a=some ob∧ob.dict=none)
theorem Z9{d:D}{l:List D}(h:Rd σ d (.lst l)):zey G σ d "list":=fun F s v H hv=>by
 refine zY (ZA H hv h) fun a vs m q1_ x=>?_
 subst q1_
 exact⟨⟨_,x.1,rfl⟩,fun b e=>Value.ref.inj e▸⟨_,x.1,rfl⟩⟩
theorem zcW{K:Type} [DecidableEq K] {knd:KeyKind G.prog G.w K}{s:Shared}{a:Addr}{o:Obj}{kvs:List (K×Value)}(hD:DictO knd o kvs) (e:s.heap.get? a=some o):s.TypeIs (.ref a) "dict"∧(∀b,Value.ref a=.ref b→∃ob,s.heap.get? b=some ob∧ob.dict=none):=by
 refine Zu hD fun es ep x=>?_
 exact⟨⟨_,e,x.1.1⟩,fun b h=>Value.ref.inj h▸⟨_,e,x.1.2.1⟩⟩
theorem zeb{d:D}{l:List (Str×D)}(h:Rd σ d (.dicS l)):zey G σ d "dict":=fun F s v H hv=>by
 refine zY (zaz H hv h) fun a o kvs q3_ x=>?_
 subst q3_
 exact zcW x.2.2.1 x.1
theorem zmZ{d:D}{l:List (Int×D)}(h:Rd σ d (.dicI l)):zey G σ d "dict":=fun F s v H hv=>by
 refine zY (zej H hv h) fun a o kvs q4_ x=>?_
 subst q4_
 exact zcW x.2.2.1 x.1
theorem zdc{x:Str}:zey G σ (.str x) "str":=fun F s v H hv=>by
 refine Exists.elim (hv.inv) fun _ q5_=>?_
 subst q5_
 exact⟨rfl,fun b e=>nomatch e⟩
structure Meth (T:String) (name:Str) (id:String):Prop where
 pa:PlainAttrs T
 slot:Slot T name id
 ty:typeOf (.builtin id)=pure (.type "method_descriptor")
theorem Ji{o:Expr}{name:Str}{u8 pos:Pos}{args:List Expr}{T id:String}{A:Around}{s:Shared}{Q E:Value→Shared→Prop}(hm:Meth T name id)
  (h:wpAny (model G.prog G.w) A (eval o env) (fun ov s₁=>s₁.TypeIs ov T∧(∀a,ov=.ref a→∃ob,s₁.heap.get? a=some ob∧ob.dict=none)∧
   wpAny (model G.prog G.w) A (spliced (backTo pos (starEach args env))) (fun vs s₂=>wpAny (model G.prog G.w) A (call (.builtin id) (ov::vs)) Q E s₂) E s₁) E s)
  (hs:qr args)
  (x3:attributeBase o name env (eval o env)=eval o env)
  (hfew:((backTo pos (starEach args env)).all (fun x=>!x.1)&&(backToKw pos (keywordEach [] env)).all (fun x=>x.1.isSome)
   && decide (args.length+([]:List Keyword).length+(if ([]:List Keyword).isEmpty then 0 else 1)<30))=true)
  (x4:(u8.endLine==pos.line)=true):wpAny (model G.prog G.w) A (eval (.Call (.Attribute o name u8) args [] pos) env) Q E s:=
 wpAny_Call_method x3 hfew x4 hm.pa hm.slot hm.ty (wpAny_mono h (fun ov s₁ x=>⟨x.1,x.2.1,Calls.callWith_builtin (hs pos env) (qy (hs pos env) x.2.2)⟩) fun _ _ x=>x)
theorem Qs{o:Expr}{name:Str}{u8 pos:Pos}{args:List Expr}{T id:String}{d₀ d:D}{ds:List D}(hm:Meth T name id) (ho:PE G n env o ρ σ d₀) (ht:zey G σ d₀ T) (ha:PEs G n env args ρ σ ds) (hc:CallJ G n σ (.builtin id) (d₀::ds) d)
  (hs:qr args:=by intro _ _;rfl)
  (x3:attributeBase o name env (eval o env)=eval o env:=by rfl)
  (hfew:((backTo pos (starEach args env)).all (fun x=>!x.1)&&(backToKw pos (keywordEach [] env)).all (fun x=>x.1.isSome)
   && decide (args.length+([]:List Keyword).length+(if ([]:List Keyword).isEmpty then 0 else 1)<30))=true:=by rfl)
  (x4:(u8.endLine==pos.line)=true:=by rfl):PE G n env (.Call (.Attribute o name u8) args [] pos) ρ σ d:=.mk fun A F s Q E hA H hQ=>
 Ji hm (ho.out A F s _ E hA H fun v₀ F₁ s₁ g₁ V₁=>by
  have t:=ht F₁ s₁ v₀ (H.grow g₁).toBase V₁
  exact⟨t.1,t.2,ha.out A F₁ s₁ _ E pos hA (H.grow g₁) fun vs F₂ s₂ g₂ V₂=>hc.out A F₂ s₂ Q E _ hA ((H.grow g₁).grow g₂).toBase (.cons (V₁.mono g₂.le) V₂) fun v F' s' g₃ hv=>hQ v F' s' ((g₁.trans g₂).trans g₃) hv⟩) hs x3 hfew x4
structure CallY (G:Gx) (n:Nat) (env:Env) (ρ:Rho) (σ:Sig) (f:Value) (ds:List D) (P:D→Sig→Prop):Prop where
 out:∀(A:Around) (F:FZ) (s:Shared) (Q E:Value→Shared→Prop) (vs:List Value),AOk n A→Holds G env F ρ σ s→Vs G.prog G.w F vs ds→
  (∀d σ' v F' s',P d σ'→Step G env F s σ F' s' σ'→Holds G env F' ρ σ' s'→V G.prog G.w F' v d→Q v s')→wpAny (model G.prog G.w) A (call f vs) Q E s
theorem Z8{o:Expr}{name:Str}{u8 pos:Pos}{args:List Expr}{T id:String}{d₀:D}{P:D→Sig→Prop}(hm:Meth T name id) (ho:PE G n env o ρ σ d₀)
  (ht:zey G σ d₀ T) (ha:Ys G n env args ρ σ fun ds σ'=>CallY G n env ρ σ' (.builtin id) (d₀::ds) P)
  (hs:qr args:=by intro _ _;rfl)
  (x3:attributeBase o name env (eval o env)=eval o env:=by rfl)
  (hfew:((backTo pos (starEach args env)).all (fun x=>!x.1)&&(backToKw pos (keywordEach [] env)).all (fun x=>x.1.isSome)
   && decide (args.length+([]:List Keyword).length+(if ([]:List Keyword).isEmpty then 0 else 1)<30))=true:=by rfl)
  (x4:(u8.endLine==pos.line)=true:=by rfl):Y G n env (.Call (.Attribute o name u8) args [] pos) ρ σ P:=.mk fun A F s Q E hA H hQ=>
 Ji hm (ho.out A F s _ E hA H fun v₀ F₁ s₁ g₁ V₁=>by
  have t:=ht F₁ s₁ v₀ (H.grow g₁).toBase V₁
  exact⟨t.1,t.2,ha.out A F₁ s₁ _ E pos hA (H.grow g₁) fun ds σ' vs F₂ s₂ hc g₂ H₂ V₂=>hc.out A F₂ s₂ Q E _ hA H₂ (.cons (V₁.mono g₂.le) V₂) fun d σ'' v F' s' hP g₃ H₃ hv=>hQ d σ'' v F' s' hP (((Step.pure g₁).trans g₂).trans g₃) H₃ hv⟩) hs x3 hfew x4
theorem Jg{f:Expr}{args:List Expr} {pos}{fv:Value}{P:D→Sig→Prop}(hf:PE G n env f ρ σ (.raw fv)) (ha:Ys G n env args ρ σ fun ds σ'=>CallY G n env ρ σ' fv ds P) (hk:∀σ,ji G σ fv)
  (hs:qr args:=by intro _ _;rfl)
  (he:∀env,eval (.Call f args [] pos) env=(do callWith pos (←eval f env) [] (backTo pos (starEach args env)) (backToKw pos (keywordEach [] env))):=by intro _;rfl) :
  Y G n env (.Call f args [] pos) ρ σ P:=.mk fun A F s Q E hA H hQ=>by
 rw[he]
 refine wpAny_bind (hf.out A F s _ E hA H fun v F₁ s₁ g₁ V₁=>?_)
 obtain rfl:=V₁.inv
 refine callWith_of (P:=fun h=>∃F' s' σ',Base G F' σ' s'∧s'.heap=h) (by rw[hs pos env];rfl) (fun h x=>x.elim fun F' x=>x.elim fun s' x=>x.elim fun σ' x=>x.2▸hk σ' F' s' x.1) ?_
 refine qy (hs pos env) (ha.out A F₁ s₁ _ E pos hA (H.grow g₁) fun ds σ' vs F₂ s₂ hc g₂ H₂ V₂=>⟨⟨F₂,s₂,σ',H₂.toBase,rfl⟩,?_⟩)
 exact hc.out A F₂ s₂ Q E vs hA H₂ V₂ fun d σ'' v F' s' hP g₃ H₃ hv=>hQ d σ'' v F' s' hP (((Step.pure g₁).trans g₂).trans g₃) H₃ hv
theorem Holds.turned{F F':FZ}{s s':Shared}{a:Addr}{mo mo':MO}{σ':Sig}(H:Holds G env F ρ σ s) (u:Upd σ a mo mo' σ') (g:Grow G [a] F s F' s') (hm:MAt G F' s'.heap a mo') (hF:F' a=none):Holds G env F' ρ σ' s'∧Step G env F s σ F' s' σ':=by
 have v6:a∈σ.map (·.1):=List.mem_map_of_mem (f:=(·.1)) u.mem
 have hX:=(H.own _ u.mem).2.2
 have keep:∀b o,b≠G.X→b≠a→s.heap.get? b=some o→s'.heap.get? b=some o:=fun b o h1 h2 e=>g.keep b o h1 (fun h=>h2 (List.mem_singleton.mp h)) e
 exact⟨{
  fin:=g.fin,base:=fun b o h hx=>g.le _ _ (H.base b o h hx),xF:=H.code.elim fun _ hc=>Za g H.xF hc.atX,code:=g.code H.code,bare:=g.gens H.bare,nodup:=u.map▸H.nodup,kind:=H.kind,globals:=H.globals,builtins:=H.builtins,apart:=H.apart
  own:=fun p hp=>(u.of_mem H.nodup p hp).elim (fun e=>e▸⟨hm,hF,hX⟩) fun y=>(H.own p y.1).elim fun h1 h2=>⟨h1.mono g.le fun o e=>keep _ _ h2.2 y.2 e,h1.some.elim fun _ e=>Za g h2.1 e,h2.2⟩
  vars:=fun x d h=>(H.vars x d h).imp fun v b=>⟨b.1.at (fun o e=>keep _ _ H.locals.2.2.1 (fun e'=>H.locals.2.2.2 (e'▸v6)) e) (fun c hc o e=>keep _ _ (H.cells x c (mem_of_lookup hc)).2.2.1 (fun e'=>(H.cells x c (mem_of_lookup hc)).2.2.2.1 (e'▸v6)) e),b.2.mono g.le⟩
  locals:=H.locals.1.elim fun m hn=>⟨⟨m,hn.at' fun o e=>keep _ _ H.locals.2.2.1 (fun e'=>H.locals.2.2.2 (e'▸v6)) e⟩,hn.elim fun _ x=>x.elim fun _ x=>x.elim fun _ x=>Za g H.locals.2.1 x.1,H.locals.2.2.1,u.map▸H.locals.2.2.2⟩
  cells:=fun x c hc=>(H.cells x c hc).1.elim fun v hv=>hv.elim fun o ho=>⟨⟨v,o,keep _ _ (H.cells x c hc).2.2.1 (fun e'=>(H.cells x c hc).2.2.2.1 (e'▸v6)) ho.1,ho.2⟩,Za g (H.cells x c hc).2.1 ho.1,(H.cells x c hc).2.2.1,u.map▸(H.cells x c hc).2.2.2.1,(H.cells x c hc).2.2.2.2⟩},
  .of g (all_cons (List.mem_cons_of_mem _ (List.mem_append_right _ v6)) zx) fun b hb=>.inl (u.map▸hb)⟩
theorem zb7{f:Value}{ds:List D}{d:D}{a:Addr}{mo mo':MO}{σ':Sig}{P:D→Sig→Prop}(h:CallM G n f ds a mo d mo') (u:Upd σ a mo mo' σ') (hp:P d σ'):CallY G n env ρ σ f ds P:=.mk fun A F s Q E vs hA H hv hQ=>by
 have hB:Base G F [(a,mo)] s:={H.toBase with own:=all_cons (H.own _ u.mem) zx,nodup:=List.nodup_cons.mpr ⟨List.not_mem_nil,List.nodup_nil⟩}
 exact h.out A F s Q E vs hA hB hv fun v F' s' g hm hF hv'=>hQ d σ' v F' s' hp (H.turned u g hm hF).2 (H.turned u g hm hF).1 hv'
end
section
open PySem PySem.W
variable {G:Gx}{n:Nat}{env:Env}{ρ:Rho}{σ:Sig}
theorem qR:Meth "list" "append" "list.append":=⟨PySem.F.plainAttrs_list,PySem.F.slot_list_append,PySem.F.type_list_append⟩
theorem za5:Meth "list" "extend" "list.extend":=⟨PySem.F.plainAttrs_list,PySem.F.slot_list_extend,PySem.F.type_list_extend⟩
theorem zlE:Meth "dict" "values" "dict.values":=⟨PySem.F.plainAttrs_dict,PySem.F.slot_dict_values,PySem.F.type_dict_values⟩
theorem znq:Meth "dict" "items" "dict.items":=⟨PySem.F.plainAttrs_dict,PySem.F.slot_dict_items,PySem.F.type_dict_items⟩
theorem zmu:Meth "dict" "get" "dict.get":=⟨PySem.F.plainAttrs_dict,PySem.F.slot_dict_get,PySem.F.type_dict_get⟩
theorem zns:Meth "list" "count" "list.count":=⟨PySem.F.plainAttrs_list,PySem.F.slot_list_count,PySem.F.type_list_count⟩
theorem znr:Meth "list" "index" "list.index":=⟨PySem.F.plainAttrs_list,PySem.F.slot_list_index,PySem.F.type_list_index⟩
theorem zhN:Meth "str" "split" "str.split":=⟨PySem.F.plainAttrs_str,PySem.F.slot_str_split,PySem.F.type_str_split⟩
theorem zj8:Meth "str" "join" "str.join":=⟨PySem.F.plainAttrs_str,PySem.F.slot_str_join,PySem.F.type_str_join⟩
theorem ZS{a:Addr}{l:List D}{d:D}{σ':Sig}{P:D→Sig→Prop}(u:Upd σ a (.lst l) (.lst (l++[d])) σ') (hp:P .none σ') (hl:l.length≤1000000):CallY G n env ρ σ (.builtin "list.append") [.raw (.ref a),d] P:=.mk fun A F s Q E vs hA H hv hQ=>by
 refine Zk (hv.two) fun _ w q1_ h1 h2=>?_
 subst q1_
 obtain rfl:=h1.inv
 have y:=H.own _ u.mem
 refine Zu (y.1) fun vs m x=>?_
 refine wpAny_list_append_plain ⟨m,x.1⟩ (fun h' hp' hs=>hp'.elim fun m' e'=>?_) (Zh (Nat.le_trans (Nat.le_of_eq x.2.length) hl))
 have hm':MAt G F h' a (.lst (l++[d])):=⟨_,m',e',by rw[Array.toList_push];exact x.2.append (.cons h2 .nil)⟩
 have z:=H.upd (tk:=s.toks) u hs hm'
 exact hQ _ _ _ F _ hp (H.turned u z.2 hm' y.2.1).2 z.1 .none
theorem zku{a b:Nat}(h:a+b≤1000000) (c:Bool):¬(c&&Builtin.List.listTooLong (a+b))=true:=by
 have:=Zh h
 unfold Builtin.List.listTooLong
 simp only[Bool.and_eq_true,decide_eq_true_eq,not_and]
 intro _;lia
theorem zfp(xs ys:Array Value) (m:Nat):∃m',Obj.mapSeq (fun x=>x++ys) {cls:=.type "list",data:=.seq xs m}={cls:=.type "list",data:=.seq (xs++ys) m'}:=by
 simp[Obj.mapSeq]
theorem jQ{a:Addr}{l l':List D}{d:D}{σ':Sig}{P:D→Sig→Prop}(u:Upd σ a (.lst l) (.lst (l++l')) σ') (hr:Rd σ d (.lst l')) (hp:P .none σ') (hl:l.length+l'.length≤1000000):CallY G n env ρ σ (.builtin "list.extend") [.raw (.ref a),d] P:=.mk fun A F s Q E vs hA H hv hQ=>by
 refine Zk (hv.two) fun _ w q3_ h1 h2=>?_
 subst q3_
 obtain rfl:=h1.inv
 have y:=H.own _ u.mem
 refine Zu (y.1) fun vs m x=>?_
 refine zY (ZA H.toBase h2 hr) fun b vs2 m2 q2_ x2=>?_
 subst q2_
 have hl':vs.size+vs2.size≤1000000:=Nat.le_trans (Nat.le_of_eq (congr (congrArg (·+·) x.2.length) x2.2.length)) hl
 refine call_meets PySem.F.slot_list_extend ⟨_,x.1,rfl⟩ PySem.F.entry_list_extend (PySem.F.args_list_extend_2 _ _) (AutoSeq1.list_extend_list_list_0 a vs m b vs2 m2 (zku hl' _) (Zh (Nat.le_trans (Nat.le_add_right _ _) hl')) (Nat.le_succ_of_le (Zh hl'))) ⟨x.1,x2.1,?_⟩
 refine Exists.elim (zfp vs vs2 m) fun m' em=>?_
 have e':(s.heap.update a (Obj.mapSeq fun x=>x++vs2)).get? a=some {cls:=.type "list",data:=.seq (vs++vs2) m'}:=(Heap.get?_update_self _ x.1 (by rw[em];rfl)).trans (congrArg some em)
 have hm':MAt G F (s.heap.update a (Obj.mapSeq fun x=>x++vs2)) a (.lst (l++l')):=⟨_,m',e',by rw[Array.toList_append];exact x.2.append x2.2⟩
 have z:=H.upd (tk:=s.toks) u (Heap.SameBut.update ..) hm'
 exact hQ _ _ _ F _ hp (H.turned u z.2 hm' y.2.1).2 z.1 .none
inductive Put:Sig→D→D→D→Sig→Prop
 | dicS {σ a l k v σ'}:Upd σ a (.dicS l) (.dicS (Zl l k v)) σ'→l.length≤1000000→Put σ (.raw (.ref a)) (.str k) v σ'
 | dicI {σ a l k v σ'}:Upd σ a (.dicI l) (.dicI (Zl l k v)) σ'→l.length≤1000000→Put σ (.raw (.ref a)) (.int k) v σ'
theorem zhq{K:Type} [DecidableEq K] {knd:KeyKind G.prog G.w K}{mk:List (K×D)→MO}{A:Around}{F:FZ}{s:Shared}{Q:Unit→Shared→Prop}{E:Value→Shared→Prop}{a:Addr}{l:List (K×D)}{k:K}{d:D}{v₂ v₃:Value}{σ':Sig}
  (hM:∀F h a l,MAt G F h a (mk l)=∃o kvs,h.get? a=some o∧a≠sysModules∧DictO knd o kvs∧kvs.map (·.1)=l.map (·.1)∧Vs G.prog G.w F (kvs.map (·.2)) (l.map (·.2)))
  (H:Holds G env F ρ σ s) (u:Upd σ a (mk l) (mk (Zl l k d)) σ') (hl:l.length≤1000000) (h2:knd.is k v₂=true) (h3:V G.prog G.w F v₃ d)
  (hQ:∀s',Step G env F s σ F s' σ'→Holds G env F ρ σ' s'→Q () s'):wpAny (model G.prog G.w) A (setItem (.ref a) v₂ v₃) Q E s:=by
 have y:=H.own _ u.mem
 refine Zu (hM _ _ _ _▸y.1) fun o kvs x=>?_
 refine wpAny_setItem_pairs (knd:=knd) (k:=k) h2 (x.2.2.1.of x.1) (fun h' hp hs=>?_) (Zh (Nat.le_trans (Nat.le_of_eq (jX x.2.2.2.1)) hl))
 refine Exists.elim (DictO.to hp) fun o' e'=>?_
 have hm':MAt G F h' a (mk (Zl l k d)):=by rw[hM];exact⟨o',_,e'.1,x.2.1,e'.2,zaU (k:=k) h3 x.2.2.2.1 x.2.2.2.2⟩
 have z:=H.upd (tk:=s.toks+1) u hs hm'
 exact hQ _ (H.turned u z.2 hm' y.2.1).2 z.1
theorem zjq{A:Around}{F:FZ}{s:Shared}{Q:Unit→Shared→Prop}{E:Value→Shared→Prop}{d₁ d₂ d₃:D}{v₁ v₂ v₃:Value}{σ':Sig}(H:Holds G env F ρ σ s) (h:Put σ d₁ d₂ d₃ σ') (h1:V G.prog G.w F v₁ d₁) (h2:V G.prog G.w F v₂ d₂) (h3:V G.prog G.w F v₃ d₃)
  (hQ:∀s',Step G env F s σ F s' σ'→Holds G env F ρ σ' s'→Q () s'):wpAny (model G.prog G.w) A (setItem v₁ v₂ v₃) Q E s:=by
 cases h with
 | dicS u hl=>
  obtain rfl:=h1.inv
  exact zhq (knd:=strKind G.prog G.w) (mk:=.dicS) (fun _ _ _ _=>rfl) H u hl (zdf h2) h3 hQ
 | dicI u hl=>
  obtain rfl:=h1.inv
  exact zhq (knd:=intKind G.prog G.w) (mk:=.dicI) (fun _ _ _ _=>rfl) H u hl (zgp h2) h3 hQ
theorem jo{o i value:Expr}{pos' pos:Pos}{P:Out→Prop}(hv:Y G n env value ρ σ fun d σ₁=>∃d₁ d₂ σ',PE G n env o ρ σ₁ d₁∧PE G n env i ρ σ₁ d₂∧Put σ₁ d₁ d₂ d σ'∧P (.next ρ σ'))
  (hs:swapsWith value (some (.Subscript o i pos')) pos.line env=pure false:=by rfl):X1 G n env (.Assign [.Subscript o i pos'] value pos) ρ σ P:=.mk fun A F s Q E hA H hQ=>
 wpAny_Assign_Subscript (hv.out A F s _ E hA H fun d σ₁ v F₁ s₁ x g₁ H₁ V₁=>x.elim fun d₁ x=>x.elim fun d₂ x=>x.elim fun σ' x=>x.1.out A F₁ s₁ _ E hA H₁ fun v₁ F₂ s₂ g₂ V₂=>x.2.1.out A F₂ s₂ _ E hA (H₁.grow g₂) fun v₂ F₃ s₃ g₃ V₃=>
  zjq ((H₁.grow g₂).grow g₃) x.2.2.1 (V₂.mono g₃.le) V₃ (V₁.mono (g₂.le.trans g₃.le)) fun s₄ g₄ H₄=>hQ _ .next F₃ s₄ x.2.2.2 ((g₁.trans (.pure (g₂.trans g₃))).trans g₄) H₄) hs
theorem zjl{o i value:Expr}{pos' pos:Pos}{op:Operator}{d₁ d₂ d₃ d₄ d:D}{σ':Sig}{P:Out→Prop}(ho:PE G n env o ρ σ d₁) (hi:PE G n env i ρ σ d₂) (hg:GetJ G n σ d₁ d₂ d₃) (hv:PE G n env value ρ σ d₄) (hop:InpJ G n σ op d₃ d₄ d) (hput:Put σ d₁ d₂ d σ') (hP:P (.next ρ σ'))
  (hst:∀ov iv new,augStore i ov iv new=(do holding [new,ov,iv] (setItem ov iv new);release [new,ov,iv] [];pure .next):=by intros;rfl):X1 G n env (.AugAssign (.Subscript o i pos') op value pos) ρ σ P:=.mk fun A F s Q E hA H hQ=>
 wpAny_AugAssign_SubscriptAny (ho.out A F s _ E hA H fun v₁ F₁ s₁ g₁ V₁=>hi.out A F₁ s₁ _ E hA (H.grow g₁) fun v₂ F₂ s₂ g₂ V₂=>by
  have H₂:=(H.grow g₁).grow g₂
  refine(hg.out A F₂ s₂ _ E v₁ v₂ hA H₂.toBase (V₁.mono g₂.le) V₂ fun v₃ F₃ s₃ g₃ V₃=>hv.out A F₃ s₃ _ E hA (H₂.grow g₃) fun v₄ F₄ s₄ g₄ V₄=>hop.out A F₄ s₄ _ E v₃ v₄ hA ((H₂.grow g₃).grow g₄).toBase (V₃.mono g₄.le) V₄ fun v F₅ s₅ g₅ V₅=>?_).2
  exact zjq (((H₂.grow g₃).grow g₄).grow g₅) hput (V₁.mono (g₂.le.trans (g₃.le.trans (g₄.le.trans g₅.le)))) (V₂.mono (g₃.le.trans (g₄.le.trans g₅.le))) V₅ fun s₆ g₆ H₆=>hQ _ .next F₅ s₆ hP ((Step.pure ((((g₁.trans g₂).trans g₃).trans g₄).trans g₅)).trans g₆) H₆) hst
theorem zam{a b:Int}:InpJ G n σ .Add (.int a) (.int b) (.int (a+b)):=.mk fun A F s Q E v₁ v₂ hA H h₁ h₂ h=>by
 refine Exists.elim (h₁.inv) fun _ q5_=>?_
 subst q5_
 refine Exists.elim (h₂.inv) fun _ q4_=>?_
 subst q4_
 exact wpAny_iadd_int (h _ F _ (.tok H.fin) (.int _ _))
theorem zeY{o:Expr}{u8 pos:Pos}{u4:List Expr}{k:Nat}{tpos:Pos}{names:List Str}{ds:List (Str×D)}(ho:PE G n env o ρ σ (.dicS ds)) (hn:Z4 u4=some names) (h2:names.length=2)
  (x3:attributeBase o "items" env (eval o env)=eval o env:=by rfl) (x4:(u8.endLine==pos.line)=true:=by rfl) :
  ItE G n env (.Call (.Attribute o "items" u8) [] [] pos) ρ σ (.Tuple u4 k tpos) names ((ds.map fun p=>[.str p.1,p.2]).map fun l=>(names.zip l).reverse):=.mk fun A F s Q E hA H hQ=>
 Ji znq (ho.out A F s _ E hA H fun v₀ F₁ s₁ g₁ V₁=>by
  have H₁:=H.grow g₁
  have t:=zeb (.self _) F₁ s₁ v₀ H₁.toBase V₁
  refine⟨t.1,t.2,wpAny_items_nil ?_⟩
  refine zY (V₁.inv) fun a o kvs q11_ y=>?_
  subst q11_
  have e:=H₁.fin _ _ y.1
  refine call_meetsIn PySem.F.slot_dict_items t.1 PySem.F.entry_dict_items (PySem.F.args_dict_items_1 _) (meets_dict_items (strKind G.prog G.w) a (beq_eq_false_iff_ne.mpr y.2.1)) ⟨⟨_,y.2.2.1.of e⟩,?_⟩
  have gA:Grow G [] F₁ s₁ F₁ {s₁ with heap:=s₁.heap.push {cls:=.type "dict_items",data:=.fields #[.ref a]}}:=.push0 H₁.fin
  have hFn:F₁ (s₁.heap.push {cls:=.type "dict_items",data:=.fields #[.ref a]}).objs.size=none:=(H₁.grow gA).toBase.fresh
  have hNn:=Zi gA (QR (s₁.heap.push {cls:=.type "dict_items",data:=.fields #[.ref a]}))
  have e1:(s₁.heap.push {cls:=.type "dict_items",data:=.fields #[.ref a]}).get? a=some o:=Heap.get?_push_of_some _ e
  have hio:∃o,(s₁.heap.push {cls:=.type "dict_items",data:=.fields #[.ref a]}).get? s₁.heap.objs.size=some o∧o={cls:=.type "dict_items",data:=.fields #[.ref a]}:=⟨_,Heap.get?_push_size _ rfl,rfl⟩
  generalize s₁.heap.push {cls:=.type "dict_items",data:=.fields #[.ref a]}=h₂ at *
  refine zd hio fun _ hio q10_=>?_
  subst q10_
  refine Exists.elim (zcX y.2.2.1 e1) fun ep hat=>?_
  refine wpAny_pyIter_items (s:={s₁ with heap:=h₂}) ⟨_,hio,rfl,rfl⟩ hat ?_
  refine hQ h₂.objs.size [h₂.objs.size,a] [h₂.objs.size] (fun i h=>(∃ok ov,IsItemIter h h₂.objs.size a i kvs.length ep ok ov)∧h.DictAt (strKind G.prog G.w) a kvs ep) F₁ _ ((g₁.trans gA).trans (.push0 gA.fin))
   (j0 (fun A hA=>?_) (fun i u5 ds' hP hd=>?_) hn (fun d hd=>?_) (all_cons (.inl (.head _)) (all_cons (.inr ⟨_,y.1⟩) zx)) (fun i h st=>all_cons (st.1.elim fun _ x=>x.elim fun _ x=>⟨_,x⟩) zx) (fun i T h st=>all_cons (st.1.elim fun _ x=>x.elim fun _ x=>⟨_,x⟩) zx)
    (Pt:=fun i u5=>∃k key v,kvs[i]?=some (k,v)∧(strKind G.prog G.w).is k key=true∧u5=#[key,v])
    (Mid:=fun i T h=>(∃ok ov,IsItemIterOut h h₂.objs.size a (i+1) kvs.length ep ok ov T)∧h.DictAt (strKind G.prog G.w) a kvs ep∧T≠h₂.objs.size)) ⟨⟨_,_,Heap.get?_push_size _ rfl⟩,hat.at' fun o e=>Heap.get?_push_of_some _ e⟩
   (all_cons ⟨Zi g₁ hNn,⟨_,Heap.get?_push_size _ rfl⟩,hFn⟩ zx)
  ·rw[List.length_map,←jX y.2.2.2.1]
   exact zgY hA h₂.objs.size a (q6 e1) kvs ep
  ·refine qC hP fun x key v hx x6 q9_=>?_
   subst q9_
   rw[List.getElem?_map] at hd
   refine zd (Option.map_eq_some_iff.mp hd) fun p h6 q8_=>?_
   subst q8_
   have hk1:(kvs.map (·.1))[i]?=some x:=by rw[List.getElem?_map,hx];rfl
   rw[y.2.2.2.1,List.getElem?_map,h6] at hk1
   obtain rfl:p.1=x:=Option.some.inj hk1
   refine Exists.elim (Value.isStrOf_shape (x:=p.1) (v:=key) x6) fun t q7_=>?_
   subst q7_
   refine zd (y.2.2.2.2.get i (show(ds.map (·.2))[i]?=some p.2 by rw[List.getElem?_map,h6];rfl)) fun v' e1 hv'=>?_
   rw[List.getElem?_map,hx] at e1
   obtain rfl:v=v':=Option.some.inj e1
   exact .cons (.str _ _) (.cons hv' .nil)
  ·refine zd (List.mem_map.mp hd) fun p _ q6_=>?_
   subst q6_
   exact h2.symm) (fun _ _=>rfl) x3 rfl x4
end
section
open PySem PySem.W
variable {G:Gx}{n:Nat}{env:Env}{ρ:Rho}{σ:Sig}
theorem zj9{x:Str}{d:D}{ρ:Rho}:List.lookup x ((x,d)::ρ)=some d:=by rw[QC,if_pos rfl]
theorem ziF{x y:Str}{d e:D}{ρ:Rho}(h:decide (x=y)=false) (h':List.lookup x ρ=some d):List.lookup x ((y,e)::ρ)=some d:=by
 rw[QC,if_neg (of_decide_eq_false h)];exact h'
theorem Qg{es:List Expr} {pos}{ds:List D}(h:PEs G n env es ρ σ ds) (hl:ds.length≤1000000:=by exact Nat.le_of_ble_eq_true rfl):PO G n env (.List es pos) ρ σ (.lst ds):=.mk fun A F s Q E hA H hQ=>
 wpAny_List (h.out A F s _ E pos hA H fun vs F₁ s₁ g₁ V₁=>⟨by rw[V₁.length];exact Zh hl,
  hQ _ _ _ (g₁.trans (.push0 g₁.fin)) (Zi g₁ (ZV _)) ⟨_,_,Heap.get?_push_size _ rfl,by simpa using V₁⟩ (H.toBase.grow g₁).fresh⟩)
theorem Z0{e:Expr}{es:List Expr}(h:(e::es).all kdsPlain=true) (env:Env):starEach (e::es) env=(false,eval e env)::starEach es env:=by
 rw[kds_star _ h,kds_star es (Bool.and_eq_true_iff.mp h).2];rfl
theorem Qk{e:Expr}{es:List Expr}(h:(e::es).all kdsPlain=true):es.all kdsPlain=true:=(Bool.and_eq_true_iff.mp h).2
theorem Jf{e₁ e₂:Expr} {k pos}{P:D→Sig→Prop}(h:Y G n env e₁ ρ σ fun d₁ σ₁=>Y G n env e₂ ρ σ₁ fun d₂ σ₂=>P (.tup [d₁,d₂]) σ₂)
  (h1:[e₁,e₂].all kdsPlain=true:=by rfl):Y G n env (.Tuple [e₁,e₂] k pos) ρ σ P:=
 zd7 (Zn (q8 h fun d₁ σ₁ h=>Zn (q8 h fun d₂ σ₂ h=>qw ⟨Nat.le_of_ble_eq_true rfl,h⟩) (Z0 (Qk h1))) (Z0 h1))
theorem zjf{e₁ e₂ e₃:Expr} {k pos}{P:D→Sig→Prop}(h:Y G n env e₁ ρ σ fun d₁ σ₁=>Y G n env e₂ ρ σ₁ fun d₂ σ₂=>Y G n env e₃ ρ σ₂ fun d₃ σ₃=>P (.tup [d₁,d₂,d₃]) σ₃)
  (h1:[e₁,e₂,e₃].all kdsPlain=true:=by rfl):Y G n env (.Tuple [e₁,e₂,e₃] k pos) ρ σ P:=
 zd7 (Zn (q8 h fun d₁ σ₁ h=>Zn (q8 h fun d₂ σ₂ h=>Zn (q8 h fun d₃ σ₃ h=>qw ⟨Nat.le_of_ble_eq_true rfl,h⟩) (Z0 (Qk (Qk h1)))) (Z0 (Qk h1))) (Z0 h1))
theorem zn4{e₁ e₂ e₃ e₄:Expr} {k pos}{P:D→Sig→Prop}(h:Y G n env e₁ ρ σ fun d₁ σ₁=>Y G n env e₂ ρ σ₁ fun d₂ σ₂=>Y G n env e₃ ρ σ₂ fun d₃ σ₃=>Y G n env e₄ ρ σ₃ fun d₄ σ₄=>P (.tup [d₁,d₂,d₃,d₄]) σ₄)
  (h1:[e₁,e₂,e₃,e₄].all kdsPlain=true:=by rfl):Y G n env (.Tuple [e₁,e₂,e₃,e₄] k pos) ρ σ P:=
 zd7 (Zn (q8 h fun d₁ σ₁ h=>Zn (q8 h fun d₂ σ₂ h=>Zn (q8 h fun d₃ σ₃ h=>Zn (q8 h fun d₄ σ₄ h=>qw ⟨Nat.le_of_ble_eq_true rfl,h⟩) (Z0 (Qk (Qk (Qk h1))))) (Z0 (Qk (Qk h1)))) (Z0 (Qk h1))) (Z0 h1))
theorem zc7{x y:Str}{px py:Pos}{e:Expr} {k p pos}{P:Out→Prop}(h:Y G n env e ρ σ fun d σ'=>∃d₁ d₂,d=.tup [d₁,d₂]∧P (.next ((y,d₂)::(x,d₁)::ρ) σ'))
  (hx:zG env x) (hy:zG env y) (hs:swapsWithSole [.Tuple [.Name x px,.Name y py] k p] e pos.line env=pure false) (hw:swappedStores [.Tuple [.Name x px,.Name y py] k p] e env=pure none) :
  X1 G n env (.Assign [.Tuple [.Name x px,.Name y py] k p] e pos) ρ σ P:=
 jz (names:=[x,y]) rfl (q8 h fun d σ' x=>x.elim fun d₁ x=>x.elim fun d₂ x=>⟨[d₁,d₂],x.1,rfl,x.2⟩) (all_cons hx (all_cons hy zx)) hs hw
theorem zml{x y z:Str}{px py pz:Pos}{e:Expr} {k p pos}{P:Out→Prop}(h:Y G n env e ρ σ fun d σ'=>∃d₁ d₂ d₃,d=.tup [d₁,d₂,d₃]∧P (.next ((z,d₃)::(y,d₂)::(x,d₁)::ρ) σ'))
  (hx:zG env x) (hy:zG env y) (hz:zG env z) (hs:swapsWithSole [.Tuple [.Name x px,.Name y py,.Name z pz] k p] e pos.line env=pure false) (hw:swappedStores [.Tuple [.Name x px,.Name y py,.Name z pz] k p] e env=pure none) :
  X1 G n env (.Assign [.Tuple [.Name x px,.Name y py,.Name z pz] k p] e pos) ρ σ P:=
 jz (names:=[x,y,z]) rfl (q8 h fun d σ' x=>x.elim fun d₁ x=>x.elim fun d₂ x=>x.elim fun d₃ x=>⟨[d₁,d₂,d₃],x.1,rfl,x.2⟩) (all_cons hx (all_cons hy (all_cons hz zx))) hs hw
theorem zpa{x y z u:Str}{px py pz pu:Pos}{e:Expr} {k p pos}{P:Out→Prop}(h:Y G n env e ρ σ fun d σ'=>∃d₁ d₂ d₃ d₄,d=.tup [d₁,d₂,d₃,d₄]∧P (.next ((u,d₄)::(z,d₃)::(y,d₂)::(x,d₁)::ρ) σ'))
  (hx:zG env x) (hy:zG env y) (hz:zG env z) (hu:zG env u) (hs:swapsWithSole [.Tuple [.Name x px,.Name y py,.Name z pz,.Name u pu] k p] e pos.line env=pure false) (hw:swappedStores [.Tuple [.Name x px,.Name y py,.Name z pz,.Name u pu] k p] e env=pure none) :
  X1 G n env (.Assign [.Tuple [.Name x px,.Name y py,.Name z pz,.Name u pu] k p] e pos) ρ σ P:=
 jz (names:=[x,y,z,u]) rfl (q8 h fun d σ' x=>x.elim fun d₁ x=>x.elim fun d₂ x=>x.elim fun d₃ x=>x.elim fun d₄ x=>⟨[d₁,d₂,d₃,d₄],x.1,rfl,x.2⟩) (all_cons hx (all_cons hy (all_cons hz (all_cons hu zx)))) hs hw
theorem zc8{x y:Str}{px py:Pos}{e:Expr} {k p pos}{P:Out→Prop}(h:Y G n env e ρ σ fun d σ'=>∃d₁ d₂,d=.tup [d₁,d₂]∧P (.next ((x,d₁)::(y,d₂)::ρ) σ'))
  (hx:zG env x) (hy:zG env y) (hs:swapsWithSole [.Tuple [.Name x px,.Name y py] k p] e pos.line env=pure false) (hw:swappedStores [.Tuple [.Name x px,.Name y py] k p] e env=pure (some [x,y])) :
  X1 G n env (.Assign [.Tuple [.Name x px,.Name y py] k p] e pos) ρ σ P:=
 JY (names:=[x,y]) (q8 h fun d σ' x=>x.elim fun d₁ x=>x.elim fun d₂ x=>⟨[d₁,d₂],x.1,rfl,x.2⟩) (all_cons hx (all_cons hy zx)) hw hs
theorem zpb{x y z:Str}{px py pz:Pos}{e:Expr} {k p pos}{P:Out→Prop}(h:Y G n env e ρ σ fun d σ'=>∃d₁ d₂ d₃,d=.tup [d₁,d₂,d₃]∧P (.next ((x,d₁)::(y,d₂)::(z,d₃)::ρ) σ'))
  (hx:zG env x) (hy:zG env y) (hz:zG env z) (hs:swapsWithSole [.Tuple [.Name x px,.Name y py,.Name z pz] k p] e pos.line env=pure false) (hw:swappedStores [.Tuple [.Name x px,.Name y py,.Name z pz] k p] e env=pure (some [x,y,z])) :
  X1 G n env (.Assign [.Tuple [.Name x px,.Name y py,.Name z pz] k p] e pos) ρ σ P:=
 JY (names:=[x,y,z]) (q8 h fun d σ' x=>x.elim fun d₁ x=>x.elim fun d₂ x=>x.elim fun d₃ x=>⟨[d₁,d₂,d₃],x.1,rfl,x.2⟩) (all_cons hx (all_cons hy (all_cons hz zx))) hw hs
structure Swaps (env:Env) (ts vs:List Expr) (line:Nat) (r:Sem (Option (List Str))) (nm:Expr→Option Str) (st:Expr→Bool):Prop where
 hnm:∀x px,nm (.Name x px)=if env.kindOf x==some .local&&px.line==line then some x else none
 hst:∀e,st e=!kdsPlain e
 eq:r=
 if !(ts.length==2||ts.length==3)||vs.length != ts.length||env.blockKind != .function then pure none else
 if vs.any st then pure none else
 if (ts.filterMap nm).length != ts.length||(ts.filterMap nm).eraseDups.length != (ts.filterMap nm).length then pure none else
 if vs.all (foldedForSure 8) then pure none else
 if vs.all (constantsAlone 8) then (do unsupported "assign.tuple-of-constant-expressions:order-of-the-stores";pure (some (ts.filterMap nm))) else pure (some (ts.filterMap nm))
theorem zaP(env:Env) (ts vs:List Expr) (k p k' p'):∃nm st,Swaps env ts vs ((ts.head?.map (·.pos.line)).getD 0) (swappedStores [.Tuple ts k p] (.Tuple vs k' p') env) nm st:=by
 refine⟨?nm,?st,?a,?b,?c⟩
 case c=>unfold swappedStores;exact rfl
 case a=>exact fun _ _=>rfl
 case b=>intro e;cases e<;>rfl
theorem zdP{f:Expr→Option Str}{e:Expr}{l:List Expr}(h:e∈l) (hf:f e=none):(l.filterMap f).length<l.length:=by
 refine Zu (List.append_of_mem h) fun a b q1_=>?_
 subst q1_
 rw[List.filterMap_append,List.filterMap_cons,hf,List.length_append,List.length_append]
 exact Nat.add_lt_add_of_le_of_lt (List.length_filterMap_le ..) (Nat.lt_succ_of_le (List.length_filterMap_le ..))
theorem zm4{ts vs:List Expr}{k k':Nat}{p p':Pos}{x:Str}{px:Pos}(hm:.Name x px∈ts) (hx:env.kindOf x=some .cell):swappedStores [.Tuple ts k p] (.Tuple vs k' p') env=pure none:=by
 refine Zu (zaP env ts vs k p k' p') fun nm st w=>?_
 have h:=zdP hm ((w.hnm x px).trans (by rw[hx];rfl))
 rw[w.eq,bne_iff_ne.mpr (Nat.ne_of_lt h),Bool.true_or,if_pos rfl,ite_self,ite_self]
theorem zde{l:List Str}{ts vs:List Expr}{k:Nat}{p p':Pos}{k':Nat}{nm:Expr→Option Str}{st:Expr→Bool}{line:Nat}(w:Swaps env ts vs line (swappedStores [.Tuple ts k p] (.Tuple vs k' p') env) nm st)
  (e:ts.filterMap nm=l) (hl:l.length=ts.length) (hd:l.eraseDups=l) (hb:env.blockKind=.function) (h23:(!(ts.length==2||ts.length==3)||vs.length != ts.length)=false)
  (hp:vs.all kdsPlain=true) (hf:vs.all (foldedForSure 8)=false) (hc:vs.all (constantsAlone 8)=false):swappedStores [.Tuple ts k p] (.Tuple vs k' p') env=pure (some l):=by
 have hs:vs.any st=false:=List.any_eq_false.mpr fun x hx=>by rw[w.hst,List.all_eq_true.mp hp x hx];decide
 rw[w.eq,e,hd,hl,h23,hb,hs,hf,hc,bne_self_eq_false,bne_self_eq_false];rfl
theorem zax{ts vs:List Expr}{line:Nat}{r:Sem (Option (List Str))}{nm:Expr→Option Str}{st:Expr→Bool}(w:Swaps env ts vs line r nm st) {x:Str}{px:Pos}{l:List Expr}{m:List Str}(hx:env.kindOf x=some .local) (hl:(px.line==line)=true) (h:l.filterMap nm=m):(.Name x px::l).filterMap nm=x::m:=by
 rw[List.filterMap_cons,w.hnm,hx,hl,h];rfl
theorem zoW{x y:Str}(h:decide (y=x)=false):[x,y].eraseDups=[x,y]:=by
 simp[List.eraseDups_cons,of_decide_eq_false h]
theorem zoV{x y z:Str}(h:decide (y=x)=false) (h2:decide (z=x)=false) (h3:decide (z=y)=false):[x,y,z].eraseDups=[x,y,z]:=by
 simp[List.eraseDups_cons,of_decide_eq_false h,of_decide_eq_false h2,of_decide_eq_false h3]
theorem zbB{x y:Str}{px py:Pos}{k:Nat}{p p':Pos}{k':Nat}{v w:Expr}(hx:env.kindOf x=some .local) (hy:env.kindOf y=some .local) (hb:env.blockKind=.function) (hl:(py.line==px.line)=true) (hxy:decide (y=x)=false)
  (hp:[v,w].all kdsPlain=true:=by rfl) (hf:[v,w].all (foldedForSure 8)=false:=by rfl) (hc:[v,w].all (constantsAlone 8)=false:=by rfl):swappedStores [.Tuple [.Name x px,.Name y py] k p] (.Tuple [v,w] k' p') env=pure (some [x,y]):=
 (zaP env [.Name x px,.Name y py] [v,w] k p k' p').elim fun _ x=>x.elim fun _ w=>zde w (zax w hx (beq_self_eq_true _) (zax w hy hl rfl)) rfl (zoW hxy) hb rfl hp hf hc
theorem zor{x y z:Str}{px py pz:Pos}{k:Nat}{p p':Pos}{k':Nat}{u v w:Expr}(hx:env.kindOf x=some .local) (hy:env.kindOf y=some .local) (hz:env.kindOf z=some .local) (hb:env.blockKind=.function) (hl:(py.line==px.line)=true) (hl2:(pz.line==px.line)=true) (hxy:decide (y=x)=false) (hxz:decide (z=x)=false) (hyz:decide (z=y)=false)
  (hp:[u,v,w].all kdsPlain=true:=by rfl) (hf:[u,v,w].all (foldedForSure 8)=false:=by rfl) (hc:[u,v,w].all (constantsAlone 8)=false:=by rfl):swappedStores [.Tuple [.Name x px,.Name y py,.Name z pz] k p] (.Tuple [u,v,w] k' p') env=pure (some [x,y,z]):=
 (zaP env [.Name x px,.Name y py,.Name z pz] [u,v,w] k p k' p').elim fun _ x=>x.elim fun _ w=>zde w (zax w hx (beq_self_eq_true _) (zax w hy hl (zax w hz hl2 rfl))) rfl (zoV hxy hxz hyz) hb rfl hp hf hc
theorem zij{e:Expr}{x:Str}{px:Pos}{line:Nat}(hx:env.kindOf x=some .cell):swapsWith e (some (.Name x px)) line env=pure false:=by
 have key:∀o:Option Scope,(match o with
   | some scope=>pure (env.blockKind==.function&&env.kindOf x==some .local&&px.line==e.pos.line&&!(scope.names.any fun(n,k)=>n==x&&(k==.local||k==.cell)))
   | _=>pure false:Sem Bool)=pure false:=fun o=>by
  rw[hx,show(some NameKind.cell==some NameKind.local)=false from rfl,Bool.and_false,Bool.false_and]
  cases o<;>rfl
 exact key _
theorem zhu{α β:Type}{xs:List β}{bf:β→Rho}{of:β→List α}{i:Nat}{b:Rho}{o:List α}(hb:(xs.map bf)[i]?=some b) (ho:(xs.map of)[i]?=some o):∃y∈xs,b=bf y∧o=of y:=by
 refine zd (Option.map_eq_some_iff.mp (List.getElem?_map.symm.trans hb)) fun y h1 q3_=>?_
 subst q3_
 refine zd (Option.map_eq_some_iff.mp (List.getElem?_map.symm.trans ho)) fun z h2 q2_=>?_
 subst q2_
 exact⟨y,List.mem_of_getElem? h1,rfl,congrArg of (Z1 h2 h1)⟩
theorem zaL{α β:Type}{P:App α}{e:Expr}{k:Nat}{u6:List Expr}{W:List Addr}{xs:List β}{bf:β→Rho}{c:β→Bool}{of:β→List α}(ht:∀y∈xs,PIf G n env u6 (bf y++ρ) σ (c y)) (hb:∀y∈xs,c y=true→TailJ G n env W P e (k+1) (bf y++ρ) σ (of y))
  {i:Nat}{b:Rho}{o:List α}(h1:(xs.map bf)[i]?=some b) (h2:(xs.map fun y=>if c y then of y else [])[i]?=some o):zbt G n env W P e k u6 ρ σ b o:=by
 refine qD (zhu h1 h2) fun y hy q4_ q5_=>?_
 subst q4_
 subst q5_
 exact⟨c y,ht y hy,fun h=>by rw[if_pos h];exact hb y hy h,fun h=>by rw[h];rfl⟩
theorem QP{elt:Expr}{gens:List Comprehension}{scope:Scope}{pos:Pos}{k:Nat}{W:List Addr}{d:D}(h2:(clausesOf (.ListComp elt gens scope pos))[k]?=none) (h:PE G n env elt ρ σ d) :
  TailJ G n env W AL (.ListComp elt gens scope pos) k ρ σ [d]:=.inl ⟨h2,zky h⟩
theorem zaN{ke ve:Expr}{gens:List Comprehension}{scope:Scope}{pos:Pos}{i:Nat}{W:List Addr}{k:Str}{d:D}(h2:(clausesOf (.DictComp ke ve gens scope pos))[i]?=none) (hk:PE G n env ke ρ σ (.str k)) (h:PE G n env ve ρ σ d) :
  TailJ G n env W AS (.DictComp ke ve gens scope pos) i ρ σ [(k,d)]:=.inl ⟨h2,zkz hk h⟩
theorem zih{ke ve:Expr}{gens:List Comprehension}{scope:Scope}{pos:Pos}{i:Nat}{W:List Addr}{k:Int}{d:D}(h2:(clausesOf (.DictComp ke ve gens scope pos))[i]?=none) (hk:PE G n env ke ρ σ (.int k)) (h:PE G n env ve ρ σ d) :
  TailJ G n env W AI (.DictComp ke ve gens scope pos) i ρ σ [(k,d)]:=.inl ⟨h2,zkA hk h⟩
structure Inner (G:Gx) (n:Nat) (scope:Scope) (u1:Env) (W:List Addr):Prop where
 ok:EnvOk u1 scope
 own:∀x,OwnName scope x→∀c∈stW u1 x,c∈W
 in_:∀c∈W,c=u1.locals∨∃x,(x,c)∈u1.cells
theorem OwnName.storable{scope:Scope}{u1:Env}(h:EnvOk u1 scope) {x:Str}(hx:OwnName scope x):zG u1 x:=hx.elim h.local h.cell
theorem jl{scope:Scope}{C:Addr}(h:ScopeOk scope env):Inner G n scope (qd scope env C) (jN (qd scope env C)):=
 ⟨.comp h,fun x hx c hc=>ziB (names:=[x]) (fun y hy=>by simp at hy;subst hy;exact hx) c (by simpa [tW] using hc),zkG⟩
theorem zjH{α β:Type}{e:Expr}{k:Nat}{u0 iter:Expr}{u6:List Expr}{names:List Str}{W:List Addr}{P:App α}{scope:Scope}{xs:List β}{bf:β→Rho}{c:β→Bool}{of:β→List α}
  (hI:Inner G n scope env W) (hc:qc e=true) (x5:∀g∈clausesOf e,g.is_async=0) (hg:(clausesOf e)[k]?=some ⟨u0,iter,u6,0⟩) (v9:∀x,foldedSetIterable iter env x=pure x)
  (v8:ItE G n env iter ρ σ u0 names (xs.map bf)) (hs:∀x∈names,OwnName scope x) (x0:∀y∈xs,∀p∈bf y,p.1∈names) (v7:∀x∈names,ρ.lookup x=none)
  (ht:∀y∈xs,PIf G n env u6 (bf y++ρ) σ (c y)) (hb:∀y∈xs,c y=true→TailJ G n env W P e (k+1) (bf y++ρ) σ (of y)) :
  TailJ G n env W P e k ρ σ (xs.map fun y=>if c y then of y else []).flatten:=
 zkx hc x5 hg v9 v8 (fun x hx=>(hs x hx).storable hI.ok) (by rw[List.length_map,List.length_map]) (List.forall_mem_map.mpr x0) v7 (fun _ _ _ h1 h2=>zaL ht hb h1 h2)
  (fun a ha=>(List.mem_flatMap.mp ha).elim fun x x=>hI.own _ (hs _ x.1) a x.2) hI.in_
theorem Qx{α β:Type}{xs:List β}{c:β→Bool}{of:β→List α}:(xs.map fun y=>if c y then of y else []).flatten=(xs.filter c).flatMap of:=by
 induction xs with
 | nil=>rfl
 | cons x xs ih=>
  rw[List.map_cons,List.flatten_cons,ih,List.filter_cons]
  cases c x<;>rfl
theorem zek{α β:Type}{e u0 iter:Expr}{u6:List Expr}{gs:List Comprehension}{scope sc:Scope}{pos:Pos}{names:List Str}{ρ':Rho}{xs:List β}{bf:β→Rho}{c:β→Bool}{of:β→List α}{v3:Sem Value}{P:App α}{mo:MO}{out:List α→MO}{d:D}
  (hacc:zat G v3 mo) (hK:P.K mo) (h0:mo.sz=0) (u3:∀l,l.foldl P.app mo=out l) (hkn:∀l,(out l).known) (he:∀env,eval e env=comprehension e scope env pos v3 false (eval iter env)) (hc:qc e=true) (hg:clausesOf e=⟨u0,iter,u6,0⟩::gs) (hd:(out ((xs.filter c).flatMap of)).toD=d)
  (hE:EnvOk env sc) (hf:Zv scope sc=true) (v4:Capt scope ρ ρ') (v8:ItE G n env iter ρ σ u0 names (xs.map bf)) (hs:∀x∈names,OwnName scope x) (x0:∀y∈xs,∀p∈bf y,p.1∈names) (v7:∀x∈names,ρ'.lookup x=none)
  (ht:∀u1,EnvOk u1 scope→∀y∈xs,PIf G n u1 u6 (bf y++ρ') σ (c y)) (hb:∀u1 W,Inner G n scope u1 W→∀y∈xs,c y=true→TailJ G n u1 W P e 1 (bf y++ρ') σ (of y))
  (hsz:((xs.filter c).flatMap of).length≤1000000) (x5:∀g∈gs,g.is_async=0) (v9:∀x,foldedSetIterable iter env x=pure x):PE G n env e ρ σ d:=by
 rw[←hd,←u3,←Qx]
 exact znS he hc (hg▸all_cons rfl x5) hg v9 (hE.fits hf) v4 hacc v8 hs (by rw[List.length_map,List.length_map]) (List.forall_mem_map.mpr x0) v7 (fun C _ _ _ h1 h2=>zaL (ht _ (jl (n:=n) (G:=G) (C:=C) (hE.fits hf)).ok) (hb _ _ (jl (hE.fits hf))) h1 h2) hK (by rw[h0,Qx,Nat.zero_add];exact hsz) (by rw[u3];exact hkn _)
theorem zix{β:Type}{elt u0 iter:Expr}{u6:List Expr}{gs:List Comprehension}{scope sc:Scope}{pos:Pos}{names:List Str}{ρ':Rho}{xs:List β}{bf:β→Rho}{c:β→Bool}{of:β→List D}
  (hE:EnvOk env sc) (hf:Zv scope sc=true) (v4:Capt scope ρ ρ') (v8:ItE G n env iter ρ σ u0 names (xs.map bf)) (hs:∀x∈names,OwnName scope x) (x0:∀y∈xs,∀p∈bf y,p.1∈names) (v7:∀x∈names,ρ'.lookup x=none)
  (ht:∀u1,EnvOk u1 scope→∀y∈xs,PIf G n u1 u6 (bf y++ρ') σ (c y))
  (hb:∀u1 W,Inner G n scope u1 W→∀y∈xs,c y=true→TailJ G n u1 W AL (.ListComp elt (⟨u0,iter,u6,0⟩::gs) scope pos) 1 (bf y++ρ') σ (of y))
  (hsz:((xs.filter c).flatMap of).length≤1000000) (x5:gs.all (fun g=>g.is_async==0)=true:=by rfl) (v9:∀x,foldedSetIterable iter env x=pure x:=by intro _;rfl) :
  PE G n env (.ListComp elt (⟨u0,iter,u6,0⟩::gs) scope pos) ρ σ (.lst ((xs.filter c).flatMap of)):=
 zek (P:=AL) (mo:=.lst []) (out:=.lst) zc4 ⟨_,rfl⟩ rfl (fun l=>zbe l []) (fun _=>trivial) (fun env=>by rw[eval_ListComp];rfl) rfl rfl rfl hE hf v4 v8 hs x0 v7 ht hb hsz (zc2 x5) v9
theorem Z3{β:Type}{elt u0 iter:Expr}{u6:List Expr}{scope sc:Scope}{pos:Pos}{names:List Str}{ρ':Rho}{xs:List β}{bf:β→Rho}{c:β→Bool}{g:β→D}
  (hE:EnvOk env sc) (hf:Zv scope sc=true) (v4:Capt scope ρ ρ') (v8:ItE G n env iter ρ σ u0 names (xs.map bf)) (hs:∀x∈names,OwnName scope x) (x0:∀y∈xs,∀p∈bf y,p.1∈names) (v7:∀x∈names,ρ'.lookup x=none)
  (ht:∀u1,EnvOk u1 scope→∀y∈xs,PIf G n u1 u6 (bf y++ρ') σ (c y))
  (hg:∀u1,EnvOk u1 scope→∀y∈xs,c y=true→PE G n u1 elt (bf y++ρ') σ (g y)) (hsz:xs.length≤1000000) (v9:∀x,foldedSetIterable iter env x=pure x:=by intro _;rfl) :
  PE G n env (.ListComp elt [⟨u0,iter,u6,0⟩] scope pos) ρ σ (.lst ((xs.filter c).map g)):=by
 have e:(xs.filter c).flatMap (fun y=>[g y])=(xs.filter c).map g:=by rw[List.map_eq_flatMap]
 have:=zix (of:=fun y=>[g y]) (gs:=[]) (elt:=elt) (pos:=pos) hE hf v4 v8 hs x0 v7 ht (fun u1 W hI y hy h=>QP rfl (hg u1 hI.ok y hy h))
  (by have:=List.length_filter_le c xs;rw[e,List.length_map];lia) (by simp) v9
 rw[e] at this
 exact this
theorem zoz{β:Type}{ke ve u0 iter:Expr}{u6:List Expr}{gs:List Comprehension}{scope sc:Scope}{pos:Pos}{names:List Str}{ρ':Rho}{xs:List β}{bf:β→Rho}{c:β→Bool}{of:β→List (Str×D)}
  (hE:EnvOk env sc) (hf:Zv scope sc=true) (v4:Capt scope ρ ρ') (v8:ItE G n env iter ρ σ u0 names (xs.map bf)) (hs:∀x∈names,OwnName scope x) (x0:∀y∈xs,∀p∈bf y,p.1∈names) (v7:∀x∈names,ρ'.lookup x=none)
  (ht:∀u1,EnvOk u1 scope→∀y∈xs,PIf G n u1 u6 (bf y++ρ') σ (c y))
  (hb:∀u1 W,Inner G n scope u1 W→∀y∈xs,c y=true→TailJ G n u1 W AS (.DictComp ke ve (⟨u0,iter,u6,0⟩::gs) scope pos) 1 (bf y++ρ') σ (of y))
  (hsz:((xs.filter c).flatMap of).length≤1000000) (x5:gs.all (fun g=>g.is_async==0)=true:=by rfl) (v9:∀x,foldedSetIterable iter env x=pure x:=by intro _;rfl)
  (he:∀env,eval (.DictComp ke ve (⟨u0,iter,u6,0⟩::gs) scope pos) env=comprehension (.DictComp ke ve (⟨u0,iter,u6,0⟩::gs) scope pos) scope env (firstIterPos (⟨u0,iter,u6,0⟩::gs) pos) newDict false (eval iter env):=by intro _;rfl) :
  PE G n env (.DictComp ke ve (⟨u0,iter,u6,0⟩::gs) scope pos) ρ σ (.dicS (qj [] ((xs.filter c).flatMap of))):=
 zek (P:=AS) (mo:=.dicS []) (out:=fun l=>.dicS (qj [] l)) zc5 ⟨_,rfl⟩ rfl (fun l=>zbd l []) (fun _=>trivial) he rfl rfl rfl hE hf v4 v8 hs x0 v7 ht hb hsz (zc2 x5) v9
theorem zoA{β:Type}{ke ve u0 iter:Expr}{u6:List Expr}{gs:List Comprehension}{scope sc:Scope}{pos:Pos}{names:List Str}{ρ':Rho}{xs:List β}{bf:β→Rho}{c:β→Bool}{of:β→List (Int×D)}
  (hE:EnvOk env sc) (hf:Zv scope sc=true) (v4:Capt scope ρ ρ') (v8:ItE G n env iter ρ σ u0 names (xs.map bf)) (hs:∀x∈names,OwnName scope x) (x0:∀y∈xs,∀p∈bf y,p.1∈names) (v7:∀x∈names,ρ'.lookup x=none)
  (ht:∀u1,EnvOk u1 scope→∀y∈xs,PIf G n u1 u6 (bf y++ρ') σ (c y))
  (hb:∀u1 W,Inner G n scope u1 W→∀y∈xs,c y=true→TailJ G n u1 W AI (.DictComp ke ve (⟨u0,iter,u6,0⟩::gs) scope pos) 1 (bf y++ρ') σ (of y))
  (hsz:((xs.filter c).flatMap of).length≤1000000) (x5:gs.all (fun g=>g.is_async==0)=true:=by rfl) (v9:∀x,foldedSetIterable iter env x=pure x:=by intro _;rfl)
  (he:∀env,eval (.DictComp ke ve (⟨u0,iter,u6,0⟩::gs) scope pos) env=comprehension (.DictComp ke ve (⟨u0,iter,u6,0⟩::gs) scope pos) scope env (firstIterPos (⟨u0,iter,u6,0⟩::gs) pos) newDict false (eval iter env):=by intro _;rfl) :
  PE G n env (.DictComp ke ve (⟨u0,iter,u6,0⟩::gs) scope pos) ρ σ (.dicI (qj [] ((xs.filter c).flatMap of))):=
 zek (P:=AI) (mo:=.dicI []) (out:=fun l=>.dicI (qj [] l)) zmk ⟨_,rfl⟩ rfl (fun l=>ziM l []) (fun _=>trivial) he rfl rfl rfl hE hf v4 v8 hs x0 v7 ht hb hsz (zc2 x5) v9
end
section
open PySem PySem.W
variable {G:Gx}{n:Nat}{env:Env}{ρ:Rho}{σ:Sig}
theorem zfd{F F₁:FZ}{s s' s₂:Shared}{σ₁:Sig}{ρ₂:Rho}{C:Addr}{h':Heap}{x:Str}(H:Holds G env F ρ σ s) (hC:s.heap.get? C=none) (hF:F₁ C=none) (off:Off G env F₁ σ₁ [C]) (g₀:Step G env F s σ F₁ s' σ₁) (g₂:Grow G (stW env x) F₁ s' F₁ s₂)
  (H₂:Holds G env F₁ ρ₂ σ₁ s₂) (hs:Heap.SameBut C s₂.heap h'):Holds G env F₁ ρ₂ σ₁ {s₂ with heap:=h',toks:=s₂.toks}∧Step G env F s σ F₁ {s₂ with heap:=h',toks:=s₂.toks} σ₁:=
 have hk:∀b o,b∉[C]→s₂.heap.get? b=some o→h'.get? b=some o:=fun b o hb e=>hs.extBut b o (fun q=>hb (List.mem_singleton.mpr q)) e
 ⟨H₂.endOff hk off,(g₀.more g₂ fun b hb=>.inl (zbF b hb)).fin_end (tk:=s₂.toks) (wr:=[C]) H.code hk (all_cons hC zx) (all_cons hF zx)⟩
theorem zmv{x:Str}{C:Addr}(hk:env.kindOf x=some .local) (h:C≠env.locals):C∉stW env x:=fun hm=>by
 unfold stW at hm;rw[hk] at hm;exact h (List.mem_singleton.mp hm)
theorem zn6{x:Str}{px pos:Pos}{e:Expr}{scope:Scope}{cpos:Pos}{v3:Sem Value}{u0 iter:Expr}{u6:List Expr}{gs:List Comprehension}
  {names:List Str}{ρ':Rho}{bs:List Rho}{α:Type}{P:App α}{Zb:List (List α)}{mo:MO}{R:Out→Prop}
  (hk:env.kindOf x=some .local) (hs':swapsWith e (some (.Name x px)) pos.line env=pure true)
  (he:∀u,evalThenUse e env u=(do let _ ←comprehension e scope env cpos v3 false (eval iter env) (some u)))
  (hc:qc e=true) (x5:∀g∈clausesOf e,g.is_async=0) (hg:clausesOf e=⟨u0,iter,u6,0⟩::gs) (v9:∀x,foldedSetIterable iter env x=pure x)
  (hok:ScopeOk scope env) (v4:Capt scope ρ ρ') (hacc:zat G v3 mo) (v8:ItE G n env iter ρ σ u0 names bs) (hs:∀x∈names,OwnName scope x)
  (hl:Zb.length=bs.length) (x0:∀b∈bs,∀p∈b,p.1∈names) (v7:∀x∈names,ρ'.lookup x=none)
  (turn:∀(C:Addr) (i:Nat) (b:Rho) (out:List α),bs[i]?=some b→Zb[i]?=some out→zbt G n (qd scope env C) (jN (qd scope env C)) P e 0 u6 ρ' σ b out)
  (hK:P.K mo) (hsz:mo.sz+Zb.flatten.length≤1000000) (hkn:(Zb.flatten.foldl P.app mo).known)
  (hR:R (.next ((x,(Zb.flatten.foldl P.app mo).toD)::ρ) σ)):X1 G n env (.Assign [.Name x px] e pos) ρ σ R:=.mk fun A F s Q E hA H hQ=>by
 rw[exec_Assign_Name_used _ _ _ _ hs',he]
 refine wpAny_bind (wpAny_standAt (wpAny_bind (wpAny_bind ?_)))
 refine Jw hA H hc x5 hg v9 hok v4 hacc v8 hs hl x0 v7 turn hK hsz fun a F' s' C g ha hm hF hC hFC hCa hns=>?_
 refine zd (hm.frozen hkn hF) fun o e1 hv=>?_
 have g':=g.freeze ha hF e1
 have hFC':F'.put a o C=none:=(if_neg hCa).trans hFC
 have off:Off G env (F'.put a o) σ [C]:=.new H (all_cons ⟨hC,hFC'⟩ zx)
 refine wpAny_assign_Name (QL (H.grow g') hv (.inl hk) fun s₂ g₂ H₂=>hns.imp fun m hn=>⟨hn.at' fun o e=>g₂.keep C o (off.x C List.mem_cons_self) (zmv hk (off.loc C List.mem_cons_self)) e,fun h' hs=>?_⟩)
 have r:=zfd H hC hFC' off (.pure g') g₂ H₂ hs
 exact wpAny_pure (wpAny_pure (hQ _ .next _ _ hR r.2 r.1))
theorem zh6{x:Str}{px pos:Pos}{e:Expr}{scope:Scope}{cpos:Pos}{v3:Sem Value}{u0 iter:Expr}{u6:List Expr}{gs:List Comprehension}
  {names:List Str}{ρ':Rho}{bs:List Rho}{α:Type}{P:App α}{Zb:List (List α)}{mo:MO}{R:Out→Prop}
  (hk:env.kindOf x=some .local) (hs':swapsWith e (some (.Name x px)) pos.line env=pure true)
  (he:∀u,evalThenUse e env u=(do let _ ←comprehension e scope env cpos v3 false (eval iter env) (some u)))
  (hc:qc e=true) (x5:∀g∈clausesOf e,g.is_async=0) (hg:clausesOf e=⟨u0,iter,u6,0⟩::gs) (v9:∀x,foldedSetIterable iter env x=pure x)
  (hok:ScopeOk scope env) (v4:Capt scope ρ ρ') (hacc:zat G v3 mo) (v8:ItE G n env iter ρ σ u0 names bs) (hs:∀x∈names,OwnName scope x)
  (hl:Zb.length=bs.length) (x0:∀b∈bs,∀p∈b,p.1∈names) (v7:∀x∈names,ρ'.lookup x=none)
  (turn:∀(C:Addr) (i:Nat) (b:Rho) (out:List α),bs[i]?=some b→Zb[i]?=some out→zbt G n (qd scope env C) (jN (qd scope env C)) P e 0 u6 ρ' σ b out)
  (hK:P.K mo) (hsz:mo.sz+Zb.flatten.length≤1000000)
  (hR:∀a,R (.next ((x,.raw (.ref a))::ρ) ((a,Zb.flatten.foldl P.app mo)::σ))):X1 G n env (.Assign [.Name x px] e pos) ρ σ R:=.mk fun A F s Q E hA H hQ=>by
 rw[exec_Assign_Name_used _ _ _ _ hs',he]
 refine wpAny_bind (wpAny_standAt (wpAny_bind (wpAny_bind ?_)))
 refine Jw hA H hc x5 hg v9 hok v4 hacc v8 hs hl x0 v7 turn hK hsz fun a F' s' C g ha hm hF hC hFC hCa hns=>?_
 have o₀:Off G env F' σ [C]:=.new H (all_cons ⟨hC,hFC⟩ zx)
 have off:Off G env F' ((a,Zb.flatten.foldl P.app mo)::σ) [C]:={o₀ with own:=fun c hc hm=>(List.mem_cons.mp hm).elim (fun e=>hCa (List.mem_singleton.mp hc▸e)) (o₀.own c hc)}
 refine wpAny_assign_Name (QL (H.consNew g ha hm hF) (.raw (.ref a)) (.inl hk) fun s₂ g₂ H₂=>hns.imp fun m hn=>⟨hn.at' fun o e=>g₂.keep C o (off.x C List.mem_cons_self) (zmv hk (off.loc C List.mem_cons_self)) e,fun h' hs=>?_⟩)
 have r:=zfd H hC hFC off (.of g zx fun b hb=>(List.mem_cons.mp hb).elim (fun e=>.inr (e▸ha)) .inl) g₂ H₂ hs
 exact wpAny_pure (wpAny_pure (hQ _ .next _ _ (hR a) r.2 r.1))
theorem zll{elt:Expr}{gens:List Comprehension}{scope sc:Scope}{p px:Pos}{x:Str}{line:Nat}(hE:EnvOk env sc) (hk:sc.names.lookup x=some .local) (hl:(px.line==p.line&&!(scope.names.any fun(n,k)=>n==x&&(k==.local||k==.cell)))=true) :
  swapsWith (.ListComp elt gens scope p) (some (.Name x px)) line env=pure true:=by
 unfold swapsWith
 have hl:=Bool.and_eq_true_iff.mp hl
 have h1:(px.line==(Expr.ListComp elt gens scope p).pos.line)=true:=hl.1
 show pure _=_
 rw[hE.block,hE.kind x _ hk (by decide),h1,hl.2];rfl
theorem zfR{ke ve:Expr}{gens:List Comprehension}{scope sc:Scope}{p px:Pos}{x:Str}{line:Nat}(hE:EnvOk env sc) (hk:sc.names.lookup x=some .local) (hl:(px.line==p.line&&!(scope.names.any fun(n,k)=>n==x&&(k==.local||k==.cell)))=true) :
  swapsWith (.DictComp ke ve gens scope p) (some (.Name x px)) line env=pure true:=by
 unfold swapsWith
 have hl:=Bool.and_eq_true_iff.mp hl
 have h1:(px.line==(Expr.DictComp ke ve gens scope p).pos.line)=true:=hl.1
 show pure _=_
 rw[hE.block,hE.kind x _ hk (by decide),h1,hl.2];rfl
theorem zd9{α β:Type}{x:Str}{px u8 cpos:Pos}{e u0 iter:Expr}{u6:List Expr}{gs:List Comprehension}{scope sc:Scope}{names:List Str}{ρ':Rho}{xs:List β}{bf:β→Rho}{c:β→Bool}{of:β→List α}{v3:Sem Value}{P:App α}{mo:MO}{out:List α→MO}{d:D}{R:Out→Prop}
  (hacc:zat G v3 mo) (hK:P.K mo) (h0:mo.sz=0) (u3:∀l,l.foldl P.app mo=out l) (hkn:∀l,(out l).known) (he:∀u,evalThenUse e env u=(do let _ ←comprehension e scope env cpos v3 false (eval iter env) (some u))) (hc:qc e=true) (hg:clausesOf e=⟨u0,iter,u6,0⟩::gs) (hd:(out ((xs.filter c).flatMap of)).toD=d)
  (hw:swapsWith e (some (.Name x px)) u8.line env=pure true) (hE:EnvOk env sc) (hk:sc.names.lookup x=some .local) (hf:Zv scope sc=true) (v4:Capt scope ρ ρ') (v8:ItE G n env iter ρ σ u0 names (xs.map bf)) (hs:∀x∈names,OwnName scope x) (x0:∀y∈xs,∀p∈bf y,p.1∈names) (v7:∀x∈names,ρ'.lookup x=none)
  (ht:∀u1,EnvOk u1 scope→∀y∈xs,PIf G n u1 u6 (bf y++ρ') σ (c y)) (hb:∀u1 W,Inner G n scope u1 W→∀y∈xs,c y=true→TailJ G n u1 W P e 1 (bf y++ρ') σ (of y))
  (hsz:((xs.filter c).flatMap of).length≤1000000) (x5:∀g∈gs,g.is_async=0) (v9:∀x,foldedSetIterable iter env x=pure x):(R (.next ((x,d)::ρ) σ)→X1 G n env (.Assign [.Name x px] e u8) ρ σ R)∧((∀a,R (.next ((x,.raw (.ref a))::ρ) ((a,out ((xs.filter c).flatMap of))::σ)))→X1 G n env (.Assign [.Name x px] e u8) ρ σ R):=by
 rw[←hd,←u3,←Qx]
 have hna':∀g∈clausesOf e,g.is_async=0:=hg▸all_cons rfl x5
 have hl:(xs.map fun y=>if c y then of y else []).length=(xs.map bf).length:=by rw[List.length_map,List.length_map]
 have hsz':mo.sz+(xs.map fun y=>if c y then of y else []).flatten.length≤1000000:=by rw[h0,Qx,Nat.zero_add];exact hsz
 have tn:∀(C:Addr) (i:Nat) (b:Rho) (o:List α),(xs.map bf)[i]?=some b→(xs.map fun y=>if c y then of y else [])[i]?=some o→zbt G n (qd scope env C) (jN (qd scope env C)) P e 0 u6 ρ' σ b o:=fun C _ _ _ h1 h2=>zaL (ht _ (jl (n:=n) (G:=G) (C:=C) (hE.fits hf)).ok) (hb _ _ (jl (hE.fits hf))) h1 h2
 exact⟨fun hR=>zn6 (hE.kind x _ hk (by decide)) hw he hc hna' hg v9 (hE.fits hf) v4 hacc v8 hs hl (List.forall_mem_map.mpr x0) v7 tn hK hsz' (by rw[u3];exact hkn _) hR,
  fun hR=>zh6 (hE.kind x _ hk (by decide)) hw he hc hna' hg v9 (hE.fits hf) v4 hacc v8 hs hl (List.forall_mem_map.mpr x0) v7 tn hK hsz' hR⟩
theorem zk2{β:Type}{x:Str}{px u8:Pos}{elt u0 iter:Expr}{u6:List Expr}{gs:List Comprehension}{scope sc:Scope}{pos:Pos}{names:List Str}{ρ':Rho}{xs:List β}{bf:β→Rho}{c:β→Bool}{of:β→List D}{R:Out→Prop}
  (hE:EnvOk env sc) (hk:sc.names.lookup x=some .local) (hln:(px.line==pos.line&&!(scope.names.any fun(n,k)=>n==x&&(k==.local||k==.cell)))=true)
  (hf:Zv scope sc=true) (v4:Capt scope ρ ρ') (v8:ItE G n env iter ρ σ u0 names (xs.map bf)) (hs:∀x∈names,OwnName scope x) (x0:∀y∈xs,∀p∈bf y,p.1∈names) (v7:∀x∈names,ρ'.lookup x=none)
  (ht:∀u1,EnvOk u1 scope→∀y∈xs,PIf G n u1 u6 (bf y++ρ') σ (c y))
  (hb:∀u1 W,Inner G n scope u1 W→∀y∈xs,c y=true→TailJ G n u1 W AL (.ListComp elt (⟨u0,iter,u6,0⟩::gs) scope pos) 1 (bf y++ρ') σ (of y))
  (hsz:((xs.filter c).flatMap of).length≤1000000) (hR:R (.next ((x,.lst ((xs.filter c).flatMap of))::ρ) σ)) (x5:gs.all (fun g=>g.is_async==0)=true:=by rfl) (v9:∀x,foldedSetIterable iter env x=pure x:=by intro _;rfl) :
  X1 G n env (.Assign [.Name x px] (.ListComp elt (⟨u0,iter,u6,0⟩::gs) scope pos) u8) ρ σ R:=
 (zd9 (P:=AL) (mo:=.lst []) (out:=.lst) zc4 ⟨_,rfl⟩ rfl (fun l=>zbe l []) (fun _=>trivial) (fun _=>rfl) rfl rfl rfl (zll hE hk hln) hE hk hf v4 v8 hs x0 v7 ht hb hsz (zc2 x5) v9).1 hR
theorem zc9{β:Type}{x:Str}{px u8:Pos}{elt u0 iter:Expr}{u6:List Expr}{scope sc:Scope}{pos:Pos}{names:List Str}{ρ':Rho}{xs:List β}{bf:β→Rho}{c:β→Bool}{g:β→D}{R:Out→Prop}
  (hE:EnvOk env sc) (hk:sc.names.lookup x=some .local) (hln:(px.line==pos.line&&!(scope.names.any fun(n,k)=>n==x&&(k==.local||k==.cell)))=true)
  (hf:Zv scope sc=true) (v4:Capt scope ρ ρ') (v8:ItE G n env iter ρ σ u0 names (xs.map bf)) (hs:∀x∈names,OwnName scope x) (x0:∀y∈xs,∀p∈bf y,p.1∈names) (v7:∀x∈names,ρ'.lookup x=none)
  (ht:∀u1,EnvOk u1 scope→∀y∈xs,PIf G n u1 u6 (bf y++ρ') σ (c y))
  (hg:∀u1,EnvOk u1 scope→∀y∈xs,c y=true→PE G n u1 elt (bf y++ρ') σ (g y)) (hsz:xs.length≤1000000) (hR:R (.next ((x,.lst ((xs.filter c).map g))::ρ) σ)) (v9:∀x,foldedSetIterable iter env x=pure x:=by intro _;rfl) :
  X1 G n env (.Assign [.Name x px] (.ListComp elt [⟨u0,iter,u6,0⟩] scope pos) u8) ρ σ R:=by
 have e:(xs.filter c).flatMap (fun y=>[g y])=(xs.filter c).map g:=by rw[List.map_eq_flatMap]
 refine zk2 (of:=fun y=>[g y]) (gs:=[]) hE hk hln hf v4 v8 hs x0 v7 ht (fun u1 W hI y hy h=>QP rfl (hg u1 hI.ok y hy h))
  (by have:=List.length_filter_le c xs;rw[e,List.length_map];lia) (by rw[e];exact hR) (by simp) v9
theorem zpc{β:Type}{x:Str}{px u8:Pos}{ke ve u0 iter:Expr}{u6:List Expr}{gs:List Comprehension}{scope sc:Scope}{pos:Pos}{names:List Str}{ρ':Rho}{xs:List β}{bf:β→Rho}{c:β→Bool}{of:β→List (Str×D)}{R:Out→Prop}
  (hE:EnvOk env sc) (hk:sc.names.lookup x=some .local) (hln:(px.line==pos.line&&!(scope.names.any fun(n,k)=>n==x&&(k==.local||k==.cell)))=true)
  (hf:Zv scope sc=true) (v4:Capt scope ρ ρ') (v8:ItE G n env iter ρ σ u0 names (xs.map bf)) (hs:∀x∈names,OwnName scope x) (x0:∀y∈xs,∀p∈bf y,p.1∈names) (v7:∀x∈names,ρ'.lookup x=none)
  (ht:∀u1,EnvOk u1 scope→∀y∈xs,PIf G n u1 u6 (bf y++ρ') σ (c y))
  (hb:∀u1 W,Inner G n scope u1 W→∀y∈xs,c y=true→TailJ G n u1 W AS (.DictComp ke ve (⟨u0,iter,u6,0⟩::gs) scope pos) 1 (bf y++ρ') σ (of y))
  (hsz:((xs.filter c).flatMap of).length≤1000000) (hR:R (.next ((x,.dicS (qj [] ((xs.filter c).flatMap of)))::ρ) σ)) (x5:gs.all (fun g=>g.is_async==0)=true:=by rfl) (v9:∀x,foldedSetIterable iter env x=pure x:=by intro _;rfl) :
  X1 G n env (.Assign [.Name x px] (.DictComp ke ve (⟨u0,iter,u6,0⟩::gs) scope pos) u8) ρ σ R:=
 (zd9 (P:=AS) (mo:=.dicS []) (out:=fun l=>.dicS (qj [] l)) zc5 ⟨_,rfl⟩ rfl (fun l=>zbd l []) (fun _=>trivial) (fun _=>rfl) rfl rfl rfl (zfR hE hk hln) hE hk hf v4 v8 hs x0 v7 ht hb hsz (zc2 x5) v9).1 hR
theorem zjk{β:Type}{x:Str}{px u8:Pos}{ke ve u0 iter:Expr}{u6:List Expr}{gs:List Comprehension}{scope sc:Scope}{pos:Pos}{names:List Str}{ρ':Rho}{xs:List β}{bf:β→Rho}{c:β→Bool}{of:β→List (Str×D)}{R:Out→Prop}
  (hE:EnvOk env sc) (hk:sc.names.lookup x=some .local) (hln:(px.line==pos.line&&!(scope.names.any fun(n,k)=>n==x&&(k==.local||k==.cell)))=true)
  (hf:Zv scope sc=true) (v4:Capt scope ρ ρ') (v8:ItE G n env iter ρ σ u0 names (xs.map bf)) (hs:∀x∈names,OwnName scope x) (x0:∀y∈xs,∀p∈bf y,p.1∈names) (v7:∀x∈names,ρ'.lookup x=none)
  (ht:∀u1,EnvOk u1 scope→∀y∈xs,PIf G n u1 u6 (bf y++ρ') σ (c y))
  (hb:∀u1 W,Inner G n scope u1 W→∀y∈xs,c y=true→TailJ G n u1 W AS (.DictComp ke ve (⟨u0,iter,u6,0⟩::gs) scope pos) 1 (bf y++ρ') σ (of y))
  (hsz:((xs.filter c).flatMap of).length≤1000000) (hR:∀a,R (.next ((x,.raw (.ref a))::ρ) ((a,.dicS (qj [] ((xs.filter c).flatMap of)))::σ))) (x5:gs.all (fun g=>g.is_async==0)=true:=by rfl) (v9:∀x,foldedSetIterable iter env x=pure x:=by intro _;rfl) :
  X1 G n env (.Assign [.Name x px] (.DictComp ke ve (⟨u0,iter,u6,0⟩::gs) scope pos) u8) ρ σ R:=
 (zd9 (P:=AS) (mo:=.dicS []) (out:=fun l=>.dicS (qj [] l)) zc5 ⟨_,rfl⟩ rfl (fun l=>zbd l []) (fun _=>trivial) (fun _=>rfl) rfl rfl rfl (zfR hE hk hln) hE hk hf v4 v8 hs x0 v7 ht hb hsz (zc2 x5) v9).2 hR
end
section
open PySem PySem.W
variable {G:Gx}{n:Nat}{env:Env}{ρ:Rho}{σ:Sig}
theorem ziH{o:Expr}{u8 pos:Pos}{x:Str}{px:Pos}{ds:List (Str×D)}(ho:PE G n env o ρ σ (.dicS ds))
  (x3:attributeBase o "values" env (eval o env)=eval o env:=by rfl) (x4:(u8.endLine==pos.line)=true:=by rfl) :
  ItE G n env (.Call (.Attribute o "values" u8) [] [] pos) ρ σ (.Name x px) [x] (ds.map fun p=>[(x,p.2)]):=.mk fun A F s Q E hA H hQ=>
 Ji zlE (ho.out A F s _ E hA H fun v₀ F₁ s₁ g₁ V₁=>by
  have H₁:=H.grow g₁
  have t:=zeb (.self _) F₁ s₁ v₀ H₁.toBase V₁
  refine⟨t.1,t.2,wpAny_items_nil ?_⟩
  refine zY (V₁.inv) fun a o kvs q2_ y=>?_
  subst q2_
  have e:=H₁.fin _ _ y.1
  refine call_meetsIn PySem.F.slot_dict_values t.1 PySem.F.entry_dict_values (PySem.F.args_dict_values_1 _) (meets_dict_values (strKind G.prog G.w) a (beq_eq_false_iff_ne.mpr y.2.1)) ⟨⟨_,y.2.2.1.of e⟩,?_⟩
  have gA:Grow G [] F₁ s₁ F₁ {s₁ with heap:=s₁.heap.push {cls:=.type "dict_values",data:=.fields #[.ref a]}}:=.push0 H₁.fin
  have H₂:=H₁.grow gA
  have e1:(s₁.heap.push {cls:=.type "dict_values",data:=.fields #[.ref a]}).get? a=some o:=Heap.get?_push_of_some _ e
  have hio:∃o,(s₁.heap.push {cls:=.type "dict_values",data:=.fields #[.ref a]}).get? s₁.heap.objs.size=some o∧o={cls:=.type "dict_values",data:=.fields #[.ref a]}:=⟨_,Heap.get?_push_size _ rfl,rfl⟩
  generalize s₁.heap.push {cls:=.type "dict_values",data:=.fields #[.ref a]}=h₂ at *
  refine zd hio fun _ hio q1_=>?_
  subst q1_
  refine Exists.elim (zcX y.2.2.1 e1) fun ep hat=>?_
  refine wpAny_pyIter_values (s:={s₁ with heap:=h₂}) ⟨_,hio,rfl,rfl⟩ hat (zbW (St:=fun i h=>h.IsValIter h₂.objs.size a i kvs.length ep∧h.DictAt (strKind G.prog G.w) a kvs ep) (.name x px) (BindsL.map (g:=fun p:Str×D=>p.2) fun y _=>.name x px _) H₂.toBase (all_cons ⟨_,y.1⟩ zx) rfl
   (fun A' hA'=>by rw[List.length_map,←jX y.2.2.2.1];exact Walks.dictValues hA' h₂.objs.size a (q6 e1) kvs ep) (fun i v d hP hd=>?_) (fun i h st=>st.1.imp fun _ y=>y.1) (fun A' E' i v s' Q' st hq=>wpAny_pure hq) ⟨⟨_,Heap.get?_push_size _ rfl,rfl,rfl⟩,hat.at' fun o e=>Heap.get?_push_of_some _ e⟩
   fun I fp wr St F' s' g J st hwr=>hQ I fp wr St F' s' ((g₁.trans gA).trans g) J st fun a ha=>⟨Zi (g₁.trans gA) (hwr a ha).1,(hwr a ha).2⟩)
  refine Exists.elim hP fun k hx=>?_
  refine zd (y.2.2.2.2.get i hd) fun v' e1 hv'=>?_
  rw[List.getElem?_map,hx] at e1
  obtain rfl:v=v':=Option.some.inj e1
  exact hv') (fun _ _=>rfl) x3 rfl x4
theorem zfL{K:Type} [DecidableEq K] {F:FZ}{k:K}{kvs:List (K×Value)}{ds:List (K×D)}{v₀:Value}{d₀:D}(hk:kvs.map (·.1)=ds.map (·.1)) (hv:Vs G.prog G.w F (kvs.map (·.2)) (ds.map (·.2))) (h0:V G.prog G.w F v₀ d₀) :
  V G.prog G.w F ((valueAt kvs k).getD v₀) (((ds.find? fun p=>p.1=k).map (·.2)).getD d₀):=by
 rcases zcr k hk hv with e | ⟨v,x,e1,e2,h⟩
 ·rw[e.1,e.2];exact h0
 ·rw[e1,e2];exact h
theorem zgJ{K:Type} [DecidableEq K] {knd:KeyKind G.prog G.w K}{A:Around}{F:FZ}{s:Shared}{Q E:Value→Shared→Prop}{a:Addr}{o:Obj}{kvs:List (K×Value)}{d₀:D}{ds:List (K×D)}{k:K}{u w:Value}(H:Base G F σ s)
  (y:s.heap.get? a=some o∧a≠sysModules∧DictO knd o kvs∧kvs.map (·.1)=ds.map (·.1)∧Vs G.prog G.w F (kvs.map (·.2)) (ds.map (·.2))) (h2:knd.is k u=true) (h3:V G.prog G.w F w d₀)
  (hQ:∀v F' s',Grow G [] F s F' s'→V G.prog G.w F' v (((ds.find? fun p=>p.1=k).map (·.2)).getD d₀)→Q v s'):wpAny (model G.prog G.w) A (call (.builtin "dict.get") [.ref a,u,w]) Q E s:=
 call_meetsIn PySem.F.slot_dict_get (zcW y.2.2.1 y.1).1 PySem.F.entry_dict_get (PySem.F.args_dict_get_3 _ _ _) (meets_dict_get_default knd (k:=k) a h2 (beq_eq_false_iff_ne.mpr y.2.1) _) ⟨_,(y.2.2.1.of y.1).mapOf,hQ _ F _ (.tok H.fin) (zfL y.2.2.2.1 y.2.2.2.2 h3)⟩
theorem zkN{d d₀:D}{ds:List (Str×D)}{x:Str}(hr:Rd σ d (.dicS ds)):CallJ G n σ (.builtin "dict.get") [d,.str x,d₀] (((ds.find? fun p=>p.1=x).map (·.2)).getD d₀):=.mk fun A F s Q E vs hA H hv hQ=>by
 obtain⟨v,_,rfl,h1,hv⟩:=hv.inv
 refine Zk (hv.two) fun u w q19_ h2 h3=>?_
 subst q19_
 refine zY (zaz H h1 hr) fun a o kvs q17_ y=>?_
 subst q17_
 exact zgJ H y (zdf h2) h3 hQ
theorem zkO{d d₀:D}{ds:List (Int×D)}{x:Int}(hr:Rd σ d (.dicI ds)):CallJ G n σ (.builtin "dict.get") [d,.int x,d₀] (((ds.find? fun p=>p.1=x).map (·.2)).getD d₀):=.mk fun A F s Q E vs hA H hv hQ=>by
 obtain⟨v,_,rfl,h1,hv⟩:=hv.inv
 refine Zk (hv.two) fun u w q20_ h2 h3=>?_
 subst q20_
 refine zY (zej H h1 hr) fun a o kvs q18_ y=>?_
 subst q18_
 exact zgJ H y (zgp h2) h3 hQ
theorem zle{F:FZ}{e:Value→Bool}{f:D→Bool}{vs:List Value}{ds:List D}(h:Vs G.prog G.w F vs ds):(∀v d,d∈ds→V G.prog G.w F v d→e v=f d)→vs.countP e=ds.countP f:=
 h.ind (P:=fun vs ds=>(∀v d,d∈ds→V G.prog G.w F v d→e v=f d)→vs.countP e=ds.countP f) (fun _=>rfl) fun v d vs ds h _ ih hf=>by
  rw[List.countP_cons,List.countP_cons,hf _ _ (.head _) h,ih fun v d hd=>hf v d (.tail _ hd)]
theorem zi3{k:Nat}{d e:D}{ds:List D}(hr:Rd σ e (.lst ds)) (h:∀x∈ds,Like k x d) (hk:k+1≤100:=by decide):CallJ G n σ (.builtin "list.count") [e,d] (.int (ds.countP fun x=>eqD x d:Nat)):=.mk fun A F s Q E vs hA H hv hQ=>by
 refine Zk (hv.two) fun v w q10_ h1 h2=>?_
 subst q10_
 have t:=Z9 hr F s _ H h1
 refine zY (ZA H h1 hr) fun a vs m q9_ x=>?_
 subst q9_
 have e1:vs.toList.countP (za9 G.prog G.w F ds d)=ds.countP fun x=>eqD x d:=zle x.2 fun v x hx hv=>zcl h hx hv
 exact call_meets PySem.F.slot_list_count t.1 PySem.F.entry_list_count (PySem.F.args_list_count_2 _ _) (SeqAt.list_countAt a vs m none #[] _ (za9 G.prog G.w F ds d)) ⟨x.1,(zdK H hA h hk x.2 h2).1,by rw[e1];exact hQ _ F _ (.tok H.fin) (.int _ _)⟩
theorem zi1{k:Nat}{d e:D}{ds:List D}{j:Nat}{x:D}(hr:Rd σ e (.lst ds)) (h:∀x∈ds,Like k x d) (hj:ds[j]?=some x) (hx:eqD x d=true) (hno:∀i y,i<j→ds[i]?=some y→eqD y d=false) (hs:j≤1000000) (hk:k+1≤100:=by decide):CallJ G n σ (.builtin "list.index") [e,d] (.int (j:Nat)):=.mk fun A F s Q E vs hA H hv hQ=>by
 refine Zk (hv.two) fun v w q12_ h1 h2=>?_
 subst q12_
 have t:=Z9 hr F s _ H h1
 refine zY (ZA H h1 hr) fun a vs m q11_ y=>?_
 subst q11_
 have hl:vs.size=ds.length:=y.2.length
 have at_:∀i (hi:i<vs.size) z,ds[i]?=some z→za9 G.prog G.w F ds d vs[i]=eqD z d:=fun i hi z hz=>zcl h (List.mem_of_getElem? hz) (zaK y.2 (Array.getElem?_eq_getElem hi) hz)
 have hjl:j<vs.size:=hl▸(List.getElem?_eq_some_iff.mp hj).1
 exact call_meets PySem.F.slot_list_index t.1 PySem.F.entry_list_index (PySem.F.args_list_index_2 _ _) (SeqAt.list_indexAt a vs m none #[] _ (za9 G.prog G.w F ds d) j hjl (by lia) ((at_ j hjl x hj).trans hx)
  fun i hi hij=>(at_ i hi _ (List.getElem?_eq_getElem (hl▸hi))).trans (hno i _ hij (List.getElem?_eq_getElem _))) ⟨y.1,(zdK H hA h hk y.2 h2).1,hQ _ F _ (.tok H.fin) (.int _ _)⟩
theorem zbc(l:List Int) {i:Nat}(h:i<l.length):l[i]?=some (l.getD i 0):=by rw[List.getD_eq_getElem?_getD,List.getElem?_eq_getElem h];rfl
theorem zg5(l:List Int) (k:Nat) (h:k≤l.length):preSum (fun i=>l.getD i 0) k=(l.take k).sum:=by
 induction k with
 | zero=>rfl
 | succ k ih=>
  rw[preSum,ih (Nat.le_of_succ_le h),List.take_add_one,zbc l h,List.sum_append]
  exact congrArg _ (Int.add_zero _).symm
theorem JS{F:FZ}{vs:Array Value}{l:List Int}(h:Vs G.prog G.w F vs.toList (l.map .int)) {i:Nat}{v:Value}(hv:vs[i]?=some v):i<l.length∧∃t,v=.int (l.getD i 0) t:=by
 have hi:i<l.length:=(List.length_map (f:=D.int))▸h.length▸(Array.getElem?_eq_some_iff.mp hv).1
 have h1:V G.prog G.w F v (.int (l.getD i 0)):=zaK h hv (by rw[List.getElem?_map,zbc l hi];rfl)
 exact⟨hi,h1.inv⟩
theorem zgl{s:Shared}{a:Addr}{vs:Array Value}{m:Nat}(ho:s.heap.get? a=some {cls:=.type "list",data:=.seq vs m}) {it:Obj}:∀b∈[s.heap.objs.size,a],b<(s.heap.push it).objs.size:=
 all_cons (Heap.size_push ..▸Nat.lt_succ_self _) (all_cons (Heap.size_push ..▸Nat.lt_succ_of_lt (Heap.lt_size ho)) zx)
theorem J8{d:D}{l:List Int}(hr:Rd σ d (.lst (l.map .int))):CallJ G n σ (.builtin "sum") [d] (.int l.sum):=.mk fun A F s Q E vs hA H hv hQ=>by
 refine zd (hv.one) fun _ q14_ h1=>?_
 subst q14_
 refine qC (ZA H h1 hr) fun a vs m q13_ ho hvs=>?_
 subst q13_
 have hlen:vs.size=l.length:=hvs.length.trans (List.length_map _)
 refine call_sum_walkG (wpAny_pyIter_list ⟨_,ho,rfl,_,rfl⟩ ?_)
 refine⟨s.heap.objs.size,_,_,vs.size,_,_,fun i=>l.getD i 0,rfl,Walks.list (A:=A.in1) hA.handled s.heap.objs.size a (q6 ho) vs,⟨⟨_,Heap.get?_push_size _ rfl,rfl,rfl⟩,⟨_,Heap.get?_push_of_some _ ho,rfl,_,rfl⟩⟩,zgl ho,fun i v hP=>(JS hvs hP).2,fun h' tk t' hk=>?_⟩
 rw[hlen,zg5 l _ (Nat.le_refl _),List.take_length]
 exact hQ _ F _ (.of_keep H.fin fun b o e=>hk b o (fun h=>q6 e (List.mem_singleton.mp h)) (Heap.get?_push_of_some _ e)) (.int _ _)
noncomputable def Qr(l:List Int):Int:=l.getD (argBest (fun i j=>decide (l.getD i 0<l.getD j 0)) (l.length-1)) 0
theorem zi7(bt:Nat→Nat→Bool) (k:Nat):argBest bt k≤k:=by
 induction k with
 | zero=>exact Nat.le_refl _
 | succ k ih=>
  unfold argBest
  split
  ·exact Nat.le_refl _
  ·exact Nat.le_succ_of_le ih
theorem zhl(f:Nat→Int) (k:Nat):∀j,j≤k→f (argBest (fun i j=>decide (f i<f j)) k)≤f j:=by
 induction k with
 | zero=>intro j h;rw[Nat.le_zero.mp h];exact Int.le_refl _
 | succ k ih=>
  intro j h
  unfold argBest
  by_cases e:f (k+1)<f (argBest (fun i j=>decide (f i<f j)) k)
  ·rw[if_pos (decide_eq_true e)]
   exact(Nat.lt_or_eq_of_le h).elim (fun h1=>Int.le_trans (Int.le_of_lt e) (ih j (Nat.le_of_lt_succ h1))) fun h1=>h1▸Int.le_refl _
  ·rw[if_neg (mt of_decide_eq_true e)]
   exact(Nat.lt_or_eq_of_le h).elim (fun h1=>ih j (Nat.le_of_lt_succ h1)) fun h1=>h1▸Int.not_lt.mp e
theorem zgc{l:List Int}(h:l≠[]):Qr l∈l:=List.mem_of_getElem? (zbc l (Nat.lt_of_le_of_lt (zi7 _ _) (Nat.sub_one_lt (Nat.ne_of_gt (List.length_pos_iff.mpr h)))))
theorem zhK{l:List Int}{x:Int}(h:x∈l):Qr l≤x:=by
 refine Exists.elim (List.getElem?_of_mem h) fun j hj=>?_
 have hjl:=(List.getElem?_eq_some_iff.mp hj).1
 have:=zhl (fun i=>l.getD i 0) (l.length-1) j (Nat.le_sub_one_of_lt hjl)
 exact(Option.some.inj ((zbc l hjl).symm.trans hj):l.getD j 0=x)▸this
theorem zgI{d:D}{l:List Int}(hr:Rd σ d (.lst (l.map .int))) (h0:l≠[]):CallJ G n σ (.builtin "min") [d] (.int (Qr l)):=.mk fun A F s Q E vs hA H hv hQ=>by
 refine zd (hv.one) fun _ q16_ h1=>?_
 subst q16_
 refine qC (ZA H h1 hr) fun a vs m q15_ ho hvs=>?_
 subst q15_
 have hlen:vs.size=l.length:=hvs.length.trans (List.length_map _)
 refine call_min_walk (wpAny_pyIter_list ⟨_,ho,rfl,_,rfl⟩ ?_)
 refine⟨s.heap.objs.size,_,_,vs.size,_,_,fun i j=>decide (l.getD i 0<l.getD j 0),rfl,Walks.list (A:=A.in1) hA.handled s.heap.objs.size a (q6 ho) vs,⟨⟨_,Heap.get?_push_size _ rfl,rfl,rfl⟩,⟨_,Heap.get?_push_of_some _ ho,rfl,_,rfl⟩⟩,zgl ho,hlen▸List.length_pos_iff.mpr h0,fun i j vi vj s' Q' E' hi hj hq=>?_,fun v h' tk hP hk=>?_⟩
 ·obtain⟨_,t,rfl⟩:=JS hvs hi
  obtain⟨_,t',rfl⟩:=JS hvs hj
  exact wpAny_lt_int hq
 ·obtain⟨_,t,rfl⟩:=JS hvs hP
  rw[hlen]
  exact hQ _ F _ (.of_keep H.fin fun b o e=>hk b o (fun h=>q6 e (List.mem_singleton.mp h)) (Heap.get?_push_of_some _ e)) (.int _ _)
end
section
open PySem PySem.W
variable {G:Gx}{n:Nat}{env:Env}{ρ:Rho}{σ:Sig}
theorem zeQ{pos:Pos}:PE G n env (.Dict [] [] pos) ρ σ (.dicS []):=.mk fun A F s Q E hA H hQ=>
 wpAny_Dict_empty (hQ _ _ _ (.push H.fin rfl) (.dicS (FZ.put_self ..) (qE H.toBase) QV rfl .nil))
theorem zj0{pos:Pos}:PE G n env (.Dict [] [] pos) ρ σ (.dicI []):=.mk fun A F s Q E hA H hQ=>
 wpAny_Dict_empty (hQ _ _ _ (.push H.fin rfl) (.dicI (FZ.put_self ..) (qE H.toBase) QV rfl .nil))
theorem zeO{pos:Pos}:PO G n env (.Dict [] [] pos) ρ σ (.dicS []):=.mk fun A F s Q E hA H hQ=>
 wpAny_Dict_empty (hQ _ _ _ (.push0 H.fin) (ZV _) ⟨_,[],Heap.get?_push_size _ rfl,qE H.toBase,QV,rfl,.nil⟩ H.toBase.fresh)
theorem zeP{ke ve:Expr}{pos:Pos}{k:Str}{d:D}(hk:PE G n env ke ρ σ (.str k)) (hv:PE G n env ve ρ σ d)
  (hshape:(evalEachOpt [some ke] env).zip ((evalEach [ve] env).map fun v=>do let x ←v;standAt pos;pure x)=[(eval ke env,do let x ←eval ve env;standAt pos;pure x)].map fun p=>(some p.1,p.2):=by rfl):PE G n env (.Dict [some ke] [ve] pos) ρ σ (.dicS [(k,d)]):=.mk fun A F s Q E hA H hQ=>by
 have g₀:Grow G [] F s F {s with heap:=s.heap.push {cls:=.type "dict",data:=.dict #[]}}:=.push0 H.fin
 have H₀:=H.grow g₀
 refine wpAny_Dict_pairs (knd:=strKind G.prog G.w) (pairs:=[(eval ke env,do let x ←eval ve env;standAt pos;pure x)]) hshape (by simp) (by simp) ?_
 refine wpAny_bind (hk.out A F _ _ E hA H₀ fun kv F₁ s₁ g₁ V₁=>wpAny_bind (wpAny_holding (wpAny_bind (hv.out A F₁ s₁ _ E hA (H₀.grow g₁) fun vv F₂ s₂ g₂ V₂=>wpAny_bind (wpAny_standAt (wpAny_pure (wpAny_bind (wpAny_holding (wpAny_pure (wpAny_pure ?_))))))))))
 have hsz:=QR s.heap
 have e₀:(s.heap.push {cls:=.type "dict",data:=.dict #[]}).get? s.heap.objs.size=some {cls:=.type "dict",data:=.dict #[]}:=Heap.get?_push_size _ rfl
 have hX:s.heap.objs.size≠G.X:=H.toBase.noX (Nat.le_refl _)
 have gg:=g₁.trans g₂
 have hF₂:F₂ s.heap.objs.size=none:=Za gg H.toBase.fresh e₀
 refine⟨[(k,vv)],⟨zdf V₁,rfl,trivial⟩,QV.of (gg.keep _ _ hX List.not_mem_nil e₀),fun h' hD hs=>?_⟩
 refine Exists.elim (DictO.to hD) fun o' e'=>?_
 have gx:Grow G [s.heap.objs.size] F₂ s₂ F₂ {s₂ with heap:=h',toks:=s₂.toks+1}:=.turn (H₀.grow gg).toBase hs ⟨_,e'.1⟩ hF₂ hX
 have g₃:Grow G [] F s F₂ {s₂ with heap:=h',toks:=s₂.toks+1}:=(((g₀.trans gg).wider (wr':=[]++[s.heap.objs.size]) zx).trans gx).unfresh (all_cons hsz zx)
 exact hQ _ _ _ (g₃.freeze hsz hF₂ e'.1) (.dicS (FZ.put_self ..) (qE H.toBase) e'.2 rfl (.cons (V₂.mono (FZ.le_put hF₂)) .nil))
theorem zi4{d:D}{ds:List (Str×D)}{A:Around}{F:FZ}{s:Shared}{Q E:Value→Shared→Prop}{v:Value}(hA:AOk n A) (H:Base G F σ s) (hv:V G.prog G.w F v d) (hr:Rd σ d (.dicS ds)) (hl:ds.length≤1000000)
  (hQ:∀a F' s',Grow G [] F s F' s'→s.heap.get? a=none→MAt G F' s'.heap a (.dicS ds)→F' a=none→Q (.ref a) s'):wpAny (model G.prog G.w) A (call (.type "dict") [v]) Q E s:=by
 refine zY (zaz H hv hr) fun a o kvs q1_ y=>?_
 subst q1_
 refine kt_call_dict (knd:=strKind G.prog G.w) (beq_eq_false_iff_ne.mpr y.2.1) (y.2.2.1.of y.1) (Zh (Nat.le_trans (Nat.le_of_eq (jX y.2.2.2.1)) hl)) fun h' hD' hs'=>?_
 refine Exists.elim (DictO.to hD') fun o' e'=>?_
 exact hQ s.heap.objs.size F _ (.of_keep (tk:=s.toks) H.fin fun b o e=>hs'.extBut b o (q6 e) (Heap.get?_push_of_some _ e)) (QR _) ⟨o',kvs,e'.1,qE H,e'.2,y.2.2.2⟩ H.fresh
theorem zfV{arg:Expr}(hs:[arg].all kdsPlain=true):qr [arg]:=fun _ env=>by rw[Z0 hs env];rfl
theorem znc{f arg:Expr}{pos:Pos}{d:D}{ds:List (Str×D)}(hf:PE G n env f ρ σ (.raw (.type "dict"))) (ha:PE G n env arg ρ σ d) (hr:Rd σ d (.dicS ds)) (hl:ds.length≤1000000)
  (hs:[arg].all kdsPlain=true:=by rfl)
  (he:∀env,eval (.Call f [arg] [] pos) env=(do callWith pos (←eval f env) [] (backTo pos (starEach [arg] env)) (backToKw pos (keywordEach [] env))):=by intro _;rfl):PO G n env (.Call f [arg] [] pos) ρ σ (.dicS ds):=.mk fun A F s Q E hA H hQ=>by
 rw[he]
 refine wpAny_bind (hf.out A F s _ E hA H fun v F₁ s₁ g₁ V₁=>?_)
 obtain rfl:=V₁.inv
 exact jn (zfV hs) z2 (wpAny_items_cons (ha.out A F₁ s₁ _ E hA (H.grow g₁) fun v F₂ s₂ g₂ V₂=>wpAny_items_nil ⟨⟨F₂,((H.grow g₁).grow g₂).toBase⟩,
  zi4 hA ((H.grow g₁).grow g₂).toBase V₂ hr hl fun a F' s' g₃ hn hm hF=>hQ a F' s' ((g₁.trans g₂).trans g₃) (Zi (g₁.trans g₂) hn) hm hF⟩) (Z0 hs env))
noncomputable def qH{α:Type}(l:List α) (lo hi st:Option Int):List α:=(sliceRange (sliceBounds lo hi st l.length).1 (sliceBounds lo hi st l.length).2.1 (sliceBounds lo hi st l.length).2.2).filterMap (l[·]?)
structure PPart (G:Gx) (n:Nat) (env:Env) (e:Option Expr) (ρ:Rho) (σ:Sig) (i:Option Int):Prop where
 out:∀(A:Around) (F:FZ) (s:Shared) (Q E:Value→Shared→Prop),AOk n A→Holds G env F ρ σ s→(∀v F' s',Grow G [] F s F' s'→IsPart v i→Q v s')→wpAny (model G.prog G.w) A (evalPart e env) Q E s
theorem ql:PPart G n env none ρ σ none:=.mk fun A F s Q E hA H hQ=>by rw[evalPart_none];exact wpAny_pure (hQ _ F s (.refl H.fin) .none)
theorem Q2{e:Expr}{i:Int}(h:PE G n env e ρ σ (.int i)):PPart G n env (some e) ρ σ (some i):=.mk fun A F s Q E hA H hQ=>by
 rw[evalPart_some];exact h.out A F s Q E hA H fun v F' s' g hv=>by obtain⟨_,rfl⟩:=hv.inv;exact hQ _ F' s' g (.int _ _)
theorem zmX{F:FZ}{vs:Array Value}{ds:List D}(h:Vs G.prog G.w F vs.toList ds) (is:List Nat):Vs G.prog G.w F (is.filterMap (vs[·]?)) (is.filterMap (ds[·]?)):=by
 induction is with
 | nil=>exact .nil
 | cons i is ih=>
  rw[List.filterMap_cons,List.filterMap_cons]
  cases e:ds[i]? with
  | none=>
   rw[Array.getElem?_eq_none_iff.mpr (Nat.le_trans (Nat.le_of_eq h.length) (List.getElem?_eq_none_iff.mp e))]
   exact ih
  | some d=>
   refine zd (h.get i e) fun v e1 hv=>?_
   rw[show vs[i]?=some v from Array.getElem?_toList.symm.trans e1]
   exact .cons hv ih
theorem QU{value:Expr}{lower upper step:Option Expr}{p pos:Pos}{d:D}{ds:List D}{lo hi st:Option Int}(h:PE G n env value ρ σ d) (hr:Rd σ d (.lst ds)) (h1:PPart G n env lower ρ σ lo) (h2:PPart G n env upper ρ σ hi) (h3:PPart G n env step ρ σ st) (h0:st≠some 0) (hl:ds.length≤1000000) :
  PE G n env (.Subscript value (.Slice lower upper step p) pos) ρ σ (.lst (qH ds lo hi st)):=.mk fun A F s Q E hA H hQ=>
 PyProof.Rows.Subscript_ (h.out A F s _ E hA H fun v₁ F₁ s₁ g₁ V₁=>wpAny_Slice (h1.out A F₁ s₁ _ E hA (H.grow g₁) fun w₁ F₂ s₂ g₂ p₁=>h2.out A F₂ s₂ _ E hA ((H.grow g₁).grow g₂) fun w₂ F₃ s₃ g₃ p₂=>h3.out A F₃ s₃ _ E hA (((H.grow g₁).grow g₂).grow g₃) fun w₃ F₄ s₄ g₄ p₃=>by
  have H₄:=(((H.grow g₁).grow g₂).grow g₃).grow g₄
  have g₅:Grow G [] F₄ s₄ F₄ {s₄ with heap:=s₄.heap.push {cls:=.type "slice",data:=.fields #[w₁,w₂,w₃]}}:=.push0 H₄.fin
  have H₅:=H₄.grow g₅
  refine zY (ZA H₅.toBase (V₁.mono (g₂.le.trans (g₃.le.trans g₄.le))) hr) fun a vs m q2_ x=>?_
  subst q2_
  have hlen:vs.size=ds.length:=x.2.length
  refine PyProof.Rows.tail_any (T:="list") ⟨_,x.1,rfl⟩ list_getitem_lookup (wpAny_getItem_list_slice ⟨_,x.1,rfl,_,rfl⟩ (Heap.IsSliceOf.new ..) p₁ p₂ p₃ h0 ?_ (Zh (hlen▸hl))) (jS (.Slice lower upper step p) (.ref a) (.ref s₄.heap.objs.size))
  refine hQ _ _ _ (((((g₁.trans g₂).trans g₃).trans g₄).trans g₅).trans (.push H₅.fin rfl)) (.lst (FZ.put_self ..) rfl ((?_:Vs _ _ _ _ _).mono (FZ.le_put H₅.toBase.fresh)))
  have e2:(slicePick vs lo hi st).toList=(sliceRange (sliceBounds lo hi st vs.size).1 (sliceBounds lo hi st vs.size).2.1 (sliceBounds lo hi st vs.size).2.2).filterMap (vs[·]?):=by unfold slicePick;simp
  rw[e2,hlen]
  exact zmX x.2 _))
theorem zcy{i:Int}:CallJ G n σ (.builtin "isinstance") [.int i,.raw (.type "int")] (.bool true):=.mk fun A F s Q E vs hA H hv hQ=>by
 refine Zk (hv.two) fun _ _ q4_ h1 h2=>?_
 subst q4_
 refine Exists.elim (h1.inv) fun _ q3_=>?_
 subst q3_
 obtain rfl:=h2.inv
 exact PySem.IsiPair.int_int (hQ _ F s (.refl H.fin) (.bool _))
theorem zfq{i:Int}:CallJ G n σ (.builtin "isinstance") [.int i,.raw (.type "tuple")] (.bool false):=.mk fun A F s Q E vs hA H hv hQ=>by
 refine Zk (hv.two) fun _ _ q6_ h1 h2=>?_
 subst q6_
 refine Exists.elim (h1.inv) fun _ q5_=>?_
 subst q5_
 obtain rfl:=h2.inv
 exact PySem.IsiPair.int_tuple (hQ _ F _ (.tok H.fin) (.bool _))
theorem zdH{l:List D}:CallJ G n σ (.builtin "isinstance") [.tup l,.raw (.type "tuple")] (.bool true):=.mk fun A F s Q E vs hA H hv hQ=>by
 refine Zk (hv.two) fun _ _ q8_ h1 h2=>?_
 subst q8_
 obtain rfl:=h2.inv
 refine zY (zbL H h1 (.self _)) fun a vs m q7_ x=>?_
 subst q7_
 exact PySem.IsiPair.tuple_tuple x.1 rfl (hQ _ F s (.refl H.fin) (.bool _))
theorem zl8{i:Int}(hs:(PySem.baseText "0x" 16 i).length≤1000000):CallJ G n σ (.builtin "hex") [.int i] (.str (PySem.baseText "0x" 16 i)):=.mk fun A F s Q E vs hA H hv hQ=>by
 refine zd (hv.one) fun _ q10_ h1=>?_
 subst q10_
 refine Exists.elim (h1.inv) fun _ q9_=>?_
 subst q9_
 exact PySem.P.hex_of_int (hQ _ F _ (.tok H.fin) (.str _ _)) (Zh hs)
theorem zg0{F:FZ}{l:List Str}:∀{vs:List Value},Vs G.prog G.w F vs (l.map .str)→∃p:List (Str×Tok),strValues p=vs∧p.map (·.1)=l:=by
 induction l with
 | nil=>exact fun h=>⟨[],h.inv.symm,rfl⟩
 | cons x l ih=>
  intro vs h
  refine Zk (h.inv) fun _ vs' q14_ h1 h2=>?_
  subst q14_
  refine Exists.elim (h1.inv) fun t q13_=>?_
  subst q13_
  refine zd (ih h2) fun p q11_ q12_=>?_
  subst q11_
  subst q12_
  exact⟨(x,t)::p,rfl,rfl⟩
theorem zfg{sep:Str}{d:D}{l:List Str}(hr:Rd σ d (.lst (l.map .str))) (hok:JoinOk sep l=true):CallJ G n σ (.builtin "str.join") [.str sep,d] (.str (Txt.join sep l)):=.mk fun A F s Q E vs hA H hv hQ=>by
 refine Zk (hv.two) fun _ _ q17_ h1 h2=>?_
 subst q17_
 refine Exists.elim (h1.inv) fun _ q16_=>?_
 subst q16_
 refine zY (ZA H h2 hr) fun a vs m q15_ x=>?_
 subst q15_
 refine zd (zg0 x.2) fun p h3 h4=>?_
 refine PySem.SC.join (l:=p) ⟨_,x.1,rfl,m,?_⟩ h4 hok fun t' k=>hQ _ F _ (.tok H.fin) (.str _ _)
 rw[h3]
theorem zmW{F:FZ}(p:List (Str×Tok)):Vs G.prog G.w F (strValues p) ((p.map (·.1)).map .str):=by
 induction p with
 | nil=>exact .nil
 | cons a p ih=>exact .cons (.str _ _) ih
theorem zd3{x y:Str}(hy:(y.length==0)=false) (hx:x.length≤1000000) (hn:(Txt.split x y).length≤1000000):CallJ G n σ (.builtin "str.split") [.str x,.str y] (.lst ((Txt.split x y).map .str)):=.mk fun A F s Q E vs hA H hv hQ=>by
 refine Zk (hv.two) fun _ _ q20_ h1 h2=>?_
 subst q20_
 refine Exists.elim (h1.inv) fun t q19_=>?_
 subst q19_
 refine Exists.elim (h2.inv) fun u q18_=>?_
 subst q18_
 have fin:∀(p:List (Str×Tok)) (tk:Nat),p.map (·.1)=Txt.split x y→Q (.ref s.heap.objs.size) {s with heap:=s.heap.push {cls:=.type "list",data:=.seq (strValues p).toArray},toks:=tk}:=fun p tk hp=>by
  have g₁:Grow G [] F s F {s with toks:=tk}:=.tok H.fin
  refine hQ _ _ _ (g₁.trans (.push (o:={cls:=.type "list",data:=.seq (strValues p).toArray}) g₁.fin rfl)) (.lst (FZ.put_self ..) rfl ?_)
  rw[←hp]
  exact zmW p
 unfold Txt.split at fin hn
 by_cases h1:(decide (x.length<y.length)||decide (Builtin.Str.strKind x<Builtin.Str.strKind y))=true
 ·rw[if_pos h1] at fin
  exact call_meets PySem.F.slot_str_split (typeIs_str _ _ _) PySem.F.entry_str_split (PySem.F.args_str_split_2 _ _) (meets_str_split_cannot_occur x y t u h1) (fin [(x,t)] s.toks rfl)
 ·have h1':=Bool.eq_false_iff.mpr h1
  rw[if_neg h1] at fin hn
  by_cases hf:(Builtin.Str.occurrences x y 0 x.length (x.length+1)).isEmpty=true
  ·rw[if_pos hf] at fin
   exact call_meets PySem.F.slot_str_split (typeIs_str _ _ _) PySem.F.entry_str_split (PySem.F.args_str_split_2 _ _) (meets_str_split_not_found x y t u h1' hy hf) (fin [(x,t)] s.toks rfl)
  ·rw[if_neg hf] at fin hn
   refine call_meets PySem.F.slot_str_split (typeIs_str _ _ _) PySem.F.entry_str_split (PySem.F.args_str_split_2 _ _) (meets_str_split_sep x y t u h1' hy (Bool.eq_false_iff.mpr hf) (Zh hx) (Zh hn)) ?_
   rw[strsFrom_eq]
   exact fin _ _ (numbered_texts _ _)
end
section
open PySem PySem.W
variable {G:Gx}{n:Nat}{env:Env}{ρ:Rho}{σ:Sig}
theorem ziV{k:Nat}{as bs:List D}(h:Likes k as bs) (hk:k+1≤100:=by decide):CmpJ G n σ .NotEq (.tup as) (.tup bs) (!(qz as bs)):=.mk fun A F s Q E v₁ v₂ hA H h₁ h₂ hQ=>by
 refine zY (h₁.inv) fun a vs n q2_ x=>?_
 subst q2_
 refine zY (h₂.inv) fun b vs' n' q1_ y=>?_
 subst q1_
 have hq:=hQ F s (.refl H.fin)
 rw[zbh,←x.2.length,←y.2.length] at hq
 exact SeqAt.RcNeAt.tuples ⟨_,H.fin _ _ x.1,rfl,_,rfl⟩ ⟨_,H.fin _ _ y.1,rfl,_,rfl⟩ (J1 (hA.room hk)) (zdS H.fin h (jT (hA.room hk)) x.2 y.2) G.prog G.w E Q hq
theorem zbm{k:Nat}{d e:D}{as bs:List D}(hr:Rd σ d (.lst as)) (hr':Rd σ e (.lst bs)) (h:Likes k as bs) (hk:k+1≤100:=by decide):CmpJ G n σ .NotEq d e (!(qz as bs)):=.mk fun A F s Q E v₁ v₂ hA H h₁ h₂ hQ=>by
 refine zY (ZA H h₁ hr) fun a vs m q4_ x=>?_
 subst q4_
 refine zY (ZA H h₂ hr') fun b us m' q3_ y=>?_
 subst q3_
 have hq:=hQ F s (.refl H.fin)
 by_cases hl:as.length=bs.length
 ·rw[ze6 hl,←x.2.length] at hq
  exact SeqAt.RcNeAt.lists ⟨_,x.1,rfl,_,rfl⟩ ⟨_,y.1,rfl,_,rfl⟩ (x.2.length.trans (hl.trans y.2.length.symm)) (J1 (hA.room hk)) (zdS H.fin h (jT (hA.room hk)) x.2 y.2) G.prog G.w E Q hq
 ·rw[zgB hl] at hq
  exact SeqAt.RcNeAt.lists_lengths ⟨_,x.1,rfl,_,rfl⟩ ⟨_,y.1,rfl,_,rfl⟩ (bne_iff_ne.mpr fun e=>hl (x.2.length.symm.trans (e.trans y.2.length))) (J1 (hA.room hk)) G.prog G.w E Q hq
theorem qe{K:Type} [BEq K] [LawfulBEq K] [DecidableEq K] (a b:K):(a==b)=decide (a=b):=by
 by_cases h:a=b
 ·subst h;simp
 ·simp[h]
theorem QE{x y:Str}:CmpJ G n σ .Eq (.str x) (.str y) (decide (x=y)):=by rw[←qe];exact ziX
theorem zbi(a b:Str):eqD (.str a) (.str b)=decide (a=b):=by simp only[eqD,qe]
theorem zlZ(a b:Int):eqD (.int a) (.int b)=decide (a=b):=by simp only[eqD,qe]
theorem zhg{a b c d:Str}:CmpJ G n σ .NotEq (.tup [.str a,.str b]) (.tup [.str c,.str d]) (decide ((a,b)≠(c,d))):=by
 have:=ziV (G:=G) (n:=n) (σ:=σ) (k:=0) (as:=[.str a,.str b]) (bs:=[.str c,.str d]) (.cons .str (.cons .str .nil))
 have e:(!(qz [.str a,.str b] [.str c,.str d]))=decide ((a,b)≠(c,d)):=by
  simp only[qz,zbi,Bool.and_true]
  by_cases h1:a=c<;>by_cases h2:b=d<;>simp[h1,h2]
 rwa[e] at this
theorem zfl{x y:Str}(l:List (Str×Str)):((l.map fun p=>D.tup [.str p.1,.str p.2]).any fun z=>eqD z (.tup [.str x,.str y]))=decide ((x,y)∈l):=by
 rw[List.any_map]
 induction l with
 | nil=>rfl
 | cons p l ih=>
  obtain⟨a,b⟩:=p
  rw[List.any_cons,ih]
  simp only[Function.comp,eqD,qz,qe,Bool.and_true,List.mem_cons,Prod.mk.injEq,Bool.decide_or,Bool.decide_and]
  rw[show decide (a=x)=decide (x=a) from decide_eq_decide.mpr eq_comm,show decide (b=y)=decide (y=b) from decide_eq_decide.mpr eq_comm]
theorem zlP{x y:Str}{e:D}{l:List (Str×Str)}(hr:Rd σ e (.lst (l.map fun p=>.tup [.str p.1,.str p.2]))):CmpJ G n σ .In (.tup [.str x,.str y]) e (decide ((x,y)∈l)):=by
 have:=zkj (G:=G) (n:=n) (k:=1) (d:=.tup [.str x,.str y]) hr (fun z hz=>by obtain⟨p,_,rfl⟩:=List.mem_map.mp hz;exact .tup (.cons .str (.cons .str .nil)))
 rwa[zfl] at this
theorem zg7{x y:Str}{e:D}{l:List (Str×Str)}(hr:Rd σ e (.lst (l.map fun p=>.tup [.str p.1,.str p.2]))):CmpJ G n σ .NotIn (.tup [.str x,.str y]) e (decide ((x,y)∉l)):=by
 have:=zeT (G:=G) (n:=n) (k:=1) (d:=.tup [.str x,.str y]) hr (fun z hz=>by obtain⟨p,_,rfl⟩:=List.mem_map.mp hz;exact .tup (.cons .str (.cons .str .nil)))
 rw[zfl] at this
 rwa[decide_not]
theorem zgP{x:Str}(l:List Str):((l.map D.str).any fun z=>eqD z (.str x))=decide (x∈l):=by
 rw[List.any_map]
 induction l with
 | nil=>rfl
 | cons a l ih=>
  rw[List.any_cons,ih]
  simp only[Function.comp,zbi,List.mem_cons,Bool.decide_or]
  rw[show decide (a=x)=decide (x=a) from decide_eq_decide.mpr eq_comm]
theorem zhR{x:Str}{e:D}{l:List Str}(hr:Rd σ e (.lst (l.map .str))):CmpJ G n σ .In (.str x) e (decide (x∈l)):=by
 have:=zkj (G:=G) (n:=n) (k:=0) (d:=.str x) hr (fun y hy=>by obtain⟨z,_,rfl⟩:=List.mem_map.mp hy;exact .str)
 rwa[zgP] at this
theorem Q3{x:Str}{e:D}{l:List Str}(hr:Rd σ e (.lst (l.map .str))):CmpJ G n σ .NotIn (.str x) e (decide (x∉l)):=by
 have:=zeT (G:=G) (n:=n) (k:=0) (d:=.str x) hr (fun y hy=>by obtain⟨z,_,rfl⟩:=List.mem_map.mp hy;exact .str)
 rw[zgP] at this
 rwa[decide_not]
end
section
open PySem PySem.W
variable {G:Gx}{n:Nat}{env:Env}{ρ:Rho}{σ:Sig}
theorem zaT{K β:Type} [DecidableEq K] {xs:List β}{kf:β→K}{g:β→D}(hn:(xs.map kf).Nodup):qj [] (xs.flatMap fun y=>[(kf y,g y)])=xs.map fun y=>(kf y,g y):=by
 have e:(xs.flatMap fun y=>[(kf y,g y)])=xs.map fun y=>(kf y,g y):=by rw[List.map_eq_flatMap]
 rw[e,zfn _ _ (by simpa [List.map_map,Function.comp_def] using hn)]
 rfl
theorem zbf{α β:Type}{xs:List β}{f:β→α}:(xs.flatMap fun y=>[f y]).length=xs.length:=by rw[←List.map_eq_flatMap,List.length_map]
theorem Qq{β:Type}{ke ve u0 iter:Expr}{u6:List Expr}{scope sc:Scope}{pos:Pos}{names:List Str}{ρ':Rho}{xs:List β}{bf:β→Rho}{c:β→Bool}{kf:β→Str}{g:β→D}
  (hE:EnvOk env sc) (hf:Zv scope sc=true) (v4:Capt scope ρ ρ') (v8:ItE G n env iter ρ σ u0 names (xs.map bf)) (hs:∀x∈names,OwnName scope x) (x0:∀y∈xs,∀p∈bf y,p.1∈names) (v7:∀x∈names,ρ'.lookup x=none)
  (ht:∀u1,EnvOk u1 scope→∀y∈xs,PIf G n u1 u6 (bf y++ρ') σ (c y))
  (hk:∀u1,EnvOk u1 scope→∀y∈xs,c y=true→PE G n u1 ke (bf y++ρ') σ (.str (kf y)))
  (hg:∀u1,EnvOk u1 scope→∀y∈xs,c y=true→PE G n u1 ve (bf y++ρ') σ (g y))
  (hsz:xs.length≤1000000) (hnd:((xs.filter c).map kf).Nodup) (v9:∀x,foldedSetIterable iter env x=pure x:=by intro _;rfl) :
  PE G n env (.DictComp ke ve [⟨u0,iter,u6,0⟩] scope pos) ρ σ (.dicS ((xs.filter c).map fun y=>(kf y,g y))):=by
 have:=zoz (of:=fun y=>[(kf y,g y)]) (gs:=[]) (ke:=ke) (ve:=ve) (pos:=pos) hE hf v4 v8 hs x0 v7 ht (fun u1 W hI y hy h=>zaN rfl (hk u1 hI.ok y hy h) (hg u1 hI.ok y hy h))
  (by rw[zbf];have:=List.length_filter_le c xs;lia) (by simp) v9
 rwa[zaT hnd] at this
theorem zn5{β:Type}{x:Str}{px u8:Pos}{ke ve u0 iter:Expr}{u6:List Expr}{scope sc:Scope}{pos:Pos}{names:List Str}{ρ':Rho}{xs:List β}{bf:β→Rho}{c:β→Bool}{kf:β→Str}{g:β→D}{R:Out→Prop}
  (hE:EnvOk env sc) (hx:sc.names.lookup x=some .local) (hln:(px.line==pos.line&&!(scope.names.any fun(n,k)=>n==x&&(k==.local||k==.cell)))=true)
  (hf:Zv scope sc=true) (v4:Capt scope ρ ρ') (v8:ItE G n env iter ρ σ u0 names (xs.map bf)) (hs:∀x∈names,OwnName scope x) (x0:∀y∈xs,∀p∈bf y,p.1∈names) (v7:∀x∈names,ρ'.lookup x=none)
  (ht:∀u1,EnvOk u1 scope→∀y∈xs,PIf G n u1 u6 (bf y++ρ') σ (c y))
  (hk:∀u1,EnvOk u1 scope→∀y∈xs,c y=true→PE G n u1 ke (bf y++ρ') σ (.str (kf y)))
  (hg:∀u1,EnvOk u1 scope→∀y∈xs,c y=true→PE G n u1 ve (bf y++ρ') σ (g y))
  (hsz:xs.length≤1000000) (hnd:((xs.filter c).map kf).Nodup) (hR:R (.next ((x,.dicS ((xs.filter c).map fun y=>(kf y,g y)))::ρ) σ)) (v9:∀x,foldedSetIterable iter env x=pure x:=by intro _;rfl) :
  X1 G n env (.Assign [.Name x px] (.DictComp ke ve [⟨u0,iter,u6,0⟩] scope pos) u8) ρ σ R:=
 zpc (of:=fun y=>[(kf y,g y)]) (gs:=[]) hE hx hln hf v4 v8 hs x0 v7 ht (fun u1 W hI y hy h=>zaN rfl (hk u1 hI.ok y hy h) (hg u1 hI.ok y hy h))
  (by rw[zbf];have:=List.length_filter_le c xs;lia) (by rw[zaT hnd];exact hR) (by simp) v9
theorem zh5{β:Type}{x:Str}{px u8:Pos}{ke ve u0 iter:Expr}{u6:List Expr}{scope sc:Scope}{pos:Pos}{names:List Str}{ρ':Rho}{xs:List β}{bf:β→Rho}{c:β→Bool}{kf:β→Str}{g:β→D}{R:Out→Prop}
  (hE:EnvOk env sc) (hx:sc.names.lookup x=some .local) (hln:(px.line==pos.line&&!(scope.names.any fun(n,k)=>n==x&&(k==.local||k==.cell)))=true)
  (hf:Zv scope sc=true) (v4:Capt scope ρ ρ') (v8:ItE G n env iter ρ σ u0 names (xs.map bf)) (hs:∀x∈names,OwnName scope x) (x0:∀y∈xs,∀p∈bf y,p.1∈names) (v7:∀x∈names,ρ'.lookup x=none)
  (ht:∀u1,EnvOk u1 scope→∀y∈xs,PIf G n u1 u6 (bf y++ρ') σ (c y))
  (hk:∀u1,EnvOk u1 scope→∀y∈xs,c y=true→PE G n u1 ke (bf y++ρ') σ (.str (kf y)))
  (hg:∀u1,EnvOk u1 scope→∀y∈xs,c y=true→PE G n u1 ve (bf y++ρ') σ (g y))
  (hsz:xs.length≤1000000) (hnd:((xs.filter c).map kf).Nodup) (hR:∀a,R (.next ((x,.raw (.ref a))::ρ) ((a,.dicS ((xs.filter c).map fun y=>(kf y,g y)))::σ))) (v9:∀x,foldedSetIterable iter env x=pure x:=by intro _;rfl) :
  X1 G n env (.Assign [.Name x px] (.DictComp ke ve [⟨u0,iter,u6,0⟩] scope pos) u8) ρ σ R:=
 zjk (of:=fun y=>[(kf y,g y)]) (gs:=[]) hE hx hln hf v4 v8 hs x0 v7 ht (fun u1 W hI y hy h=>zaN rfl (hk u1 hI.ok y hy h) (hg u1 hI.ok y hy h))
  (by rw[zbf];have:=List.length_filter_le c xs;lia) (fun a=>by rw[zaT hnd];exact hR a) (by simp) v9
theorem Q1{α β:Type}(f:α→β) (l:List α) (lo hi st:Option Int):qH (l.map f) lo hi st=(qH l lo hi st).map f:=by
 unfold qH
 rw[List.length_map,List.map_filterMap]
 congr 1
 funext i
 simp
theorem zaX{α:Type}(l:List α) (a:Nat):∀k,a+k≤l.length→(List.range k).filterMap (fun i=>l[a+i]?)=(l.drop a).take k
 | 0,_=>by simp
 | k+1,h=>by
  rw[List.range_succ,List.filterMap_append,zaX l a k (by lia),List.take_add_one,List.getElem?_drop]
  simp[show a+k<l.length by lia]
theorem Qy{α β:Type}{f g:α→Option β}:∀{l:List α},(∀x∈l,f x=g x)→l.filterMap f=l.filterMap g
 | [],_=>rfl
 | a::l,h=>by
  rw[List.filterMap_cons,List.filterMap_cons,h a List.mem_cons_self,Qy fun x hx=>h x (List.mem_cons_of_mem _ hx)]
theorem j5{α:Type}(l:List α) {a:Nat}(h:a≤l.length):qH l (some (a:Int)) none none=l.drop a:=by
 unfold qH sliceBounds sliceRange
 have e0:¬((a:Int)<0):=by lia
 simp only[Option.getD_none,show(1:Int)>0 from by decide,if_true,if_neg e0]
 have e1:max 0 (min (a:Int) (l.length:Int))=(a:Int):=by lia
 rw[e1,List.filterMap_map]
 have e2:(if (a:Int)<(l.length:Int) then ((l.length:Int)-a+1-1)/1 else 0).toNat=l.length-a:=by split<;>lia
 rw[e2]
 have:=zaX l a (l.length-a) (by lia)
 rw[List.take_of_length_le (by simp)] at this
 rw[←this]
 refine Qy ?_
 intro i _
 have:((a:Int)+1*(i:Int)).toNat=a+i:=by lia
 simp only[Function.comp,this]
theorem zct{α:Type}(l:List α) {b:Nat}(h:b≤l.length):qH l none (some (b:Int)) none=l.take b:=by
 unfold qH sliceBounds sliceRange
 have e0:¬((b:Int)<0):=by lia
 simp only[Option.getD_none,show(1:Int)>0 from by decide,if_true,if_neg e0]
 have e1:max 0 (min (b:Int) (l.length:Int))=(b:Int):=by lia
 rw[e1,List.filterMap_map]
 have e2:(if (0:Int)<(b:Int) then ((b:Int)-0+1-1)/1 else 0).toNat=b:=by split<;>lia
 rw[e2]
 have:=zaX l 0 b (by lia)
 rw[List.drop_zero] at this
 rw[←this]
 refine Qy ?_
 intro i _
 have:((0:Int)+1*(i:Int)).toNat=0+i:=by lia
 simp only[Function.comp,this]
theorem zdk{α:Type}(l:List α):∀k,k≤l.length→(List.range k).filterMap (fun i=>l[l.length-1-i]?)=l.reverse.take k
 | 0,_=>by simp
 | k+1,h=>by
  rw[List.range_succ,List.filterMap_append,zdk l k (by omega),List.take_add_one]
  have:l.reverse[k]?=l[l.length-1-k]?:=List.getElem?_reverse (by omega)
  rw[this]
  simp[show l.length-1-k<l.length by omega]
theorem zim{α:Type}(l:List α):qH l none none (some (-1))=l.reverse:=by
 unfold qH sliceBounds sliceRange
 simp only[Option.getD_some,show ¬((-1:Int)>0) from by decide,if_false]
 rw[List.filterMap_map]
 have e2:(if (l.length:Int)-1 > -1 then ((l.length:Int)-1 - -1 - -1-1)/(- -1) else 0).toNat=l.length:=by
  rw[show(- -1:Int)=1 from rfl,Int.ediv_one];split<;>lia
 rw[e2]
 have:=zdk l l.length (Nat.le_refl _)
 rw[List.take_of_length_le (by simp)] at this
 rw[←this]
 refine Qy ?_
 intro i hi
 have hi':=List.mem_range.mp hi
 have:((l.length:Int)-1 + -1*(i:Int)).toNat=l.length-1-i:=by lia
 simp only[Function.comp,this]
end
section
open PySem PySem.W
variable {G:Gx}{n:Nat}{env:Env}{ρ:Rho}{σ:Sig}
section
variable {prog:Program}{w:World}
theorem zdz{A:Around}{E:Value→Shared→Prop}{s:Shared}{it t:Addr}{i:Nat}{items:Array Value}{x:Value}{Q:Value→Shared→Prop}(hit:s.heap.IsTupleIter it t i) (ht:s.heap.IsTuple t items) (hx:items[i]?=some x)
  (hQ:∀h',h'.IsTupleIter it t (i+1)→Heap.SameBut it s.heap h'→Q x {s with heap:=h'}):wpAny (model prog w) A (Builtin.SmallTypes.nextOf (.ref it)) Q E s:=by
 refine qD (id hit) fun o ho hc hd=>?_
 obtain⟨ot,hot,_,m,hdt⟩:=ht
 refine wpAny_bind (wpAny_callSpecial?_slot (name:=PySem.Str.ofString "__next__") hit.typeIs PySem.F.slot_tuple_iterator_next
  (wpAny_call_entry PySem.F.slot_tuple_iterator_next hit.typeIs PySem.F.entry_tuple_iterator_next ?_ (PySem.F.args_tuple_iterator_next_1 _)))
 refine wpAny_bind (m:=field (.ref it) 0) (wpAny_field ho hd (x:=.ref t) rfl ?_)
 show wpAny _ _ (if (Value.ref t==Value.none)=true then _ else _) _ _ s
 rw[if_neg (show ¬((Value.ref t==Value.none)=true) from Bool.false_ne_true)]
 refine wpAny_bind (m:=field (.ref it) 1) (wpAny_field ho hd (x:=.int i 0) rfl ?_)
 refine wpAny_bind (m:=seqItems? (.ref t)) (wpAny_seqItems hot hdt ?_)
 simp only[Int.toNat_natCast,hx]
 refine wpAny_bind (wpAny_setField ho hd (by simp) (wpAny_pure ⟨x,rfl,wpAny_pure (hQ _ ⟨_,Heap.get?_update_self _ ho (Obj.isFreed_of_fields (Obj.data_mapFields hd _)),(Obj.cls_mapFields ..).trans hc,?_⟩ (Heap.SameBut.update ..))⟩))
 rw[Obj.data_mapFields hd];simp[rawInt]
theorem zj4{A:Around}{E:Value→Shared→Prop}{s:Shared}{it t:Addr}{i:Nat}{items:Array Value}{Q:Value→Shared→Prop}(hh:A.handled=none) (hit:s.heap.IsTupleIter it t i) (ht:s.heap.IsTuple t items) (hx:items[i]?=none)
  (hE:∀h' e,Heap.ExtBut it s.heap h'→(∃o,h'.get? e=some o∧o.cls=.type "StopIteration")→E (.ref e) {s with heap:=h'}):wpAny (model prog w) A (Builtin.SmallTypes.nextOf (.ref it)) Q E s:=by
 refine qD (id hit) fun o ho hc hd=>?_
 obtain⟨ot,hot,_,m,hdt⟩:=ht
 refine wpAny_bind (wpAny_callSpecial?_slot (name:=PySem.Str.ofString "__next__") hit.typeIs PySem.F.slot_tuple_iterator_next
  (wpAny_call_entry PySem.F.slot_tuple_iterator_next hit.typeIs PySem.F.entry_tuple_iterator_next ?_ (PySem.F.args_tuple_iterator_next_1 _)))
 refine wpAny_bind (m:=field (.ref it) 0) (wpAny_field ho hd (x:=.ref t) rfl ?_)
 show wpAny _ _ (if (Value.ref t==Value.none)=true then _ else _) _ _ s
 rw[if_neg (show ¬((Value.ref t==Value.none)=true) from Bool.false_ne_true)]
 refine wpAny_bind (m:=field (.ref it) 1) (wpAny_field ho hd (x:=.int i 0) rfl ?_)
 refine wpAny_bind (m:=seqItems? (.ref t)) (wpAny_seqItems hot hdt ?_)
 simp only[Int.toNat_natCast,hx]
 refine wpAny_bind (wpAny_rule (wpAny_bind (wpAny_setField ho hd (by simp) (wpAny_bind (m:=newExc (.type "StopIteration") []) ?_))))
 simp only[newExc,newTuple]
 refine wpAny_bind (wpAny_newObj_type ?_ (by size_fits))
 refine wpAny_bind (m:=firstArgMember _ _) (wpAny_of_eq (a:=Value.none) (by first | rfl | (simp only[firstArgMember];rfl)) ?_)
 refine wpAny_newObj_type ?_ (by size_fits)
 simp only[raiseNew]
 refine wpAny_bind (wpAny_handled ?_)
 first | rw[show A.in1.handled=none from hh] | rw[hh]
 exact wpAny_bind (wpAny_pure (wpAny_throw (hE _ _ (((Heap.SameBut.update ..).extBut.push _).push _) ⟨_,Heap.get?_push_size _ rfl,rfl⟩)))
structure ZT (z TI TO i1 i2 l1 l2:Addr) (xs ys:Array Value) (f0:Value) (k1 k2:Nat) (h:Heap):Prop where
 z:IsZip h z TI TO f0
 ti:IsPair h TI (.ref i1) (.ref i2)
 to:∃a b,IsPair h TO a b
 i1:h.IsTupleIter i1 l1 k1
 i2:h.IsTupleIter i2 l2 k2
 l1:h.IsTuple l1 xs
 l2:h.IsTuple l2 ys
theorem qa{h h':Heap}{a t:Addr}{i:Nat}(x:h.IsTupleIter a t i) (e:∀o,h.get? a=some o→h'.get? a=some o):h'.IsTupleIter a t i:=let ⟨o,ho,r⟩:=x;⟨o,e _ ho,r⟩
theorem QO{h h':Heap}{a:Addr}{items:Array Value}(x:h.IsTuple a items) (e:∀o,h.get? a=some o→h'.get? a=some o):h'.IsTuple a items:=let ⟨o,ho,r⟩:=x;⟨o,e _ ho,r⟩
theorem ZT.frame{z TI TO i1 i2 l1 l2:Addr}{xs ys:Array Value}{f0:Value}{k1 k2:Nat}{h h':Heap}(x:ZT z TI TO i1 i2 l1 l2 xs ys f0 k1 k2 h) (hk:∀b∈[z,TI,TO,i1,i2,l1,l2],∀o,h.get? b=some o→h'.get? b=some o):ZT z TI TO i1 i2 l1 l2 xs ys f0 k1 k2 h' where
 z:=hk z (by simp) _ x.z
 ti:=hk TI (by simp) _ x.ti
 to:=let ⟨a,b,e⟩:=x.to;⟨a,b,hk TO (by simp) _ e⟩
 i1:=qa x.i1 fun o e=>hk i1 (by simp) o e
 i2:=qa x.i2 fun o e=>hk i2 (by simp) o e
 l1:=QO x.l1 fun o e=>hk l1 (by simp) o e
 l2:=QO x.l2 fun o e=>hk l2 (by simp) o e
theorem zje{A:Around}{E:Value→Shared→Prop}{s:Shared}{z TI TO i1 i2 l1 l2:Addr}{k1 k2:Nat}{xs ys:Array Value}{x y:Value}{Q:Option Value→Shared→Prop}(D:ZipApart z TI TO i1 i2 l1 l2)
  (st:ZT z TI TO i1 i2 l1 l2 xs ys .none k1 k2 s.heap) (hx:xs[k1]?=some x) (hy:ys[k2]?=some y)
  (hQ:∀h',ZT z TI TO i1 i2 l1 l2 xs ys (rawInt s.heap.objs.size) (k1+1) (k2+1) h'→IsPair h' s.heap.objs.size x y→(∀c o,c≠z→c≠TO→c≠i1→c≠i2→s.heap.get? c=some o→h'.get? c=some o)→Q (some (.ref s.heap.objs.size)) {s with heap:=h'}) :
  wpAny (model prog w) A (pyNext (.ref z)) Q E s:=by
 obtain⟨hz,hTI,⟨a,b,hTO⟩,h1,h2,hl1,hl2⟩:=st
 have hT:s.TypeIs (.ref z) "zip":=⟨_,hz,rfl⟩
 unfold pyNext
 refine wpAny_bind (wpAny_attempt (wpAny_callSpecial?_slot (name:=PySem.Str.ofString "__next__") hT PySem.F.slot_zip_next (wpAny_call_entry PySem.F.slot_zip_next hT PySem.F.entry_zip_next ?_ (PySem.F.args_zip_next_1 _))))
 refine wpAny_bind (m:=field (.ref z) 2) (wpAny_field hz rfl (x:=.bool false) rfl ?_)
 refine wpAny_bind (m:=field (.ref z) 3) (wpAny_field hz rfl (x:=.ref TI) rfl ?_)
 refine wpAny_bind (wpAny_seqItems hTI rfl ?_)
 refine wpAny_bind (m:=Builtin.SmallTypes.ownedTupleIsFree (.ref z)) ?_
 unfold Builtin.SmallTypes.ownedTupleIsFree
 refine wpAny_bind (wpAny_field hz rfl (x:=.none) rfl (wpAny_pure ?_))
 simp only[if_true]
 refine wpAny_bind (wpAny_rule (wpAny_bind (wpAny_field hz rfl (x:=.ref TO) rfl ?_)))
 refine wpAny_bind (wpAny_setField_rec hz (by simp) fun ha hza sa=>?_)
 replace hza:IsZip ha z TI TO .ellipsis:=hza
 refine wpAny_bind ?_
 simp only[List.zipIdx_cons,List.zipIdx_nil,List.forIn_cons,List.forIn_nil]
 refine wpAny_bind (wpAny_bind (wpAny_onRaise ?_))
 refine wpAny_bind (m:=Builtin.SmallTypes.nextOf (.ref i1)) (zdz (qa h1 fun o e=>sa.extBut _ _ D.i1z e) (QO hl1 fun o e=>sa.extBut _ _ D.l1z e) hx fun hb h1b sb=>wpAny_pure ?_)
 have hTOb:IsPair hb TO a b:=sb.extBut _ _ D.TOi1 (sa.extBut _ _ D.TOz hTO)
 refine wpAny_bind (wpAny_seqItems hTOb rfl (wpAny_bind (wpAny_updateSeq_pair hTOb fun hc hTOc sc=>?_)))
 replace hTOc:IsPair hc TO x b:=hTOc
 refine wpAny_bind (wpAny_letGo (wpAny_pure ?_))
 refine wpAny_bind (wpAny_bind (wpAny_onRaise ?_))
 have kc:∀c o,c≠z→c≠TO→c≠i1→s.heap.get? c=some o→hc.get? c=some o:=fun c o c1 c2 c3 e=>sc.extBut _ _ c2 (sb.extBut _ _ c3 (sa.extBut _ _ c1 e))
 refine wpAny_bind (m:=Builtin.SmallTypes.nextOf (.ref i2)) (zdz (qa h2 fun o e=>kc _ _ D.i2z D.TOi2.symm D.i12.symm e) (QO hl2 fun o e=>kc _ _ D.l2z D.l2TO D.l2i1 e) hy fun hd h2d sd=>wpAny_pure ?_)
 have hTOd:IsPair hd TO x b:=sd.extBut _ _ D.TOi2 hTOc
 refine wpAny_bind (wpAny_seqItems hTOd rfl (wpAny_bind (wpAny_updateSeq_pair hTOd fun he hTOe se=>?_)))
 replace hTOe:IsPair he TO x y:=hTOe
 refine wpAny_bind (wpAny_letGo (wpAny_pure (wpAny_pure ?_)))
 refine wpAny_bind (wpAny_seqItems hTOe rfl (wpAny_bind (wpAny_newTuple ?_)))
 have hsz:he.objs.size=s.heap.objs.size:=by rw[se.1,sd.1,sc.1,sb.1,sa.1]
 have ke:∀c o,c≠z→c≠TO→c≠i1→c≠i2→s.heap.get? c=some o→he.get? c=some o:=fun c o c1 c2 c3 c4 e=>se.extBut _ _ c2 (sd.extBut _ _ c4 (kc c o c1 c2 c3 e))
 have hze:IsZip he z TI TO .ellipsis:=se.extBut _ _ D.TOz.symm (sd.extBut _ _ D.i2z.symm (sc.extBut _ _ D.TOz.symm (sb.extBut _ _ D.i1z.symm hza)))
 have h1e:he.IsTupleIter i1 l1 (k1+1):=qa h1b fun o e=>se.extBut _ _ D.TOi1.symm (sd.extBut _ _ D.i12 (sc.extBut _ _ D.TOi1.symm e))
 have h2e:he.IsTupleIter i2 l2 (k2+1):=qa h2d fun o e=>se.extBut _ _ D.TOi2.symm e
 have hzlt:z<he.objs.size:=Heap.lt_size hze
 refine wpAny_bind (m:=Builtin.SmallTypes.ownedTupleHandOut (.ref z) (.ref he.objs.size)) ?_
 unfold Builtin.SmallTypes.ownedTupleHandOut
 have hzf:IsZip (he.push {cls:=.type "tuple",data:=.seq #[x,y]}) z TI TO .ellipsis:=Heap.get?_push_of_some _ hze
 refine wpAny_bind (wpAny_setField_rec hzf (by simp) fun hg hzg sg=>?_)
 replace hzg:IsZip hg z TI TO (rawInt he.objs.size):=hzg
 refine wpAny_setField_rec hzg (by simp) fun hi hzi si=>?_
 replace hzi:IsZip hi z TI TO (rawInt he.objs.size):=hzi
 have up:∀c o,c≠z→he.get? c=some o→hi.get? c=some o:=fun c o c1 e=>si.extBut _ _ c1 (sg.extBut _ _ c1 (Heap.get?_push_of_some _ e))
 have hTi:IsPair hi he.objs.size x y:=si.extBut _ _ (Nat.ne_of_gt hzlt) (sg.extBut _ _ (Nat.ne_of_gt hzlt) (Heap.get?_push_size _ rfl))
 rw[hsz] at hzi hTi
 refine wpAny_pure ⟨_,rfl,wpAny_pure ?_⟩
 rw[hsz]
 exact hQ hi ⟨hzi,up _ _ D.TIz (ke _ _ D.TIz D.TITO D.TIi1 D.TIi2 hTI),⟨_,_,up _ _ D.TOz hTOe⟩,qa h1e fun o e=>up _ o D.i1z e,qa h2e fun o e=>up _ o D.i2z e,
  QO hl1 fun o e=>up _ o D.l1z (ke _ o D.l1z D.l1TO D.l1i1 D.l1i2 e),QO hl2 fun o e=>up _ o D.l2z (ke _ o D.l2z D.l2TO D.l2i1 D.l2i2 e)⟩ hTi fun c o c1 c2 c3 c4 e=>up c o c1 (ke c o c1 c2 c3 c4 e)
theorem zk0{A:Around}{E:Value→Shared→Prop}{s:Shared}{z TI TO i1 i2 l1 l2:Addr}{k1 k2:Nat}{xs ys:Array Value}{Q:Option Value→Shared→Prop}(hh:A.handled=none) (D:ZipApart z TI TO i1 i2 l1 l2)
  (st:ZT z TI TO i1 i2 l1 l2 xs ys .none k1 k2 s.heap) (hx:xs[k1]?=none)
  (hQ:∀h',(∀c o,c≠z→c≠TO→c≠i1→c≠i2→s.heap.get? c=some o→h'.get? c=some o)→Q none {s with heap:=h'}) :
  wpAny (model prog w) A (pyNext (.ref z)) Q E s:=by
 obtain⟨hz,hTI,⟨a,b,hTO⟩,h1,h2,hl1,hl2⟩:=st
 have hT:s.TypeIs (.ref z) "zip":=⟨_,hz,rfl⟩
 unfold pyNext
 refine wpAny_bind (wpAny_attempt (wpAny_callSpecial?_slot (name:=PySem.Str.ofString "__next__") hT PySem.F.slot_zip_next (wpAny_call_entry PySem.F.slot_zip_next hT PySem.F.entry_zip_next ?_ (PySem.F.args_zip_next_1 _))))
 refine wpAny_bind (m:=field (.ref z) 2) (wpAny_field hz rfl (x:=.bool false) rfl ?_)
 refine wpAny_bind (m:=field (.ref z) 3) (wpAny_field hz rfl (x:=.ref TI) rfl ?_)
 refine wpAny_bind (wpAny_seqItems hTI rfl ?_)
 refine wpAny_bind (m:=Builtin.SmallTypes.ownedTupleIsFree (.ref z)) ?_
 unfold Builtin.SmallTypes.ownedTupleIsFree
 refine wpAny_bind (wpAny_field hz rfl (x:=.none) rfl (wpAny_pure ?_))
 simp only[if_true]
 refine wpAny_bind (wpAny_rule (wpAny_bind (wpAny_field hz rfl (x:=.ref TO) rfl ?_)))
 refine wpAny_bind (wpAny_setField_rec hz (by simp) fun ha hza sa=>?_)
 replace hza:IsZip ha z TI TO .ellipsis:=hza
 refine wpAny_bind ?_
 simp only[List.zipIdx_cons,List.zipIdx_nil,List.forIn_cons,List.forIn_nil]
 refine wpAny_bind (wpAny_bind (wpAny_onRaise ?_))
 refine wpAny_bind (m:=Builtin.SmallTypes.nextOf (.ref i1)) (zj4 hh (qa h1 fun o e=>sa.extBut _ _ D.i1z e) (QO hl1 fun o e=>sa.extBut _ _ D.l1z e) hx fun hb e sb he=>?_)
 refine zd he fun oe hoe hce=>?_
 have hzb:IsZip hb z TI TO .ellipsis:=sb _ _ D.i1z.symm hza
 have hez:e≠z:=fun q=>by subst q;rw[hzb] at hoe;cases hoe;simp at hce
 refine wpAny_setField_rec hzb (by simp) fun hc _ sc=>?_
 refine wpAny_bind (wpAny_isInstance (T:="StopIteration") (b:=true) ⟨oe,sc.extBut _ _ hez hoe,hce⟩ isSubtype_stop ?_)
 exact wpAny_pure (hQ _ fun c o c1 c2 c3 c4 q=>sc.extBut _ _ c1 (sb _ _ c3 (sa.extBut _ _ c1 q)))
theorem zia{A:Around}(hh:A.handled=none) (z TI TO i1 i2 l1 l2:Addr) (D:ZipApart z TI TO i1 i2 l1 l2) (xs ys:Array Value) (hxy:xs.size=ys.size) :
  WalksU prog w A z [z,TI,TO,i1,i2,l1,l2] [z,TO,i1,i2] xs.size (fun i u5=>∃x y,xs[i]?=some x∧ys[i]?=some y∧u5=#[x,y])
   (fun i h=>ZT z TI TO i1 i2 l1 l2 xs ys .none i i h) (fun i T h=>ZT z TI TO i1 i2 l1 l2 xs ys (rawInt T) (i+1) (i+1) h∧T≠z∧T≠TO∧T≠i1∧T≠i2) where
 sub c hc:=by simp at hc ⊢;rcases hc with rfl | rfl | rfl | rfl<;>simp
 frame i h h' st hk:=st.frame hk
 item i s Q E hi st hQ:=by
  refine zje D st (Array.getElem?_eq_getElem hi) (Array.getElem?_eq_getElem (hxy▸hi)) fun h' st' hT hk=>?_
  have lt:∀{c o},s.heap.get? c=some o→s.heap.objs.size≠c:=fun e=>Nat.ne_of_gt (Heap.lt_size e)
  refine Zu (st.to) fun a b hTO=>?_
  exact hQ s.heap.objs.size #[xs[i],ys[i]] h' s.toks ⟨_,_,Array.getElem?_eq_getElem hi,Array.getElem?_eq_getElem (hxy▸hi),rfl⟩ ⟨_,hT,rfl,_,rfl⟩
   ⟨st',lt st.z,lt hTO,(by obtain⟨_,e,_⟩:=st.i1;exact lt e),(by obtain⟨_,e,_⟩:=st.i2;exact lt e)⟩
   fun c o hc e=>hk c o (fun q=>hc (by simp[q])) (fun q=>hc (by simp[q])) (fun q=>hc (by simp[q])) (fun q=>hc (by simp[q])) e
 go u4 k pos i T s Q E hm hQ:=by
  refine wpAny_letOwnedTupleGo_zip hm.1.z fun h' hz' hs'=>hQ h' ⟨hz',hs'.extBut _ _ D.TIz hm.1.ti,let ⟨a,b,e⟩:=hm.1.to;⟨a,b,hs'.extBut _ _ D.TOz e⟩,qa hm.1.i1 fun o e=>hs'.extBut _ _ D.i1z e,
   qa hm.1.i2 fun o e=>hs'.extBut _ _ D.i2z e,QO hm.1.l1 fun o e=>hs'.extBut _ _ D.l1z e,QO hm.1.l2 fun o e=>hs'.extBut _ _ D.l2z e⟩ fun c o hc e=>hs'.extBut _ _ (fun q=>hc (by simp[q])) e
 apart i T h hm hT:=by
  obtain⟨_,t1,t2,t3,t4⟩:=hm
  simp at hT
  rcases hT with rfl | rfl | rfl | rfl
  ·exact t1 rfl
  ·exact t2 rfl
  ·exact t3 rfl
  ·exact t4 rfl
 done s Q E st hQ:=zk0 hh D st (by simp) fun h' hk=>hQ h' s.toks fun c o hc e=>hk c o (fun q=>hc (by simp[q])) (fun q=>hc (by simp[q])) (fun q=>hc (by simp[q])) (fun q=>hc (by simp[q])) e
 self i s Q E st hQ:=wpAny_pyIter_zip st.z hQ
end
end
section
open PySem PySem.W
variable {G:Gx}{n:Nat}{env:Env}{ρ:Rho}{σ:Sig}
noncomputable abbrev zA(h:Heap) (l1:Addr):Heap:=h.push {cls:=.type "tuple_iterator",data:=.fields #[.ref l1,.int 0 0]}
noncomputable abbrev zB(h:Heap) (l1 l2:Addr):Heap:=(zA h l1).push {cls:=.type "tuple_iterator",data:=.fields #[.ref l2,.int 0 0]}
noncomputable abbrev zC(h:Heap) (l1 l2:Addr):Heap:=(zB h l1 l2).push {cls:=.type "tuple",data:=.seq #[.ref h.objs.size,.ref (zA h l1).objs.size]}
noncomputable abbrev zD(h:Heap) (l1 l2:Addr):Heap:=(zC h l1 l2).push {cls:=.type "tuple",data:=.seq #[.none,.none]}
noncomputable abbrev zE(h:Heap) (l1 l2:Addr):Heap:=(zD h l1 l2).push {cls:=.type "zip",data:=.fields #[.none,.bool false,.bool false,.ref (zB h l1 l2).objs.size,.ref (zC h l1 l2).objs.size]}
theorem zd6(h:Heap) (l1 l2:Addr) (c:Addr) (o:Obj) (e:h.get? c=some o):(zE h l1 l2).get? c=some o:=
 Heap.get?_push_of_some _ (Heap.get?_push_of_some _ (Heap.get?_push_of_some _ (Heap.get?_push_of_some _ (Heap.get?_push_of_some _ e))))
theorem zho(h:Heap) (l1 l2:Addr):(zD h l1 l2).objs.size=h.objs.size+4:=by simp only[zA,zB,zC,zD,Heap.size_push]
theorem zo8{h:Heap}{l1 l2:Addr}{xs ys:Array Value}(h1:h.IsTuple l1 xs) (h2:h.IsTuple l2 ys):ZT (h.objs.size+4) (h.objs.size+2) (h.objs.size+3) h.objs.size (h.objs.size+1) l1 l2 xs ys .none 0 0 (zE h l1 l2):=by
 have a1:(zA h l1).objs.size=h.objs.size+1:=Heap.size_push ..
 have a2:(zB h l1 l2).objs.size=h.objs.size+2:=by rw[zB,Heap.size_push,a1]
 have a3:(zC h l1 l2).objs.size=h.objs.size+3:=by rw[zC,Heap.size_push,a2]
 have a4:=zho h l1 l2
 have g5:(zE h l1 l2).get? (zD h l1 l2).objs.size=some _:=Heap.get?_push_size _ rfl
 have g4:(zE h l1 l2).get? (zC h l1 l2).objs.size=some _:=Heap.get?_push_of_some _ (Heap.get?_push_size _ rfl)
 have g3:(zE h l1 l2).get? (zB h l1 l2).objs.size=some _:=Heap.get?_push_of_some _ (Heap.get?_push_of_some _ (Heap.get?_push_size _ rfl))
 have g2:(zE h l1 l2).get? (zA h l1).objs.size=some _:=Heap.get?_push_of_some _ (Heap.get?_push_of_some _ (Heap.get?_push_of_some _ (Heap.get?_push_size _ rfl)))
 have g1:(zE h l1 l2).get? h.objs.size=some _:=Heap.get?_push_of_some _ (Heap.get?_push_of_some _ (Heap.get?_push_of_some _ (Heap.get?_push_of_some _ (Heap.get?_push_size _ rfl))))
 rw[a4,a2,a3] at g5
 rw[a2,a1] at g3
 rw[a3] at g4
 rw[a1] at g2
 exact⟨g5,g3,⟨_,_,g4⟩,⟨_,g1,rfl,rfl⟩,⟨_,g2,rfl,rfl⟩,QO h1 fun o e=>zd6 h l1 l2 _ o e,QO h2 fun o e=>zd6 h l1 l2 _ o e⟩
theorem ziC(l1 l2:Addr) (xs ys:Array Value) :
  Meets (Builtin.«zip.__new__» ⟨[.type "zip",.ref l1,.ref l2],[]⟩) (fun _ R s=>s.heap.IsTuple l1 xs∧s.heap.IsTuple l2 ys∧
   ∀h',ZT (s.heap.objs.size+4) (s.heap.objs.size+2) (s.heap.objs.size+3) s.heap.objs.size (s.heap.objs.size+1) l1 l2 xs ys .none 0 0 h'→(∀c o,s.heap.get? c=some o→h'.get? c=some o)→R (.ok (.ret (.ref (s.heap.objs.size+4)))) {s with heap:=h'}):=
 .of_wp fun prog w A R s h=>by
  obtain⟨hp,g,d,tk,os⟩:=s;obtain⟨hl1,hl2,h⟩:=h
  have hsub:=sub_zip
  have hL1:Heap.IsTuple (Shared.heap ⟨hp,g,d,tk,os⟩) l1 xs:=hl1
  have hL2:Heap.IsTuple (Shared.heap ⟨hp.push {cls:=.type "tuple_iterator",data:=.fields #[.ref l1,.int 0 0]},g,d,tk,os⟩) l2 ys:=Heap.IsTuple.push hl2 _
  wp_walk using wpAny_pyIter_tuple hL1,wpAny_pyIter_tuple hL2
  refine⟨_,rfl,?_⟩
  show R (.ok (.ret (.ref (zD hp l1 l2).objs.size))) ⟨zE hp l1 l2,g,d,tk,os⟩
  rw[zho]
  exact h (zE hp l1 l2) (zo8 hl1 hl2) (zd6 hp l1 l2)
theorem zkK{prog:Program}{w:World}{A:Around}{E:Value→Shared→Prop}{s:Shared}{l1 l2:Addr}{xs ys:Array Value}{Q:Value→Shared→Prop}(hl1:s.heap.IsTuple l1 xs) (hl2:s.heap.IsTuple l2 ys)
  (h:∀h',ZT (s.heap.objs.size+4) (s.heap.objs.size+2) (s.heap.objs.size+3) s.heap.objs.size (s.heap.objs.size+1) l1 l2 xs ys .none 0 0 h'→(∀c o,s.heap.get? c=some o→h'.get? c=some o)→Q (.ref (s.heap.objs.size+4)) {s with heap:=h'}) :
  wpAny (model prog w) A (call (.type "zip") [.ref l1,.ref l2]) Q E s:=
 callType_new PySem.F.called_zip (by decide) (PySem.F.typeCall_zip_2 _ _) (PySem.F.newCall_zip_2 _ _) (fun obj=>PySem.F.args_object_init_3 obj _ _) PySem.F.entry_zip_new
  (ziC l1 l2 xs ys) ⟨hl1,hl2,fun h' st hk=>⟨⟨_,st.z,rfl⟩,h h' st hk⟩⟩
theorem Base.codeX{F:FZ}{s:Shared}{h':Heap}{tk:Nat}{ps:Array Value}(H:Base G F σ s) (hx:Heap.ExtBut G.X s.heap h') (hc:XC h' G.cX G.X G.ps₀ ps):Grow G [] F s F {s with heap:=h',toks:=tk} where
 le:=.refl F
 new _ _ e:=.inl e
 keep b o hb _ e:=hx b o hb e
 dom b o e:=(Classical.em (b=G.X)).elim (fun q=>⟨_,q▸hc.atX⟩) fun hb=>⟨o,hx b o hb e⟩
 os:=rfl
 gens:=id
 fin a o e:=hx a o (fun q=>zH H.xF (q▸e)) (H.fin a o e)
 code _:=⟨ps,hc⟩
theorem XC.genexprCode{M:Model}{A:Around}{E:Value→Shared→Prop}{s:Shared}{env:Env}{c P:Addr}{p₀ ps:Array Value}{pos:Pos}{qualname:Str}{scope:Scope}
  {Q:Value→Shared→Prop}(hc:env.code=.ref c) (x:XC s.heap c P p₀ ps)
  (hQ:∀c' h' tk ps',Heap.ExtBut P s.heap h'→XC h' c P p₀ ps'→Q c' {s with heap:=h',toks:=tk}) :
  wpAny M A (genexprCode env pos qualname scope) Q E s:=by
 cases hf:codeAmong pos ps.toList with
 | some c'=>exact wpAny_genexprCode_hit hc x.1 hf (hQ c' s.heap s.toks ps (fun _ _ _ e=>e) x)
 | none=>exact wpAny_genexprCodeX hc x.1 x.2.1 hf fun c' h' tk hx _ _ hi _ ht _=>hQ (.ref c') h' tk _ hx ⟨hi,ht,x.2.2.elim fun more e=>⟨more++#[rawInt pos.line,rawInt pos.col,.ref c'],by rw[e,Array.append_assoc]⟩⟩
theorem zgW{f e₁ e₂:Expr}{pos:Pos}{xs ys:List D}{A:Around}{F:FZ}{s:Shared}{Q E:Value→Shared→Prop}(hf:PE G n env f ρ σ (.raw (.type "zip"))) (h12:PEs G n env [e₁,e₂] ρ σ [.tup xs,.tup ys]) (hs:qr [e₁,e₂])
  (he:∀env,eval (.Call f [e₁,e₂] [] pos) env=(do callWith pos (←eval f env) [] (backTo pos (starEach [e₁,e₂] env)) (backToKw pos (keywordEach [] env)))) (hA:AOk n A) (H:Holds G env F ρ σ s)
  (hQ:∀(z TI TO i1 i2 l1 l2:Addr) (vxs vys:Array Value) F' s',Grow G [] F s F' s'→ZT z TI TO i1 i2 l1 l2 vxs vys .none 0 0 s'.heap→ZipApart z TI TO i1 i2 l1 l2→Vs G.prog G.w F' vxs.toList xs→Vs G.prog G.w F' vys.toList ys→
   (∀c∈[z,TO,i1,i2],s.heap.get? c=none∧F' c=none)→Q (.ref z) s'):wpAny (model G.prog G.w) A (eval (.Call f [e₁,e₂] [] pos) env) Q E s:=by
 rw[he]
 refine wpAny_bind (hf.out A F s _ E hA H fun v F₁ s₁ g₁ V₁=>?_)
 obtain rfl:=V₁.inv
 refine jn hs z2 (h12.out A F₁ s₁ _ E pos hA (H.grow g₁) fun vs F₂ s₂ g₂ V₂=>⟨⟨F₂,((H.grow g₁).grow g₂).toBase⟩,?_⟩)
 have H₂:=((H.grow g₁).grow g₂).toBase
 refine Zk (V₂.two) fun _ _ q3_ v1 v2=>?_
 subst q3_
 refine zY (zbL H₂ v1 (.self _)) fun l1 vxs m1 q2_ x1=>?_
 subst q2_
 refine zY (zbL H₂ v2 (.self _)) fun l2 vys m2 q1_ x2=>?_
 subst q1_
 have big:∀c,s₂.heap.objs.size≤c→s.heap.get? c=none∧F₂ c=none:=fun c hc=>⟨Zi (g₁.trans g₂) (Qh fun o e=>absurd (Heap.lt_size e) (Nat.not_lt.mpr hc)),H₂.noF hc⟩
 exact zkK ⟨_,x1.1,rfl,_,rfl⟩ ⟨_,x2.1,rfl,_,rfl⟩ fun h' st hk=>hQ _ _ _ _ _ _ _ _ _ F₂ _ ((g₁.trans g₂).trans (.of_keep (tk:=s₂.toks) H₂.fin hk)) st (zez _ _ _ (Heap.lt_size x1.1) (Heap.lt_size x2.1)) x1.2 x2.2
  (all_cons (big _ (Nat.le_add_right ..)) (all_cons (big _ (Nat.le_add_right ..)) (all_cons (big _ (Nat.le_refl _)) (all_cons (big _ (Nat.le_add_right ..)) zx))))
theorem zi6{g:Nat}{a b:Array GenState}(h:GenOnlyQ g a b) (ha:zas a):zas b:=
 h.elim (fun e=>e▸ha) fun h x hx=>(Array.mem_iff_getElem?.mp hx).elim fun k hk=>(Classical.em (k=g)).elim (fun q=>h.2 x (q▸hk)) fun q=>ha x (Array.mem_of_getElem? ((h.1.2 k q).symm.trans hk))
theorem zkY{a:Array GenState}{x:GenState}(ha:zas a) (hx:x.bare=true):zas (a.push x):=fun y hy=>(Array.mem_push.mp hy).elim (ha y) fun e=>e▸hx
theorem zg6(n:Nat):passing (fun _=>true) n 0=List.range n:=by
 unfold passing;rw[List.drop_zero];exact List.filter_eq_self.mpr fun _ _=>rfl
theorem zcc{T:String}:Value.type T≠.none:=nofun
theorem XC.no{h:Heap}{c X:Addr}{p₀ ps:Array Value}(x:XC h c X p₀ ps) {b:Addr}(e:∃o,h.get? b=some o∧o.cls≠.none):b≠X:=fun q=>e.elim fun _ e=>e.2 (congrArg Obj.cls (Z1 (q▸e.1) x.atX))
theorem zkI{o:Obj}{T:String}(h:o.cls=.type T):o.cls≠.none:=fun q=>zcc (h.symm.trans q)
theorem zhP{h:Heap}{a t:Addr}{i:Nat}(x:h.IsTupleIter a t i):∃o,h.get? a=some o∧o.cls≠.none:=let ⟨_,e,c,_⟩:=x;⟨_,e,zkI c⟩
theorem zfN{h:Heap}{a:Addr}{vs:Array Value}(x:h.IsTuple a vs):∃o,h.get? a=some o∧o.cls≠.none:=let ⟨_,e,c,_⟩:=x;⟨_,e,zkI c⟩
theorem ZT.some{z TI TO i1 i2 l1 l2:Addr}{xs ys:Array Value}{f0:Value}{k1 k2:Nat}{h:Heap}(x:ZT z TI TO i1 i2 l1 l2 xs ys f0 k1 k2 h):∀b∈[z,TI,TO,i1,i2,l1,l2],∃o,h.get? b=Option.some o∧o.cls≠.none:=
 all_cons ⟨_,x.z,zcc⟩ (all_cons ⟨_,x.ti,zcc⟩ (all_cons (x.to.elim fun _ x=>x.elim fun _ x=>⟨_,x,zcc⟩) (all_cons (zhP x.i1) (all_cons (zhP x.i2) (all_cons (zfN x.l1) (all_cons (zfN x.l2) zx))))))
theorem zke{F:FZ}{ds:List Int}:∀{l:List Value},l.length=ds.length→(∀(j:Nat) (v:Value),l[j]?=some v→∃t,v=.int (ds.getD j 0) t)→Vs G.prog G.w F l (ds.map .int):=by
 induction ds with
 | nil=>exact fun h _=>List.length_eq_zero_iff.mp h▸.nil
 | cons d ds ih=>
  intro l h hv
  cases l with
  | nil=>exact absurd h.symm (Nat.succ_ne_zero _)
  | cons v l=>exact(hv 0 v rfl).elim fun t e=>.cons (e▸.int _ _) (ih (Nat.succ.inj h) fun j u hj=>hv (j+1) u hj)
theorem Grow.moved{F F₁:FZ}{s s₁ s₂:Shared}{W:List Addr}{g:Nat}(hc:∃ps,XC s.heap G.cX G.X G.ps₀ ps) (gA:Grow G [] F s F₁ s₁) (hm:Moved W (GenOnlyQ g) s₁ s₂) (hf:∀c∈W,s.heap.get? c=none∧F₁ c=none):Grow G [] F s F₁ s₂:=
 let g:=Grow.fin_end (h':=s₂.heap) (tk:=s₂.toks) gA hc hm.heap (fun c h=>(hf c h).1) fun c h=>(hf c h).2
 ⟨g.le,g.new,g.keep,g.dom,hm.os.trans gA.os,fun h=>zi6 hm.gens (gA.gens h),g.fin,g.code⟩
theorem zft{A:Around}{F F₁:FZ}{s s₁:Shared}{Q E:Value→Shared→Prop}{I:Addr}{fp W:List Addr}{g m:Nat}{zs:List Int}{St:Nat→Shared→Prop}(hc:∃ps,XC s.heap G.cX G.X G.ps₀ ps) (gA:Grow G [] F s F₁ s₁)
  (hW:WalksS G.prog G.w A.in1.in1.in1 I fp W (GenOnlyQ g) (passing (fun _=>true) m 0).length (fun j y=>∃i,(passing (fun _=>true) m 0)[j]?=some i∧∃t,y=.int (zs.getD i 0) t) St) (hT:∀i s,St i s→s.TypeIs (.ref I) "generator") (hst:St 0 s₁) (hfp:∀b∈fp,b<s₁.heap.objs.size) (hI:I∈fp)
  (hm:m=zs.length) (hl:m≤1000000) (hf:∀c∈W,s.heap.get? c=none∧F₁ c=none)
  (hQ:∀v F' s',Grow G [] F s F' s'→V G.prog G.w F' v (.tup (zs.map .int))→Q v s'):wpAny (model G.prog G.w) A (call (.type "tuple") [.ref I]) Q E s₁:=by
 rw[zg6,List.length_range] at hW
 refine call_tuple_gen (hsz:=Zh hl) hW hT hst hfp hI fun s₆ acc hmv hacc=>?_
 have gB:=gA.moved hc hmv hf
 refine hQ _ _ _ (gB.trans (.push (o:={cls:=.type "tuple",data:=.seq acc}) gB.fin rfl)) (.tup (FZ.put_self ..) rfl (zke ((Array.length_toList ..).trans (hacc.1.trans hm)) fun j v hj=>?_))
 refine zd (hacc.2 j v (Array.getElem?_toList.symm.trans hj)) fun i hi r=>?_
 obtain rfl:i=j:=by
  refine Exists.elim (List.getElem?_eq_some_iff.mp hi) fun _ e=>?_
  exact e.symm.trans (List.getElem_range _)
 exact r
theorem zos{xs ys:List Int}{i:Nat}(h1:i<xs.length) (h2:i<ys.length):(List.zipWith (·+·) xs ys).getD i 0=xs.getD i 0+ys.getD i 0:=by
 simp only[List.getD_eq_getElem?_getD,List.getElem?_zipWith,List.getElem?_eq_getElem h1,List.getElem?_eq_getElem h2];rfl
theorem zjT{cenv:Env}{xa xb:Str}{p1 p2 bp:Pos}{F:FZ}{xs ys:List Int}{vxs vys:Array Value}{fp wr:List Addr}{h:Heap}(hk:cenv.scope.kind=.function) (ha:cenv.kindOf xa=some .local) (hb:cenv.kindOf xb=some .local) (hd:((xa==("__debug__":Str))||(xb==("__debug__":Str)))=false)
  (v1:Vs G.prog G.w F vxs.toList (xs.map .int)) (v2:Vs G.prog G.w F vys.toList (ys.map .int)) :
  QuietGenT G.prog G.w cenv xa xb [] (.BinOp (.Name xa p1) .Add (.Name xb p2) bp) fp wr (fun i u5=>∃x y,vxs[i]?=some x∧vys[i]?=some y∧u5=#[x,y]) (fun _=>true) (fun i y=>∃t,y=.int ((List.zipWith (·+·) xs ys).getD i 0) t) h where
 tests A' E' i va vb s' m' hh hP hn ha hb hkp:=wpAny_tests_nil ⟨rfl,s'.heap,s'.toks,rfl,fun _ _ e=>e⟩
 elt A' E' i va vb s' m' hh hP hz hn h1 h2 hkp:=by
  refine Zk hP fun x y hx hy hv=>?_
  obtain⟨q1,t1,rfl⟩:=JS v1 hx
  obtain⟨q2,t2,rfl⟩:=JS v2 hy
  obtain rfl:=Option.some.inj (congrArg (·[0]?) hv)
  obtain rfl:=Option.some.inj (congrArg (·[1]?) hv)
  exact wpAny_BinOp (wpAny_Name (wpAny_loadName_local (by rw[hk]) ha hn h1 (wpAny_Name (wpAny_loadName_local (by rw[hk]) hb hn h2 (PySem.P.add_int ⟨⟨_,congrArg (Value.int · s'.toks) (zos q1 q2).symm⟩,s'.heap,s'.toks+1,rfl,fun _ _ e=>e⟩)) (Bool.or_eq_false_iff.mp hd).2)) (Bool.or_eq_false_iff.mp hd).1)
theorem zkq{scope:Scope}{xa xb:Str}(h:(!scope.isCoroutine&&scope.names.all (fun p=>p.2 != .free&&p.2 != .cell)&&scope.names.lookup (".0":Str)==some .local&&scope.names.lookup xa==some .local&&scope.names.lookup xb==some .local&&decide (xa≠xb)&&scope.kind==.function)=true) :
  scope.isCoroutine=false∧(∀p∈scope.names,p.2≠.free∧p.2≠.cell)∧scope.names.lookup (".0":Str)=some .local∧scope.names.lookup xa=some .local∧scope.names.lookup xb=some .local∧xa≠xb∧scope.kind=.function:=by
 simp only[Bool.and_eq_true,Bool.not_eq_true',List.all_eq_true,bne_iff_ne,ne_eq,beq_iff_eq,decide_eq_true_eq,and_assoc] at h
 exact h
theorem zjd{A:Around}{F:FZ}{s:Shared}{E:Value→Shared→Prop}{Q:Addr→Shared→Prop}{b:Addr}(H:Base G F σ s) (h:Q builtinsNs s):wpAny (model G.prog G.w) A (builtinsFor mainGlobals b) Q E s:=by
 refine Zu (G.bmain) fun bm ob x=>?_
 exact wpAny_builtinsFor (H.gns G.gns) x.1 x.2.1 (H.h0 x.2.2.1 (G.hX.elim fun _ hx=>fun q=>Data.noConfusion ((congrArg Obj.data (Z1 (q▸x.2.2.1) hx.atX)).symm.trans x.2.2.2.2.2))) x.2.2.2.1 x.2.2.2.2.1 x.2.2.2.2.2 h
theorem ziw{tf zf e₁ e₂:Expr}{xa xb:Str}{pa pb p1 p2 bp pt zpos gpos pos:Pos}{kt:Nat}{scope sc:Scope}{xs ys:List Int}
  (hE:EnvOk env sc) (hcode:env.code=.ref G.cX) (htf:PE G n env tf ρ σ (.raw (.type "tuple"))) (hzf:PE G n env zf ρ σ (.raw (.type "zip"))) (h12:PEs G n env [e₁,e₂] ρ σ [.tup (xs.map .int),.tup (ys.map .int)]) (hl:xs.length=ys.length) (hl2:xs.length≤1000)
  (hsc:(!scope.isCoroutine&&scope.names.all (fun p=>p.2 != .free&&p.2 != .cell)&&scope.names.lookup (".0":Str)==some .local&&scope.names.lookup xa==some .local&&scope.names.lookup xb==some .local&&decide (xa≠xb)&&scope.kind==.function)=true)
  (hd:((xa==("__debug__":Str))||(xb==("__debug__":Str)))=false)
  (hs:qr [e₁,e₂])
  (he:∀env,eval (.Call zf [e₁,e₂] [] zpos) env=(do callWith zpos (←eval zf env) [] (backTo zpos (starEach [e₁,e₂] env)) (backToKw zpos (keywordEach [] env))))
  (he2:∀env ge,eval (.Call tf [ge] [] pos) env=(do callWith pos (←eval tf env) [] (backTo pos (starEach [ge] env)) (backToKw pos (keywordEach [] env))))
  (hfold:∀x,genFold (.Call zf [e₁,e₂] [] zpos) env x=pure x) :
  PE G n env (.Call tf [.GeneratorExp (.BinOp (.Name xa p1) .Add (.Name xb p2) bp) [⟨.Tuple [.Name xa pa,.Name xb pb] kt pt,.Call zf [e₁,e₂] [] zpos,[],0⟩] scope gpos] [] pos) ρ σ (.tup ((List.zipWith (·+·) xs ys).map .int)):=.mk fun A F s Q E hA H hQ=>by
 have c:=zkq hsc
 rw[he2]
 refine wpAny_bind (htf.out A F s _ E hA H fun v F₁ s₁ g₁ V₁=>?_)
 obtain rfl:=V₁.inv
 have H₁:=H.grow g₁
 refine jn (σ:=σ) (fun _ _=>rfl) z2 (wpAny_items_cons (wpAny_GeneratorExp_walksQT hA.handled c.1 (closureFor_none fun x hx=>(c.2.1 x hx).1) (fun y hy=>(c.2.1 y hy).2) c.2.2.1 c.2.2.2.1 c.2.2.2.2.1 c.2.2.2.2.2.1 c.2.2.2.2.2.2 (Nat.lt_of_le_of_lt (Nat.le_trans (Nat.le_add_right _ n) hA.depth) (by decide))
  (zgW hzf h12 hs he hA H₁ fun z TI TO i1 i2 l1 l2 vxs vys F₂ s₂ g₂ st D v1 v2 hfr=>?_) hfold) rfl)
 have H₂:=H₁.grow g₂
 refine wpAny_pyIter_zip st.z ⟨Heap.nolim' H₂.toBase,?_⟩
 refine Exists.elim (H₂.code) fun ps hc=>?_
 refine XC.genexprCode hcode hc fun code h₃ tk₃ ps' hx₃ hc₃=>?_
 have H₃:=H₂.grow (H₂.toBase.codeX (tk:=tk₃) hx₃ hc₃)
 rw[H.globals]
 refine zjd H₃.toBase ?_
 have e1:vxs.size=xs.length:=v1.length.trans (List.length_map ..)
 have e2:vys.size=ys.length:=v2.length.trans (List.length_map ..)
 have st₃:ZT z TI TO i1 i2 l1 l2 vxs vys .none 0 0 h₃:=st.frame fun b hb o e=>hx₃ b o (hc.no (st.some b hb)) e
 refine⟨z,[z,TI,TO,i1,i2,l1,l2],[z,TO,i1,i2],vxs.size,_,_,_,fun _=>true,fun i y=>∃t,y=.int ((List.zipWith (·+·) xs ys).getD i 0) t,rfl,fun A' hA'=>zia hA' z TI TO i1 i2 l1 l2 D vxs vys (e1.trans (hl.trans e2.symm)),fun i u5 x=>x.elim fun x y=>y.elim fun y r=>⟨x,y,r.2.2⟩,st₃,
  fun b hb=>(st₃.some b hb).elim fun _ x=>Heap.lt_size x.1,Heap.nolim' H₃.toBase,fun hm=>G.nolim.elim fun _ x=>(H.toBase.gns x.1).elim fun o x=>x.elim fun _ x=>x.elim fun _ x=>zH (Zi g₁ (hfr _ hm).1) x.1,
  fun href hk=>zjT c.2.2.2.2.2.2 c.2.2.2.1 c.2.2.2.2.1 hd v1 v2,fun a h₅ tk₅ gs hbare ha hsz₅ hk₅ W hG=>wpAny_items_nil ?_⟩
 have g₄:Grow G [] F₂ {s₂ with heap:=h₃,toks:=tk₃} F₂ {s₂ with heap:=h₅,toks:=tk₅,gens:=s₂.gens.push gs}:=
  ⟨.refl F₂,fun _ _ e=>.inl e,fun b o _ _ e=>hk₅ b o e,fun b o e=>⟨o,hk₅ b o e⟩,rfl,fun hb=>zkY hb hbare,fun b o e=>hk₅ b o (H₃.fin b o e),fun x=>x.imp fun _ x=>x.keeps hk₅⟩
 have g₅:=(g₁.trans g₂).trans ((H₂.toBase.codeX (tk:=tk₃) hx₃ hc₃).trans g₄)
 exact⟨⟨F₂,(H₃.grow g₄).toBase⟩,zft H.code g₅ W.in4_3 (fun i s' hst=>hst.1.typeIs) hG
  (hsz₅▸all_cons (Nat.lt_succ_self _) (all_cons (Nat.lt_succ_of_lt ha) fun b hb=>Nat.lt_succ_of_lt (Nat.lt_trans (List.mem_range.mp hb) ha))) List.mem_cons_self (e1.trans ((List.length_zipWith ..).trans (hl▸Nat.min_self _)).symm) (Nat.le_trans (Nat.le_of_eq e1) (Nat.le_trans hl2 (by decide)))
  (all_cons ⟨Zi ((g₁.trans g₂).trans (H₂.toBase.codeX (tk:=tk₃) hx₃ hc₃)) (QR h₃),H₃.toBase.noF (Nat.le_refl _)⟩ fun c hc=>⟨Zi g₁ (hfr c hc).1,(hfr c hc).2⟩) hQ⟩
end
section
open PySem PySem.W
variable {G:Gx}{n:Nat}{env:Env}{ρ:Rho}{σ:Sig}
structure GlobD (G:Gx) (x:Str) (d:D):Prop where
 ex:∃v,G.mg x=some v∧∀F:FZ,(∀a o,G.h₀.get? a=some o→a≠G.X→F a=some o)→V G.prog G.w F v d
theorem ziy{x:Str}{pos:Pos}{d:D}(hk:env.kindOf x=some .globalImplicit) (h:GlobD G x d) (hd:(x==("__debug__":Str))=false:=by decide):PE G n env (.Name x pos) ρ σ d:=.mk fun A F s Q E hA H hQ=>by
 refine zd (h.ex) fun v h1 h2=>?_
 exact(jr hk h1 hd).out A F s _ E hA H fun v' F' s' g hv=>by
  (first | obtain rfl:=hv.inv | obtain⟨_,rfl⟩:=hv.inv)
  exact hQ _ F' s' g (h2 F' fun a o e hx=>g.le _ _ (H.base a o e hx))
theorem zhb{a b:Int}:InpJ G n σ .BitXor (.int a) (.int b) (.int (Builtin.bitXor a b)):=.mk fun A F s Q E v₁ v₂ hA H h₁ h₂ h=>by
 (first | obtain rfl:=h₁.inv | obtain⟨_,rfl⟩:=h₁.inv);(first | obtain rfl:=h₂.inv | obtain⟨_,rfl⟩:=h₂.inv);exact PyProof.Rows.ixor_int (h _ F _ (.tok H.fin) (.int _ _))
theorem ziI{a b:Int}:InpJ G n σ .BitOr (.int a) (.int b) (.int (Builtin.bitOr a b)):=.mk fun A F s Q E v₁ v₂ hA H h₁ h₂ h=>by
 (first | obtain rfl:=h₁.inv | obtain⟨_,rfl⟩:=h₁.inv);(first | obtain rfl:=h₂.inv | obtain⟨_,rfl⟩:=h₂.inv);exact PyProof.Rows.ior_int (h _ F _ (.tok H.fin) (.int _ _))
theorem zhd{a b:Int}(h0:0≤b) (h1:b≤1000000) (ha:a.natAbs<2^64):InpJ G n σ .LShift (.int a) (.int b) (.int (a*2^b.toNat)):=.mk fun A F s Q E v₁ v₂ hA H h₁ h₂ h=>by
 (first | obtain rfl:=h₁.inv | obtain⟨_,rfl⟩:=h₁.inv);(first | obtain rfl:=h₂.inv | obtain⟨_,rfl⟩:=h₂.inv);exact PyProof.Rows.ilshift_int_small h0 h1 ha (h _ F _ (.tok H.fin) (.int _ _))
theorem JQ(x y:Nat):Builtin.bitAnd (x:Int) (y:Int)=((x &&& y:Nat):Int):=by
 unfold Builtin.bitAnd
 simp
theorem zi5(x y:Nat):Builtin.bitXor (x:Int) (y:Int)=(x:Int)+y-2*((x &&& y:Nat):Int):=by
 rw[PyProof.Rows.bitXor_and,JQ]
theorem zkT(x y:Nat):Builtin.bitOr (x:Int) (y:Int)=(x:Int)+y-((x &&& y:Nat):Int):=by
 rw[PyProof.Rows.bitOr_and,JQ]
end
section
open PySem PySem.W
variable {G:Gx}{n:Nat}{env:Env}{ρ:Rho}{σ:Sig}
noncomputable def BIt(o:Obj) (b:Array UInt8) (t:Tok) (i:Nat):Prop:=o.cls=.type "bytes_iterator"∧o.data=.fields #[.bytes b t,.int i 0]
section
variable {prog:Program}{w:World}{A:Around}{E:Value→Shared→Prop}{s:Shared}{b:Array UInt8}{t:Tok}
theorem zfW{it:Addr}{i:Nat}{c:UInt8}{o:Obj}{Q:Option Value→Shared→Prop}(ho:s.heap.get? it=some o) (hb:BIt o b t i) (hx:b[i]?=some c)
  (hQ:∀h' o',h'.get? it=some o'→BIt o' b t (i+1)→Heap.SameBut it s.heap h'→Q (some (.int (c.toNat:Int) s.toks)) {s with heap:=h',toks:=s.toks+1}) :
  wpAny (model prog w) A (callSpecial? (.ref it) (PySem.Str.ofString "__next__")) Q E s:=by
 refine zR hb fun hc hd=>?_
 refine wpAny_callSpecial?_slot (name:=PySem.Str.ofString "__next__") ⟨o,ho,hc⟩ KBw.slot_next
  (wpAny_call_entry KBw.slot_next ⟨o,ho,hc⟩ KBw.entry_next ?_ (KBw.args_next _))
 show wpAny _ _ (field (.ref it) 0>>=_) _ _ s
 refine wpAny_bind (wpAny_field ho hd (x:=.bytes b t) rfl ?_)
 show wpAny _ _ (if (Value.bytes b t==Value.none)=true then _ else _) _ _ s
 rw[if_neg (show ¬((Value.bytes b t==Value.none)=true) from Bool.false_ne_true)]
 show wpAny _ _ (field (.ref it) 1>>=_) _ _ s
 refine wpAny_bind (wpAny_field ho hd (x:=.int i 0) rfl ?_)
 refine wpAny_bind (wpAny_of_eq (a:=b) rfl ?_)
 simp only[Int.toNat_natCast,hx]
 refine wpAny_bind (wpAny_setField ho hd (by simp) (wpAny_bind (wpAny_mkInt (wpAny_pure ⟨_,rfl,hQ _ _ (Heap.get?_update_self _ ho (Obj.isFreed_of_fields (Obj.data_mapFields hd _))) ⟨(Obj.cls_mapFields ..).trans hc,by rw[Obj.data_mapFields hd];simp[rawInt]⟩ (Heap.SameBut.update ..)⟩))))
theorem zg2{it:Addr}{i:Nat}{o:Obj}{Q:Option Value→Shared→Prop}(hh:A.handled=none) (ho:s.heap.get? it=some o) (hb:BIt o b t i) (hx:b[i]?=none)
  (hE:∀h₁ o' e h',h₁.get? it=some o'→Heap.SameBut it s.heap h₁→Heap.MadeExcOf h₁ h' e (.type "StopIteration") []→E (.ref e) {s with heap:=h'}) :
  wpAny (model prog w) A (callSpecial? (.ref it) (PySem.Str.ofString "__next__")) Q E s:=by
 refine zR hb fun hc hd=>?_
 refine wpAny_callSpecial?_slot (name:=PySem.Str.ofString "__next__") ⟨o,ho,hc⟩ KBw.slot_next
  (wpAny_call_entry KBw.slot_next ⟨o,ho,hc⟩ KBw.entry_next ?_ (KBw.args_next _))
 show wpAny _ _ (field (.ref it) 0>>=_) _ _ s
 refine wpAny_bind (wpAny_field ho hd (x:=.bytes b t) rfl ?_)
 show wpAny _ _ (if (Value.bytes b t==Value.none)=true then _ else _) _ _ s
 rw[if_neg (show ¬((Value.bytes b t==Value.none)=true) from Bool.false_ne_true)]
 show wpAny _ _ (field (.ref it) 1>>=_) _ _ s
 refine wpAny_bind (wpAny_field ho hd (x:=.int i 0) rfl ?_)
 refine wpAny_bind (wpAny_of_eq (a:=b) rfl ?_)
 simp only[Int.toNat_natCast,hx]
 refine wpAny_bind (wpAny_rule (wpAny_bind (wpAny_setField ho hd (by simp) ?_)))
 show wpAny _ _ (newExc (.type "StopIteration") []>>=_) _ _ _
 refine wpAny_bind ?_
 simp only[newExc,newTuple]
 refine wpAny_bind (wpAny_newObj_type ?_ (by size_fits))
 refine wpAny_bind (m:=firstArgMember _ _) (wpAny_of_eq (a:=Value.none) (by first | rfl | (simp only[firstArgMember];rfl)) ?_)
 refine wpAny_newObj_type ?_ (by size_fits)
 simp only[raiseNew]
 refine wpAny_bind (wpAny_handled ?_)
 rw[show A.in1.handled=none from hh]
 refine wpAny_bind (wpAny_pure (wpAny_throw ?_))
 have hown:ownMembersOf (.type "StopIteration") []=#[]:=by kernel_rfl
 rw[hown]
 generalize hh1:s.heap.update it (Obj.mapFields fun x=>x.setIfInBounds 0 Value.none)=h₁
 have hself:h₁.get? it=some _:=hh1▸Heap.get?_update_self _ ho (Obj.isFreed_of_fields (Obj.data_mapFields hd _))
 have hsame:Heap.SameBut it s.heap h₁:=hh1▸Heap.SameBut.update ..
 have hmade:Heap.MadeExcOf h₁ ((h₁.push {cls:=.type "tuple",data:=.seq #[]}).push {cls:=.type "StopIteration",data:=.fields (#[.ref h₁.objs.size,.none,.none,.none,.bool false,.none]++#[])}) (h₁.push {cls:=.type "tuple",data:=.seq #[]}).objs.size (.type "StopIteration") []:=
  ⟨fun b o hb=>Heap.get?_push_of_some _ (Heap.get?_push_of_some _ hb),Heap.get?_none_of_le (by simp),h₁.objs.size,Heap.get?_push_size _ rfl,Heap.get?_none_of_le (Nat.le_refl _),Heap.get?_push_of_some _ (Heap.get?_push_size _ rfl)⟩
 exact hE _ _ _ _ hself hsame hmade
theorem zeU{it:Addr}{i:Nat}{o:Obj}{Q:Value→Shared→Prop}(ho:s.heap.get? it=some o) (hb:BIt o b t i)
  (h:wpAny (model prog w) A.in1 (callSpecial? (.ref it) (PySem.Str.ofString "__next__")) (fun r s'=>∃v,r=some v∧Q v s') E s) :
  wpAny (model prog w) A (call (.builtin "next") [.ref it]) Q E s:=by
 refine Calls.call_function_entry (by decide +kernel) (by decide +kernel) kdk_entry_next (kdk_args_next _) ?_
 unfold Builtin.«next»
 refine wpAny_bind (m:=someArgs "next" 1 2 _) (wpAny_of_eq (a:=[Value.ref it]) (by first | rfl | kernel_rfl!) ?_)
 dsimp only
 refine wpAny_bind (wpAny_specialOf (name:=PySem.Str.ofString "__next__") ⟨o,ho,hb.1⟩ KBw.slot_next.lookup ?_)
 refine wpAny_ite_split (fun hab=>absurd hab (by decide)) (fun _=>?_)
 refine wpAny_bind (wpAny_mono h (fun r s' hr=>?_) fun _ _ x=>x)
 refine zd hr fun v q1_ hq=>?_
 subst q1_
 exact wpAny_pure ⟨_,rfl,hq⟩
end
end
section
open PySem PySem.W
variable {G:Gx}{it:Addr}{n:Nat}{env:Env}{ρ:Rho}{σ:Sig}
theorem Upd.mem'{σ σ':Sig}{a:Addr}{mo mo':MO}(u:Upd σ a mo mo' σ'):(a,mo')∈σ':=by
 induction u with
 | head=>exact List.mem_cons_self
 | tail p _ ih=>exact List.mem_cons_of_mem _ ih
theorem JN{b:Array UInt8}{t:Tok}{i:Nat}{o:Obj}{c:UInt8}{P:D→Sig→Prop}(hb:BIt o b t i) (hc:b[i]?=some c)
  (u:∀o',BIt o' b t (i+1)→∃σ',Upd σ it (.raw o) (.raw o') σ'∧P (.int (c.toNat:Int)) σ'):CallY G n env ρ σ (.builtin "next") [.raw (.ref it)] P:=.mk fun A F s Q E vs hA H hv hQ=>by
 refine zd (hv.one) fun _ q1_ h1=>?_
 subst q1_
 (first | obtain rfl:=h1.inv | obtain⟨_,rfl⟩:=h1.inv)
 have ho:s.heap.get? it=some o:=by
  refine zd (u {cls:=.type "bytes_iterator",data:=.fields #[.bytes b t,.int (i+1:Nat) 0]} ⟨rfl,rfl⟩) fun σ' u' _=>?_
  exact(H.own _ u'.mem).1
 refine zeU ho hb (zfW ho hb hc fun h' o' ho' hb' hs=>⟨_,rfl,?_⟩)
 refine zd (u o' hb') fun σ' u' hP=>?_
 refine z9 (H.own _ u'.mem) fun _ hF _=>?_
 have hm':MAt G F h' it (.raw o'):=ho'
 refine zR (H.upd (tk:=s.toks+1) u' hs hm') fun H₂ g₂=>?_
 exact hQ _ _ _ F _ hP (H.turned u' g₂ hm' hF).2 H₂ (.int _ _)
noncomputable def Raising(G:Gx) (it:Addr) (env:Env) (F:FZ) (s:Shared) (σ:Sig) (E:Value→Shared→Prop):Prop:=
 ∀(ρ':Rho) (σ':Sig) (F':FZ) (s₁:Shared) (e:Addr) (h':Heap),Step G env F s σ F' s₁ σ'→Holds G env F' ρ' σ' s₁→(∃o',(it,MO.raw o')∈σ')→Heap.MadeExcOf s₁.heap h' e (.type "StopIteration") []→E (.ref e) {s₁ with heap:=h'}
theorem Raising.of{F F₁:FZ}{s s₁:Shared}{σ₁:Sig}{E:Value→Shared→Prop}(g:Step G env F s σ F₁ s₁ σ₁) {it:Addr}(h:Raising G it env F s σ E):Raising G it env F₁ s₁ σ₁ E:=
 fun ρ' σ' F' s₂ e h' g' H hi hm=>h ρ' σ' F' s₂ e h' (g.trans g') H hi hm
structure RY (G:Gx) (it:Addr) (n:Nat) (env:Env) (e:Expr) (ρ:Rho) (σ:Sig):Prop where
 out:∀(A:Around) (F:FZ) (s:Shared) (Q:Value→Shared→Prop) (E:Value→Shared→Prop),AOk n A→Holds G env F ρ σ s→Raising G it env F s σ E→wpAny (model G.prog G.w) A (eval e env) Q E s
structure RX1 (G:Gx) (it:Addr) (n:Nat) (env:Env) (st:Stmt) (ρ:Rho) (σ:Sig):Prop where
 out:∀(A:Around) (F:FZ) (s:Shared) (Q:Flow→Shared→Prop) (E:Value→Shared→Prop),AOk n A→Holds G env F ρ σ s→PassesOwn (model G.prog G.w) A env E→Raising G it env F s σ E→wpAny (model G.prog G.w) A (exec st env) Q E s
structure RX (G:Gx) (it:Addr) (n:Nat) (env:Env) (sts:List Stmt) (ρ:Rho) (σ:Sig):Prop where
 out:∀(A:Around) (F:FZ) (s:Shared) (Q:Flow→Shared→Prop) (E:Value→Shared→Prop),AOk n A→Holds G env F ρ σ s→PassesOwn (model G.prog G.w) A env E→Raising G it env F s σ E→wpAny (model G.prog G.w) A (execs sts env) Q E s
theorem zec{st:Stmt}{rest:List Stmt}(h:RX1 G it n env st ρ σ):RX G it n env (st::rest) ρ σ:=.mk fun A F s Q E hA H hE hR=>
 wpAny_execs_cons (h.out A F s _ E hA H hE hR)
theorem zed{st:Stmt}{rest:List Stmt}(h:X1 G n env st ρ σ fun o=>∃ρ' σ',o=.next ρ' σ'∧RX G it n env rest ρ' σ'):RX G it n env (st::rest) ρ σ:=.mk fun A F s Q E hA H hE hR=>by
 refine wpAny_execs_cons (h.out A F s _ E hA H fun out fl F' s' hP g u3=>?_)
 refine Qd hP fun ρ' σ' q2_ hX=>?_
 subst q2_
 cases fl with
 | next=>exact hX.out A F' s' Q E hA u3 hE (hR.of g)
 | _=>exact False.elim u3
theorem zeH{x:Str}{px pos:Pos}{e:Expr}(h:RY G it n env e ρ σ) (hs:swapsWith e (some (.Name x px)) pos.line env=pure false:=by rfl):RX1 G it n env (.Assign [.Name x px] e pos) ρ σ:=.mk fun A F s Q E hA H hE hR=>
 wpAny_Assign_Name (h.out A F s _ E hA H hR) hs
theorem zlq{test:Expr}{body:List Stmt}{pos:Pos}(I:Nat→Rho→Sig→Prop) (N:Nat) (h0:I N ρ σ)
  (turn:∀(k:Nat) (ρ':Rho) (σ':Sig),I k ρ' σ'→PT G n env test ρ' σ' true∧(RX G it n env body ρ' σ'∨X G n env body ρ' σ' (zaa (fun ρ'' σ''=>∃m,m<k∧I m ρ'' σ'') fun _=>False))) :
  RX1 G it n env (.While test body [] pos) ρ σ:=.mk fun A F s Q E hA H hE hR=>by
 refine wpAny_While (codeAny_whileLoop (WhI G env F s σ I) (fun k s' x=>?_) N ⟨ρ,σ,F,h0,.refl H.fin,H⟩)
 obtain⟨ρ',σ',F',hI,g,H'⟩:=x
 refine zR (turn k ρ' σ' hI) fun ht hb=>?_
 refine ht.out A F' s' _ _ hA H' fun F₂ s₂ g₂=>?_
 have gs:=g.trans (Step.pure (env:=env) (σ:=σ') g₂)
 rw[if_pos rfl]
 rcases hb with hb | hb
 ·exact wpAny_passesOwn hE (hb.out A F₂ s₂ _ E hA (H'.grow g₂) hE (hR.of gs))
 ·refine hb.out A F₂ s₂ _ _ hA (H'.grow g₂) fun out fl F₃ s₃ hP g₃ u3=>?_
  revert hP g₃
  apply u3.elim
  ·exact fun _ _ u3 hP g₃=>hP.imp fun m hm=>⟨hm.1,_,_,F₃,hm.2,gs.trans g₃,u3⟩
  ·exact fun _ _ _ hP=>False.elim hP
  ·exact fun _ _ u3 hP g₃=>hP.imp fun m hm=>⟨hm.1,_,_,F₃,hm.2,gs.trans g₃,u3⟩
  ·exact fun _ _ _ _ hP=>False.elim hP
theorem zhB{f a:Expr}{pos:Pos}{b:Array UInt8}{t:Tok}{i:Nat}{o:Obj}(hf:PE G n env f ρ σ (.raw (.builtin "next"))) (ha:PEs G n env [a] ρ σ [.raw (.ref it)])
  (hb:BIt o b t i) (hc:b[i]?=none) (u:∀o',∃σ',Upd σ it (.raw o) (.raw o') σ')
  (hs:qr [a]:=by intro _ _;rfl)
  (he:∀env,eval (.Call f [a] [] pos) env=(do callWith pos (←eval f env) [] (backTo pos (starEach [a] env)) (backToKw pos (keywordEach [] env))):=by intro _;rfl) :
  RY G it n env (.Call f [a] [] pos) ρ σ:=.mk fun A F s Q E hA H hR=>by
 rw[he]
 refine wpAny_bind (hf.out A F s _ E hA H fun v F₁ s₁ g₁ V₁=>?_)
 (first | obtain rfl:=V₁.inv | obtain⟨_,rfl⟩:=V₁.inv)
 refine callWith_of (P:=fun h=>∃F' s',Base G F' σ s'∧s'.heap=h) (by rw[hs pos env];rfl) (fun h ⟨F',s',B,e⟩=>e▸zm F' s' B) ?_
 refine qy (hs pos env) (ha.out A F₁ s₁ _ E pos hA (H.grow g₁) fun vs F₂ s₂ g₂ V₂=>⟨⟨F₂,s₂,((H.grow g₁).grow g₂).toBase,rfl⟩,?_⟩)
 refine zd (V₂.one) fun _ q3_ h1=>?_
 subst q3_
 (first | obtain rfl:=h1.inv | obtain⟨_,rfl⟩:=h1.inv)
 have H₂:=(H.grow g₁).grow g₂
 refine Exists.elim (u o) fun _ u₀=>?_
 have ho:s₂.heap.get? it=some o:=(H₂.own _ u₀.mem).1
 refine zeU ho hb (zg2 hA.handled ho hb hc fun h₁ o' e h' ho' hs hm=>?_)
 refine Exists.elim (u o') fun σ' u'=>?_
 have hm':MAt G F₂ h₁ it (.raw o'):=ho'
 refine zR (H₂.upd (tk:=s₂.toks) u' hs hm') fun H₃ g₃=>?_
 exact hR ρ σ' F₂ {s₂ with heap:=h₁} e h' ((Step.pure (g₁.trans g₂)).trans (H₂.turned u' g₃ hm' (H₂.own _ u'.mem).2.1).2) H₃ ⟨o',u'.mem'⟩ hm
end
section
open PySem PySem.W
variable {G:Gx}{n:Nat}{env:Env}{ρ:Rho}{σ:Sig}
end
section
open PySem PySem.W
variable {G:Gx}{n:Nat}{env:Env}{ρ:Rho}{σ:Sig}
theorem Base.ne_X{F:FZ}{s:Shared}(H:Base G F σ s):∃o,s.heap.get? G.X=some o:=by
 obtain⟨ps,hcode⟩:=H.code
 obtain⟨_,_,_,_,_,_,_,_,_,op,_,_,_,_,_,_,_,hp,_⟩:=hcode.1
 exact⟨_,hp⟩
theorem Holds.lost{F F':FZ}{s s':Shared}{a:Addr}{mo:MO}{σ':Sig}(H:Holds G env F ρ σ s) (hd:Del σ a mo σ') (g:Grow G [a] F s F' s'):Holds G env F' ρ σ' s':=by
 refine z9 (hd.mem) fun v6 hsub hnd=>?_
 refine zR (hnd H.nodup) fun x5 hnd'=>?_
 have ham:a∈σ.map (·.1):=List.mem_map_of_mem (f:=(·.1)) v6
 have keep:∀b o,b≠G.X→b≠a→s.heap.get? b=some o→s'.heap.get? b=some o:=fun b o h1 h2 e=>g.keep b o h1 (by simpa using h2) e
 have hsubm:∀b∈σ'.map (·.1),b∈σ.map (·.1):=fun b hb=>by
  refine zd (List.mem_map.mp hb) fun p hp q3_=>?_
  subst q3_
  exact List.mem_map_of_mem (f:=(·.1)) (hsub p hp)
 refine {fin:=g.fin,base:=fun b o h hx=>g.le _ _ (H.base b o h hx),xF:=?_,code:=g.code H.code,bare:=g.gens H.bare,own:=fun p hp=>?_,nodup:=hnd',kind:=H.kind,globals:=H.globals,builtins:=H.builtins,apart:=H.apart,vars:=fun x d h=>?_,locals:=?_,cells:=fun x c hc=>?_}
 ·refine Exists.elim (H.toBase.ne_X) fun o hp=>?_
  exact Za g H.xF hp
 ·refine z9 (H.own p (hsub p hp)) fun h1 h2 h3=>?_
  have hne:p.1≠a:=fun e=>x5 (e▸List.mem_map_of_mem (f:=(·.1)) hp)
  refine Exists.elim (h1.some) fun o e=>?_
  exact⟨h1.mono g.le fun o e=>keep _ _ h3 hne e,Za g h2 e,h3⟩
 ·refine zd (H.vars x d h) fun v hb hv=>?_
  refine⟨v,hb.at (fun o e=>keep _ _ H.locals.2.2.1 (fun e'=>H.locals.2.2.2 (e'▸ham)) e) (fun c hc o e=>?_),hv.mono g.le⟩
  refine zco (H.cells x c (mem_of_lookup hc)) fun _ _ h3 h4 _=>?_
  exact keep _ _ h3 (fun e'=>h4 (e'▸ham)) e
 ·refine Ja (H.locals) fun q2_ h1 h2 h3=>?_
  obtain⟨m,hn⟩:=q2_
  refine⟨⟨m,hn.at' fun o e=>keep _ _ h2 (fun e'=>h3 (e'▸ham)) e⟩,?_,h2,fun h=>h3 (hsubm _ h)⟩
  refine zY hn fun o _ _ ho _=>?_
  exact Za g h1 ho
 ·refine zco (H.cells x c hc) fun q1_ h1 h2 h3 h4=>?_
  obtain⟨v,o,ho,hd⟩:=q1_
  exact⟨⟨v,o,keep _ _ h2 (fun e'=>h3 (e'▸ham)) ho,hd⟩,Za g h1 ho,h2,fun h=>h3 (hsubm _ h),h4⟩
theorem Heap.IsCell.ofK{h h':Heap}{c:Addr}{v:Option Value}(x:h.IsCell c v) (k:∀o,h.get? c=some o→h'.get? c=some o):h'.IsCell c v:=let ⟨o,ho,hd⟩:=x;⟨o,k o ho,hd⟩
theorem Holds.slots{F:FZ}{s:Shared}{h':Heap}{Ls:List Addr}{σ':Sig}(H:Holds G env F ρ σ s) (hk:∀b o,b∉Ls→s.heap.get? b=some o→h'.get? b=some o) (hu:s.heap.UpToSlots h')
  (h1:∀b∈Ls,F b=none∧b≠G.X∧∀x c,(x,c)∈env.cells→c≠b)
  (h2:∀p∈σ',(p∈σ∧p.1∉Ls)∨(p.1∈σ.map (·.1)∧∃o,p.2=.raw o∧h'.get? p.1=some o)) (h3:(σ'.map (·.1)).Nodup):Holds G env F ρ σ' {s with heap:=h'}:=by
 have hs:∀b∈σ'.map (·.1),b∈σ.map (·.1):=fun b hb=>by
  refine zd (List.mem_map.mp hb) fun p hp q6_=>?_
  subst q6_
  rcases h2 p hp with h | h
  ·exact List.mem_map_of_mem (f:=(·.1)) h.1
  ·exact h.1
 refine {fin:=fun a o e=>hk a o (fun hm=>by rw[(h1 a hm).1] at e;cases e) (H.fin a o e),base:=H.base,xF:=H.xF,code:=?_,bare:=H.bare,own:=fun p hp=>?_,nodup:=h3,kind:=H.kind,globals:=H.globals,builtins:=H.builtins,apart:=H.apart,vars:=fun x d h=>?_,locals:=?_,cells:=fun x c hc=>?_}
 ·refine Exists.elim (H.code) fun ps hcode=>?_
  have hcX:∀o,s.heap.get? G.X=some o→h'.get? G.X=some o:=fun o e=>hk _ _ (fun hm=>(h1 _ hm).2.1 rfl) e
  have hcc:∀o,s.heap.get? G.cX=some o→h'.get? G.cX=some o:=fun o e=>hk _ _ (fun hm=>H.toBase.ne_cX (h1 _ hm).1 rfl) e
  exact⟨ps,hcode.frame hcc hcX⟩
 ·rcases h2 p hp with⟨h,hn⟩ | ⟨h,o,ho,hg⟩
  ·refine z9 (H.own p h) fun k1 k2 k3=>?_
   exact⟨k1.mono (.refl F) fun o e=>hk _ _ hn e,k2,k3⟩
  ·refine zd (List.mem_map.mp h) fun q hq e=>?_
   refine z9 (H.own q hq) fun k1 k2 k3=>?_
   rw[←e]
   refine⟨?_,k2,k3⟩
   rw[ho,e]
   exact hg
 ·refine zd (H.vars x d h) fun v hb hv=>?_
  refine⟨v,?_,hv⟩
  rcases hb with⟨k,m,hn,e⟩ | ⟨k,c,e,hc⟩
  ·exact .inl ⟨k,m,hu.ns hn,e⟩
  ·exact .inr ⟨k,c,e,Heap.IsCell.ofK hc fun o ho=>hk _ _ (fun hm=>(h1 _ hm).2.2 x c (mem_of_lookup e) rfl) ho⟩
 ·refine Ja (H.locals) fun q5_ k1 k2 k3=>?_
  obtain⟨m,hn⟩:=q5_
  exact⟨⟨m,hu.ns hn⟩,k1,k2,fun h=>k3 (hs _ h)⟩
 ·refine zco (H.cells x c hc) fun q4_ k1 k2 k3 k4=>?_
  obtain⟨v,hcell⟩:=q4_
  exact⟨⟨v,Heap.IsCell.ofK hcell fun o ho=>hk _ _ (fun hm=>(h1 _ hm).2.2 x c hc rfl) ho⟩,k1,k2,fun h=>k3 (hs _ h),k4⟩
noncomputable def zd4(G:Gx) (l:List Env) (h:Heap):Prop:=∀e∈l,e.scope.kind≠.module∧∃L ob,e.frame=some L∧h.get? L=some ob∧(∀vs,ob.data≠.fields vs)∧L≠G.X
theorem zbZ{base h:Heap}:∀{l:List Env},zd4 G l h→(∀b∈l.filterMap (·.frame),base.get? b=none)→h.FunFrames base l
 | [],_,_=>trivial
 | e::l,ho,hb=>by
  obtain⟨k1,L,ob,k2,k3,k4,k5⟩:=ho e List.mem_cons_self
  refine⟨k1,⟨L,ob,k2,hb L ?_,k3,k4⟩,zbZ (fun e' he=>ho e' (List.mem_cons_of_mem _ he)) fun b hbm=>hb b ?_⟩
  ·rw[List.filterMap_cons,k2];exact List.mem_cons_self
  ·rw[List.filterMap_cons,k2];exact List.mem_cons_of_mem _ hbm
theorem zkL{f:Addr}{sc:Scope}{ps:List Str}{body:List Stmt}{A:Around}{F:FZ}{s:Shared}{it:Addr}{o:Obj}{ds:List D}{vs:List Value}{Q E:Value→Shared→Prop}{v0:List Env}
  (hf:FnOk G f sc ps body) (hsc:qk sc ps=true) (hA:AOk (n+1) A) (hfr:A.frames=some v0) (H:Base G F [(it,.raw o)] s) (hv:Vs G.prog G.w F vs ds) (hl:ds.length=ps.length)
  (hb:∀u1,EnvOk u1 sc→RX G it n u1 body (ps.zip ds) [(it,.raw o)]) (u3:zd4 G v0 s.heap) (hne:it∉v0.filterMap (·.frame))
  (hE:∀(F':FZ) (s₁:Shared) (Lp:Addr) (base:Heap) (e t:Addr) (h':Heap),Grow G [it] F s F' s₁→F' Lp=none→s.heap.get? Lp=none→Lp≠G.X→
   (∀b o,b∉Lp::v0.filterMap (·.frame)→s₁.heap.get? b=some o→base.get? b=some o)→Heap.FlyingW base v0 e (.type "StopIteration") (.ref t) h'→s₁.heap.UpToSlots h'→E (.ref e) {s₁ with heap:=h'}) :
  wpAny (model G.prog G.w) A (call (.ref f) vs) Q E s:=by
 refine zfH hf hsc hA H hv hl fun env s₀ hEo u7 hfw hLnew g0 gg H0 hA'=>?_
 refine(hb env hEo).out (A.deeper env) F s₀ _ _ hA' H0 PassesOwn.leaving fun ρ' σ' F' s₁ e hx g H₁ ⟨oi,hi⟩ hm=>?_
 have gs:=g0.trans g
 have hfrd:(A.deeper env).frames=some (env::v0):=Around.frames_deeper hfr
 have gro:Grow G [it] F s F' s₁:=gs.grow fun a ha=>by
  rcases hfw a ha with h | h
  ·exact .inl h
  ·simp at h;subst h
   exact .inr ⟨by simp,(H₁.own _ hi).2.1⟩
 have hout₁:zd4 G v0 s₁.heap:=fun e' he'=>by
  obtain⟨k1,L,ob,k2,k3,k4,k5⟩:=u3 e' he'
  refine⟨k1,L,ob,k2,gro.keep L ob k5 (fun hm=>?_) k3,k4,k5⟩
  simp at hm;subst hm
  exact hne (List.mem_filterMap.mpr ⟨e',he',k2⟩)
 refine Ja (H₁.locals) fun q7_ hLF hLX _=>?_
 obtain⟨m,hns⟩:=q7_
 have hself:zd4 G (env::v0) s₁.heap:=fun e' he'=>by
  rcases List.mem_cons.mp he' with rfl | he'
  ·refine qC hns fun oL es ep ho hd _=>?_
   exact⟨by rw[H₁.kind];decide,_,oL,u7,ho,(fun vs q=>by rw[hd] at q;cases q),hLX⟩
  ·exact hout₁ e' he'
 have hfm:(env::v0).filterMap (·.frame)=env.locals::v0.filterMap (·.frame):=by rw[List.filterMap_cons,u7]
 refine wpAny_leaves_madeW (base:=hideAll s₁.heap ((env::v0).filterMap (·.frame))) hfrd u7 (fun b o e=>of_hideAll _ e) (zbZ hself fun b hb=>hideAll_none _ hb) hm fun h' t hfl _ _ hsl=>?_
 refine hE F' s₁ env.locals _ e t h' gro hLF hLnew hLX (fun b o hb e=>hideAll_get _ e (by rw[hfm];exact hb)) hfl ?_
 exact(Heap.UpToSlots.of_keeps hm.keeps).trans hsl
end
section
open PySem PySem.W
variable {G:Gx}{n:Nat}{env:Env}{ρ:Rho}{σ:Sig}
variable {A:Around}
noncomputable def zmI(G:Gx) (A:Around) (env:Env) (rest:List Stmt) (P:Out→Prop):Out→Prop
 | .next ρ σ=>XA G A env rest ρ σ P
 | o=>P o
theorem zjh{P:Out→Prop}(h:P (.next ρ σ)):XA G A env [] ρ σ P:=.mk fun F s Q E H hQ=>
 wpAny_execs_nil (hQ _ .next F s h (.refl H.fin) H)
theorem zau{sts:List Stmt}{ρ':Rho}{P:Out→Prop}(hw:Weak ρ' ρ) (h:XA G A env sts ρ' σ P):XA G A env sts ρ σ P:=.mk fun F s Q E H hQ=>h.out F s Q E (H.weak hw) hQ
theorem Qn{st:Stmt}{rest:List Stmt}{P:Out→Prop}(h:XA1 G A env st ρ σ (zmI G A env rest P)):XA G A env (st::rest) ρ σ P:=.mk fun F s Q E H hQ=>by
 refine wpAny_execs_cons (h.out F s _ E H fun out fl F₁ s₁ hP g u3=>?_)
 revert hP g
 apply u3.elim
 ·exact fun _ _ u3 hP g=>hP.out F₁ s₁ Q E u3 fun out' fl' F₂ s₂ hP' g' hout'=>hQ out' fl' F₂ s₂ hP' (g.trans g') hout'
 ·exact fun _ _ u3 hP g=>hQ _ _ F₁ s₁ hP g u3
 ·exact fun _ _ u3 hP g=>hQ _ _ F₁ s₁ hP g u3
 ·exact fun _ _ _ u3 hP g=>hQ _ _ F₁ s₁ hP g u3
theorem zjg{body v5:List Stmt}{h₀:ExceptHandler}{hs:List ExceptHandler}{pos:Pos}{P:Out→Prop}(h:XA G A env body ρ σ (zmI G A env v5 P)):XA1 G A env (.Try body (h₀::hs) v5 [] pos) ρ σ P:=.mk fun F s Q E H hQ=>by
 refine wpAny_Try_except (h.out F s _ _ H fun out fl F₁ s₁ hP g u3=>?_)
 revert hP g
 apply u3.elim
 ·exact fun _ _ u3 hP g=>hP.out F₁ s₁ Q E u3 fun out' fl' F₂ s₂ hP' g' hout'=>hQ out' fl' F₂ s₂ hP' (g.trans g') hout'
 ·exact fun _ _ u3 hP g=>hQ _ _ F₁ s₁ hP g u3
 ·exact fun _ _ u3 hP g=>hQ _ _ F₁ s₁ hP g u3
 ·exact fun _ _ _ u3 hP g=>hQ _ _ F₁ s₁ hP g u3
inductive Stopped (G:Gx) (v0:List Env) (it:Addr) (F:FZ) (s:Shared) (e:Value) (s':Shared):Prop
 | mk (F':FZ) (s₁:Shared) (Lp:Addr) (base:Heap) (ad t:Addr) (h':Heap):e=.ref ad→Grow G [it] F s F' s₁→F' Lp=none→s.heap.get? Lp=none→Lp≠G.X→
  (∀b o,b∉Lp::v0.filterMap (·.frame)→s₁.heap.get? b=some o→base.get? b=some o)→Heap.FlyingW base v0 ad (.type "StopIteration") (.ref t) h'→s₁.heap.UpToSlots h'→s'={s₁ with heap:=h'}→Stopped G v0 it F s e s'
theorem Stopped.of{v0:List Env}{it:Addr}{F F₁:FZ}{s s₁:Shared}{e:Value}{s':Shared}(g:Grow G [] F s F₁ s₁) (h:Stopped G v0 it F₁ s₁ e s'):Stopped G v0 it F s e s':=by
 obtain⟨F',s₂,Lp,base,ad,t,h',he,hg,h1,h2,h3,h4,h5,h6,h7⟩:=h
 exact⟨F',s₂,Lp,base,ad,t,h',he,(g.wider zx).trans hg,h1,Zi g h2,h3,h4,h5,h6,h7⟩
theorem zhm{x y fx:Str}{px py pf u8 cpos pos spos:Pos}{an it:Addr}{f:Addr}{sc:Scope}{ps:List Str}{body:List Stmt}{o:Obj}{l:List D}{v0:List Env}{F:FZ}{s:Shared}{Q:Flow→Shared→Prop}{E:Value→Shared→Prop}
  (hA:AOk (n+1) A) (hfr:A.frames=some v0) (H:Holds G env F ρ σ s) (hx:PE G (n+1) env (.Name x px) ρ σ (.raw (.ref an))) (hl:(an,MO.lst l)∈σ) (hf:PE G (n+1) env (.Name fx pf) ρ σ (.raw (.ref f))) (hy:PE G (n+1) env (.Name y py) ρ σ (.raw (.ref it))) (hit:(it,MO.raw o)∈σ)
  (hk:ji G σ (.ref f)) (hfn:FnOk G f sc ps body) (hsc:qk sc ps=true) (hps:ps.length=1) (hb:∀u1,EnvOk u1 sc→RX G it n u1 body (ps.zip [.raw (.ref it)]) [(it,.raw o)]) (u3:zd4 G v0 s.heap) (hne:it∉v0.filterMap (·.frame)) (hi:interactive env=false)
  (hE:∀e s',Stopped G v0 it F s e s'→E e s')
  (x3:attributeBase (.Name x px) "append" env (eval (.Name x px) env)=eval (.Name x px) env:=by rfl)
  (x4:(u8.endLine==pos.line)=true:=by rfl) :
  wpAny (model G.prog G.w) A (execs [.Expr (.Call (.Attribute (.Name x px) "append" u8) [.Call (.Name fx pf) [.Name y py] [] cpos] [] pos) spos] env) Q E s:=by
 refine wpAny_execs_cons (wpAny_Expr_any ?_ hi rfl)
 refine Ji qR (hx.out A F s _ E hA H fun v₀ F₁ s₁ g₁ V₁=>?_) (fun _ _=>rfl) x3 rfl x4
 obtain⟨t1,t2⟩:=Z9 (.lst hl) F₁ s₁ v₀ (H.grow g₁).toBase V₁
 refine⟨t1,t2,?_⟩
 refine wpAny_items_cons ?_ rfl
 rw[show eval (.Call (.Name fx pf) [.Name y py] [] cpos) env=(do callWith cpos (←eval (.Name fx pf) env) [] (backTo cpos (starEach [.Name y py] env)) (backToKw cpos (keywordEach [] env))) from rfl]
 have H₁:=H.grow g₁
 refine wpAny_bind (hf.out A F₁ s₁ _ E hA H₁ fun v F₂ s₂ g₂ V₂=>?_)
 obtain rfl:=V₂.inv
 have H₂:=H₁.grow g₂
 refine jn (fun _ _=>rfl) hk ((zg hy zj).out A F₂ s₂ _ E cpos hA H₂ fun vs F₃ s₃ g₃ V₃=>⟨⟨F₃,(H₂.grow g₃).toBase⟩,?_⟩)
 have H₃:=H₂.grow g₃
 have gg:=(g₁.trans g₂).trans g₃
 have hB:Base G F₃ [(it,MO.raw o)] s₃:={H₃.toBase with own:=all_cons (H₃.own _ hit) zx,nodup:=List.nodup_cons.mpr ⟨List.not_mem_nil,List.nodup_nil⟩}
 refine zkL hfn hsc hA hfr hB V₃ hps.symm hb (fun e' he'=>(u3 e' he').imp id fun y=>y.imp fun L y=>y.imp fun ob y=>⟨y.1,gg.keep _ _ y.2.2.2 List.not_mem_nil y.2.1,y.2.2⟩) hne fun F' s₄ Lp base e t h' k1 k2 k3 k4 k5 k6 k7=>?_
 exact hE _ _ (Stopped.of gg ⟨F',s₄,Lp,base,e,t,h',rfl,k1,k2,k3,k4,k5,k6,k7,rfl⟩)
noncomputable def j4(o o':Obj):Prop:=∃sl,o'={o with slots:=sl}
theorem JJ{h:Heap}{a b:Addr}{o:Obj}(h2:h.get? a=none) (h1:h.get? b=some o):b≠a:=fun e=>zH h2 (e▸h1)
theorem zlT{F:FZ}{s:Shared}(H:Holds G env F ρ σ s) (hf:env.frame=some env.locals):env.scope.kind≠.module∧∃L ob,env.frame=some L∧s.heap.get? L=some ob∧(∀vs,ob.data≠.fields vs)∧L≠G.X:=
 ⟨(fun e=>by rw[H.kind] at e;cases e),H.locals.1.elim fun m y=>y.elim fun oo y=>y.elim fun es y=>y.elim fun ep y=>⟨_,oo,hf,y.1,(fun vs q=>by rw[y.2.1] at q;cases q),H.locals.2.2.1⟩⟩
theorem zfU{it an Ll Lp:Addr}{o oL:Obj}{l:List D}{F F':FZ}{s s₁:Shared}{h₆:Heap}(H:Holds G env F ρ [(it,MO.raw o),(an,MO.lst l),(Ll,MO.raw oL)] s) (H₁:Holds G env F' ρ [(an,MO.lst l),(Ll,MO.raw oL)] s₁)
  (h1:F' Lp=none) (h2:s.heap.get? Lp=none) (h3:Lp≠G.X) (hkk:∀b o,b∉[Lp,env.locals,Ll]→s₁.heap.get? b=some o→h₆.get? b=some o) (hup:s₁.heap.UpToSlots h₆) (hnf:∀vs,oL.data≠.fields vs):∃o',j4 oL o'∧Holds G env F' ρ [(an,MO.lst l),(Ll,.raw o')] {s₁ with heap:=h₆}:=
 have q:=H₁.own (Ll,MO.raw oL) (.tail _ (.head _))
 (hup _ _ q.1 hnf).elim fun sl hsl=>⟨_,⟨sl,rfl⟩,H₁.slots (Ls:=[Lp,env.locals,Ll]) hkk hup
  (all_cons ⟨h1,h3,fun x c hc e=>(H.cells x c hc).1.elim fun v hv=>hv.elim fun oc hoc=>JJ h2 hoc.1 e⟩ (all_cons ⟨H₁.locals.2.1,H₁.locals.2.2.1,fun x c hc e=>(H₁.cells x c hc).2.2.2.2 e⟩
   (all_cons ⟨q.2.1,q.2.2,fun x c hc e=>(H₁.cells x c hc).2.2.2.1 (e▸.tail _ (.head _))⟩ zx)))
  (all_cons (.inl ⟨.head _,List.not_mem_cons_of_ne_of_not_mem ((H.own (an,MO.lst l) (.tail _ (.head _))).1.elim fun vs x=>x.elim fun m x=>JJ h2 x.1) (List.not_mem_cons_of_ne_of_not_mem (fun e=>H.locals.2.2.2 (e▸.tail _ (.head _))) (List.nodup_cons.mp (List.nodup_cons.mp H.nodup).2).1)⟩)
   (all_cons (.inr ⟨.tail _ (.head _),_,rfl,hsl⟩) zx)) H₁.nodup⟩
theorem zjK{it an Ll Lp:Addr}{o oL o₆:Obj}{l:List D}{F F':FZ}{s s₁:Shared}{h₆:Heap}(hg:Grow G [it] F s F' s₁) (h2:s.heap.get? Lp=none)
  (hk:∀b o,b∉[Lp,env.locals,Ll]→s₁.heap.get? b=some o→h₆.get? b=some o) (H₆:Holds G env F' ρ [(an,MO.lst l),(Ll,.raw o₆)] {s₁ with heap:=h₆}):Step G env F s [(it,MO.raw o),(an,MO.lst l),(Ll,MO.raw oL)] F' {s₁ with heap:=h₆} [(an,MO.lst l),(Ll,.raw o₆)] where
 le:=hg.le
 new a oa e:=(hg.new a oa e).imp id .inl
 keep b ob hb hn e:=hk b ob (List.not_mem_cons_of_ne_of_not_mem (JJ h2 e) (List.not_mem_cons_of_ne_of_not_mem (fun q=>hn (q▸.head _)) (List.not_mem_cons_of_ne_of_not_mem (fun q=>hn (q▸List.mem_append_right _ (.tail _ (.tail _ (.head _))))) List.not_mem_nil)))
  (hg.keep b ob hb (List.not_mem_cons_of_ne_of_not_mem (fun q=>hn (q▸List.mem_append_right _ (.head _))) List.not_mem_nil) e)
 dom b ob e:=(hg.dom b ob e).elim fun o' e'=>(Classical.em (b∈[Lp,env.locals,Ll])).elim
  (fun hm=>all_cons (p:=fun b=>s.heap.get? b=some ob→∃o',h₆.get? b=some o') (fun e=>absurd rfl (JJ h2 e)) (all_cons (fun _=>H₆.locals.1.elim fun m y=>y.elim fun ol y=>⟨ol,y.elim fun _ y=>y.elim fun _ y=>y.1⟩) (all_cons (fun _=>⟨_,(H₆.own _ (.tail _ (.head _))).1⟩) zx)) b hm e)
  fun hm=>⟨_,hk b o' hm e'⟩
 os:=hg.os
 gens:=hg.gens
 fin:=H₆.fin
 code _:=H₆.code
 fresh a ha:=.inl (.tail _ ha)
theorem zgV{y x:Str}{py px rpos hpos tpos:Pos}{body:List Stmt}{an it Ll:Addr}{o oL:Obj}{l:List D}{rest:List Env}{P:Out→Prop}
  (hfr:A.frames=some (env::rest)) (u7:env.frame=some env.locals) (hrest:rest.filterMap (·.frame)=[Ll])
  (hb:∀(F:FZ) (s:Shared) (Q:Flow→Shared→Prop) (E:Value→Shared→Prop),Holds G env F ρ [(it,MO.raw o),(an,MO.lst l),(Ll,MO.raw oL)] s→(∀e s',Stopped G (env::rest) it F s e s'→E e s')→wpAny (model G.prog G.w) A (execs body env) Q E s)
  (hk:env.kindOf x=some .globalImplicit) (hmg:G.mg x=none) (hbb:bootBuiltins x=some (.type "StopIteration")) (hx:x≠"__name__") (hdd:(x==("__debug__":Str))=false)
  (hy:ρ.lookup y=some (.raw (.ref an))) (hyd:(y==("__debug__":Str))=false) (hyc:(y==("__classdict__":Str))=false) (hnf:∀vs,oL.data≠.fields vs)
  (hP:∀o',j4 oL o'→P (.ret (.lst l) [(Ll,.raw o')])) :
  XA1 G A env (.Try body [.ExceptHandler (some (.Name x px)) none [.Return (some (.Name y py)) rpos] hpos] [] [] tpos) ρ [(it,MO.raw o),(an,MO.lst l),(Ll,MO.raw oL)] P:=.mk fun F s Q E H hQ=>by
 refine wpAny_Try_except (hb F s _ _ H fun e s' x=>?_)
 obtain⟨F',s₁,Lp,base,ad,t,h',rfl,hg,h1,h2,h3,h4,h5,h6,rfl⟩:=x
 have hfm:(env::rest).filterMap (·.frame)=[env.locals,Ll]:=by rw[List.filterMap_cons,u7,hrest]
 rw[hfm] at h4
 have H₁:Holds G env F' ρ [(an,MO.lst l),(Ll,MO.raw oL)] s₁:=H.lost (.head ..) hg
 have kk:∀{h₆:Heap},base.StaysIn h₆→∀b o,b∉[Lp,env.locals,Ll]→s₁.heap.get? b=some o→h₆.get? b=some o:=fun hst b o hb e=>hst _ _ (h4 b o hb e)
 refine wpAny_looks_onW hfr u7 h5 fun h₄ hheld₄ hsm₄=>?_
 refine wpAny_landsW hheld₄ fun h₅ hfl₅ hsm₅=>?_
 have u₅:=(h6.trans hsm₄).trans hsm₅
 refine wpAny_handleBy_builtin (X:="StopIteration") (T:="StopIteration") (b:=true) (PyProof.Rows.isSubtype_of_subB (by decide +kernel)) (PyProof.Rows.isSubtype_of_subB (by decide +kernel)) isSubtype_stop ?_
 refine(zfU H H₁ h1 h2 h3 (kk hfl₅.1) u₅ hnf).elim fun o₅ H₅=>hfl₅.there.elim fun ob hob=>?_
 have H₅:=H₅.2
 refine Calls.Name_function_global H₅.kind hk (Calls.loadGlobal_builtin (env:=env) (by rw[H₅.globals];exact H₅.toBase.gns G.gns) hmg (by rw[H₅.builtins];exact H₅.toBase.gns G.bns) ((G.boot x hx).trans hbb) ⟨rfl,⟨ob,hob⟩,?_⟩) hdd
 rw[if_pos rfl]
 refine PyProof.Rows.lands_againW hfl₅ fun h₆ hfl₆ hsm₆=>?_
 have hk₆:=kk hfl₆.1
 refine zd (zfU H H₁ h1 h2 h3 hk₆ (u₅.trans hsm₆) hnf) fun o₆ hs₆ H₆=>?_
 refine zd (H₆.frozen (ρ':=[(y,.lst l)]) (Del.head (σ:=[(Ll,.raw o₆)]) an (.lst l)) trivial (.froze hy .nil)) fun F₇ H₇ g₇=>?_
 exact wpAny_execs_cons (wpAny_Return_some (wpAny_Name (zbT (d:=.lst l) (by simp) H₇ (fun v hv=>hQ _ (.ret v) F₇ _ (hP o₆ hs₆) ((zjK hg h2 hk₆ H₆).trans g₇) ⟨⟨_,H₇⟩,hv⟩) hyc) hyd))
end
section
open PySem PySem.W
variable {G:Gx}{n:Nat}{env:Env}{ρ:Rho}{σ:Sig}
theorem zkP{f:Addr}{sc:Scope}{ps:List Str}{body:List Stmt}{ds:List D}{d:D}{a:Addr}{mo:MO}{Post:MO→Prop}{P:D→Sig→Prop}(hf:FnOk G f sc ps body) (hsc:qk sc ps=true) (hl:ds.length=ps.length)
  (hb:∀u1,EnvOk u1 sc→X G n u1 body (ps.zip ds) [(a,mo)] (ZU fun d' σ'=>d'=d∧∃mo',Post mo'∧(a,mo')∈σ')) (hm:(a,mo)∈σ) (u:∀mo',Post mo'→∃σ',Upd σ a mo mo' σ'∧P d σ'):CallY G (n+1) env ρ σ (.ref f) ds P:=.mk fun A F s Q E vs hA H hv hQ=>by
 have hB:Base G F [(a,mo)] s:={H.toBase with own:=fun p hp=>by simp at hp;subst hp;exact H.own _ hm,nodup:=by simp}
 refine zh9 (σ:=[(a,mo)]) hf hsc hA hB hv hl (fun env hE _=>hb env hE) fun d' σ' u1 ρ' F' s' v ⟨hP,mo',hpost,hm'⟩ hfw gs H' hv'=>?_
 subst hP
 refine z9 (H'.own _ hm') fun h1 h2 h3=>?_
 have g:Grow G [a] F s F' s':=gs.grow fun b hb=>by
  rcases hfw b hb with h | h
  ·exact .inl h
  ·simp at h;subst h;exact .inr ⟨List.mem_cons_self,h2⟩
 refine zd (u mo' hpost) fun σ'' u' hP'=>?_
 refine zR (H.turned u' g h1 h2) fun H'' g''=>?_
 exact hQ _ σ'' v F' s' hP' g'' H'' hv'
open PyProof.Rows in
theorem zgo{F:FZ}:∀{vs:List Value}{ns:List Int},Vs G.prog G.w F vs (ns.map .int)→IntsAre vs ns
 | _,[],.nil=>.nil
 | _,i::ns,.cons h t=>by
  cases h
  exact .cons _ _ (zgo t)
theorem zfC{fi fb e:Expr}{p1 p2:Pos}{ns:List Int}{d:D}{P:D→Sig→Prop}(hi:PE G n env fi ρ σ (.raw (.builtin "iter"))) (hb:PE G n env fb ρ σ (.raw (.type "bytes"))) (he:PE G n env e ρ σ d) (hr:Rd σ d (.lst (ns.map .int)))
  (hn:∀x∈ns,0≤x∧x<256) (hl:ns.length≤1000000) (hP:∀a o t,BIt o (byteArr ns) t 0→P (.raw (.ref a)) ((a,.raw o)::σ))
  (hse:qr [e]:=by intro _ _;rfl)
  (he1:∀env,eval (.Call fi [.Call fb [e] [] p2] [] p1) env=(do callWith p1 (←eval fi env) [] (backTo p1 (starEach [.Call fb [e] [] p2] env)) (backToKw p1 (keywordEach [] env))):=by intro _;rfl)
  (he2:∀env,eval (.Call fb [e] [] p2) env=(do callWith p2 (←eval fb env) [] (backTo p2 (starEach [e] env)) (backToKw p2 (keywordEach [] env))):=by intro _;rfl)
  (hst:∀env,starEach [e] env=(false,eval e env)::starEach [] env:=by intro _;rfl) :
  Y G n env (.Call fi [.Call fb [e] [] p2] [] p1) ρ σ P:=.mk fun A F s Q E hA H hQ=>by
 rw[he1]
 refine wpAny_bind (hi.out A F s _ E hA H fun v F₁ s₁ g₁ V₁=>?_)
 (first | obtain rfl:=V₁.inv | obtain⟨_,rfl⟩:=V₁.inv)
 have H₁:=H.grow g₁
 refine callWith_of (P:=fun h=>∃F' s',Base G F' σ s'∧s'.heap=h) rfl (fun h ⟨F',s',B,e⟩=>e▸zm F' s' B) ?_
 refine qy rfl (wpAny_items_cons ?_ rfl)
 rw[he2]
 refine wpAny_bind (hb.out A F₁ s₁ _ E hA H₁ fun v F₂ s₂ g₂ V₂=>?_)
 (first | obtain rfl:=V₂.inv | obtain⟨_,rfl⟩:=V₂.inv)
 have H₂:=H₁.grow g₂
 refine callWith_of (P:=fun h=>∃F' s',Base G F' σ s'∧s'.heap=h) (by rw[hse p2 env];rfl) (fun h ⟨F',s',B,e⟩=>e▸z2 F' s' B) ?_
 refine qy (hse p2 env) ((zg he zj hst).out A F₂ s₂ _ E p2 hA H₂ fun vs F₃ s₃ g₃ V₃=>⟨⟨F₃,s₃,(H₂.grow g₃).toBase,rfl⟩,?_⟩)
 have H₃:=H₂.grow g₃
 refine zd (V₃.one) fun _ q2_ h1=>?_
 subst q2_
 refine qC (ZA H₃.toBase h1 hr) fun la lvs m q1_ hla hlv=>?_
 subst q1_
 have hints:=zgo hlv
 refine call_bytes_ints (l:=la) (vs:=lvs.toList) (ns:=ns) ⟨_,hla,rfl,m,by simp⟩ hints hn ?_ hA.handled fun h' t k hk=>?_
 ·have:=hlv.length
  rw[List.length_map] at this
  rw[this];exact Zh hl
 have g₄:Grow G [] F₃ s₃ F₃ {s₃ with heap:=h',toks:=k}:=.of_keep H₃.fin hk
 have H₄:=H₃.grow g₄
 refine wpAny_items_nil ⟨⟨F₃,_,H₄.toBase,rfl⟩,?_⟩
 refine Calls.call_function_entry (by decide +kernel) (by decide +kernel) kdk_entry_iter (kdk_args_iter _) ?_
 unfold Builtin.«iter»
 refine wpAny_bind (m:=someArgs "iter" 1 2 _) (wpAny_of_eq (a:=[Value.bytes (byteArr ns) t]) (by first | rfl | kernel_rfl!) ?_)
 show wpAny _ _ (pyIter (.bytes (byteArr ns) t)>>=_) _ _ _
 refine wpAny_bind (KBw.pyIter_bytes ?_)
 refine wpAny_pure ⟨_,rfl,?_⟩
 have ga:=((g₁.trans g₂).trans g₃).trans g₄
 have gp:Grow G [] F₃ {s₃ with heap:=h',toks:=k} F₃ {s₃ with heap:=h'.push {cls:=.type "bytes_iterator",data:=.fields #[.bytes (byteArr ns) t,.int 0 0]},toks:=k}:=.push0 H₄.fin
 have ha:s.heap.get? h'.objs.size=none:=Zi ga (ZV _)
 have hm:MAt G F₃ (h'.push {cls:=.type "bytes_iterator",data:=.fields #[.bytes (byteArr ns) t,.int 0 0]}) h'.objs.size (.raw {cls:=.type "bytes_iterator",data:=.fields #[.bytes (byteArr ns) t,.int 0 0]}):=Heap.get?_push_size _ rfl
 have hF:F₃ h'.objs.size=none:=H₄.toBase.fresh
 exact hQ _ _ _ F₃ _ (hP _ _ t ⟨rfl,rfl⟩) (.of (ga.trans gp) (by simp) fun b hb=>by
  rcases List.mem_cons.mp hb with rfl | hb
  ·exact .inr ha
  ·exact .inl hb) (H.consNew (ga.trans gp) ha hm hF) (.raw _)
end
section
open PySem PySem.W
variable {G:Gx}{n:Nat}{env:Env}{ρ:Rho}{σ:Sig}
structure Kls (G:Gx) (K:Frag) (C:Addr):Prop where
 base:∀a o,K.lookup a=some o→G.h₀.get? a=some o∧a≠G.X
 makes:makesIn K C=true
 ga:findIn K (.ref C) "__getattribute__"=some (some (.builtin "object.__getattribute__"))
 gk:findIn K (.ref C) "__getattr__"=some none
 sa:findIn K (.ref C) "__setattr__"=some (some (.builtin "object.__setattr__"))
 po:plainOver K C=true
 hd:hasDictIn K C=true
variable {K:Frag}{C:Addr}
theorem Kls.inn(k:Kls G K C) {F:FZ}{s:Shared}(H:Base G F σ s):K.In s.heap:=fun a o e=>H.h0 (k.base a o e).1 (k.base a o e).2
section
variable {prog:Program}{w:World}
theorem zbk{o:Obj}{kvs:List (PySem.Str×Value)}(h:DictO (strKind prog w) o kvs) (name:PySem.Str):lookIn name o=some (valueAt kvs name):=by
 refine zdR h fun es ep _ hd hk hp _=>?_
 unfold lookIn
 rw[hd]
 dsimp only
 have e1:(fun e:DictEntry=>e.key.isStr name)=fun e=>(strKind prog w).is name e.key:=by
  funext e
  exact((strKind prog w).strs name name 0 e.key (strKind_is prog w name 0)).symm
 have hf:=hp.find name
 rw[e1]
 cases hq:es.toList.find? fun e=>(strKind prog w).is name e.key with
 | some e=>rw[hq] at hf;dsimp only;rw[←hf];rfl
 | none=>
  rw[hq] at hf
  dsimp only
  rw[if_neg,←hf];rfl
  rw[Bool.not_eq_true,List.any_eq_false]
  intro e he
  refine zd (hk e (Array.mem_toList_iff.mp he)) fun k hk' _=>?_
  refine Exists.elim (Value.isStrOf_shape hk') fun t ht=>?_
  unfold DictEntry.refKey
  rw[ht];simp
theorem zfb{o:Obj}{kvs:List (PySem.Str×Value)}(h:DictO (strKind prog w) o kvs) (name:PySem.Str) (t:Tok) (v:Value):DictO (strKind prog w) (Obj.putName name (PyData.keyHash w.params name) (.str name t) v o) (stored kvs name v):=by
 refine zdR h fun es ep hx hd hk hp hn=>?_
 obtain⟨c,d,dt,sl⟩:=o
 refine z9 hx fun q1_ q2_ q3_=>?_
 subst q1_
 subst q2_
 subst q3_
 dsimp only at hd
 subst hd
 have e1:(fun e:DictEntry=>e.key.isStr name)=fun e=>(strKind prog w).is name e.key:=by
  funext e
  exact((strKind prog w).strs name name 0 e.key (strKind_is prog w name 0)).symm
 rw[Obj.putName_eq]
 unfold Obj.putNameByArray
 have ea:(es.findIdx? fun e=>(strKind prog w).is name e.key)=es.toList.findIdx? fun e=>(strKind prog w).is name e.key:=by cases es;simp
 dsimp only
 rw[e1,ea]
 have hfi:=hp.findIdx name
 cases hq:es.toList.findIdx? fun e=>(strKind prog w).is name e.key with
 | some i=>
  rw[hq] at hfi
  have hany:=any_of_findIdx_some hfi.symm
  unfold stored
  rw[if_pos hany]
  exact⟨_,_,⟨rfl,rfl,rfl⟩,rfl,hk.modify i v,by rw[Array.toList_modify];exact hp.modify hn hq v,by rw[keys_map_store];exact hn⟩
 | none=>
  rw[hq] at hfi
  have hnm:=not_mem_of_findIdx_none hfi.symm
  unfold stored
  rw[if_neg]
  ·refine⟨_,_,⟨rfl,rfl,rfl⟩,rfl,hk.push (k:=name) (strKind_is prog w name t) v,?_,?_⟩
   ·rw[Array.toList_push];exact hp.append (strKind_is prog w name t) _ v
   ·rw[List.map_append,List.nodup_append]
    refine⟨hn,by simp,fun a ha b hb e=>?_⟩
    simp at hb
    exact hnm (by rw[←hb,←e];exact ha)
  ·intro hany
   refine zd (List.any_eq_true.mp hany) fun p hpm e=>?_
   exact hnm (List.mem_map.mpr ⟨p,hpm,by simpa using e⟩)
theorem znj{A:Around}{R:Result→Shared→Prop}{s:Shared}{x dx:Addr}{ox od:Obj}{name:PySem.Str}{tk:Tok}{v:Value}{kvs:List (PySem.Str×Value)}(X:K.In s.heap)
  (I:InstAt s.heap x ox C (some od)) (hd:ox.dict=some dx) (hod:s.heap.get? dx=some od) (hD:DictO (strKind prog w) od kvs) (hp:plainOver K C=true) (ht:takerIn K C name=some none) (hh:hasDictIn K C=true) (hz:kvs.length≤1000)
  (h:R (.ok (.ret .none)) {s with heap:=s.heap.update dx (Obj.putName name (PyData.keyHash w.params name) (.str name s.toks) v),toks:=s.toks+1}) :
  codeAny (model prog w) A (.call (.builtin "object.__setattr__") ⟨[.ref x,.str name tk,v],[]⟩) R s:=by
 refine osa_open X I hp ht fun b=>?_
 refine zd (any_some hh) fun cd hc hd'=>?_
 have hput:=zfb hD name s.toks v
 have hl:=zbk hD name
 obtain⟨hx,hcl,hn,-⟩:=I
 obtain⟨oc,odi,oda,osl⟩:=ox
 dsimp only at hcl hd
 subst hcl hd
 refine zdR (id hD) fun es ep hex hdd hko hpa hnd=>?_
 refine zdR (id hput) fun es' ep' hex' hdd' hko' hpa' hnd'=>?_
 have D':=Heap.get?_update_self (Obj.putName name (PyData.keyHash w.params name) (.str name s.toks) v) hod (by
  generalize Obj.putName name (PyData.keyHash w.params name) (.str name s.toks) v od=od' at hdd'
  obtain⟨_,_,dt,_⟩:=od'
  obtain rfl:dt=_:=hdd'
  rfl)
 refine wpAny_bind (wpAny_pure (wpAny_bind (wpAny_bind (wpAny_loadPart hx (wpAny_bind ((looks_clsIn X hc).here ?_))))))
 rw[hd']
 refine wpAny_pure (a:=some dx) (wpAny_bind (wpAny_pure (wpAny_bind ?_)))
 unfold nsSet
 refine wpAny_bind (wpAny_bind (wpAny_askSetting (wpAny_pure (wpAny_bind (wpAny_mkText (wpAny_bind (wpAny_loadPart hod ?_)))))))
 rw[hdd]
 dsimp only
 have c:(!es.any (·.key.isStr name)&&es.any (·.refKey))=false:=by
  unfold lookIn at hl
  rw[hdd] at hl
  dsimp only at hl
  rw[←Array.any_toList,←Array.any_toList]
  split at hl
  ·rename_i en he
   rw[List.any_eq_true.mpr ⟨en,List.mem_of_find?_eq_some he,List.find?_some he⟩];rfl
  ·split at hl
   ·cases hl
   ·rename_i z;rw[Bool.not_eq_true] at z;rw[z,Bool.and_false]
 rw[aRefKeyMayBeTheName_at,c]
 refine wpAny_updatePart hod ?_
 have hsz:es'.size=(stored kvs name v).length:=by rw[←hpa'.length];simp
 have:=stored_length_le kvs name v
 refine wpAny_bind (wpAny_lookBehind D' (by rw[hdd'];exact pastItsLine_dict (by rw[hsz,sizeLine_eq];lia)) ?_)
 exact wpAny_pure h
end
end
section
open PySem PySem.W
variable {G:Gx}{n:Nat}{env:Env}{ρ:Rho}{σ:Sig}{K:Frag}{C:Addr}
inductive RdI (σ:Sig) (C:Addr):D→List (Str×D)→Prop
 | self (ds):RdI σ C (.inst C ds) ds
 | own {x dx l}:(x,MO.raw (instObj C dx))∈σ→(dx,MO.dicS l)∈σ→RdI σ C (.raw (.ref x)) l
theorem zhE{F:FZ}{s:Shared}{v:Value}{d:D}{ds:List (Str×D)}(H:Base G F σ s) (hv:V G.prog G.w F v d) (e:RdI σ C d ds) :
  ∃x dx od kvs,v=.ref x∧s.heap.get? x=some (instObj C dx)∧s.heap.get? dx=some od∧DictO (strKind G.prog G.w) od kvs∧kvs.map (·.1)=ds.map (·.1)∧Vs G.prog G.w F (kvs.map (·.2)) (ds.map (·.2)):=by
 cases e with
 | self=>
  cases hv with
  | inst h1 h2 h3 h4 h5 h6=>subst h2;exact⟨_,_,_,_,rfl,H.fin _ _ h1,H.fin _ _ h3,h4,h5,h6⟩
 | own h1 h2=>
  (first | obtain rfl:=hv.inv | obtain⟨_,rfl⟩:=hv.inv)
  refine zR (H.own _ h1) fun k1 _=>?_
  refine zR (H.own _ h2) fun q1_ _=>?_
  obtain⟨o,kvs,q1,q2,q3,q4,q5⟩:=q1_
  exact⟨_,_,o,kvs,rfl,k1,q1,q3,q4,q5⟩
noncomputable def zjc:D→Bool
 | .raw (.ref _)=>true
 | .raw _=>false
 | _=>true
theorem V.handed{F:FZ}{v:Value}{d:D}(hv:V G.prog G.w F v d) (h:zjc d=true):handedIn v=true:=by
 cases hv<;>first | rfl | skip
 cases v<;>first | rfl | cases h
theorem zdI{h:Heap}{x dx:Addr}{od:Obj}(h1:h.get? x=some (instObj C dx)) (h2:h.get? dx=some od):InstAt h x (instObj C dx) C (some od):=⟨h1,rfl,rfl,h2⟩
theorem zgZ{F:FZ}{name:Str}{d:D}:∀{kvs:List (Str×Value)}{ds:List (Str×D)},kvs.map (·.1)=ds.map (·.1)→Vs G.prog G.w F (kvs.map (·.2)) (ds.map (·.2))→(ds.find? fun p=>p.1=name).map (·.2)=some d→∃v,valueAt kvs name=some v∧V G.prog G.w F v d:=fun hk hv h=>QM hk hv h
theorem JT{e:Expr}{name:Str}{pos:Pos}{d₀ d:D}{ds:List (Str×D)}(k:Kls G K C) (he:PE G n env e ρ σ d₀) (hr:RdI σ C d₀ ds) (ha:findIn K (.ref C) name=some none) (hx:(ds.find? fun p=>p.1=name).map (·.2)=some d) (hp:zjc d=true)
  (hev:eval (.Attribute e name pos) env=(do
   let o ←eval e env
   standAt pos.atName
   let r ←holding [o] (getAttr o name true)
   letTemporaryGo e o r
   pure r):=by with_unfolding_all rfl):PE G n env (.Attribute e name pos) ρ σ d:=.mk fun A F s Q E hA H hQ=>by
 refine PyProof.Rows.Attribute_any_ (he.out A F s _ E hA H fun v₀ F₁ s₁ g₁ V₁=>?_) hev
 have H₁:=H.grow g₁
 refine zmx (zhE H₁.toBase V₁ hr) fun x dx od kvs q2_ h1 h2 h3 h4 h5=>?_
 subst q2_
 refine zd (zgZ h4 h5 hx) fun v hva hv=>?_
 refine get_value (k.inn H₁.toBase) (zdI h1 h2) k.ga (findObj_own k.hd ha rfl (by rw[zbk h3,hva])) (hv.handed hp) ?_
 exact hQ _ F₁ _ (g₁.trans (.tok g₁.fin)) hv
theorem zeA{e value:Expr}{name:Str}{u8 pos:Pos}{x dx:Addr}{l:List (Str×D)}{d:D}{σ':Sig}{P:Out→Prop}(k:Kls G K C) (hv:PE G n env value ρ σ d) (he:PE G n env e ρ σ (.raw (.ref x))) (hx:(x,MO.raw (instObj C dx))∈σ) (u:Upd σ dx (.dicS l) (.dicS (Zl l name d)) σ')
  (ha:findIn K (.ref C) name=some none) (hl:l.length≤1000) (hP:P (.next ρ σ')) (hs:swapsWith value (some (.Attribute e name u8)) pos.line env=pure false:=by rfl):X1 G n env (.Assign [.Attribute e name u8] value pos) ρ σ P:=.mk fun A F s Q E hA H hQ=>by
 refine plainObj_wpAny_Assign_Attribute (hv.out A F s _ E hA H fun v F₁ s₁ g₁ V₁=>?_) hs
 have H₁:=H.grow g₁
 refine he.out A F₁ s₁ _ E hA H₁ fun v₂ F₂ s₂ g₂ V₂=>?_
 have H₂:=H₁.grow g₂
 (first | obtain rfl:=V₂.inv | obtain⟨_,rfl⟩:=V₂.inv)
 refine zR (H₂.own _ hx) fun k1 _=>?_
 refine z9 (H₂.own _ u.mem) fun q3_ qF qX=>?_
 obtain⟨od,kvs,q1,q2,q3,q4,q5⟩:=q3_
 refine set_plain (k.inn H₂.toBase) (zdI k1 q1) k.sa ?_
 refine znj (s:={s₂ with toks:=s₂.toks+1}) (K:=K) (show K.In s₂.heap from k.inn H₂.toBase) (zdI k1 q1) rfl q1 q3 k.po (by unfold takerIn;rw[ha];rfl) k.hd ?_ ?_
 ·have:=congrArg List.length q4
  simp only[List.length_map] at this
  lia
 ·have hsb:Heap.SameBut dx s₂.heap (s₂.heap.update dx (Obj.putName name (PyData.keyHash G.w.params name) (.str name (s₂.toks+1)) v)):=Heap.SameBut.update ..
  have hD:=zfb q3 name (s₂.toks+1) v
  refine zR (zaU (k:=name) (V₁.mono g₂.le) q4 q5) fun r1 r2=>?_
  have hfree:(Obj.putName name (PyData.keyHash G.w.params name) (.str name (s₂.toks+1)) v od).isFreed=false:=by
   refine Zk (id hD) fun _ _ _ hdd _=>?_
   generalize Obj.putName name (PyData.keyHash G.w.params name) (.str name (s₂.toks+1)) v od=od' at hdd
   obtain⟨_,_,dt,_⟩:=od'
   obtain rfl:dt=_:=hdd
   rfl
  have hm':MAt G F₂ (s₂.heap.update dx (Obj.putName name (PyData.keyHash G.w.params name) (.str name (s₂.toks+1)) v)) dx (.dicS (Zl l name d)):=⟨_,_,Heap.get?_update_self _ q1 hfree,q2,hD,r1,r2⟩
  refine zR (H₂.upd (tk:=s₂.toks+1+1) u hsb hm') fun H₃ g₃=>?_
  exact hQ _ .next F₂ _ hP ((Step.pure (g₁.trans g₂)).trans (H₂.turned u g₃ hm' qF).2) H₃
theorem zaB{o:Expr}{name:Str}{u8 pos:Pos}{args:List Expr}{f:Addr}{d₀ d:D}{ds:List D}{fl:List (Str×D)}(k:Kls G K C) (ho:PE G n env o ρ σ d₀) (hr:RdI σ C d₀ fl) (hf:findIn K (.ref C) name=some (some (.ref f))) (ht:typeIn K (.ref f)=some (.type "function")) (hno:fl.any (fun p=>decide (p.1=name))=false)
  (ha:PEs G n env args ρ σ ds) (hc:CallJ G n σ (.ref f) (d₀::ds) d) (hk:ji G σ (.ref f))
  (hs:qr args:=by intro _ _;rfl)
  (he:∀pl:Sem Bool,pl=(do return (←importBound o env).getD true)→eval (.Call (.Attribute o name u8) args [] pos) env=(do
   let ov ←eval o env
   standAt u8.atName
   let (f,first) ←holding [ov] (getMethod ov name pl)
   callWith pos f first (backTo pos (starEach args env)) (backToKw pos (keywordEach [] env))):=by intro pl hpl;subst hpl;rfl):PE G n env (.Call (.Attribute o name u8) args [] pos) ρ σ d:=.mk fun A F s Q E hA H hQ=>by
 refine methodCall_KW (ho.out A F s _ E hA H fun v₀ F₁ s₁ g₁ V₁=>?_) (he _ rfl)
 have H₁:=H.grow g₁
 refine zmx (zhE H₁.toBase V₁ hr) fun x dx od kvs q4_ h1 h2 h3 h4 h5=>?_
 subst q4_
 refine method_fn (k.inn H₁.toBase) (zdI h1 h2) k.ga k.gk hf ht ?_ ?_
 ·unfold shadowIn
  dsimp only
  rw[zbk h3]
  have:valueAt kvs name=none:=by
   cases e:valueAt kvs name with
   | none=>rfl
   | some v=>
    exfalso
    have:=zav (k:=name) h4
    rw[e,hno] at this
    cases this
  rw[this];rfl
 ·refine callWith_of (P:=fun h=>∃F' s',Base G F' σ s'∧s'.heap=h) (by rw[hs pos env];rfl) (fun h ⟨F',s',B,e⟩=>e▸hk F' s' B) ?_
  refine qy (hs pos env) (ha.out A F₁ s₁ _ E pos hA H₁ fun vs F₂ s₂ g₂ V₂=>⟨⟨F₂,s₂,(H₁.grow g₂).toBase,rfl⟩,?_⟩)
  exact hc.out A F₂ s₂ Q E _ hA (H₁.grow g₂).toBase (.cons (V₁.mono g₂.le) V₂) fun v F' s' g₃ hv=>hQ v F' s' ((g₁.trans g₂).trans g₃) hv
end
section
open PySem PySem.W
variable {G:Gx}{n:Nat}{env:Env}{ρ:Rho}{σ:Sig}{K:Frag}{C:Addr}
theorem zjB{A:Around}{C:Addr}{vs:List Value}(hA:AOk (n+2) A):AOk n (A.under (.builtin "type.__call__" ⟨.ref C::vs,[]⟩)):=by
 have h1:=hA.depth
 have h2:=hA.units
 have e0:(Code.builtin "type.__call__" ⟨.ref C::vs,[]⟩).frames=0:=by kernel_rfl
 have e1:(Code.builtin "type.__call__" ⟨.ref C::vs,[]⟩).weight=1:=by kernel_rfl
 have e2:(Code.builtin "type.__call__" ⟨.ref C::vs,[]⟩).cUnits=1:=by kernel_rfl
 exact⟨hA.handled,by show A.depth+_+n≤900;lia,by show A.units+_+10*n≤9000;lia⟩
theorem zgH{fI:Addr}{sc:Scope}{ps:List Str}{body:List Stmt}{ds:List D}{l:List (Str×D)}(k:Kls G K C) (hi:findIn K (.ref C) "__init__"=some (some (.ref fI))) (ht:typeIn K (.ref fI)=some (.type "function")) (hf:FnOk G fI sc ps body) (hsc:qk sc ps=true)
  (hl:ds.length+1=ps.length) (hb:∀env x dx,EnvOk env sc→X G n env body (ps.zip (.raw (.ref x)::ds)) [(x,.raw (instObj C dx)),(dx,.dicS [])] (ZU fun d' σ'=>d'=.none∧(x,MO.raw (instObj C dx))∈σ'∧(dx,MO.dicS l)∈σ')):CallJ G (n+3) σ (.ref C) ds (.inst C l):=.mk fun A F s Q E vs hA H hv hQ=>by
 obtain⟨h,gens,drawn,toks,os⟩:=s
 refine wpAny_call ?_
 refine make_core (makes_of (k.inn H) k.makes) (looks_findIn (k.inn H) hi) (fun self=>bind_fn (k.inn H) self ht) (.inl rfl) ?_
 have hA':AOk (n+1) (A.under (.builtin "type.__call__" ⟨.ref C::vs,[]⟩)):=zjB hA
 have g1:Grow G [] F ⟨h,gens,drawn,toks,os⟩ F ⟨h.push emptyDict,gens,drawn,toks,os⟩:=.push0 H.fin
 have g2:Grow G [] F ⟨h.push emptyDict,gens,drawn,toks,os⟩ F ⟨(h.push emptyDict).push (instObj C h.objs.size),gens,drawn,toks,os⟩:=.push0 g1.fin
 have gg:=g1.trans g2
 have hdx:h.get? h.objs.size=none:=ZV _
 have hx:h.get? (h.objs.size+1)=none:=Heap.get?_none_of_le (Nat.le_succ _)
 have Fno:∀c,h.objs.size≤c→F c=none:=fun c hc=>by
  cases e:F c with
  | none=>rfl
  | some o=>exact absurd (Heap.lt_size (H.fin _ _ e)) (Nat.not_lt.mpr hc)
 have Xno:∀c,h.objs.size≤c→c≠G.X:=fun c hc e=>by
  refine Exists.elim (H.ne_X) fun o hp=>?_
  exact absurd (Heap.lt_size hp) (Nat.not_lt.mpr (e▸hc))
 have eX:((h.push emptyDict).push (instObj C h.objs.size)).get? (h.objs.size+1)=some (instObj C h.objs.size):=by
  have:=Heap.get?_push_size (h.push emptyDict) (o:=instObj C h.objs.size) rfl
  rwa[Heap.size_push] at this
 have eD:((h.push emptyDict).push (instObj C h.objs.size)).get? h.objs.size=some emptyDict:=Heap.get?_push_of_some _ (Heap.get?_push_size h rfl)
 have Bσ:Base G F [(h.objs.size+1,MO.raw (instObj C h.objs.size)),(h.objs.size,MO.dicS [])] ⟨(h.push emptyDict).push (instObj C h.objs.size),gens,drawn,toks,os⟩:=
  {(H.grow gg) with
   own:=fun p hp=>by
    simp only[List.mem_cons,List.not_mem_nil,or_false] at hp
    rcases hp with rfl | rfl
    ·exact⟨eX,Fno _ (Nat.le_succ _),Xno _ (Nat.le_succ _)⟩
    ·exact⟨⟨emptyDict,[],eD,qE H,QV,rfl,.nil⟩,Fno _ (Nat.le_refl _),Xno _ (Nat.le_refl _)⟩
   nodup:=by simp}
 refine zl6 (vs:=.ref (h.objs.size+1)::vs) (ds:=.raw (.ref (h.objs.size+1))::ds) hf hsc hA' Bσ (.cons (.raw _) hv) (by simpa using hl) fun env s₀ hE u7 hfw _ g0 _ H0 hA''=>?_
 refine(hb env _ _ hE).out _ F s₀ _ _ hA'' H0 fun out fl F' s' hP g u3=>?_
 have fin:∀(d:D) (σ':Sig) (ρ':Rho) (v:Value),(d=.none∧(h.objs.size+1,MO.raw (instObj C h.objs.size))∈σ'∧(h.objs.size,MO.dicS l)∈σ')→Step G env F s₀ [(h.objs.size+1,MO.raw (instObj C h.objs.size)),(h.objs.size,MO.dicS [])] F' s' σ'→Holds G env F' ρ' σ' s'→V G.prog G.w F' v d→v=.none∧Q (.ref (h.objs.size+1)) s':=fun d σ' ρ' v ⟨hd,hm1,hm2⟩ gs H' hv'=>by
  subst hd
  cases hv'
  refine⟨rfl,?_⟩
  refine z9 (H'.own _ hm1) fun k1 k2 k3=>?_
  refine z9 (H'.own _ hm2) fun q1_ r2 r3=>?_
  obtain⟨od,kvs,q1,q2,q3,q4,q5⟩:=q1_
  have gr:=(g0.trans gs).grow (W:=[h.objs.size+1,h.objs.size]) fun a ha=>by
   rcases hfw a ha with h' | h'
   ·exact .inl h'
   ·simp at h'
    rcases h' with rfl | rfl
    ·exact .inr ⟨by simp,k2⟩
    ·exact .inr ⟨by simp,r2⟩
  have gt:Grow G ([]++[h.objs.size+1,h.objs.size]) F ⟨h,gens,drawn,toks,os⟩ F' s':=(gg.wider (by simp)).trans (gr.wider (by simp))
  have gu:Grow G [] F ⟨h,gens,drawn,toks,os⟩ F' s':=gt.unfresh fun z hz=>by
   simp only[List.mem_cons,List.not_mem_nil,or_false] at hz
   rcases hz with rfl | rfl
   ·exact hx
   ·exact hdx
  have gd:=gu.freeze hdx r2 q1
  have hne:h.objs.size+1≠h.objs.size:=Nat.succ_ne_self _
  have k2':(F'.put h.objs.size od) (h.objs.size+1)=none:=by unfold FZ.put;rw[if_neg hne];exact k2
  have gi:=gd.freeze hx k2' k1
  refine hQ _ _ _ gi (.inst (FZ.put_self ..) rfl (o:=instObj C h.objs.size) (dx:=h.objs.size) (od:=od) (kvs:=kvs) ?_ q3 q4 ?_)
  ·have:=FZ.le_put (F:=F'.put h.objs.size od) (a:=h.objs.size+1) (o:=instObj C h.objs.size) k2'
   exact this _ _ (FZ.put_self ..)
  ·exact q5.mono ((FZ.le_put r2).trans (FZ.le_put k2'))
 obtain⟨d,ρ',hP,H',hv⟩:=zcn hP u3
 exact fin _ _ ρ' _ hP g H' hv
theorem zgj(k:Kls G K C):ji G σ (.ref C):=fun F s H=>⟨.machine,.inr (.inl rfl),by
 have Y:=makes_of (M:=model G.prog G.w) (k.inn H) k.makes
 refine zpu (Y.obj) fun oc od cd sl hC _=>?_
 unfold keeperOf
 refine(Looks.ld (part:=none) hC).andThen ?_
 dsimp only
 exact Y.call.andThen (Looks.of_pure rfl)⟩
theorem zdq{e:Expr}{name x:Str}{t:Tok}{pos:Pos}(k:Kls G K C) (he:PE G n env e ρ σ (.raw (.ref C))) (hr:readsIn K C (.type "type")=true) (hf:findCls K (.ref C) (.type "type") name=some (.val (.str x t)))
  (hev:eval (.Attribute e name pos) env=(do
   let o ←eval e env
   standAt pos.atName
   let r ←holding [o] (getAttr o name true)
   letTemporaryGo e o r
   pure r):=by with_unfolding_all rfl):PE G n env (.Attribute e name pos) ρ σ (.str x):=.mk fun A F s Q E hA H hQ=>by
 refine PyProof.Rows.Attribute_any_ (he.out A F s _ E hA H fun v₀ F₁ s₁ g₁ V₁=>?_) hev
 cases V₁
 refine cls_value (k.inn (H.grow g₁).toBase) hr hf rfl ?_
 exact hQ _ F₁ _ (g₁.trans (.tok g₁.fin)) (.str _ _)
end
section
open PySem PySem.W
variable {G:Gx}{n:Nat}{env:Env}{ρ:Rho}{σ:Sig}
section
variable {prog:Program}{w:World}{A:Around}{E:Value→Shared→Prop}{s:Shared}
theorem zpx{a b:Int}{t u:Tok}{Q:Bool→Shared→Prop}(h:a=b) (hq:Q true s):wpAny (model prog w) A (eqBool (.int a t) (.int b u)) Q E s:=wpAny_eqBool_int (by rw[h];simpa using hq)
theorem zpy{a b:Int}{t u:Tok}{Q:Bool→Shared→Prop}(h:a≠b) (hq:Q false s):wpAny (model prog w) A (eqBool (.int a t) (.int b u)) Q E s:=wpAny_eqBool_int (by rw[show(a==b)=false from by simpa using h];exact hq)
theorem zmq{a b:Int}{t u:Tok}{Q:Value→Shared→Prop}(hq:Q (.bool (decide (a<b))) s):wpAny (model prog w) A (richCompare .Lt (.int a t) (.int b u)) Q E s:=by
 have:wpAny (model prog w) A (compareOp .Lt (.int a t) (.int b u)) Q E s:=PySem.P.lt_int hq
 exact this
theorem zmr{a b:Int}{t u:Tok}{Q:Value→Shared→Prop}(hq:Q (.bool (decide (a>b))) s):wpAny (model prog w) A (richCompare .Gt (.int a t) (.int b u)) Q E s:=by
 have:wpAny (model prog w) A (compareOp .Gt (.int a t) (.int b u)) Q E s:=PySem.P.gt_int hq
 exact this
end
theorem zfy{prog:Program}{w:World}{A:Around}{E:Value→Shared→Prop}{s:Shared}{a b:Int}{t u:Tok}{Q:Bool→Shared→Prop}(h1:a=b→Q true s) (h2:a≠b→Q false s):wpAny (model prog w) A (eqBool (.int a t) (.int b u)) Q E s:=by
 by_cases e:a=b
 ·exact zpx e (h1 e)
 ·exact zpy e (h2 e)
set_option maxHeartbeats 2000000 in
theorem zjE(l b:Addr) (n n2:Nat) (dd dd2:Option Addr) (sl sl2:Array (Option Value)) (x y z u:Int) (tx ty tz tu:Tok) :
  Meets (Builtin.«tuple.__lt__» ⟨[.ref l,.ref b],[]⟩)
   (fun _ R s=>s.heap.get? l=some {cls:=.type "tuple",dict:=dd,data:=.seq #[.int x tx,.int y ty] n,slots:=sl}∧s.heap.get? b=some {cls:=.type "tuple",dict:=dd2,data:=.seq #[.int z tz,.int u tu] n2,slots:=sl2}∧
    R (.ok (.ret (.bool (decide (x<z)||(x==z&&decide (y<u)))))) s):=
 .of_wp fun prog w A R s h=>by
  obtain⟨hp,g,d,tk,os⟩:=s;obtain⟨hl,hb,h⟩:=h
  have f2:=AutoSeq1.sub_tuple_tuple
  wp_walk using wpAny_loadPart' hl,wpAny_loadPart' hb,zfy
  ·intro hxz
   wp_walk using zfy
   ·intro hyu
    wp_walk
    exact⟨_,rfl,by subst hxz;subst hyu;simpa [Builtin.Tuple.tupleCompareSizes] using h⟩
   ·intro hyu
    wp_walk using zmq
    exact⟨_,rfl,by subst hxz;simpa using h⟩
  ·intro hxz
   wp_walk using zmq
   exact⟨_,rfl,by rw[show(x==z)=false from by simpa using hxz,Bool.false_and,Bool.or_false] at h;exact h⟩
set_option maxHeartbeats 2000000 in
theorem zjF(l b:Addr) (n n2:Nat) (dd dd2:Option Addr) (sl sl2:Array (Option Value)) (x y z u:Int) (tx ty tz tu:Tok) :
  Meets (Builtin.«tuple.__gt__» ⟨[.ref l,.ref b],[]⟩)
   (fun _ R s=>s.heap.get? l=some {cls:=.type "tuple",dict:=dd,data:=.seq #[.int x tx,.int y ty] n,slots:=sl}∧s.heap.get? b=some {cls:=.type "tuple",dict:=dd2,data:=.seq #[.int z tz,.int u tu] n2,slots:=sl2}∧
    R (.ok (.ret (.bool (decide (x>z)||(x==z&&decide (y>u)))))) s):=
 .of_wp fun prog w A R s h=>by
  obtain⟨hp,g,d,tk,os⟩:=s;obtain⟨hl,hb,h⟩:=h
  have f2:=AutoSeq1.sub_tuple_tuple
  wp_walk using wpAny_loadPart' hl,wpAny_loadPart' hb,zfy
  ·intro hxz
   wp_walk using zfy
   ·intro hyu
    wp_walk
    exact⟨_,rfl,by subst hxz;subst hyu;simpa [Builtin.Tuple.tupleCompareSizes] using h⟩
   ·intro hyu
    wp_walk using zmr
    exact⟨_,rfl,by subst hxz;simpa using h⟩
  ·intro hxz
   wp_walk using zmr
   exact⟨_,rfl,by rw[show(x==z)=false from by simpa using hxz,Bool.false_and,Bool.or_false] at h;exact h⟩
theorem zcg{F:FZ}{a b:Int}{vs:Array Value}(h:Vs G.prog G.w F vs.toList [.int a,.int b]):∃t u,vs=#[.int a t,.int b u]:=by
 obtain⟨l⟩:=vs
 dsimp only at h
 refine Zk (h.two) fun _ _ q1_ h1 h2=>?_
 subst q1_
 (first | obtain rfl:=h1.inv | obtain⟨_,rfl⟩:=h1.inv);(first | obtain rfl:=h2.inv | obtain⟨_,rfl⟩:=h2.inv)
 exact⟨_,_,rfl⟩
theorem zhh{a b c d:Int}:CmpJ G n σ .Lt (.tup [.int a,.int b]) (.tup [.int c,.int d]) (decide (a<c)||(a==c&&decide (b<d))):=.mk fun A F s Q E v₁ v₂ hA H h₁ h₂ hQ=>by
 have hu:=hA.units
 have hc:cLine=9900:=rfl
 cases h₁ with
 | tup h1 h2 h3=>
  cases h₂ with
  | tup k1 k2 k3=>
   subst h2 k2
   refine Zu (zcg h3) fun ta tb q3_=>?_
   subst q3_
   refine Zu (zcg k3) fun tc td q2_=>?_
   subst q2_
   have ho:=H.fin _ _ h1
   have ho2:=H.fin _ _ k1
   show wpAny _ A (richCompare .Lt _ _) Q E s
   exact richCompare_meets_room (op:=.Lt) ⟨_,ho,rfl⟩ ⟨_,ho2,rfl⟩ PySem.F.slot_tuple_lt PySem.F.entry_tuple_lt (PySem.F.args_tuple_lt_2 _ _) (zjE _ _ _ _ _ _ _ _ a b c d ta tb tc td)
    ⟨ho,ho2,show Value.bool _≠Value.notImplemented∧Q (.bool _) s from⟨(fun x=>nomatch x),hQ F s (.refl H.fin)⟩⟩ (by lia)
theorem zhi{a b c d:Int}:CmpJ G n σ .Gt (.tup [.int a,.int b]) (.tup [.int c,.int d]) (decide (a>c)||(a==c&&decide (b>d))):=.mk fun A F s Q E v₁ v₂ hA H h₁ h₂ hQ=>by
 have hu:=hA.units
 have hc:cLine=9900:=rfl
 cases h₁ with
 | tup h1 h2 h3=>
  cases h₂ with
  | tup k1 k2 k3=>
   subst h2 k2
   refine Zu (zcg h3) fun ta tb q5_=>?_
   subst q5_
   refine Zu (zcg k3) fun tc td q4_=>?_
   subst q4_
   have ho:=H.fin _ _ h1
   have ho2:=H.fin _ _ k1
   show wpAny _ A (richCompare .Gt _ _) Q E s
   exact richCompare_meets_room (op:=.Gt) ⟨_,ho,rfl⟩ ⟨_,ho2,rfl⟩ PySem.F.slot_tuple_gt PySem.F.entry_tuple_gt (PySem.F.args_tuple_gt_2 _ _) (zjF _ _ _ _ _ _ _ _ a b c d ta tb tc td)
    ⟨ho,ho2,show Value.bool _≠Value.notImplemented∧Q (.bool _) s from⟨(fun x=>nomatch x),hQ F s (.refl H.fin)⟩⟩ (by lia)
noncomputable def b2(b:Bool):Int:=if b then 1 else 0
theorem zgN{a b:Bool}:BinJ G n σ .Sub (.bool a) (.bool b) (.int (b2 a-b2 b)):=.mk fun A F s Q E v₁ v₂ hA H h₁ h₂ h=>by
 (first | obtain rfl:=h₁.inv | obtain⟨_,rfl⟩:=h₁.inv);(first | obtain rfl:=h₂.inv | obtain⟨_,rfl⟩:=h₂.inv)
 refine PyProof.Rows.sub_bool ?_
 have:=h (.int (b2 a-b2 b) s.toks) F {s with toks:=s.toks+1} (.tok H.fin) (.int _ _)
 cases a<;>cases b<;>exact this
theorem zlv{F:FZ}{vs:Array Value}{l:List Bool}(h:Vs G.prog G.w F vs.toList (l.map .bool)) {i:Nat}{v:Value}(hv:vs[i]?=some v):v=.bool (l.getD i false):=by
 have hi:i<l.length:=by
  have:=h.length
  simp only[Array.length_toList,List.length_map] at this
  have:=(Array.getElem?_eq_some_iff.mp hv).1
  lia
 refine zd (Vs.get i h (d:=.bool (l.getD i false)) (by rw[List.getElem?_map,List.getD_eq_getElem?_getD,List.getElem?_eq_getElem hi];rfl)) fun v' h1 h2=>?_
 rw[Array.getElem?_toList,hv] at h1
 cases h1
 cases h2
 rfl
theorem zgR:∀l:List Bool,(List.range l.length).all (fun i=>l.getD i false)=l.all id
 | []=>rfl
 | x::l=>by
  rw[List.length_cons,List.range_succ_eq_map,List.all_cons,List.all_map,List.all_cons]
  have:=zgR l
  simp only[Function.comp_def,List.getD_cons_succ,List.getD_cons_zero,id] at this ⊢
  rw[this]
theorem zma{d:D}{l:List Bool}(hr:Rd σ d (.lst (l.map .bool))):CallJ G n σ (.builtin "all") [d] (.bool (l.all id)):=.mk fun A F s Q E vs hA H hv hQ=>by
 refine zd (hv.one) fun _ q7_ h1=>?_
 subst q7_
 refine qC (ZA H h1 hr) fun a vs m q6_ ho hvs=>?_
 subst q6_
 have hlen:=hvs.length
 simp only[Array.length_toList,List.length_map] at hlen
 have hne:=q6 ho
 refine call_all_walk (wpAny_pyIter_list ⟨_,ho,rfl,_,rfl⟩ ?_)
 refine⟨s.heap.objs.size,_,_,vs.size,_,_,fun i=>l.getD i false,rfl,Walks.list (A:=A.in1) hA.handled s.heap.objs.size a hne vs,⟨⟨_,Heap.get?_push_size _ rfl,rfl,rfl⟩,⟨_,Heap.get?_push_of_some _ ho,rfl,_,rfl⟩⟩,?_,?_⟩
 ·intro i v s' Q' E' hP hq
  rw[zlv hvs hP]
  exact wpAny_truthy_bool hq
 ·intro h' tk hk
  have e:(List.range vs.size).all (fun i=>l.getD i false)=l.all id:=by
   rw[hlen];exact zgR l
  rw[e]
  refine hQ _ F _ (.of_keep H.fin fun b o e=>hk b o ?_ (Heap.get?_push_of_some _ e)) (.bool _)
  simp;exact q6 e
end
section
section
variable {K:Type} [DecidableEq K]
theorem Zr{l:List K}:∀{m:List K},l.Nodup→(∀x∈l,x∈m)→l.length≤m.length:=by
 induction l with
 | nil=>intro m _ _;exact Nat.zero_le _
 | cons a l ih=>
  intro m hn hs
  rw[List.nodup_cons] at hn
  have ha:a∈m:=hs a List.mem_cons_self
  have h1:=ih (m:=m.erase a) hn.2 fun x hx=>(List.mem_erase_of_ne (fun e=>hn.1 (by rw[←e];exact hx))).mpr (hs x (List.mem_cons_of_mem _ hx))
  have h2:=List.length_erase_of_mem ha
  have h3:0<m.length:=List.length_pos_of_mem ha
  simp only[List.length_cons]
  omega
noncomputable def nbr(adj:List (K×List K)) (x:K):List K:=((adj.find? fun p=>decide (p.1=x)).map (·.2)).getD []
noncomputable def jf(adj:List (K×List K)):Nat→List K→Nat→List K
 | 0,g,_=>g
 | k+1,g,a=>match g[a]? with
  | none=>g
  | some x=>jf adj k (g++(nbr adj x).filter fun o=>decide (o∉g)) (a+1)
noncomputable def closed(adj:List (K×List K)) (first:K):List K:=jf adj adj.length [first] 0
structure GoodAdj (adj:List (K×List K)):Prop where
 nodup:∀p∈adj,p.2.Nodup
 sub:∀p∈adj,∀o∈p.2,o∈adj.map (·.1)
inductive Closes (adj:List (K×List K)):Nat→List K→Nat→List K→Prop
 | done {g a}:g.length=a→Closes adj 0 g a g
 | step {k g a x l R}:g[a]?=some x→(adj.find? fun p=>decide (p.1=x)).map (·.2)=some l→Closes adj k (g++l.filter fun o=>decide (o∉g)) (a+1) R→Closes adj (k+1) g a R
theorem zks{adj:List (K×List K)}{x:K}(h:x∈adj.map (·.1)):∃p∈adj,p.1=x∧(adj.find? fun p=>decide (p.1=x)).map (·.2)=some p.2:=by
 cases e:adj.find? fun p=>decide (p.1=x) with
 | none=>
  refine zd (List.mem_map.mp h) fun p hp q1_=>?_
  subst q1_
  have:=List.find?_eq_none.mp e p hp
  simp at this
 | some p=>exact⟨p,List.mem_of_find?_eq_some e,by simpa using List.find?_some e,rfl⟩
theorem zgE{adj:List (K×List K)}(hg:GoodAdj adj):∀(k:Nat) (g:List K) (a:Nat),g.Nodup→(∀x∈g,x∈adj.map (·.1))→a≤g.length→adj.length≤k+a→
  ∃m,Closes adj m g a (jf adj k g a)∧(jf adj k g a).Nodup∧∀x∈jf adj k g a,x∈adj.map (·.1)
 | 0,g,a,hn,hs,ha,hk=>by
  have:=Zr hn hs
  rw[List.length_map] at this
  have e:g.length=a:=by lia
  exact⟨0,.done e,hn,hs⟩
 | k+1,g,a,hn,hs,ha,hk=>by
  by_cases e:g.length=a
  ·have e1:g[a]?=none:=List.getElem?_eq_none_iff.mpr (by lia)
   have e2:jf adj (k+1) g a=g:=by simp only[jf,e1]
   rw[e2]
   exact⟨0,.done e,hn,hs⟩
  ·have hlt:a<g.length:=by lia
   have e1:g[a]?=some g[a]:=List.getElem?_eq_getElem hlt
   have e2:jf adj (k+1) g a=jf adj k (g++(nbr adj g[a]).filter fun o=>decide (o∉g)) (a+1):=by simp only[jf,e1]
   refine qD (zks (hs _ (List.getElem_mem hlt))) fun p hp hx hf=>?_
   have e3:nbr adj g[a]=p.2:=by unfold nbr;rw[hf];rfl
   rw[e2,e3]
   have hn':(g++p.2.filter fun o=>decide (o∉g)).Nodup:=by
    rw[List.nodup_append]
    refine⟨hn,(hg.nodup p hp).filter _,fun x hx y hy e=>?_⟩
    have:=(List.mem_filter.mp hy).2
    simp at this
    exact this (e▸hx)
   obtain⟨m,h1,h2⟩:=zgE hg k (g++p.2.filter fun o=>decide (o∉g)) (a+1) hn' (fun x hx=>by
    rcases List.mem_append.mp hx with h | h
    ·exact hs x h
    ·exact hg.sub p hp x (List.mem_filter.mp h).1) (by simp only[List.length_append];lia) (by lia)
   exact⟨m+1,.step e1 hf h1,h2⟩
theorem QA{adj:List (K×List K)}(hg:GoodAdj adj) {first:K}(hf:first∈adj.map (·.1)):∃m,Closes adj m [first] 0 (closed adj first)∧(closed adj first).Nodup∧∀x∈closed adj first,x∈adj.map (·.1):=
 zgE hg adj.length [first] 0 (by simp) (by simpa using hf) (Nat.zero_le _) (by lia)
theorem Closes.length{adj:List (K×List K)}{k:Nat}{g R:List K}{a:Nat}(h:Closes adj k g a R):g.length≤R.length:=by
 induction h with
 | done=>exact Nat.le_refl _
 | step h1 h2 h3 ih=>simp only[List.length_append] at ih;lia
end
end
section
open PySem PySem.W
noncomputable def ze(i:Nat):Stmt:=(PySem.Challenge.pw_xc0029_01.main.body[i]?).getD (.Pass ⟨0,0,0,0⟩)
noncomputable def zu:Stmt→List Stmt
 | .FunctionDef _ _ b ..=>b
 | _=>[]
noncomputable def zo:Stmt→Scope
 | .FunctionDef _ _ _ _ _ _ sc ..=>sc
 | _=>{kind:=.module,names:=[],isGenerator:=false,isCoroutine:=false}
noncomputable def ZB:Stmt→List Str
 | .FunctionDef _ a ..=>a.args.map (·.arg)
 | _=>[]
noncomputable def zbR:Stmt→Str
 | .FunctionDef n ..=>n
 | _=>""
noncomputable def zds(k:Nat):Stmt→List Stmt
 | .ClassDef _ _ _ b ..=>b
 | .For _ _ b _ _=>b
 | .If _ b e _=>if k=0 then b else e
 | _=>[]
noncomputable def ZH(s:Stmt) (i:Nat):Stmt:=((zds 0 s)[i]?).getD (.Pass ⟨0,0,0,0⟩)
noncomputable def zaH(o:Option Stmt):List Stmt:=o.elim [] (zds 0)
noncomputable def ZO(o:Option Stmt):List Stmt:=o.elim [] (zds 0)
noncomputable def zl3(o:Option Stmt):List Stmt:=o.elim [] (zds 1)
end
section
open PySem PySem.W
variable {G:Gx}{n:Nat}{env:Env}{ρ:Rho}{σ:Sig}
theorem JX{u0 iter:Expr}{body v5:List Stmt}{pos:Pos}{names:List Str}{bs:List Rho}{P:Out→Prop}(J:Nat→Prop) (ρf:Nat→Rho) (σf:Nat→Sig)
  (v8:ItE G n env iter ρ σ u0 names bs) (hs:∀x∈names,zG env x) (h0:J 0∧ρ=ρf 0∧σ=σf 0)
  (turn:∀(i:Nat) (b:Rho),J i→bs[i]?=some b→X G n env body (b++ρf i) (σf i) (zaa (fun ρ' σ'=>J (i+1)∧ρ'=ρf (i+1)∧σ'=σf (i+1)) P))
  (done:J bs.length→X G n env v5 (ρf bs.length) (σf bs.length) P)
  (v9:∀x,foldedSetIterable iter env x=pure x:=by intro _;rfl):X1 G n env (.For u0 iter body v5 pos) ρ σ P:=
 zab (fun i ρ' σ'=>J i∧ρ'=ρf i∧σ'=σf i) v8 hs h0 (fun i b ρ' σ' h hb=>by rw[h.2.1,h.2.2];exact turn i b h.1 hb) (fun ρ' σ' h=>by rw[h.2.1,h.2.2];exact done h.1) v9
theorem zda{S:Type}{u0 iter:Expr}{body v5:List Stmt}{pos:Pos}{names:List Str}{bs:List Rho}{P:Out→Prop}(J:Nat→S→Prop) (ρf:S→Rho) (σf:S→Sig) (s₀:S)
  (v8:ItE G n env iter ρ σ u0 names bs) (hs:∀x∈names,zG env x) (h0:J 0 s₀∧ρ=ρf s₀∧σ=σf s₀)
  (turn:∀(i:Nat) (b:Rho) (s:S),J i s→bs[i]?=some b→X G n env body (b++ρf s) (σf s) (zaa (fun ρ' σ'=>∃t,J (i+1) t∧ρ'=ρf t∧σ'=σf t) P))
  (done:∀s,J bs.length s→X G n env v5 (ρf s) (σf s) P)
  (v9:∀x,foldedSetIterable iter env x=pure x:=by intro _;rfl):X1 G n env (.For u0 iter body v5 pos) ρ σ P:=
 zab (fun i ρ' σ'=>∃t,J i t∧ρ'=ρf t∧σ'=σf t) v8 hs ⟨s₀,h0⟩ (fun i b ρ' σ' h hb=>h.elim fun s h=>by rw[h.2.1,h.2.2];exact turn i b s h.1 hb) (fun ρ' σ' h=>h.elim fun s h=>by rw[h.2.1,h.2.2];exact done s h.1) v9
theorem zk1{S:Type}{test:Expr}{body:List Stmt}{pos:Pos}{P:Out→Prop}(J:Nat→S→Prop) (ρf:S→Rho) (σf:S→Sig) (N:Nat) (s₀:S) (h0:J N s₀∧ρ=ρf s₀∧σ=σf s₀)
  (turn:∀(k:Nat) (s:S),J k s→∃b,PT G n env test (ρf s) (σf s) b∧(b=true→X G n env body (ρf s) (σf s) (zaa (fun ρ' σ'=>∃m,m<k∧∃t,J m t∧ρ'=ρf t∧σ'=σf t) P))∧(b=false→P (.next (ρf s) (σf s)))) :
  X1 G n env (.While test body [] pos) ρ σ P:=
 zd8 (fun i ρ' σ'=>∃t,J i t∧ρ'=ρf t∧σ'=σf t) N ⟨s₀,h0⟩ fun k ρ' σ' h=>h.elim fun s h=>by rw[h.2.1,h.2.2];exact turn k s h.1
end
section
open PySem PySem.W
variable {G:Gx}{n:Nat}{env:Env}{ρ:Rho}{σ:Sig}
theorem zpm{β:Type}{elt u0 iter:Expr}{u6:List Expr}{gs:List Comprehension}{scope sc:Scope}{pos:Pos}{names:List Str}{ρ':Rho}{xs:List β}{bf:β→Rho}{c:β→Bool}{of:β→List D}
  (hE:EnvOk env sc) (hf:Zv scope sc=true) (v4:Capt scope ρ ρ') (v8:ItE G n env iter ρ σ u0 names (xs.map bf)) (hs:∀x∈names,OwnName scope x) (x0:∀y∈xs,∀p∈bf y,p.1∈names) (v7:∀x∈names,ρ'.lookup x=none)
  (ht:∀u1,EnvOk u1 scope→∀y∈xs,PIf G n u1 u6 (bf y++ρ') σ (c y))
  (hb:∀u1 W,Inner G n scope u1 W→∀y∈xs,c y=true→TailJ G n u1 W AL (.ListComp elt (⟨u0,iter,u6,0⟩::gs) scope pos) 1 (bf y++ρ') σ (of y))
  (hsz:((xs.filter c).flatMap of).length≤1000000) (x5:gs.all (fun g=>g.is_async==0)=true:=by rfl) (v9:∀x,foldedSetIterable iter env x=pure x:=by intro _;rfl) :
  PO G n env (.ListComp elt (⟨u0,iter,u6,0⟩::gs) scope pos) ρ σ (.lst ((xs.filter c).flatMap of)):=.mk fun A F s Q E hA H hQ=>by
 have hfl:(xs.map fun y=>if c y then of y else []).flatten=(xs.filter c).flatMap of:=Qx
 have u3:(xs.map fun y=>if c y then of y else []).flatten.foldl AL.app (MO.lst [])=.lst ((xs.filter c).flatMap of):=by
  show(xs.map fun y=>if c y then of y else []).flatten.foldl zi9 (MO.lst [])=_
  rw[zbe,hfl];simp
 rw[eval_ListComp]
 refine Jw (e:=.ListComp elt (⟨u0,iter,u6,0⟩::gs) scope pos) (P:=AL) (mo:=.lst []) (Zb:=xs.map fun y=>if c y then of y else []) hA H rfl (fun g hg=>by
  rcases List.mem_cons.mp hg with rfl | hg
  ·rfl
  ·exact(zc2 x5) g hg) rfl v9 (hE.fits hf) v4 zc4 v8 hs (by simp) (fun b hb' p hp=>?_) v7 (fun C i b o hb' ho=>?_) ⟨_,rfl⟩ (by rw[hfl];simpa [MO.sz] using hsz) fun a F' s' C g ha hm hF hC hFC hCa hns=>?_
 ·refine zd (List.mem_map.mp hb') fun y hy q3_=>?_
  subst q3_
  exact x0 y hy p hp
 ·refine qD (zhu hb' ho) fun y hy q1_ q2_=>?_
  subst q1_
  subst q2_
  have hI:=jl (G:=G) (n:=n) (C:=C) (hE.fits hf)
  refine⟨c y,ht _ hI.ok y hy,fun h=>?_,fun h=>by simp[h]⟩
  simp only[h,if_true]
  exact hb _ _ hI y hy h
 ·refine Exists.elim hns fun m hn=>?_
  refine⟨m,hn,fun h' hs'=>?_⟩
  rw[u3] at hm
  have hk:∀b o,b∉[C]→s'.heap.get? b=some o→h'.get? b=some o:=fun b o hb e=>hs'.extBut b o (by simpa using hb) e
  have g':=g.fin_end (tk:=s'.toks) (wr:=[C]) H.code hk (fun c hc=>by simp at hc;subst hc;exact hC) (fun c hc=>by simp at hc;subst hc;exact hFC)
  have hm':MAt G F' h' a (.lst ((xs.filter c).flatMap of)):=hm.mono (.refl F') fun o e=>hs'.extBut _ _ (Ne.symm hCa) e
  exact hQ a F' _ g' ha hm' hF
theorem zo9{value slice:Expr} {pos}{d₁:D}{P:D→Sig→Prop}(h₁:PE G n env value ρ σ d₁) (h₂:Y G n env slice ρ σ fun d₂ σ'=>∃d,GetJ G n σ' d₁ d₂ d∧P d σ'):Y G n env (.Subscript value slice pos) ρ σ P:=
 .mk fun A F s Q E hA H hQ=>PyProof.Rows.Subscript_ (h₁.out A F s _ E hA H fun v₁ F₁ s₁ g₁ V₁=>h₂.out A F₁ s₁ _ E hA (H.grow g₁) fun d₂ σ' v₂ F₂ s₂ ⟨d,hg,hP⟩ g₂ H₂ V₂=>by
  refine zR (hg.out A F₂ s₂ Q E v₁ v₂ hA H₂.toBase (V₁.mono g₂.le) V₂ fun v F' s' g₃ hv=>hQ d σ' v F' s' hP (((Step.pure g₁).trans g₂).trans (.pure g₃)) (H₂.grow g₃) hv) fun q4_ hw=>?_
  obtain⟨T,id,hT,hl⟩:=q4_
  have ho:=jS slice v₁ v₂
  exact PyProof.Rows.tail_any hT hl hw ho)
end
section
open PySem PySem.W
variable {G:Gx}{n:Nat}{env:Env}{ρ:Rho}{σ:Sig}
theorem zoJ{x:Str}{pos:Pos}{y:Str}:ItJ G n σ (.Name x pos) [x] (.str y) (y.cps.toList.map fun c=>[(x,.str ⟨#[c]⟩)]):=.mk fun A F s v Q E hA H hv hQ=>by
 cases hv with
 | str _ t=>
  have hb:BindsL (.Name x pos) (y.cps.toList.map fun c=>D.str ⟨#[c]⟩) (y.cps.toList.map fun c=>[(x,D.str ⟨#[c]⟩)]):=.map fun c _=>.name x pos _
  have key:∀(o:Obj) (ty:String),o.isFreed=false→(∀A':Around,A'.handled=none→Walks G.prog G.w A' s.heap.objs.size [s.heap.objs.size] [s.heap.objs.size] y.cps.size (SignAt y) (fun i h=>h.IsStrIter s.heap.objs.size ty y t i))→
    (s.heap.push o).IsStrIter s.heap.objs.size ty y t 0→Q (.ref s.heap.objs.size) {s with heap:=s.heap.push o}:=by
   intro o ty ho W h0
   refine hQ s.heap.objs.size [s.heap.objs.size] [s.heap.objs.size] (fun i h=>h.IsStrIter s.heap.objs.size ty y t i) F _ (.push0 H.fin) ?_ h0 (fun c hc=>by simp at hc;subst hc;exact⟨ZV _,⟨_,Heap.get?_push_size _ ho⟩,H.fresh⟩)
   have hlen:(y.cps.toList.map fun c=>D.str ⟨#[c]⟩).length=y.cps.size:=by simp
   refine zbx (ds:=y.cps.toList.map fun c=>D.str ⟨#[c]⟩) (P:=SignAt y) (fun A' hA'=>hlen▸W A' hA') (fun i v d hP hd=>?_) (.name x pos) hb.get hb.length (fun c hc=>.inl hc) (fun i h st c hc=>?_) (fun A' E' i v s' Q' st hq=>wpAny_pure hq)
   ·refine Qd hP fun c u h1 q1_=>?_
    subst q1_
    rw[List.getElem?_map,Array.getElem?_toList,h1] at hd
    cases hd
    exact .str _ _
   ·simp at hc;subst hc
    refine zd st fun o e _=>?_
    exact⟨o,e⟩
  cases ha:y.cps.all (·<128)
  ·exact wpAny_pyIter_wide ha (key _ "str_iterator" rfl (fun A' hA'=>Walks.strWide hA' _ y t) ⟨_,Heap.get?_push_size _ rfl,rfl,rfl⟩)
  ·exact wpAny_pyIter_ascii ha (key _ "str_ascii_iterator" rfl (fun A' hA'=>Walks.strAscii hA' _ y t) ⟨_,Heap.get?_push_size _ rfl,rfl,rfl⟩)
theorem zjm{x y z:Str}{px py pz pos:Pos}{e:Expr}{d:D}{P:Out→Prop}(h:PE G n env e ρ σ d) (hx:zG env x) (hy:zG env y) (hz:zG env z) (hp:P (.next ((z,d)::(y,d)::(x,d)::ρ) σ))
  (hw:swappedStores [.Name x px,.Name y py,.Name z pz] e env=pure none:=by rfl):X1 G n env (.Assign [.Name x px,.Name y py,.Name z pz] e pos) ρ σ P:=.mk fun A F s Q E hA H hQ=>
 wpAny_Assign_three (h.out A F s _ E hA H fun v F₁ s₁ g₁ V₁=>
  Jj hA.handled (.name x px) (.name x px d) V₁ (by simpa using hx) (H.grow g₁) fun s₂ g₂ H₂=>
  Jj hA.handled (.name y py) (.name y py d) V₁ (by simpa using hy) H₂ fun s₃ g₃ H₃=>
  Jj hA.handled (.name z pz) (.name z pz d) V₁ (by simpa using hz) H₃ fun s₄ g₄ H₄=>
   hQ _ .next F₁ s₄ hp ((((Step.pure g₁).trans (.of g₂ zcd fun a h=>.inl h)).trans (.of g₃ zcd fun a h=>.inl h)).trans (.of g₄ zcd fun a h=>.inl h)) H₄) (by rfl) hw
theorem ziK(l:List (Array Value)) (a:Array Value):(l.foldl (·++·) a).toList=a.toList++(l.map (·.toList)).flatten:=by
 induction l generalizing a with
 | nil=>simp
 | cons b l ih=>rw[List.foldl_cons,ih];simp
theorem zcE{d c:D}{k:Int}(hr:Rd σ d (.lst [c])) (h0:-(2^62:Int)≤k) (h1:k≤100000):BinJ G n σ .Mult d (.int k) (.lst (List.replicate k.toNat c)):=.mk fun A F s Q E v₁ v₂ hA H e₁ e₂ h=>by
 refine qC (ZA H e₁ hr) fun a vs m q2_ ho hv=>?_
 subst q2_
 cases e₂ with
 | int _ t=>
  have hl:vs.size=1:=by have:=hv.length;simpa using this
  have he:vs.isEmpty=false:=by rw[Array.isEmpty_eq_false_iff];intro e;rw[e] at hl;simp at hl
  refine wpAny_binaryOp_repeat_ref (T:="list") (U:="int") (by decide) ⟨_,ho,rfl⟩ (fun s'=>typeIs_int s' k t) PySem.noFill_list_mul PySem.F.fills_int_mul PySem.F.slot_int_rmul PySem.repeat_list PySem.F.slot_int_index.lookup ?_
  refine call_meets PySem.F.slot_int_rmul (typeIs_int s k t) PySem.F.entry_int_rmul (PySem.F.args_int_rmul_2 _ _) (int___rmul___int_list k t a vs m) ⟨ho,rfl,⟨_,ho,rfl⟩,?_⟩
  refine call_meets PySem.F.slot_list_mul ⟨_,ho,rfl⟩ PySem.F.entry_list_mul (PySem.F.args_list_mul_2 _ _) (AutoListH.list___mul___list_int_3 a vs m k t (by simp[Builtin.List.listFitsIndex];lia) (by rw[hl];lia) (by rw[hl];simp[Builtin.List.listTooLong,sizeLine];lia)) ⟨ho,?_⟩
  rw[he]
  refine h _ _ _ (.push H.fin rfl) (.lst (FZ.put_self ..) rfl ?_)
  rw[ziK]
  show Vs _ _ _ ([]++_) _
  rw[List.nil_append,List.map_replicate]
  obtain⟨v,hvs⟩:∃v,vs.toList=[v]:=by
   cases e:vs.toList with
   | nil=>have:=congrArg List.length e;simp[hl] at this
   | cons v r=>
    cases r with
    | nil=>exact⟨v,rfl⟩
    | cons u r=>have:=congrArg List.length e;simp[hl] at this
  rw[hvs] at hv ⊢
  have hvc:∀o,V G.prog G.w (F.put s.heap.objs.size o) v c:=fun o=>by
   cases hv with
   | cons h1 _=>exact h1.mono (FZ.le_put H.fresh)
  have key:∀(F':FZ) (j:Nat),V G.prog G.w F' v c→Vs G.prog G.w F' (List.replicate j [v]).flatten (List.replicate j c):=fun F' j hc=>by
   induction j with
   | zero=>exact .nil
   | succ j ih=>rw[List.replicate_succ,List.replicate_succ,List.flatten_cons];exact .cons hc ih
  exact key _ _ (hvc _)
theorem zox{l r:Expr} {pos}{d₁ d₂:D}{l₁ l₂:List D}(hl:PE G n env l ρ σ d₁) (hr:PE G n env r ρ σ d₂) (h₁:Rd σ d₁ (.lst l₁)) (h₂:Rd σ d₂ (.lst l₂)) (hs:l₁.length+l₂.length≤1000000):PO G n env (.BinOp l .Add r pos) ρ σ (.lst (l₁++l₂)):=
 .mk fun A F s Q E hA H h=>wpAny_BinOp (hl.out A F s _ E hA H fun v₁ F₁ s₁ g₁ V₁=>hr.out A F₁ s₁ _ E hA (H.grow g₁) fun v₂ F₂ s₂ g₂ V₂=>by
  have H₂:=(H.grow g₁).grow g₂
  refine qC (ZA H₂.toBase (V₁.mono g₂.le) h₁) fun a vs m q4_ ho hv=>?_
  subst q4_
  refine qC (ZA H₂.toBase V₂ h₂) fun a' vs' m' q3_ ho' hv'=>?_
  subst q3_
  have k1:=hv.length
  have k2:=hv'.length
  simp only[Array.length_toList] at k1 k2
  refine PySem.P.add_list ho ho' (h _ F₂ _ ((g₁.trans g₂).trans (.push0 H₂.fin)) (Zi (g₁.trans g₂) (ZV _)) ⟨_,_,Heap.get?_push_size _ rfl,?_⟩ H₂.toBase.fresh) (Zh (by lia))
  rw[Array.toList_append]
  exact hv.append hv')
theorem zh8{prog:Program}{w:World}{A:Around}{E:Value→Shared→Prop}{s:Shared}{l:Addr}{items:Array Value}{m j:Nat}{t:Tok}{v:Value}{Q:Unit→Shared→Prop}(hl:s.heap.get? l=some {cls:=.type "list",data:=.seq items m}) (hj:j<items.size) (hb:j<2^62)
  (hQ:∀h' m',h'.get? l=some {cls:=.type "list",data:=.seq (items.setIfInBounds j v) m'}→Heap.SameBut l s.heap h'→Q () {s with heap:=h'}):∀k:Int,k=(j:Int)→wpAny (model prog w) A (setItem (.ref l) (.int k t) v) Q E s:=by
 intro k hk
 have hfit:Builtin.List.listFitsIndex k=true:=by simp[Builtin.List.listFitsIndex];lia
 have hT:s.TypeIs (.ref l) "list":=⟨_,hl,rfl⟩
 obtain⟨o,ho⟩:∃o:Obj,o={cls:=.type "list",data:=.seq items m}:=⟨_,rfl⟩
 have hd:o.data=.seq items m:=by rw[ho]
 obtain⟨m',em⟩:∃m',Obj.mapSeq (·.setIfInBounds j v) o={cls:=.type "list",data:=.seq (items.setIfInBounds j v) m'}:=by rw[ho];simp[Obj.mapSeq]
 rw[←ho] at hl
 clear ho
 unfold setItem
 try with_reducible refine wpAny_holding ?_
 first | refine wpAny_bind (wpAny_pure ?_) | skip
 refine wpAny_bind (wpAny_sequenceKey hT (by decide) ?_)
 refine wpAny_bind (wpAny_callSpecial?_slot (name:=Str.ofString "__setitem__") hT PySem.slot_list_setitem (wpAny_call_entry PySem.slot_list_setitem hT PySem.entry_list_setitem ?_ (PySem.args_list_setitem _ _ _)))
 show wpAny _ _ (Builtin.List.listSubscript? (.int k t)>>=_) _ _ s
 refine wpAny_bind (wpAny_listSubscript_int hfit ?_)
 clear hfit
 subst hk
 show wpAny _ _ ((seqItemAt l j>>=fun r=>pure (r.map (j,·)))>>=_) _ _ s
 refine wpAny_bind (wpAny_bind (wpAny_seqItemAt hl hd (wpAny_pure ?_)))
 rw[Array.getElem?_eq_getElem hj]
 show wpAny _ _ (setSeqItemAt l j v>>=_) _ _ s
 have x9:(s.heap.update l (Obj.mapSeq (·.setIfInBounds j v))).get? l=some {cls:=.type "list",data:=.seq (items.setIfInBounds j v) m'}:=by
  rw[Heap.get?_update_self _ hl (by rw[em];rfl),em]
 refine wpAny_bind (wpAny_setSeqItemAt hl hd ?_)
 first
  | exact wpAny_bind (wpAny_pure (wpAny_pure ⟨.none,rfl,wpAny_pure (hQ _ _ x9 (Heap.SameBut.update ..))⟩))
  | exact wpAny_pure ⟨.none,rfl,wpAny_pure (hQ _ _ x9 (Heap.SameBut.update ..))⟩
theorem zjx{F:FZ}:∀{vs:List Value}{ds:List D}(j:Nat) {v:Value}{d:D},Vs G.prog G.w F vs ds→V G.prog G.w F v d→Vs G.prog G.w F (vs.set j v) (ds.set j d)
 | _,_,_,_,_,.nil,_=>.nil
 | _,_,0,_,_,.cons _ t,h'=>.cons h' t
 | _,_,j+1,_,_,.cons h t,h'=>.cons h (zjx j t h')
theorem zjj{o i value:Expr}{pos' pos:Pos}{a:Addr}{l:List D}{j:Nat}{d:D}{σ':Sig}{P:Out→Prop}(hv:PE G n env value ρ σ d) (ho:PE G n env o ρ σ (.raw (.ref a))) (hi:PE G n env i ρ σ (.int (j:Int)))
  (u:Upd σ a (.lst l) (.lst (l.set j d)) σ') (hj:j<l.length) (hl:l.length≤1000000) (hP:P (.next ρ σ')) (hs:swapsWith value (some (.Subscript o i pos')) pos.line env=pure false:=by rfl):X1 G n env (.Assign [.Subscript o i pos'] value pos) ρ σ P:=.mk fun A F s Q E hA H hQ=>
 wpAny_Assign_Subscript (hv.out A F s _ E hA H fun v F₁ s₁ g₁ V₁=>ho.out A F₁ s₁ _ E hA (H.grow g₁) fun v₁ F₂ s₂ g₂ V₂=>hi.out A F₂ s₂ _ E hA ((H.grow g₁).grow g₂) fun v₂ F₃ s₃ g₃ V₃=>by
  have H₃:=((H.grow g₁).grow g₂).grow g₃
  cases V₂ with
  | raw=>
  cases V₃ with
  | int _ t=>
   refine z9 (H₃.own _ u.mem) fun q5_ hF hX=>?_
   obtain⟨vs,m,e,hvs⟩:=q5_
   have hlen:=hvs.length
   simp only[Array.length_toList] at hlen
   refine zh8 (j:=j) e (by lia) (by lia) (fun h' m' e' hsb=>?_) _ rfl
   have hm':MAt G F₃ h' a (.lst (l.set j d)):=⟨_,m',e',by rw[Array.toList_setIfInBounds];exact zjx j hvs (V₁.mono (g₂.le.trans g₃.le))⟩
   refine zR (H₃.upd (tk:=s₃.toks) u hsb hm') fun H₄ g₄=>?_
   exact hQ _ .next F₃ _ hP ((Step.pure ((g₁.trans g₂).trans g₃)).trans (H₃.turned u g₄ hm' hF).2) H₄) hs
theorem zi0{d:D}{l:List D}(hr:Rd σ d (.lst l)) (hl:l.length≤1000000):CallJ G n σ (.type "tuple") [d] (.tup l):=.mk fun A F s Q E vs hA H hv h=>by
 refine zd (hv.one) fun _ q13_ h1=>?_
 subst q13_
 obtain⟨a,vs,m,rfl,ho,hv⟩:=ZA H h1 hr
 have k1:=hv.length
 simp only[Array.length_toList] at k1
 refine PySem.call_tuple_list ⟨_,ho,rfl,_,rfl⟩ (fun h' hk=>?_) (Zh (by lia))
 have g:=Grow.of_keep (G:=G) (wr:=[]) (tk:=s.toks) H.fin hk
 have H':=H.grow g
 exact h _ _ _ (g.trans (.push H'.fin rfl)) (.tup (FZ.put_self ..) rfl (hv.mono (FZ.le_put H'.fresh)))
theorem zff{l:List D}(hl:l.length<2^40):CallJ G n σ (.builtin "len") [.tup l] (.int l.length):=.mk fun A F s Q E vs hA H hv h=>by
 refine zd (hv.one) fun _ q14_ h1=>?_
 subst q14_
 obtain⟨a,vs,m,rfl,ho,hv⟩:=zbL H h1 (.self _)
 have k1:=hv.length
 simp only[Array.length_toList] at k1
 refine PyProof.Rows.len_tuple ⟨_,ho,rfl,_,rfl⟩ (by lia) ?_
 rw[k1]
 exact h _ F _ (.tok H.fin) (.int _ _)
theorem zfe{a b:Int}:CallJ G n σ (.builtin "max") [.int a,.int b] (.int (max a b)):=.mk fun A F s Q E vs hA H hv h=>by
 refine Zk (hv.two) fun _ _ q10_ h1 h2=>?_
 subst q10_
 (first | obtain rfl:=h1.inv | obtain⟨_,rfl⟩:=h1.inv);(first | obtain rfl:=h2.inv | obtain⟨_,rfl⟩:=h2.inv)
 refine max_two_ints hA.handled fun h' tk hk=>?_
 by_cases c:b>a
 ·rw[if_pos c];rw[show max a b=b by lia] at h;exact h _ F _ (.of_keep H.fin hk) (.int _ _)
 ·rw[if_neg c];rw[show max a b=a by lia] at h;exact h _ F _ (.of_keep H.fin hk) (.int _ _)
end
section
open PySem PySem.W
variable {G:Gx}{n:Nat}{env:Env}{ρ:Rho}{σ:Sig}
noncomputable def ZY(l:List Str) (x:Str):List Str:=if x∈l then l else l++[x]
theorem zc3{l:List Str}{x y:Str}:y∈ZY l x↔y∈l∨y=x:=by
 unfold ZY
 split
 ·rename_i h
  exact⟨.inl,fun q=>q.elim id fun e=>e▸h⟩
 ·simp
theorem zb0{y:Str}:∀(xs l:List Str),y∈xs.foldl ZY l↔y∈l∨y∈xs
 | [],l=>by simp
 | x::xs,l=>by rw[List.foldl_cons,zb0 xs,zc3];simp[or_assoc]
theorem zjb{l:List Str}{x:Str}(h:l.Nodup):(ZY l x).Nodup:=by
 unfold ZY
 split
 ·exact h
 ·rename_i hx
  rw[List.nodup_append]
  exact⟨h,by simp,fun a ha b hb e=>hx (by simp at hb;rw[←hb,←e];exact ha)⟩
noncomputable def zi8(U:List Str):MO→Str→MO
 | .set l,x=>.set (if x∈U then ZY l x else l)
 | mo,_=>mo
theorem zgS(l:List Str) (x:Str):(ZY l x).length≤l.length+1:=by unfold ZY;split<;>simp
noncomputable def AT(U:List Str):App Str where
 app:=zi8 U
 K mo:=∃l,mo=.set l∧l.Nodup∧∀y∈l,y∈U
 keeps mo x:=by
  rintro⟨l,rfl,h1,h2⟩
  show ∃l',MO.set (if x∈U then ZY l x else l)=MO.set l'∧_
  by_cases h:x∈U
  ·rw[if_pos h]
   exact⟨_,rfl,zjb h1,fun y hy=>(zc3.mp hy).elim (h2 y) fun e=>e▸h⟩
  ·rw[if_neg h];exact⟨_,rfl,h1,h2⟩
 sz mo x:=by
  cases mo with
  | set l=>
   show(if x∈U then ZY l x else l).length≤l.length+1
   have:=zgS l x
   split<;>omega
  | _=>simp[zi8,MO.sz]
theorem ziL{U:List Str}(l:List Str) (hl:∀x∈l,x∈U):∀acc:List Str,l.foldl (zi8 U) (.set acc)=.set (l.foldl ZY acc):=by
 induction l with
 | nil=>intro acc;rfl
 | cons a l ih=>
  intro acc
  rw[List.foldl_cons,List.foldl_cons,←ih fun x hx=>hl x (List.mem_cons_of_mem _ hx)]
  show List.foldl (zi8 U) (.set (if a∈U then ZY acc a else acc)) l=_
  rw[if_pos (hl a List.mem_cons_self)]
theorem zeF{prog:Program}{w:World}{h:Heap}{a:Addr}{l:List Str}{x:Str}(hS:h.SetOf (strKind prog w) a (fun k'=>decide (k'∈l)||decide (k'=x)) (if decide (x∈l)=true then l.length else l.length+1)) :
  h.SetOf (strKind prog w) a (fun k=>decide (k∈ZY l x)) (ZY l x).length:=
 PyProof.Rows.SetOf_congr hS (fun k=>by rw[←Bool.decide_or];exact decide_eq_decide.mpr zc3.symm) (by unfold ZY;by_cases h:x∈l<;>simp[h])
theorem zn3:zat G (newSet (.type "set")) (.set []):=fun A F σ s Q E H h=>
 wpAny_newSet_of (knd:=strKind G.prog G.w) fun led hS=>h _ _ (.push0 H.fin) (ZV _) (PyProof.Rows.SetOf_congr hS (fun k=>by simp) rfl) H.fresh
theorem zjp{A:Around}{F:FZ}{s:Shared}{a:Addr}{l:List Str}{x:Str}{v:Value}{Q E:Value→Shared→Prop}(hm:MAt G F s.heap a (.set l)) (hv:V G.prog G.w F v (.str x)) (hl:l.length≤1000)
  (hQ:∀h',Heap.SameBut a s.heap h'→MAt G F h' a (.set (ZY l x))→Q .none {s with heap:=h',toks:=s.toks+1}):wpAny (model G.prog G.w) A (call (.builtin "set.add") [.ref a,v]) Q E s:=by
 refine Exists.elim (hv.inv) fun t q8_=>?_
 subst q8_
 exact call_set_add (knd:=strKind G.prog G.w) (k:=x) (strKind_is _ _ _ _) rfl hm (by unfold scanBound;lia) fun h' hs hS=>hQ h' hs (zeF hS)
theorem zl2{U:List Str}(hU:U.length≤1000) {elt:Expr} {gens scope pos}{W:List Addr}{x:Str}(hx:x∈U) (h:PE G n env elt ρ σ (.str x)) :
  JR G n env W (AT U) (fun a rest=>J7 (.SetComp elt gens scope pos) (.ref a) env>>=fun _=>rest) ρ σ [x]:=fun rest A F s a mo E Q hA hK hsz H hQ=>by
 refine wpAny_bind ?_
 show wpAny _ A (do let v ←eval elt env;standAt elt.pos;let _ ←call (.builtin "set.add") [.ref a,v]) _ E s
 refine wpAny_bind (h.out A F s _ E hA H.drop fun v F₁ s₁ g₁ V₁=>?_)
 have H₁:=H.grow g₁
 refine zd hK fun l q9_ hl=>?_
 subst q9_
 refine wpAny_bind (wpAny_standAt (wpAny_bind (zjp (H₁.own _ List.mem_cons_self).1 V₁ (Nat.le_trans (Zr hl.1 hl.2) hU) fun h' hs hm'=>?_)))
 have u:=H₁.upd (tk:=s₁.toks+1) (.head ..) hs hm'
 exact wpAny_pure (hQ F₁ _ ((g₁.wider zx).trans (u.2.wider (all_cons List.mem_cons_self zx))) ((congrArg (fun l=>Holds G env F₁ ρ ((a,MO.set l)::_) _) (if_pos hx)).mpr u.1))
theorem zpl{U:List Str}(hU:U.length≤1000) {β:Type}{elt u0 iter:Expr}{u6:List Expr}{scope sc:Scope}{pos:Pos}{names:List Str}{ρ':Rho}{xs:List β}{bf:β→Rho}{c:β→Bool}{g:β→Str}
  (hE:EnvOk env sc) (hf:Zv scope sc=true) (v4:Capt scope ρ ρ') (v8:ItE G n env iter ρ σ u0 names (xs.map bf)) (hs:∀x∈names,OwnName scope x) (x0:∀y∈xs,∀p∈bf y,p.1∈names) (v7:∀x∈names,ρ'.lookup x=none)
  (ht:∀u1,EnvOk u1 scope→∀y∈xs,PIf G n u1 u6 (bf y++ρ') σ (c y))
  (hg:∀u1,EnvOk u1 scope→∀y∈xs,c y=true→PE G n u1 elt (bf y++ρ') σ (.str (g y))) (hgU:∀y∈xs,g y∈U)
  (hsz:xs.length≤1000) (v9:∀x,foldedSetIterable iter env x=pure x:=by intro _;rfl)
  (he:∀env,eval (.SetComp elt [⟨u0,iter,u6,0⟩] scope pos) env=comprehension (.SetComp elt [⟨u0,iter,u6,0⟩] scope pos) scope env (firstIterPos [⟨u0,iter,u6,0⟩] pos) (newSet (.type "set")) false (eval iter env):=by intro _;rfl) :
  PO G n env (.SetComp elt [⟨u0,iter,u6,0⟩] scope pos) ρ σ (.set (((xs.filter c).map g).foldl ZY [])):=.mk fun A F s Q E hA H hQ=>by
 have hfl:(xs.map fun y=>if c y then [g y] else []).flatten=(xs.filter c).map g:=Qx.trans (List.map_eq_flatMap ..).symm
 have u3:(xs.map fun y=>if c y then [g y] else []).flatten.foldl (AT U).app (MO.set [])=.set (((xs.filter c).map g).foldl ZY []):=by
  rw[hfl]
  exact ziL _ (List.forall_mem_map.mpr fun y hy=>hgU y (List.mem_filter.mp hy).1) []
 have hlen:(xs.map fun y=>if c y then [g y] else []).flatten.length≤1000:=by rw[hfl,List.length_map];exact Nat.le_trans (List.length_filter_le _ _) hsz
 rw[he]
 refine Jw (e:=.SetComp elt [⟨u0,iter,u6,0⟩] scope pos) (P:=AT U) (mo:=.set []) (Zb:=xs.map fun y=>if c y then [g y] else []) hA H rfl (all_cons rfl zx) rfl v9 (hE.fits hf) v4 zn3 v8 hs (by rw[List.length_map,List.length_map]) (List.forall_mem_map.mpr x0) v7
  (fun C i b o h1 h2=>zaL (ht _ (jl (n:=n) (G:=G) (C:=C) (hE.fits hf)).ok) (fun y hy h=>.inl ⟨rfl,zl2 hU (hgU y hy) (hg _ (jl (n:=n) (G:=G) (C:=C) (hE.fits hf)).ok y hy h)⟩) h1 h2) ⟨_,rfl,List.nodup_nil,zx⟩ (Nat.le_trans (Nat.le_of_eq (Nat.zero_add _)) (Nat.le_trans hlen (by decide)))
  fun a F' s' C g ha hm hF hC hFC hCa hns=>hns.imp fun m hn=>⟨hn,fun h' hs'=>?_⟩
 rw[u3] at hm
 exact hQ a F' _ (g.fin_end (tk:=s'.toks) (wr:=[C]) H.code (fun b o hb e=>hs'.extBut b o (fun q=>hb (List.mem_singleton.mpr q)) e) (all_cons hC zx) (all_cons hFC zx)) ha (hm.mono (.refl F') fun o e=>hs'.extBut _ _ (Ne.symm hCa) e) hF
section
variable {prog:Program}{w:World}{A:Around}{E:Value→Shared→Prop}{s:Shared}
theorem zb3{es:List (Int×Value)}(h:ElemsOf (strKind prog w) es):∀e∈es,∃x t,e.2=.str x t∧e.1=(strKind prog w).hash x:=fun e he=>by
 refine zR (h e he) fun q10_ _=>?_
 obtain⟨k,hk,hh⟩:=q10_
 refine Exists.elim (Value.isStrOf_shape hk) fun t ht=>?_
 exact⟨k,t,ht,hh⟩
theorem zk3{x:Str}{t:Tok}{Q:Bool→Shared→Prop}(h:Q true s):wpAny (model prog w) A (Builtin.Frozenset.quietEq (.str x t)) Q E s:=wpAny_pure h
theorem zjn{a b:Addr}{S T:Str→Bool}{m k:Nat}{Q:List (Int×Value)→Shared→Prop}(ha:s.heap.SetOf (strKind prog w) a S m) (hb:s.heap.SetOf (strKind prog w) b T k)
  (h:∀es:Array (Int×Value),ElemsOf (strKind prog w) es.toList→(∀x,S x=true↔∃e∈es.toList,(strKind prog w).is x e.2=true)→Q es.toList s):wpAny (model prog w) A (Builtin.Frozenset.walkUnseen a b) Q E s:=by
 refine zdQ ha fun o es ep t ho hex hd hel v6 hbd hft hn=>?_
 refine zdQ hb fun o' es' ep' t' ho' hex' hd' hel' hmem' hbd' hft' hn'=>?_
 unfold Builtin.Frozenset.walkUnseen
 refine wpAny_bind (wpAny_setEntries_of ho hd hft ?_)
 refine wpAny_bind (wpAny_setEntries_of ho' hd' hft' ?_)
 refine wpAny_bind ?_
 refine wpAny_forIn_list _ (fun rest q s'=>s'=s∧q=(none,())∧∀e∈rest,∃x t,e.2=Value.str x t) _ ?_ ?_ _ _ ⟨rfl,rfl,fun e he=>?_⟩
 ·intro q14_
  obtain⟨i,v⟩:=q14_
  intro rest q s' q15_
  refine z9 q15_ fun q16_ q17_ hr=>?_
  subst q16_
  subst q17_
  refine Zu (hr _ List.mem_cons_self) fun x t e=>?_
  have e:v=.str x t:=e
  subst e
  refine wpAny_bind (zk3 ?_)
  rw[if_neg (by decide)]
  exact wpAny_pure ⟨rfl,rfl,fun e he=>hr e (List.mem_cons_of_mem _ he)⟩
 ·intro q s' q11_
  refine z9 q11_ fun q12_ q13_ _=>?_
  subst q12_
  subst q13_
  exact wpAny_pure (h es hel v6)
 ·rcases List.mem_append.mp he with he | he
  ·refine Qd (zb3 hel _ he) fun x t e _=>?_
   exact⟨x,t,e⟩
  ·refine Qd (zb3 hel' _ he) fun x t e _=>?_
   exact⟨x,t,e⟩
theorem zfG{id:String}{a:Addr}{o:Obj}{es:Array (Int×Value)}{ep:Nat}{t:SetTable}{Q:Unit→Shared→Prop}(ho:s.heap.get? a=some o) (hd:o.data=.set es ep t) (hf:t.fits es.size=true) (h:Q () s) :
  wpAny (model prog w) A (Builtin.Frozenset.unchanged id a ep) Q E s:=by
 unfold Builtin.Frozenset.unchanged
 refine wpAny_bind (wpAny_setEpoch_of ho hd hf ?_)
 rw[if_neg (by simp)]
 exact wpAny_pure h
theorem zjo{nm:String}{a b:Addr}{S T:Str→Bool}{m k:Nat}{Q:Bool→Shared→Prop}(ha:s.heap.SetOf (strKind prog w) a S m) (hb:s.heap.SetOf (strKind prog w) b T k) (hmk:m≤k) (hST:∀x,S x=true→T x=true)
  (h:Q true s):wpAny (model prog w) A (Builtin.Frozenset.subsetOf nm a b) Q E s:=by
 refine zdQ (id ha) fun o es ep t ho hex hd hel v6 hbd hft hn=>?_
 refine zdQ (id hb) fun o' es' ep' t' ho' hex' hd' hel' hmem' hbd' hft' hn'=>?_
 unfold Builtin.Frozenset.subsetOf Builtin.Frozenset.sizeOf
 refine wpAny_bind (wpAny_bind (wpAny_setEntries_of ho hd hft (wpAny_pure ?_)))
 refine wpAny_bind (wpAny_bind (wpAny_setEntries_of ho' hd' hft' (wpAny_pure ?_)))
 rw[if_neg (by lia)]
 refine wpAny_bind (wpAny_setEpoch_of ho hd hft ?_)
 refine wpAny_bind (zjn ha hb fun es₂ hel₂ hmem₂=>?_)
 refine wpAny_bind ?_
 refine wpAny_forIn_list _ (fun rest q s'=>s'=s∧q=(none,())∧∀e∈rest,∃x t,e.2=Value.str x t∧e.1=(strKind prog w).hash x∧T x=true) _ ?_ ?_ _ _ ⟨rfl,rfl,fun e he=>?_⟩
 ·intro q21_
  obtain⟨i,v⟩:=q21_
  intro rest q s' q22_
  refine z9 q22_ fun q23_ q24_ hr=>?_
  subst q23_
  subst q24_
  refine Zk (hr _ List.mem_cons_self) fun x t e e2 hT=>?_
  have e:v=.str x t:=e
  have e2:i=(strKind prog w).hash x:=e2
  subst e e2
  refine wpAny_bind (wpAny_holding (wpAny_setFind_of (knd:=strKind prog w) (strKind_is _ _ _ _) rfl hb fun r hr'=>?_))
  rw[hT] at hr'
  have hnone:r.isNone=false:=by cases r<;>simp_all
  rw[hnone,if_neg (by decide)]
  refine wpAny_bind (zfG ho hd hft ?_)
  exact wpAny_pure ⟨rfl,rfl,fun e he=>hr e (List.mem_cons_of_mem _ he)⟩
 ·intro q s' q18_
  refine z9 q18_ fun q19_ q20_ _=>?_
  subst q19_
  subst q20_
  exact wpAny_pure h
 ·refine Qd (zb3 hel₂ _ he) fun x t ev eh=>?_
  refine⟨x,t,ev,eh,hST x ((hmem₂ x).mpr ⟨e,he,?_⟩)⟩
  rw[ev];exact strKind_is _ _ _ _
theorem zl0:entryFor table "set.__ne__"=some Builtin.«frozenset.__ne__»:=entryFor_alias (id':="frozenset.__ne__") (by kernel_rfl) rfl (by decide +kernel) (by kernel_rfl)
theorem zh7{a b:Addr}{S T:Str→Bool}{m:Nat}{Q:Value→Shared→Prop}(hu:A.units<cLine) (ha:s.heap.SetOf (strKind prog w) a S m) (hb:s.heap.SetOf (strKind prog w) b T m) (hST:∀x,S x=true→T x=true)
  (h:Q (.bool false) s):wpAny (model prog w) A (compareOp .NotEq (.ref a) (.ref b)) Q E s:=by
 have hT1:s.TypeIs (.ref a) "set":=ha.typeIs
 have hT2:s.TypeIs (.ref b) "set":=hb.typeIs
 have sz:∀{c:Addr}{S:Str→Bool}{m:Nat}{Q:Nat→Shared→Prop}{A:Around}{E:Value→Shared→Prop},s.heap.SetOf (strKind prog w) c S m→Q m s→wpAny (model prog w) A (Builtin.Frozenset.sizeOf c) Q E s:=by
  intro c S m Q A E hc hq
  refine zdQ hc fun o es ep t ho hex hd hel v6 hbd hft hn=>?_
  unfold Builtin.Frozenset.sizeOf
  exact wpAny_bind (wpAny_setEntries_of ho hd hft (wpAny_pure (by rw[hn];exact hq)))
 refine wpAny_richCompare_same_room (op:=.NotEq) hT1 hT2 PySem.F.slot_set_ne (wpAny_call_entry PySem.F.slot_set_ne hT1 zl0 ?_ (PySem.F.args_set_ne_2 _ _)) hu
 refine wpAny_bind (m:=Builtin.Frozenset.slot1 "__ne__" ⟨[.ref a,.ref b],[]⟩) (wpAny_of_eq (a:=(.ref a,.ref b)) rfl ?_)
 dsimp only
 refine wpAny_bind (m:=Builtin.Frozenset.isAnySet (.ref b)) ?_
 unfold Builtin.Frozenset.isAnySet
 refine wpAny_bind (wpAny_isInstance hT2 PySem.sub_set_self ?_)
 refine wpAny_pure ?_
 rw[if_neg (by decide)]
 unfold Builtin.Frozenset.addrOf
 refine wpAny_bind (wpAny_pure ?_)
 refine wpAny_bind (wpAny_pure ?_)
 refine wpAny_bind (sz ha ?_)
 refine wpAny_bind (sz hb ?_)
 refine wpAny_bind ?_
 rw[if_neg (by simp)]
 refine wpAny_bind (wpAny_bind (wpAny_isInstance hT1 PySem.F.sub_set_frozenset ?_))
 refine wpAny_pure ?_
 rw[if_neg (by decide)]
 refine zjo ha hb (Nat.le_refl _) hST ?_
 exact wpAny_pure ⟨_,rfl,(fun x=>nomatch x),h⟩
end
end
section
open PySem PySem.W
variable {G:Gx}{n:Nat}{env:Env}{ρ:Rho}{σ:Sig}
section
variable {prog:Program}{w:World}{A:Around}{s:Shared}
theorem zfY{h h':Heap}{S:Addr}{p:Str→Bool}{n:Nat}(x:h.SetOf (strKind prog w) S p n) (e:∀o,h.get? S=some o→h'.get? S=some o):h'.SetOf (strKind prog w) S p n:=
 Exists.imp (fun _=>Exists.imp fun _=>Exists.imp fun _=>Exists.imp fun _ x=>⟨e _ x.1,x.2⟩) x
theorem ziD{R:Result→Shared→Prop}{I S:Addr}{fp wr:List Addr}{m:Nat}{P:Nat→Value→Prop}{St:Nat→Heap→Prop}{val:List Str}(W:Walks prog w A.in1 I fp wr m P St) (hSf:S∉fp) (hm:val.length=m)
  (hval:∀i v,P i v→∃x t,val[i]?=some x∧v=.str x t) (hb:m≤1000) :
  ∀(k i:Nat) (s:Shared) (l:List Str),i+k=m→St i s.heap→s.heap.SetOf (strKind prog w) S (fun x=>decide (x∈l)) l.length→l.length≤i→
   (∀h' tk,h'.SetOf (strKind prog w) S (fun x=>decide (x∈(val.drop i).foldl ZY l)) ((val.drop i).foldl ZY l).length→(∀b o,b∉S::wr→s.heap.get? b=some o→h'.get? b=some o)→R (.ok (.ret .none)) {s with heap:=h',toks:=tk})→
   codeAny (model prog w) A (.builtin "set.update.loop" ⟨[.ref S,.ref I],[]⟩) R s:=by
 have hSw:S∉wr:=fun h=>hSf (W.sub _ h)
 intro k
 induction k with
 | zero=>
  intro i s l hk hst hS hl hR
  obtain rfl:i=m:=hk
  refine codeAny_builtin PyProof.Rows.F.entry_set_update_loop ?_
  rw[Around.under_plainId PyProof.Rows.F.plain_set_update_loop _]
  refine wpAny_bind (m:=pyNext (.ref I)) (W.done s _ _ hst fun h' tk hk'=>?_)
  rw[List.drop_of_length_le (Nat.le_of_eq hm)] at hR
  exact wpAny_pure (hR h' tk (zfY hS fun o e=>hk' S o hSw e) fun b o hb e=>hk' b o (fun q=>hb (List.mem_cons_of_mem _ q)) e)
 | succ k ih=>
  intro i s l hk hst hS hl hR
  refine codeAny_builtin PyProof.Rows.F.entry_set_update_loop ?_
  rw[Around.under_plainId PyProof.Rows.F.plain_set_update_loop _]
  have hlt:i<m:=hk▸Nat.lt_add_of_pos_right (Nat.succ_pos k)
  refine wpAny_bind (m:=pyNext (.ref I)) (W.item i s _ _ hlt hst fun v h' tk hP hst' hk'=>?_)
  obtain⟨x,t,hx,rfl⟩:=hval i v hP
  rw[show val.drop i=x::val.drop (i+1) from(List.getElem?_eq_some_iff.mp hx).elim fun q e=>e▸List.drop_eq_getElem_cons q,List.foldl_cons] at hR
  refine wpAny_bind (m:=holding [Value.str x t] (setAdd S (.str x t))) (wpAny_holding ?_)
  unfold setAdd
  refine wpAny_holding (wpAny_bind ((strKind prog w).pyHash (k:=x) (strKind_is _ _ _ _) (wpAny_setAddHashed_of (knd:=strKind prog w) (s:={s with heap:=h',toks:=tk+1}) (strKind_is _ _ _ _) rfl (zfY hS fun o e=>hk' S o hSw e) (by unfold scanBound;lia) fun h₂ hsb hS2=>?_)))
  have hsb':∀b o,b≠S→h'.get? b=some o→h₂.get? b=some o:=fun b o q e=>(hsb.2 b q).trans e
  exact wpAny_pure ⟨plainId_quiet PyProof.Rows.F.plain_set_update_loop _,ih (i+1) _ (ZY l x) ((Nat.succ_add_eq_add_succ i k).trans hk) (W.frame _ h' _ hst' fun b hb o e=>hsb' b o (fun q=>hSf (q▸hb)) e) (zeF hS2) (Nat.le_trans (zgS l x) (Nat.succ_le_succ hl))
   fun h₃ tk₃ hS3 hk3=>hR h₃ tk₃ hS3 fun b o hb e=>hk3 b o hb (hsb' b o (fun q=>hb (q▸List.mem_cons_self)) (hk' b o (fun q=>hb (List.mem_cons_of_mem _ q)) e))⟩
noncomputable abbrev qL(led:Bool):Obj:={cls:=.type "set",dict:=none,data:=.set #[] 0 (.fresh 0 0 led)}
set_option maxHeartbeats 3200000 in
theorem zet{E:Value→Shared→Prop}{l:Addr}{items:Array Value}{m:Nat}{val:List Str}{Q:Value→Shared→Prop}(hh:A.handled=none) (hl:s.heap.get? l=some {cls:=.type "list",data:=.seq items m})
  (hi:∀(i:Nat) (v:Value),items[i]?=some v→∃x t,val[i]?=some x∧v=Value.str x t) (hlen:val.length=items.size) (hb:items.size≤1000)
  (h:∀h' tk,h'.SetOf (strKind prog w) s.heap.objs.size (fun x=>decide (x∈val.foldl ZY [])) (val.foldl ZY []).length→(∀b o,b<s.heap.objs.size→s.heap.get? b=some o→h'.get? b=some o)→Q (.ref s.heap.objs.size) {s with heap:=h',toks:=tk}) :
  wpAny (model prog w) A (call (.type "set") [.ref l]) Q E s:=by
 obtain⟨c,tl,hmro⟩:=PySem.F.called_set.mro
 have hmade:=PySem.F.called_set.made
 have hsub:=PySem.F.called_set.sub
 refine wpAny_call (codeAny_of_tree ?_)
 show wpAny _ _ (callAny (.type "set") _) _ _ _
 refine wpAny_pure ⟨Code.quiet_builtin _ (by decide +kernel),codeAny_builtin PySem.F.entry_type_call ?_⟩
 rw[Around.under_plain (weight_type_call_type "set" [.ref l] []) rfl]
 have h1:=PySem.F.called_set.notType
 have h2:=PySem.F.called_set.canCreate
 have hct:=PySem.F.typeCall_set_1 (.ref l)
 repeat (any_goals (first | assumption | wp_step))
 refine codeAny_mono (code_set_new_1 (.ref l) (E:=E) (Q₁:=fun obj s₁=>∃led:Bool,obj=.ref s.heap.objs.size∧s₁={s with heap:=s.heap.push (qL led)}) fun led=>⟨led,rfl,rfl⟩) fun r s₁ hr=>?_
 rcases r with e | fl
 ·exact hr
 cases fl with
 | ret obj=>
  obtain⟨led,rfl,rfl⟩:=hr
  have hS:(s.heap.push (qL led)).get? s.heap.objs.size=some (qL led):=Heap.get?_push_size _ rfl
  have hT:Shared.TypeIs {s with heap:=s.heap.push (qL led)} (.ref s.heap.objs.size) "set":=⟨_,hS,rfl⟩
  have hli:=PySem.F.called_set.init.lookup
  have hbi:=PySem.F.called_set.init.bind (.ref s.heap.objs.size)
  repeat (any_goals (first | assumption | wp_step))
  refine codeAny_mono (codeAny_call_builtin (R:=wants (fun r s₂=>r=.none∧∃h' tk,s₂={s with heap:=h',toks:=tk}∧h'.SetOf (strKind prog w) s.heap.objs.size (fun x=>decide (x∈val.foldl ZY [])) (val.foldl ZY []).length∧
    (∀b o,b<s.heap.objs.size→s.heap.get? b=some o→h'.get? b=some o)) E) PySem.F.called_set.init.plain PySem.F.entry_set_init (check_set_init_1 hT ?_)) fun r₂ s₂ hr₂=>?_
  ·have hol:(s.heap.push (qL led)).get? l=some {cls:=.type "list",data:=.seq items m}:=Heap.get?_push_of_some _ hl
   have hsls:=PySem.F.sub_list_set
   have hslf:=PySem.F.sub_list_frozenset
   have hne:(Value.type "list"==Value.type "dict")=false:=by decide
   have hl1:(s.heap.push (qL led)).IsList l items:=⟨_,hol,rfl,m,rfl⟩
   unfold Builtin.«set.__init__» noKeywords Builtin.Frozenset.updateFrom
   generalize hPI:pyIter=PI
   wp_walk
   subst hPI
   refine wpAny_pyIter_list hl1 ?_
   refine wpAny_bind (wpAny_runValue ?_)
   have hlS:l<s.heap.objs.size:=Heap.lt_size hl
   have hsz:(s.heap.push (qL led)).objs.size=s.heap.objs.size+1:=Heap.size_push ..
   have hneI:l≠(s.heap.push (qL led)).objs.size:=by rw[hsz];exact Nat.ne_of_lt (Nat.lt_succ_of_lt hlS)
   have hSf:s.heap.objs.size∉[(s.heap.push (qL led)).objs.size,l]:=by
    rw[hsz]
    simp only[List.mem_cons,List.not_mem_nil,or_false,not_or]
    exact⟨Nat.ne_of_lt (Nat.lt_succ_self _),Nat.ne_of_gt hlS⟩
   have hS0:((s.heap.push (qL led)).push {cls:=.type "list_iterator",data:=.fields #[.ref l,.int 0 0]}).SetOf (strKind prog w) s.heap.objs.size (fun x=>decide (x∈([]:List Str))) ([]:List Str).length:=
    PyProof.Rows.SetOf_congr ((PyProof.Rows.setObjOf_fresh (knd:=strKind prog w) led).setOf (Heap.get?_push_of_some _ hS) (by unfold scanBound;lia)) (fun k=>by simp) rfl
   refine ziD (Walks.list (by simp[hh]) _ l hneI items) hSf hlen hi hb items.size 0 _ [] (Nat.zero_add _) ⟨⟨_,Heap.get?_push_size _ rfl,rfl,rfl⟩,hl1.push _⟩ hS0 (Nat.le_refl _) fun h' tk hS' hk'=>?_
   show wpAny _ _ _ _ _ _
   refine wpAny_pure ?_
   show wpAny _ _ (ret Value.none) _ _ _
   refine wpAny_pure ⟨rfl,h',tk,rfl,hS',fun b o hb e=>?_⟩
   refine hk' b o ?_ (Heap.get?_push_of_some _ (Heap.get?_push_of_some _ e))
   rw[hsz]
   simp only[List.mem_cons,List.not_mem_nil,or_false,not_or]
   exact⟨Nat.ne_of_lt hb,Nat.ne_of_lt (Nat.lt_succ_of_lt hb)⟩
  ·rcases r₂ with e | fl₂
   ·exact hr₂
   cases fl₂ with
   | ret r=>
    obtain⟨rfl,h',tk,rfl,hS',hk'⟩:=hr₂
    repeat (any_goals (first | assumption | wp_step))
    exact h _ _ hS' hk'
   | _=>exact hr₂.elim
 | _=>exact hr.elim
end
end
section
open PySem PySem.W
variable {G:Gx}{n:Nat}{env:Env}{ρ:Rho}{σ:Sig}
theorem zow{f arg:Expr}{pos:Pos}{d:D}{l:List Str}(hf:PE G n env f ρ σ (.raw (.type "set"))) (ha:PE G n env arg ρ σ d) (hr:Rd σ d (.lst (l.map .str))) (hl:l.length≤1000)
  (hs:[arg].all kdsPlain=true:=by rfl)
  (he:∀env,eval (.Call f [arg] [] pos) env=(do callWith pos (←eval f env) [] (backTo pos (starEach [arg] env)) (backToKw pos (keywordEach [] env))):=by intro _;rfl):PO G n env (.Call f [arg] [] pos) ρ σ (.set (l.foldl ZY [])):=.mk fun A F s Q E hA H hQ=>by
 have hns:qr [arg]:=zfV hs
 rw[he]
 refine wpAny_bind (hf.out A F s _ E hA H fun v F₁ s₁ g₁ V₁=>?_)
 (first | obtain rfl:=V₁.inv | obtain⟨_,rfl⟩:=V₁.inv)
 refine callWith_of (P:=fun h=>∃F' s',Base G F' σ s'∧s'.heap=h) (by rw[hns pos env];rfl) (fun h ⟨F',s',B,e⟩=>e▸z2 F' s' B) ?_
 refine qy (hns pos env) (wpAny_items_cons (ha.out A F₁ s₁ _ E hA (H.grow g₁) fun v F₂ s₂ g₂ V₂=>wpAny_items_nil ⟨⟨F₂,s₂,((H.grow g₁).grow g₂).toBase,rfl⟩,?_⟩) (Z0 hs env))
 have H₂:=((H.grow g₁).grow g₂).toBase
 refine qC (ZA H₂ V₂ hr) fun a vs m q1_ ho hv=>?_
 subst q1_
 have hlen:=hv.length
 simp only[Array.length_toList,List.length_map] at hlen
 refine zet (val:=l) hA.handled ho (fun i v hi=>?_) hlen.symm (by omega) fun h' tk hS hk=>?_
 ·have hil:i<l.length:=by
   have:=(Array.getElem?_eq_some_iff.mp hi).1
   omega
  refine zd (hv.get i (d:=.str l[i]) (by rw[List.getElem?_map,List.getElem?_eq_getElem hil];rfl)) fun v' e1 e2=>?_
  rw[Array.getElem?_toList,hi] at e1
  cases e1
  cases e2 with
  | str _ t=>exact⟨_,t,List.getElem?_eq_getElem hil,rfl⟩
 ·have hk':∀b o,s₂.heap.get? b=some o→h'.get? b=some o:=fun b o e=>hk b o (Heap.lt_size e) e
  exact hQ _ F₂ _ ((g₁.trans g₂).trans (.of_keep H₂.fin hk')) (Zi (g₁.trans g₂) (ZV _)) hS H₂.fresh
theorem ziv{l r:Expr}{pos:Pos}{xs ys:List Str}(hl:PO G n env l ρ σ (.set xs)) (hr:∀a,PO G n env r ρ ((a,.set xs)::σ) (.set ys)) (hlen:xs.length=ys.length) (hm:∀x∈xs,x∈ys)
  (hmk:behindInMarks .NotEq r=false:=by with_unfolding_all rfl):PT G n env (.Compare l [.NotEq] [r] pos) ρ σ false:=
 .mk fun A F s Q E hA H h=>wpAny_isTrue_Compare1 (hl.out A F s _ E hA H fun a F₁ s₁ g₁ ha hma hFa=>(hr a).out A F₁ s₁ _ E hA (H.consNew g₁ ha hma hFa) fun b F₂ s₂ g₂ hb hmb hFb=>by
  have H₂:=(H.consNew g₁ ha hma hFa).grow g₂
  refine z9 (H₂.own _ List.mem_cons_self) fun hma' _ _=>?_
  have hu:=hA.units
  have hc:cLine=9900:=rfl
  exact zh7 (m:=xs.length) (by lia) hma' (by rw[hlen];exact hmb) (fun x hx=>by simpa using hm x (by simpa using hx)) (wpAny_truthy_bool (h F₂ s₂ (g₁.trans g₂)))) hmk
end
section
open PySem PySem.W
variable {G:Gx}{n:Nat}{env:Env}{ρ:Rho}{σ:Sig}
section
variable {prog:Program}{w:World}{A:Around}{s:Shared}{E:Value→Shared→Prop}{K:Type} [DecidableEq K] {knd:KeyKind prog w K}
noncomputable def EqW(prog:Program) (w:World) (A:Around) (s:Shared) (v y:Value):Prop:=∀(E:Value→Shared→Prop) (Q:Bool→Shared→Prop),Q true s→wpAny (model prog w) A (eqBool v y) Q E s
theorem EqW.refs{a b:Addr}(h:a≠b→∀(E:Value→Shared→Prop) (Q:Value→Shared→Prop),Q (.bool true) s→wpAny (model prog w) A (richCompare .Eq (.ref a) (.ref b)) Q E s):EqW prog w A s (.ref a) (.ref b):=fun E Q hq=>by
 by_cases e:a=b
 ·subst e;exact SeqAt.EqAt.same _ prog w E Q hq
 ·unfold eqBool
  refine wpAny_holding ?_
  refine wpAny_ite_split (fun hab=>absurd (by have:=eq_of_beq hab;injection this) e) (fun _=>?_)
  exact wpAny_bind (h e E _ (wpAny_truthy_bool hq))
theorem zk4{nm:String}{a b:Addr}{ka kb:List (K×Value)}{Q:Bool→Shared→Prop}(ha:a≠sysModules) (hb:b≠sysModules) (da:s.heap.DictOf knd a ka) (db:s.heap.DictOf knd b kb) (hl:ka.length=kb.length)
  (hits:∀k v,(k,v)∈ka→∃y,valueAt kb k=some y∧EqW prog w A s v y) (h:Q true s):wpAny (model prog w) A (Builtin.Dict.samePairs nm a b) Q E s:=by
 refine zmA da fun oa es ep hoa _ hda hka hpa _=>?_
 refine zmA db fun ob es' ep' hob _ hdb hkb hpb _=>?_
 have hla:ka.length=es.size:=by rw[←hpa.length];exact Array.length_toList
 have hlb:kb.length=es'.size:=by rw[←hpb.length];exact Array.length_toList
 have hfind:∀k,findBy knd.is es' k=valueAt kb k:=fun k=>by
  rw[←hpb.find k]
  obtain⟨l⟩:=es'
  simp[findBy]
 have na:(a==sysModules)=false:=by simpa using ha
 have nb:(b==sysModules)=false:=by simpa using hb
 unfold Builtin.Dict.samePairs Builtin.Dict.showsAll
 rw[if_neg (by rw[na];decide),if_neg (by rw[nb];decide)]
 refine wpAny_bind (wpAny_pure (wpAny_bind (wpAny_pure ?_)))
 refine wpAny_bind (wpAny_dictEntries hoa hda ?_)
 dsimp only
 refine wpAny_bind (wpAny_dictEntries hob hdb ?_)
 have hsz:es.size=es'.size:=by lia
 rw[if_neg (by rw[hsz];simp)]
 refine wpAny_bind (wpAny_dictEpoch hoa hda ?_)
 refine wpAny_bind ?_
 rw[Std.Legacy.Range.forIn_eq_forIn_range']
 simp only[Std.Legacy.Range.size,Nat.sub_zero,Nat.add_sub_cancel,Nat.div_one]
 refine wpAny_forIn_list _ (fun rest q s'=>s'=s∧q=(none,())∧∀x∈rest,x<es.size) _ ?_ ?_ _ _ ⟨rfl,rfl,fun x hx=>by simpa using hx⟩
 ·intro x rest q s' q6_
  refine z9 q6_ fun q7_ q8_ hr=>?_
  subst q7_
  subst q8_
  have hlt:=hr x List.mem_cons_self
  refine wpAny_bind (wpAny_dictEntries hoa hda ?_)
  rw[Array.getElem?_eq_getElem hlt]
  have hlt':x<ka.length:=by lia
  obtain⟨⟨k,v⟩,hkv⟩:∃p,ka[x]?=some p:=⟨_,List.getElem?_eq_getElem hlt'⟩
  refine zR (hpa.get? (i:=x) (e:=es[x]) (k:=k) (v:=v) (by rw[Array.getElem?_toList];exact Array.getElem?_eq_getElem hlt) hkv) fun x6 hval=>?_
  refine zd (hka es[x] (Array.getElem_mem hlt)) fun k' hk' hh=>?_
  have ekk:k'=k:=knd.inj _ _ _ hk' x6
  rw[ekk] at hh
  show wpAny _ _ (holding [es[x].key,es[x].val] _>>=_) _ _ _
  rw[hh]
  refine zd (hits k v (List.mem_of_getElem? hkv)) fun y hy he=>?_
  refine wpAny_bind (wpAny_holding (wpAny_bind (wpAny_dictFind_of x6 hob hdb hkb ?_)))
  cases hj:es'.findIdx? fun e=>knd.is k e.key with
  | none=>
   have hn:valueAt kb k=none:=by rw[←hfind k,findBy_of_findIdx?,hj]
   rw[hn] at hy;cases hy
  | some j=>
   refine zd (Array.findIdx?_eq_some_iff_getElem.mp hj) fun hjlt _ _=>?_
   have hv':valueAt kb k=some es'[j].val:=by
    rw[←hfind k,findBy_of_findIdx?,hj]
    simp[Array.getElem?_eq_getElem hjlt]
   have ey:es'[j].val=y:=Option.some.inj (hv'.symm.trans hy)
   refine wpAny_bind (wpAny_dictEntries hob hdb ?_)
   rw[Array.getElem?_eq_getElem hjlt]
   rw[←ey,←hval] at he
   refine wpAny_holding (he _ _ ?_)
   show wpAny _ _ (if (!true)=true then _ else _) _ _ _
   rw[if_neg (by decide)]
   refine wpAny_bind (wpAny_dictEpoch hoa hda ?_)
   rw[if_neg (by simp)]
   exact wpAny_pure ⟨rfl,rfl,fun z hz=>hr z (List.mem_cons_of_mem _ hz)⟩
 ·intro q s' q3_
  refine z9 q3_ fun q4_ q5_ _=>?_
  subst q4_
  subst q5_
  exact wpAny_pure h
theorem zgX{a b:Addr}{ka kb:List (K×Value)}{Q:Value→Shared→Prop}(ha:a≠sysModules) (hb:b≠sysModules) (da:s.heap.DictOf knd a ka) (db:s.heap.DictOf knd b kb) (hu:A.units<cLine) (hl:ka.length=kb.length)
  (hits:∀k v,(k,v)∈ka→∃y,valueAt kb k=some y∧EqW prog w A.in1 s v y) (h:Q (.bool true) s):wpAny (model prog w) A (richCompare .Eq (.ref a) (.ref b)) Q E s:=by
 refine wpAny_richCompare_same_room (op:=.Eq) da.typeIs db.typeIs PySem.F.slot_dict_eq (wpAny_call_entry PySem.F.slot_dict_eq da.typeIs PySem.F.entry_dict_eq ?_ (PySem.F.args_dict_eq_2 _ _)) hu
 show wpAny _ _ (Builtin.Dict.dictSlotArgs "__eq__" ⟨[.ref a,.ref b],[]⟩>>=_) _ _ s
 refine wpAny_bind ?_
 unfold Builtin.Dict.dictSlotArgs
 refine wpAny_bind (wpAny_notOrdered_dict da.typeIs ?_)
 show wpAny _ _ (pure (Value.ref a,Value.ref b)) _ _ s
 refine wpAny_pure ?_
 refine wpAny_bind (wpAny_isInstance (T:="dict") db.typeIs PySem.F.sub_dict_dict ?_)
 simp only[Bool.not_true,Bool.false_eq_true,if_false]
 refine wpAny_bind (wpAny_pure (wpAny_bind (wpAny_pure ?_)))
 refine wpAny_bind (zk4 ha hb da db hl hits ?_)
 exact wpAny_pure ⟨_,rfl,(fun x=>nomatch x),by simpa using h⟩
end
inductive Pure:Nat→D→Prop
 | like {k d}:Like k d d→Pure k d
 | dicS {k l}:(∀p∈l,Pure k p.2)→Pure (k+1) (.dicS l)
theorem zhF{F:FZ}{s:Shared}(hf:∀a o,F a=some o→s.heap.get? a=some o) {l:List (Str×D)}{A:Around}{v y:Value}(hu:A.units<cLine) (hv:V G.prog G.w F v (.dicS l)) (hy:V G.prog G.w F y (.dicS l))
  (ih:∀p∈l,∀v y,V G.prog G.w F v p.2→V G.prog G.w F y p.2→EqW G.prog G.w A.in1 s v y) {E:Value→Shared→Prop}{Q:Value→Shared→Prop}(hq:Q (.bool true) s):wpAny (model G.prog G.w) A (richCompare .Eq v y) Q E s:=by
 cases hv with
 | @dicS a o kvs _ h1 h2 h3 h4 h5=>
  cases hy with
  | @dicS b o' kvs' _ k1 k2 k3 k4 k5=>
   have hlen:kvs.length=kvs'.length:=by have e1:=congrArg List.length h4;have e2:=congrArg List.length k4;simp only[List.length_map] at e1 e2;lia
   refine zgX (knd:=strKind G.prog G.w) h2 k2 (h3.of (hf _ _ h1)) (k3.of (hf _ _ k1)) (by lia) hlen (fun k' v hkv=>?_) hq
   have hnd:(kvs.map (·.1)).Nodup:=by obtain⟨_,_,_,_,_,_,q⟩:=h3;exact q
   refine Exists.elim (List.getElem?_of_mem hkv) fun i hi=>?_
   have hil:i<l.length:=by
    have:=(List.getElem?_eq_some_iff.mp hi).1
    have e1:=congrArg List.length h4;simp only[List.length_map] at e1;lia
   obtain⟨⟨p1,p2⟩,hp⟩:∃p,l[i]?=some p:=⟨_,List.getElem?_eq_getElem hil⟩
   have hpk:p1=k':=by
    have:=congrArg (·[i]?) h4
    simp only[List.getElem?_map,hi,hp,Option.map_some,Option.some.injEq] at this
    exact this.symm
   subst hpk
   have hfind:(l.find? fun p=>p.1=p1).map (·.2)=some p2:=by
    rw[h4] at hnd
    have key:∀{l:List (Str×D)}{i:Nat},(l.map (·.1)).Nodup→l[i]?=some (p1,p2)→(l.find? fun p=>p.1=p1).map (·.2)=some p2:=by
     intro l
     induction l with
     | nil=>intro i _ h;simp at h
     | cons q l ih=>
      intro i hn h
      rw[List.map_cons,List.nodup_cons] at hn
      cases i with
      | zero=>simp at h;subst h;simp
      | succ i=>
       have hm:(p1,p2)∈l:=List.mem_of_getElem? (by simpa using h)
       have hne:¬q.1=p1:=fun e=>hn.1 (e▸List.mem_map_of_mem (f:=(·.1)) hm)
       rw[List.find?_cons]
       simp only[hne,decide_false]
       exact ih hn.2 (i:=i) (by simpa using h)
    exact key hnd hp
   refine zd (QM h4 h5 hfind) fun v' e1 hv'=>?_
   refine zd (QM k4 k5 hfind) fun y' e2 hy'=>?_
   have hvv:valueAt kvs p1=some v:=by
    have key:∀{l:List (Str×Value)},(l.map (·.1)).Nodup→(p1,v)∈l→valueAt l p1=some v:=by
     intro l
     induction l with
     | nil=>intro _ h;cases h
     | cons q l ih=>
      intro hn h
      rw[List.map_cons,List.nodup_cons] at hn
      unfold valueAt at ih ⊢
      rw[List.find?_cons]
      rcases List.mem_cons.mp h with rfl | h
      ·simp
      ·have hne:¬q.1=p1:=fun e=>hn.1 (e▸List.mem_map_of_mem (f:=(·.1)) h)
       simp only[hne,decide_false]
       exact ih hn.2 h
    exact key hnd hkv
   rw[hvv] at e1
   cases e1
   exact⟨y',e2,ih (p1,p2) (List.mem_of_getElem? hp) _ _ hv' hy'⟩
theorem zlY{F:FZ}{s:Shared}(hf:∀a o,F a=some o→s.heap.get? a=some o):∀{k:Nat}{d:D},Pure k d→∀{A:Around}{v y:Value},A.units+2*k<cLine→V G.prog G.w F v d→V G.prog G.w F y d→EqW G.prog G.w A s v y:=by
 intro k d hp
 induction hp with
 | @like k d hl=>
  intro A v y hu hv hy E Q hq
  have:=zmC hf hl (A:=A) (by lia) hv hy
  rw[V.same hl hv hv] at this
  exact this _ _ E Q hq
 | @dicS k l _ ih=>
  intro A v y hu hv hy
  have rc:∀(E:Value→Shared→Prop) (Q:Value→Shared→Prop),Q (.bool true) s→wpAny (model G.prog G.w) A (richCompare .Eq v y) Q E s:=fun E Q hq=>zhF hf (by lia) hv hy (fun p hp v y hv hy=>ih p hp (by show A.units+1+_<cLine;lia) hv hy) hq
  cases hv with
  | dicS h1 h2 h3 h4 h5=>
   cases hy with
   | dicS k1 k2 k3 k4 k5=>exact EqW.refs fun _ E Q hq=>rc E Q hq
theorem zap{k:Nat}{d:List (Str×D)}(h:∀p∈d,Pure k p.2) (hk:k≤100:=by decide):CmpJ G n σ .Eq (.dicS d) (.dicS d) true:=.mk fun A F s Q E v₁ v₂ hA H h₁ h₂ hQ=>by
 have hu:=hA.units
 have hc:cLine=9900:=rfl
 show wpAny _ A (richCompare .Eq v₁ v₂) Q E s
 exact zhF H.fin (by lia) h₁ h₂ (fun p hp v y hv hy=>zlY H.fin (h p hp) (by show A.units+1+_<cLine;lia) hv hy) (hQ F s (.refl H.fin))
end
section
section
variable {K:Type} [DecidableEq K]
noncomputable def qN(names:List K) (rest:List (K×K)):List (K×List K):=names.map fun one=>(one,(rest.filter fun p=>decide (p.1=one)).map (·.2))
noncomputable def qn(names:List K) (first:K) (kept:List (K×K)) (call:K×K):List (K×K):=
 if (closed (qN names (kept.filter fun o=>decide (o≠call))) first).length=names.length then kept.filter fun o=>decide (o≠call) else kept
noncomputable def zck(names:List K) (first:K) (freed:List (K×K)):List (K×K):=freed.reverse.foldl (qn names first) freed
theorem Qp(names:List K) (rest:List (K×K)):(qN names rest).map (·.1)=names:=by
 unfold qN
 rw[List.map_map]
 exact List.map_id _
theorem ZC{α β:Type}{f:α→β}:∀{l:List α},l.Nodup→(∀x∈l,∀y∈l,f x=f y→x=y)→(l.map f).Nodup
 | [],_,_=>by simp
 | a::l,h,hf=>by
  rw[List.nodup_cons] at h
  rw[List.map_cons,List.nodup_cons]
  refine⟨fun hm=>?_,ZC h.2 fun x hx y hy=>hf x (List.mem_cons_of_mem _ hx) y (List.mem_cons_of_mem _ hy)⟩
  obtain⟨b,hb,e⟩:=List.mem_map.mp hm
  exact h.1 (hf b (List.mem_cons_of_mem _ hb) a List.mem_cons_self e▸hb)
theorem zbE{names:List K}{rest:List (K×K)}(hn:rest.Nodup) (hs:∀p∈rest,p.2∈names):GoodAdj (qN names rest) where
 nodup p hp:=by
  obtain⟨one,_,rfl⟩:=List.mem_map.mp hp
  refine ZC (hn.filter _) fun x hx y hy e=>?_
  have h1:=(List.mem_filter.mp hx).2
  have h2:=(List.mem_filter.mp hy).2
  simp only[decide_eq_true_eq] at h1 h2
  exact Prod.ext (h1.trans h2.symm) e
 sub p hp o ho:=by
  rw[Qp]
  obtain⟨one,_,rfl⟩:=List.mem_map.mp hp
  obtain⟨q,hq,rfl⟩:=List.mem_map.mp ho
  exact hs q (List.mem_filter.mp hq).1
end
end
section
noncomputable def z5{K α:Type} [DecidableEq K] (l:List (K×α)) (k:K) (v:α):List (K×α):=if l.any (fun p=>decide (p.1=k)) then l.map (fun p=>if p.1=k then (p.1,v) else p) else l++[(k,v)]
noncomputable def zX{K α:Type} [DecidableEq K] (l:List (K×α)) (k:K):Option α:=(l.find? fun p=>decide (p.1=k)).map (·.2)
noncomputable def zM{K α:Type} [DecidableEq K] (add:α→α→α) (acc:List (K×α)) (p:K×α):List (K×α):=
 match zX acc p.1 with
 | some old=>z5 acc p.1 (add old p.2)
 | none=>z5 acc p.1 p.2
noncomputable def qq{K α:Type} [DecidableEq K] (add:α→α→α) (t s:List (K×α)):List (K×α):=s.foldl (zM add) (t.foldl (fun acc p=>z5 acc p.1 p.2) [])
theorem zah{K α:Type} [DecidableEq K] (l:List (K×α)) (k:K) (v:α):(z5 l k v).length≤l.length+1:=by
 unfold z5;split<;>simp
theorem zex{K α:Type} [DecidableEq K] (add:α→α→α) (l:List (K×α)) (p:K×α):(zM add l p).length≤l.length+1:=by
 unfold zM;split<;>exact zah _ _ _
theorem jv{K α:Type} [DecidableEq K] {l:List (K×α)}{k:K}:zX l k=none↔l.any (fun p=>decide (p.1=k))=false:=by
 unfold zX
 rw[Option.map_eq_none_iff,List.find?_eq_none]
 simp
theorem zeZ{K α:Type} [DecidableEq K] {l:List (K×α)}{k:K}{v:α}(h:zX l k=some v):l.any (fun p=>decide (p.1=k))=true:=by
 cases e:l.any (fun p=>decide (p.1=k)) with
 | true=>rfl
 | false=>rw[jv.mpr e] at h;cases h
end
section
inductive VLoop (b:Array UInt8):Nat→UInt8→Nat→Nat→Nat→Nat→Prop
 | done {c v i}:c.toNat &&& 64=0→VLoop b 0 c v i v i
 | step {k c c' v i r j}:c.toNat &&& 64≠0→b[i]?=some c'→v<2^58→VLoop b k c' (v*64+(c'.toNat &&& 63)) (i+1) r j→VLoop b (k+1) c v i r j
inductive VStop (b:Array UInt8):Nat→UInt8→Nat→Nat→Prop
 | now {c v i}:c.toNat &&& 64≠0→b[i]?=none→v<2^58→VStop b 0 c v i
 | step {k c c' v i}:c.toNat &&& 64≠0→b[i]?=some c'→v<2^58→VStop b k c' (v*64+(c'.toNat &&& 63)) (i+1)→VStop b (k+1) c v i
theorem zoB(v x:Nat) (hx:x<64):(v*64) &&& x=0:=by
 have:v*64=v <<< 6:=by rw[Nat.shiftLeft_eq]
 rw[this]
 apply Nat.eq_of_testBit_eq
 intro i
 rw[Nat.testBit_and,Nat.testBit_shiftLeft,Nat.zero_testBit]
 by_cases h:6≤i
 ·have:x.testBit i=false:=Nat.testBit_lt_two_pow (Nat.lt_of_lt_of_le hx (Nat.pow_le_pow_right (n:=2) (by decide) h))
  simp[this]
 ·simp[h]
theorem zmg(x:Nat):x &&& 63<64:=Nat.lt_of_le_of_lt Nat.and_le_right (by decide)
end
section
noncomputable def qm(x:Nat):List Nat:=(([5,4,3,2,1,0]:List Nat).filter fun k=>decide (k=0)||decide (64^k≤x)).map fun k=>x/64^k%64+64*(if 0<k then 1 else 0)
noncomputable def jw(v:Nat) (l:List Nat):Nat:=l.foldl (fun v c=>v*64+c%64) v
noncomputable def zd5:List Nat→Prop
 | []=>False
 | [c]=>c/64%2=0
 | c::l=>c/64%2=1∧zd5 l
theorem zja(x:Nat):x &&& 63=x%64:=Nat.and_two_pow_sub_one_eq_mod x 6
theorem zmH(x:Nat):(x &&& 64=0)↔x/64%2=0:=by
 have h:x &&& 2^6=if x.testBit 6=true then 2^6 else 0:=by
  apply Nat.eq_of_testBit_eq
  intro j
  rw[Nat.testBit_and,Nat.testBit_two_pow]
  by_cases e:6=j
  ·subst e
   by_cases h:x.testBit 6=true
   ·rw[if_pos h,Nat.testBit_two_pow];simp[h]
   ·simp[h]
  ·by_cases h:x.testBit 6=true
   ·rw[if_pos h,Nat.testBit_two_pow];simp[e]
   ·simp[h,e]
 rw[show(64:Nat)=2^6 from rfl,h,Nat.testBit_eq_decide_div_mod_eq]
 rcases Nat.mod_two_eq_zero_or_one (x/2^6) with h | h<;>simp[h]
noncomputable def dn:Nat→List Nat
 | 0=>[]
 | n+1=>(dn n).map (·+1)++[0]
noncomputable def gq(q k:Nat):Nat:=q/64^k%64+64
theorem zhZ(q k:Nat):q/64^(k+1)=q/64/64^k:=by rw[Nat.div_div_eq_div_mul,Nat.pow_succ,Nat.mul_comm]
theorem zkb(q k:Nat):64^(k+1)≤q↔64^k≤q/64:=by rw[Nat.pow_succ];exact(Nat.le_div_iff_mul_le (by decide)).symm
theorem za4{p:Nat→Bool}{p':Nat→Bool}{f f':Nat→Nat}(hp:∀k,p (k+1)=p' k) (hf:∀k,f (k+1)=f' k):∀ks:List Nat,((ks.map (·+1)).filter p).map f=(ks.filter p').map f'
 | []=>rfl
 | k::ks=>by
  rw[List.map_cons,List.filter_cons,List.filter_cons,hp]
  cases p' k
  ·exact za4 hp hf ks
  ·show f (k+1)::_=f' k::_
   rw[hf,za4 hp hf ks]
noncomputable def zpR(q:Nat) (l:List Nat):Prop:=jw 0 l=q∧∀y∈l,y/64%2=1∧y<128
theorem zoE(r:Nat):(r%64+64)/64%2=1∧r%64+64<128:=by
 have h:=Nat.mod_lt r (show 0<64 by decide)
 rw[Nat.add_div_right _ (by decide),Nat.div_eq_of_lt h]
 exact⟨rfl,Nat.add_lt_add_right h 64⟩
theorem zdT(v:Nat) (l:List Nat) (c:Nat):jw v (l++[c])=jw v l*64+c%64:=List.foldl_append
theorem zkn:∀n q,q<64^n→zpR q (((dn n).filter fun k=>decide (64^k≤q)).map (gq q))
 | 0,q,h=>⟨(Nat.lt_one_iff.mp h).symm,fun y hy=>by cases hy⟩
 | n+1,q,h=>by
  obtain⟨h1,h2⟩:=zkn n (q/64) (Nat.div_lt_of_lt_mul (by rw[Nat.mul_comm];exact h))
  unfold dn
  rw[List.filter_append,List.map_append,za4 (f':=gq (q/64)) (fun k=>decide_eq_decide.mpr (zkb q k)) (fun k=>congrArg (·%64+64) (zhZ q k))]
  by_cases hq:1≤q
  ·rw[show List.filter (fun k=>decide (64^k≤q)) [0]=[0] from List.filter_cons_of_pos (decide_eq_true (p:=64^0≤q) hq)]
   refine⟨?_,fun y hy=>?_⟩
   ·refine(zdT _ _ _).trans ?_
    rw[h1,gq,Nat.add_mod_right,Nat.mod_mod,Nat.pow_zero,Nat.div_one]
    exact Nat.div_add_mod' q 64
   ·rcases List.mem_append.mp hy with h | h
    ·exact h2 y h
    ·cases List.mem_singleton.mp h
     exact zoE _
  ·rw[show List.filter (fun k=>decide (64^k≤q)) [0]=[] from List.filter_cons_of_neg (mt of_decide_eq_true hq)]
   obtain rfl:q=0:=Nat.eq_zero_of_not_pos hq
   rw[List.map_nil,List.append_nil]
   exact⟨h1,h2⟩
theorem zlB(x:Nat):qm x=(((dn 5).filter fun k=>decide (64^k≤x/64)).map (gq (x/64)))++[x%64]:=by
 show List.map _ (List.filter _ ((dn 5).map (·+1)++[0]))=_
 rw[List.filter_append,List.map_append,za4 (fun k=>?_) (fun k=>?_)]
 ·show _++[x/1%64]=_
  rw[Nat.div_one]
 ·exact decide_eq_decide.mpr (zkb x k)
 ·exact congrArg (·%64+64) (zhZ x k)
theorem zb6{r:Nat}(hr:r<64):∀l:List Nat,(∀y∈l,y/64%2=1∧y<128)→zd5 (l++[r])
 | [],_=>by show r/64%2=0;rw[Nat.div_eq_of_lt hr]
 | [c],h=>⟨(h c (.head _)).1,zb6 hr [] fun _ h=>nomatch h⟩
 | c::d::l,h=>⟨(h c (.head _)).1,zb6 hr (d::l) fun y hy=>h y (.tail _ hy)⟩
theorem JU{x:Nat}(hx:x<64^6):∃c l,qm x=c::l∧zd5 (c::l)∧jw (c%64) l=x∧l.length≤5∧∀y∈c::l,y<128:=by
 have hr:=Nat.mod_lt x (show 0<64 by decide)
 have hd:=Nat.div_add_mod' x 64
 obtain⟨h1,h2⟩:=zkn 5 (x/64) (Nat.div_lt_of_lt_mul hx)
 have hl:(((dn 5).filter fun k=>decide (64^k≤x/64)).map (gq (x/64))).length≤5:=by rw[List.length_map];exact List.length_filter_le _ _
 rw[zlB]
 generalize ((dn 5).filter fun k=>decide (64^k≤x/64)).map (gq (x/64))=E at *
 have hc:=zb6 hr E h2
 have hy:∀y∈E++[x%64],y<128:=fun y hy=>(List.mem_append.mp hy).elim (fun h=>(h2 y h).2) fun h=>by cases List.mem_singleton.mp h;exact Nat.lt_trans hr (by decide)
 cases E with
 | nil=>
  have e:0=x/64:=h1
  rw[←e,Nat.zero_mul,Nat.zero_add] at hd
  exact⟨_,_,rfl,hc,(Nat.mod_mod x 64).trans hd,Nat.zero_le _,hy⟩
 | cons y E=>
  refine⟨_,_,rfl,hc,?_,?_,hy⟩
  ·have:=zdT 0 (y::E) (x%64)
   rw[h1,Nat.mod_mod,hd,List.cons_append] at this
   refine Eq.trans ?_ this
   show _=jw (0*64+y%64) _
   rw[Nat.zero_mul,Nat.zero_add];rfl
  ·exact Nat.le_trans (Nat.le_of_eq List.length_append) hl
noncomputable def Here(b:Array UInt8) (i:Nat) (l:List Nat):Prop:=∀j x,l[j]?=some x→∃c,b[i+j]?=some c∧c.toNat=x
theorem Here.tail{b:Array UInt8}{i:Nat}{x:Nat}{l:List Nat}(h:Here b i (x::l)):Here b (i+1) l:=fun j y e=>by
 obtain⟨c,h1,h2⟩:=h (j+1) y (by simpa using e)
 exact⟨c,by rw[show i+1+j=i+(j+1) from Nat.add_right_comm i 1 j];exact h1,h2⟩
theorem zjX{k:Nat}(h:k≤6):64^k≤2^58:=Nat.le_trans (Nat.pow_le_pow_right (by decide) h) (by decide)
theorem zfK{b:Array UInt8}:∀(l:List Nat) (c:UInt8) (v i m:Nat),zd5 (c.toNat::l)→Here b i l→v<64^m→m+l.length≤6→∃k,VLoop b k c v i (jw v l) (i+l.length)
 | [],c,v,i,m,hc,hh,hv,hm=>⟨0,.done ((zmH _).mpr hc)⟩
 | x::l,c,v,i,m,hc,hh,hv,hm=>by
  obtain⟨h1,h2⟩:=hc
  obtain⟨c',hb,rfl⟩:=hh 0 x rfl
  have h64:¬(c.toNat &&& 64=0):=fun h=>by rw[zmH,h1] at h;cases h
  have hv':v*64+(c'.toNat &&& 63)<64^(m+1):=by
   rw[Nat.pow_succ,zja]
   exact Nat.lt_of_lt_of_le (Nat.add_lt_add_left (Nat.mod_lt _ (by decide)) _) (Nat.succ_mul v 64▸Nat.mul_le_mul_right 64 hv)
  have hm':m+1+l.length≤6:=Nat.le_trans (Nat.le_of_eq (Nat.add_right_comm m 1 l.length)) hm
  obtain⟨k,hk⟩:=zfK l c' (v*64+(c'.toNat &&& 63)) (i+1) (m+1) h2 hh.tail hv' hm'
  refine⟨k+1,.step h64 hb (Nat.lt_of_lt_of_le hv (zjX (Nat.le_trans (Nat.le_add_right _ _) hm))) ?_⟩
  have e1:jw v (c'.toNat::l)=jw (v*64+(c'.toNat &&& 63)) l:=by rw[zja];rfl
  rw[e1,show i+(c'.toNat::l).length=i+1+l.length from Nat.add_right_comm i l.length 1];exact hk
theorem zh3{o e:Nat}(he:e=0∨e=128):(o+e)/64%2=o/64%2:=by
 rcases he with rfl | rfl
 ·rfl
 ·rw[Nat.add_mul_div_right o 2 (by decide:0<64),Nat.add_mod_right]
theorem add_mod{o e:Nat}(he:e=0∨e=128):(o+e)%64=o%64:=by
 rcases he with rfl | rfl
 ·rfl
 ·exact Nat.add_mul_mod_self_right o 2 64
noncomputable def zfz(b:Array UInt8) (i r j:Nat):Prop:=∃c k,b[i]?=some c∧VLoop b k c (c.toNat &&& 63) (i+1) r j
theorem zfJ{b:Array UInt8}{x i e:Nat}(hx:x<64^6) (he:e=0∨e=128) (hh:∃o l,qm x=o::l∧Here b i ((o+e)::l)):zfz b i x (i+(qm x).length):=by
 obtain⟨o,l,ho,hh⟩:=hh
 obtain⟨c,l',h1,h2,h3,h4,h5⟩:=JU hx
 rw[ho] at h1;cases h1
 have h4':=h4
 obtain⟨c',hb,hc'⟩:=hh 0 _ rfl
 have hch:zd5 (c'.toNat::l):=by
  rw[hc']
  cases l with
  | nil=>exact(zh3 he).trans h2
  | cons y l=>exact⟨(zh3 he).trans h2.1,h2.2⟩
 have hmod:c'.toNat &&& 63=o%64:=by rw[zja,hc'];exact add_mod he
 obtain⟨k,hk⟩:=zfK (b:=b) l c' (c'.toNat &&& 63) (i+1) 1 hch hh.tail (by rw[hmod];exact Nat.mod_lt _ (by decide)) (by rw[Nat.add_comm];exact Nat.succ_le_succ h4')
 rw[hmod,h3] at hk
 refine⟨c',k,hb,?_⟩
 rw[ho,List.length_cons,hmod,show i+(l.length+1)=i+1+l.length from Nat.add_right_comm i l.length 1]
 exact hk
end
section
noncomputable def qM(row:List Nat):List Nat:=match row.flatMap qm with
 | []=>[]
 | c::l=>(128+c)::l
noncomputable def Qo(rows:List (List Nat)):List Nat:=rows.flatMap qM
inductive Reads (b:Array UInt8):Nat→List Nat→Nat→Prop
 | nil (i):Reads b i [] i
 | cons {i x j l k}:zfz b i x j→Reads b j l k→Reads b i (x::l) k
theorem Reads.append{b:Array UInt8}{i j k:Nat}{l m:List Nat}(h:Reads b i l j) (h':Reads b j m k):Reads b i (l++m) k:=by
 induction h with
 | nil=>exact h'
 | cons hv _ ih=>exact .cons hv (ih h')
theorem Here.left{b:Array UInt8}{i:Nat}{l m:List Nat}(h:Here b i (l++m)):Here b i l:=fun j x e=>h j x (by
 rw[List.getElem?_append_left (List.getElem?_eq_some_iff.mp e).1];exact e)
theorem Here.right{b:Array UInt8}{i:Nat}{l m:List Nat}(h:Here b i (l++m)):Here b (i+l.length) m:=fun j x e=>by
 obtain⟨c,h1,h2⟩:=h (l.length+j) x (by rw[List.getElem?_append_right (by lia)];simpa using e)
 exact⟨c,by rw[Nat.add_assoc];exact h1,h2⟩
theorem zcu{b:Array UInt8}:∀(row:List Nat) (i:Nat),(∀x∈row,x<64^6)→Here b i (row.flatMap qm)→Reads b i row (i+(row.flatMap qm).length)
 | [],i,_,_=>.nil _
 | x::row,i,hx,hh=>by
  rw[List.flatMap_cons] at hh ⊢
  obtain⟨c,l,ho,_⟩:=JU (hx x List.mem_cons_self)
  have h1:=zfJ (b:=b) (x:=x) (i:=i) (e:=0) (hx x List.mem_cons_self) (.inl rfl) ⟨c,l,ho,ho▸hh.left⟩
  have h2:=zcu row (i+(qm x).length) (fun y hy=>hx y (List.mem_cons_of_mem _ hy)) hh.right
  rw[List.length_append,←Nat.add_assoc]
  exact .cons h1 h2
theorem zaw(row:List Nat):(qM row).length=(row.flatMap qm).length:=by
 unfold qM
 cases row.flatMap qm<;>rfl
theorem zjO{b:Array UInt8}{row:List Nat}{i:Nat}(hx:∀x∈row,x<64^6) (hh:Here b i (qM row)):Reads b i row (i+(qM row).length):=by
 cases row with
 | nil=>exact .nil _
 | cons x row=>
  obtain⟨c,l,ho,_⟩:=JU (hx x List.mem_cons_self)
  have e:qM (x::row)=(128+c)::l++row.flatMap qm:=by
   unfold qM;rw[List.flatMap_cons,ho];rfl
  rw[e] at hh ⊢
  have h1:=zfJ (b:=b) (x:=x) (i:=i) (e:=128) (hx x List.mem_cons_self) (.inr rfl) ⟨c,l,ho,by rw[Nat.add_comm c 128];exact hh.left⟩
  have h2:=zcu row _ (fun y hy=>hx y (List.mem_cons_of_mem _ hy)) hh.right
  rw[List.length_append,←Nat.add_assoc]
  rw[show((128+c)::l).length=(qm x).length from by rw[ho];rfl] at h2 ⊢
  exact .cons h1 h2
theorem zdj{b:Array UInt8}:∀(rows:List (List Nat)) (i:Nat),(∀r∈rows,∀x∈r,x<64^6)→Here b i (Qo rows)→Reads b i rows.flatten (i+(Qo rows).length)
 | [],i,_,_=>.nil _
 | r::rows,i,hx,hh=>by
  unfold Qo at hh ⊢
  rw[List.flatMap_cons] at hh ⊢
  rw[List.flatten_cons,List.length_append,←Nat.add_assoc]
  exact(zjO (hx r List.mem_cons_self) hh.left).append (zdj rows _ (fun r' h=>hx r' (List.mem_cons_of_mem _ h)) hh.right)
noncomputable def qP(l:List Nat):Array UInt8:=(l.map Nat.toUInt8).toArray
theorem Jc{l:List Nat}{i x:Nat}(h:l[i]?=some x) (hx:x<256):∃c,(qP l)[i]?=some c∧c.toNat=x:=by
 refine⟨x.toUInt8,?_,?_⟩
 ·unfold qP;simp[h]
 ·simp[Nat.mod_eq_of_lt hx]
theorem J9{l:List Nat}{i:Nat}(h:l.length≤i):(qP l)[i]?=none:=by
 unfold qP;simp;exact h
theorem znk{x y:Nat}(hx:x<64^6) (h:y∈qm x):y<128:=by
 obtain⟨c,l,ho,_,_,_,h5⟩:=JU hx
 exact h5 y (ho▸h)
theorem za1{x:Nat}(hx:x<64^6):(qm x).length≤6∧1≤(qm x).length:=by
 obtain⟨c,l,ho,_,_,h4,_⟩:=JU hx
 rw[ho,List.length_cons];lia
theorem zig{row:List Nat}(hx:∀x∈row,x<64^6):∀y∈qM row,y<256:=by
 have hf:∀y∈row.flatMap qm,y<128:=fun y hy=>by
  obtain⟨x,h1,h2⟩:=List.mem_flatMap.mp hy
  exact znk (hx x h1) h2
 unfold qM
 cases e:row.flatMap qm with
 | nil=>simp
 | cons c l=>
  rw[e] at hf
  intro y hy
  rcases List.mem_cons.mp hy with rfl | hy
  ·have:=hf c List.mem_cons_self;lia
  ·have:=hf y (List.mem_cons_of_mem _ hy);lia
theorem zeC{rows:List (List Nat)}(hx:∀r∈rows,∀x∈r,x<64^6):∀y∈Qo rows,y<256:=fun y hy=>by
 obtain⟨r,h1,h2⟩:=List.mem_flatMap.mp hy
 exact zig (hx r h1) y h2
theorem je{α β:Type}{f:α→List β}{k:Nat}:∀{l:List α},(∀x∈l,(f x).length≤k)→(l.flatMap f).length≤l.length*k
 | [],_=>by simp
 | a::l,h=>by
  rw[List.flatMap_cons,List.length_append,List.length_cons,Nat.add_mul]
  have:=h a List.mem_cons_self
  have:=je fun x hx=>h x (List.mem_cons_of_mem _ hx)
  lia
noncomputable def qB(torn:Nat):List Nat:=([64,65]:List Nat).take torn
noncomputable def zgU(b:Array UInt8) (i:Nat):Prop:=b[i]?=none∨∃c k,b[i]?=some c∧VStop b k c (c.toNat &&& 63) (i+1)
theorem zkw{tape:List Nat}{torn:Nat}(ht:torn≤2):zgU (qP (tape++qB torn)) tape.length:=by
 rcases torn with _ | _ | _ | t
 ·exact .inl (J9 (by simp[qB]))
 ·obtain⟨c,h1,h2⟩:=Jc (l:=tape++qB 1) (i:=tape.length) (x:=64) (by rw[List.getElem?_append_right (by lia)];simp[qB]) (by decide)
  exact .inr ⟨c,0,h1,.now (by rw[h2];decide) (J9 (by simp[qB])) (by rw[h2];decide)⟩
 ·obtain⟨c,h1,h2⟩:=Jc (l:=tape++qB 2) (i:=tape.length) (x:=64) (by rw[List.getElem?_append_right (by lia)];simp[qB]) (by decide)
  obtain⟨c',h3,h4⟩:=Jc (l:=tape++qB 2) (i:=tape.length+1) (x:=65) (by rw[List.getElem?_append_right (by lia)];simp[qB]) (by decide)
  exact .inr ⟨c,1,h1,.step (by rw[h2];decide) h3 (by rw[h2];decide) (.now (by rw[h4];decide) (J9 (by simp[qB])) (by rw[h2,h4];decide))⟩
 ·lia
theorem zkl{tape:List Nat}{rest:List Nat}(h:∀y∈tape,y<256):Here (qP (tape++rest)) 0 tape:=fun j x e=>by
 rw[Nat.zero_add]
 exact Jc (by rw[List.getElem?_append_left (List.getElem?_eq_some_iff.mp e).1];exact e) (h x (List.mem_of_getElem? e))
theorem zbO:∀(rows:List (List Nat)),(∀r∈rows,∀x∈r,x<64^6)→rows.flatten.length≤(Qo rows).length
 | [],_=>by simp
 | r::rows,hx=>by
  have h1:=zbO rows fun r' h=>hx r' (List.mem_cons_of_mem _ h)
  have h2:∀(row:List Nat),(∀x∈row,x<64^6)→row.length≤(row.flatMap qm).length:=by
   intro row
   induction row with
   | nil=>simp
   | cons x row ih=>
    intro h
    have:=za1 (h x List.mem_cons_self)
    have:=ih fun y hy=>h y (List.mem_cons_of_mem _ hy)
    rw[List.flatMap_cons,List.length_append,List.length_cons];lia
  have h3:=h2 r (hx r List.mem_cons_self)
  unfold Qo at h1 ⊢
  rw[List.flatten_cons,List.flatMap_cons,List.length_append,List.length_append,zaw]
  lia
theorem zlj{rows:List (List Nat)}(hx:∀r∈rows,∀x∈r,x<64^6) (h3:∀r∈rows,r.length≤3):(Qo rows).length≤rows.length*18:=by
 refine je fun r hr=>?_
 rw[zaw]
 refine Nat.le_trans (je (k:=6) fun x hx'=>(za1 (hx r hr x hx')).1) ?_
 have:=h3 r hr;lia
end
section
open PySem PySem.StrLaws PySem.Builtin PySem.Builtin.Str
noncomputable abbrev zJ:Str:=", "
theorem zeG:zJ.cps.toList=[44,32]:=by decide +kernel
noncomputable def zfA(p:Str):Prop:=44∉p.cps.toList
theorem zeq{L:List Nat}{a:Nat}{p m:List Nat}(h:L.drop a=p++m) (j:Nat):(L.drop (a+j))=(p++m).drop j:=by
 rw[←List.drop_drop,h]
theorem zgO{x:Str}{k:Nat}:At x zJ x.length k↔∃m,x.cps.toList.drop k=44::32::m:=by
 have hlen:zJ.length=2:=by decide +kernel
 have hx:x.cps.toList.length=x.length:=by simp[Str.length]
 unfold At
 rw[subAt_eq,zeG,hlen,beq_iff_eq]
 constructor
 ·intro q4_
  refine zR q4_ fun _ h=>?_
  refine⟨(x.cps.toList.drop k).drop 2,?_⟩
  have:=List.take_append_drop 2 (x.cps.toList.drop k)
  rw[h] at this
  exact this.symm
 ·intro q3_
  refine Exists.elim q3_ fun m h=>?_
  refine⟨?_,by rw[h];rfl⟩
  have:=congrArg List.length h
  simp only[List.length_drop,hx,List.length_cons] at this
  omega
theorem zdr{x:Str}:∀(l:List Str) (a f:Nat) (cuts:List Nat),l≠[]→(∀p∈l,zfA p)→x.cps.toList.drop a=(Str.join zJ l).cps.toList→a≤x.length→ChainG x zJ x.length a cuts f→(∀k,f≤k→¬At x zJ x.length k)→partsFrom x zJ.length a cuts=l
 | [],_,_,_,h,_,_,_,_,_=>absurd rfl h
 | [p],a,f,cuts,_,hp,hd,ha,hc,hf=>by
  have hx:x.cps.toList.length=x.length:=by simp[Str.length]
  have hd':x.cps.toList.drop a=p.cps.toList:=hd
  have none:∀k,a≤k→¬At x zJ x.length k:=fun k hk hat=>by
   refine Exists.elim (zgO.mp hat) fun m hm=>?_
   have e:x.cps.toList.drop k=p.cps.toList.drop (k-a):=by
    have:=zeq (p:=p.cps.toList) (m:=[]) (by simpa using hd') (k-a)
    rw[show a+(k-a)=k from by lia] at this
    simpa using this
   refine hp p (List.mem_singleton.mpr rfl) ?_
   refine List.mem_of_mem_drop (i:=k-a) ?_
   rw[←e,hm];exact List.mem_cons_self
  cases cuts with
  | cons c r=>exact absurd hc.2.1 (none c hc.1)
  | nil=>
   show [strSub x a x.length]=[p]
   congr 1
   apply Str.ext'
   apply Array.toList_inj.mp
   rw[strSub_toList,hd']
   refine List.take_of_length_le ?_
   have:=congrArg List.length hd'
   rw[List.length_drop,hx] at this
   lia
 | p::q::r,a,f,cuts,_,hp,hd,ha,hc,hf=>by
  have hx:x.cps.toList.length=x.length:=by simp[Str.length]
  have hd':x.cps.toList.drop a=p.cps.toList++(44::32::(Str.join zJ (q::r)).cps.toList):=by
   rw[hd]
   show(p++zJ++Str.join zJ (q::r)).cps.toList=_
   rw[Str.cps_append,Str.cps_append,Array.toList_append,Array.toList_append,zeG,List.append_assoc];rfl
  have hlen:a+p.cps.toList.length+2≤x.length:=by
   have:=congrArg List.length hd'
   simp only[List.length_drop,hx,List.length_append,List.length_cons] at this
   lia
  have e0:x.cps.toList.drop (a+p.cps.toList.length)=44::32::(Str.join zJ (q::r)).cps.toList:=by
   rw[zeq hd',List.drop_left]
  have hat:At x zJ x.length (a+p.cps.toList.length):=zgO.mpr ⟨_,e0⟩
  have early:∀k,a≤k→k<a+p.cps.toList.length→¬At x zJ x.length k:=fun k hk hk2 hat=>by
   refine Exists.elim (zgO.mp hat) fun m hm=>?_
   have e:=zeq hd' (k-a)
   rw[show a+(k-a)=k from by lia,List.drop_append_of_le_length (by lia),hm] at e
   have hne:p.cps.toList.drop (k-a)≠[]:=fun q=>by
    have:=congrArg List.length q
    simp only[List.length_drop,List.length_nil] at this
    lia
   refine Zu (List.exists_cons_of_ne_nil hne) fun y ys hy=>?_
   rw[hy] at e
   have e44:y=44:=by
    have:=congrArg List.head? e
    simpa using this.symm
   refine hp p List.mem_cons_self ?_
   refine List.mem_of_mem_drop (i:=k-a) ?_
   rw[hy,e44];exact List.mem_cons_self
  have h2:zJ.length=2:=by decide +kernel
  cases cuts with
  | nil=>
   have ef:f=a:=hc
   exact absurd hat (hf _ (by lia))
  | cons c rest=>
   refine Ja hc fun h1 hcat hfirst hrest=>?_
   have ec:c=a+p.cps.toList.length:=by
    rcases Nat.lt_trichotomy c (a+p.cps.toList.length) with h | h | h
    ·exact absurd hcat (early c h1 h)
    ·exact h
    ·exact absurd hat (hfirst _ (by lia) h)
   subst ec
   have ih:=zdr (q::r) (a+p.cps.toList.length+2) f rest (by simp) (fun y hy=>hp y (List.mem_cons_of_mem _ hy)) ?_ hlen (by rw[h2] at hrest;exact hrest) hf
   ·show strSub x a (a+p.cps.toList.length)::partsFrom x zJ.length (a+p.cps.toList.length+zJ.length) rest=p::q::r
    rw[h2] at ih ⊢
    rw[ih]
    congr 1
    apply Str.ext'
    apply Array.toList_inj.mp
    rw[strSub_toList,hd',Nat.add_sub_cancel_left,List.take_left]
   ·rw[←List.drop_drop,e0];rfl
theorem zdg{l:List Str}(h:l≠[]) (hp:∀p∈l,zfA p):Txt.split (Txt.join zJ l) zJ=l:=by
 have ej:Txt.join zJ l=Str.join zJ l:=StrLaws.glued_eq_join _ _
 rw[ej]
 refine zd (occ_tight (Str.join zJ l) zJ (by decide +kernel)) fun f hG hn=>?_
 have key:=zdr l 0 f _ h hp (by rw[List.drop_zero]) (Nat.zero_le _) hG hn
 unfold Txt.split
 split
 ·rename_i hc
  cases l with
  | nil=>exact absurd rfl h
  | cons p r=>
   cases r with
   | nil=>rfl
   | cons q r=>
    exfalso
    rw[Bool.or_eq_true,decide_eq_true_eq,decide_eq_true_eq] at hc
    rcases hc with hc | hc
    ·have h2:zJ.length=2:=by decide +kernel
     have:(Str.join zJ (p::q::r)).length=p.length+2+(Str.join zJ (q::r)).length:=by
      show(p++zJ++Str.join zJ (q::r)).cps.size=_
      rw[Str.cps_append,Str.cps_append,Array.size_append,Array.size_append]
      show p.length+zJ.length+_=_
      rw[h2];rfl
     lia
    ·have h1:PySem.Builtin.Str.strKind zJ=1:=by decide +kernel
     rw[h1] at hc
     revert hc
     unfold PySem.Builtin.Str.strKind
     split
     ·lia
     ·split<;>lia
 ·split
  ·rename_i he
   have e0:occurrences (Str.join zJ l) zJ 0 (Str.join zJ l).length ((Str.join zJ l).length+1)=[]:=List.isEmpty_iff.mp he
   rw[e0] at key
   refine Eq.trans ?_ key
   show _=[strSub (Str.join zJ l) 0 (Str.join zJ l).length]
   rw[sub_whole]
  ·rw[partsBetween_eq];exact key
end
section
open PySem
noncomputable def zbN:List Nat:=[29,61,17,27,50,5162,112044,8042,147]
noncomputable abbrev ZG:=Nat×Nat×Nat
noncomputable def zee(a p k:Nat):List ZG:=[(a%k,k,p%40),(a/4%5,k,p/40%40),(a/20%5,k,p/1600)]
noncomputable def QT(row:List ZG):List (Nat×Int×Int):=
 row.foldl (fun acc r=>z5 acc r.1 ((((row.map (·.1)).countP (fun t=>decide (t=r.1)):Nat):Int),(((row.filter fun c=>decide (c.1=r.1)).map fun c=>((c.2.2:Nat):Int)).sum))) []
end
section
open PySem PySem.W
variable {G:Gx}{n:Nat}{env:Env}{ρ:Rho}{σ:Sig}
structure Fn (G:Gx) (i:Nat) (a:Addr):Prop where
 glob:G.mg (zbR (ze i))=some (.ref a)
 ok:FnOk G a (zo (ze i)) (ZB (ze i)) (zu (ze i))
noncomputable def j1:List (Int×Str):=[(1,"OPTIMIZED"),(2,"NEWLOCALS"),(4,"VARARGS"),(8,"VARKEYWORDS"),(16,"NESTED"),(32,"GENERATOR"),(64,"NOFREE"),(128,"COROUTINE"),(256,"ITERABLE_COROUTINE"),(512,"ASYNC_GENERATOR")]
noncomputable def JZ:List Nat:=[3,4,7,8,12,13,14,15,16,17,18,19,20]
noncomputable def znT:Stmt→Str
 | .ClassDef n ..=>n
 | _=>""
structure Cls (G:Gx) (K:Frag) (i:Nat) (C:Addr) (ms:List Nat) (attrs:List Str) (fm:Nat→Addr):Prop where
 kls:Kls G K C
 glob:G.mg (znT (ze i))=some (.ref C)
 find:∀j∈ms,findIn K (.ref C) (zbR (ZH (ze i) j))=some (some (.ref (fm j)))
 typ:∀j∈ms,typeIn K (.ref (fm j))=some (.type "function")
 fn:∀j∈ms,FnOk G (fm j) (zo (ZH (ze i) j)) (ZB (ZH (ze i) j)) (zu (ZH (ze i) j))
 attr:∀x∈attrs,findIn K (.ref C) x=some none
structure Top (G:Gx) where
 fa:Nat→Addr
 fn:∀i∈JZ,Fn G i (fa i)
 /-- the code table that grows is that of add_callers -/
 code3:∀o fd,G.h₀.get? (fa 3)=some o→o.data=.func fd→fd.code=.ref G.cX
 K:Frag
 cT:Addr
 mT:Nat→Addr
 clsT:Cls G K 2 cT [0,1] ["comp_select_list"] mT
 cW:Addr
 mW:Nat→Addr
 clsW:Cls G K 10 cW [1,2,3,6] ["raw","n","nt","norm","is_simple"] mW
 rdW:readsIn K cW (.type "type")=true
 sW:∃t,findCls K (.ref cW) (.type "type") "S"=some (.val (.str " " t))
 tW:∃t,findCls K (.ref cW) (.type "type") "T"=some (.val (.str "\t" t))
 flags:GlobD G "COMPILER_FLAG_NAMES" (.dicI (j1.map fun p=>(p.1,.str p.2)))
 blt:∀x∈([("len":Str),"range","isinstance","tuple","zip","hex","next","iter","bytes","StopIteration","enumerate","dict","sum","min","max","int","set","all"]:List Str),G.mg x=none
theorem zay{ts vs:List Expr}{k k':Nat}{p p':Pos}{x:Str}{px:Pos}{sc:Scope}(i:Nat) (hE:EnvOk env sc) (hm:ts[i]?=some (.Name x px)) (hx:sc.names.lookup x=some .cell):swappedStores [.Tuple ts k p] (.Tuple vs k' p') env=pure none:=
 zm4 (List.mem_of_getElem? hm) (hE.kind _ _ hx (by decide))
noncomputable def zpF(sc:Scope) (i:Nat) (x:Str):Bool:=decide (sc.names.lookup x=some .globalImplicit)&&(decide (zbR (ze i)=x)&&(decide (i∈JZ)&&!(x==("__debug__":Str))))
theorem qZ(T:Top G) {sc:Scope}(hE:EnvOk env sc) (i:Nat) {x:Str} {pos}(h:zpF sc i x=true):PE G n env (.Name x pos) ρ σ (.raw (.ref (T.fa i))):=
 have h1:=Bool.and_eq_true_iff.mp h
 have h2:=Bool.and_eq_true_iff.mp h1.2
 have h3:=Bool.and_eq_true_iff.mp h2.2
 jr (hE.glob (of_decide_eq_true h1.1)) (of_decide_eq_true h2.1▸(T.fn i (of_decide_eq_true h3.1)).glob) (Bool.not_eq_true' _ |>.mp h3.2)
theorem ZN(T:Top G) {i:Nat}(hi:i∈JZ):ji G σ (.ref (T.fa i)):=by
 refine Zk ((T.fn i hi).ok.ex) fun o fd h1 h2 _=>?_
 exact zgi h1 (T.fn i hi).ok.ne h2
theorem ju{K:Frag}{i:Nat}{C:Addr}{ms:List Nat}{attrs:List Str}{fm:Nat→Addr}(k:Cls G K i C ms attrs fm) {j:Nat}(hj:j∈ms):ji G σ (.ref (fm j)):=by
 refine Zk ((k.fn j hj).ex) fun o fd h1 h2 _=>?_
 exact zgi h1 (k.fn j hj).ne h2
theorem jx(T:Top G) {i:Nat}(hi:i∈JZ) {ds:List D}{d:D}(hsc:qk (zo (ze i)) (ZB (ze i))=true) (hl:ds.length=(ZB (ze i)).length) {ρ₀:Rho}(hz:(ZB (ze i)).zip ds=ρ₀)
  (hb:∀env,EnvOk env (zo (ze i))→X G n env (zu (ze i)) ρ₀ [] (ZU fun d' _=>d'=d)):CallJ G (n+1) σ (.ref (T.fa i)) ds d:=zaJ (T.fn i hi).ok hsc hl (hz▸hb)
theorem zl9(T:Top G) {ds:List D}{d:D}(hsc:qk (zo (ze 3)) (ZB (ze 3))=true) (hl:ds.length=(ZB (ze 3)).length) {ρ₀:Rho}(hz:(ZB (ze 3)).zip ds=ρ₀)
  (hb:∀env,EnvOk env (zo (ze 3))→env.code=.ref G.cX→X G n env (zu (ze 3)) ρ₀ [] (ZU fun d' _=>d'=d)):CallJ G (n+1) σ (.ref (T.fa 3)) ds d:=zgw (T.fn 3 (by decide)).ok hsc hl fun env hE hc=>hz▸hb env hE (by
  refine Zk ((T.fn 3 (by decide)).ok.ex) fun o fd h1 h2 _=>?_
  rw[hc o fd h1 h2,T.code3 o fd h1 h2])
theorem zc0(T:Top G) {i:Nat}(hi:i∈JZ) {ds:List D}{d:D}{a:Addr}{mo mo':MO}(hsc:qk (zo (ze i)) (ZB (ze i))=true) (hl:ds.length=(ZB (ze i)).length) {ρ₀:Rho}(hz:(ZB (ze i)).zip ds=ρ₀)
  (hb:∀env,EnvOk env (zo (ze i))→X G n env (zu (ze i)) ρ₀ [(a,mo)] (ZU fun d' σ'=>d'=d∧(a,mo')∈σ')):CallM G (n+1) (.ref (T.fa i)) ds a mo d mo':=zoM (T.fn i hi).ok hsc hl (hz▸hb)
theorem zI{scope:Scope}{names:List Str}(h:(names.all fun x=>scope.names.lookup x==some .local||scope.names.lookup x==some .cell)=true):∀x∈names,OwnName scope x:=fun x hx=>by
 have:=List.all_eq_true.mp h x hx
 simp only[Bool.or_eq_true,beq_iff_eq] at this
 exact this
theorem zw{names:List Str}{ρ:Rho}(h:(names.all fun x=>ρ.all fun p=>decide (x≠p.1))=true):∀x∈names,ρ.lookup x=none:=fun x hx=>
 List.lookup_eq_none_iff.mpr fun p hp=>bne_iff_ne.mpr (of_decide_eq_true (List.all_eq_true.mp (List.all_eq_true.mp h x hx) p hp))
noncomputable def zgM:List Str:=([("len":Str),"range","isinstance","tuple","zip","hex","next","iter","bytes","StopIteration","enumerate","dict","sum","min","max","int","set","all"]:List Str)
theorem zkR:∀x∈zgM,x≠"__name__"∧(x==("__debug__":Str))=false:=by decide +kernel
noncomputable def zpz(sc:Scope) (x:Str):Bool:=decide (sc.names.lookup x=some .globalImplicit)&&decide (x∈zgM)
theorem zq(T:Top G) {sc:Scope}(hE:EnvOk env sc) {x:Str} {pos}{v:Value}(hk:zpz sc x=true) (hb:bootBuiltins x=some v):PE G n env (.Name x pos) ρ σ (.raw v):=
 have h:=Bool.and_eq_true_iff.mp hk
 have hm:=of_decide_eq_true h.2
 ziz (hE.glob (of_decide_eq_true h.1)) (T.blt x hm) hb (zkR x hm).1 (zkR x hm).2
theorem zaO{e:Expr}{t:Option Expr}{line:Nat}(h:qc e=false):swapsWith e t line env=pure false:=by
 cases e<;>first | rfl | exact Bool.noConfusion h
theorem ZZ{e t:Expr}{line:Nat}(h:qc e=false):swapsWithSole [t] e line env=pure false:=zaO h
theorem z4{x:Str}{px pos:Pos}{e:Expr}{P:Out→Prop}(hk:zG env x) (h:Y G n env e ρ σ fun d σ'=>P (.next ((x,d)::ρ) σ')) (hs:qc e=false:=by rfl):X1 G n env (.Assign [.Name x px] e pos) ρ σ P:=zfE h hk (zaO hs)
theorem zbA{x:Str}{px pos:Pos}{e:Expr}{P:Out→Prop}{sc:Scope}(hE:EnvOk env sc) (hk:sc.names.lookup x=some .cell) (h:Y G n env e ρ σ fun d σ'=>P (.next ((x,d)::ρ) σ')):X1 G n env (.Assign [.Name x px] e pos) ρ σ P:=zfE h (hE.cell hk) (zij (hE.kind _ _ hk (by decide)))
theorem Jx{e:Expr}{pos:Pos}{P:Out→Prop}{sc:Scope}(hE:EnvOk env sc) (h:Y G n env e ρ σ fun d σ'=>P (.next ρ σ')) (hs:qc e=false:=by rfl):X1 G n env (.Expr e pos) ρ σ P:=zfD h hE.inter (zaO hs)
theorem Qz{e:Expr}{u0:Expr}{names:List Str}{bs bs':List Rho}(h:ItE G n env e ρ σ u0 names bs) (e':bs=bs'):ItE G n env e ρ σ u0 names bs':=e'▸h
theorem qt{α β:Type}{f:α→β}{l:List α}{i:Nat}{b:β}(h:(l.map f)[i]?=some b):∃x,l[i]?=some x∧b=f x:=by
 refine zd (Option.map_eq_some_iff.mp (List.getElem?_map.symm.trans h)) fun x h1 q2_=>?_
 subst q2_
 exact⟨x,h1,rfl⟩
theorem qY{sc:Scope}(hE:EnvOk env sc) {names:List Str}(h:(names.all fun x=>sc.names.lookup x==some .local||sc.names.lookup x==some .cell)=true):∀x∈names,zG env x:=fun x hx=>by
 have:=List.all_eq_true.mp h x hx
 simp only[Bool.or_eq_true,beq_iff_eq] at this
 exact this.elim hE.local hE.cell
theorem ZW{x:Str} {pos}{d:D}(hx:ρ.lookup x=some d) (hd:(x==("__debug__":Str))=false) (hc:(x==("__classdict__":Str))=false):PE G n env (.Name x pos) ρ σ d:=zng hx hd hc
theorem zy{e:Expr}{es:List Expr}{d:D}{ds:List D}(hp:(e::es).all kdsPlain=true) (he:PE G n env e ρ σ d) (hes:PEs G n env es ρ σ ds):PEs G n env (e::es) ρ σ (d::ds):=zg he hes (Z0 hp)
theorem q0{l r:Expr} {op pos}{d₁ d₂:D}{b:Bool}(hm:behindInMarks op r=false) (hl:PE G n env l ρ σ d₁) (hr:PE G n env r ρ σ d₂) (ho:CmpJ G n σ op d₁ d₂ b):PE G n env (.Compare l [op] [r] pos) ρ σ (.bool b):=J4 hl hr ho hm
theorem jV{es:List Expr} {pos}{ds:List D}(h:PEs G n env es ρ σ ds) (hl:ds.length≤1000000):PE G n env (.List es pos) ρ σ (.lst ds):=znh h hl
theorem Z2{es:List Expr} {k pos}{ds:List D}(h:PEs G n env es ρ σ ds) (hl:ds.length≤1000000):PE G n env (.Tuple es k pos) ρ σ (.tup ds):=zlz h hl
theorem Zs{ds:List D}{i:Int}{x:D}(h0:0≤i) (hi:i<2^63) (hx:ds[i.toNat]?=some x):GetJ G n σ (.lst ds) (.int i) x:=zaI (.self _) h0 hx hi
theorem qS{ds:List D}{i:Int}{x:D}(h0:0≤i) (hi:i<2^63) (hx:ds[i.toNat]?=some x):GetJ G n σ (.tup ds) (.int i) x:=znG (.self _) h0 hx hi
theorem zl{α:Type}(l:List α):l.filter (fun _=>true)=l:=List.filter_eq_self.mpr fun _ _=>rfl
theorem qf{e:Expr}{x y:Bool}(h:PT G n env e ρ σ x) (e':x=y):PT G n env e ρ σ y:=e'▸h
theorem Zt{op:Operator}{a b d d':D}(h:BinJ G n σ op a b d) (e:d=d'):BinJ G n σ op a b d':=e▸h
theorem zi{e:Expr}{d d':D}(h:PE G n env e ρ σ d) (e':d=d'):PE G n env e ρ σ d':=e'▸h
theorem zgx(a b:Nat) (hb:b≠0):(a:Int).fmod (b:Int)=((a%b:Nat):Int):=by
 rw[Int.fmod_eq_emod_of_nonneg _ (by omega)];rfl
theorem zgz(a b:Nat):(a:Int).fdiv (b:Int)=((a/b:Nat):Int):=by
 rw[Int.fdiv_eq_ediv_of_nonneg _ (by omega)];rfl
end
open PySem PySem.W
local macro_rules | `(tactic| walk_at "mk")=>`(tactic| first | (with_reducible exact zj9) | (exact ziF (by kernel_rfl) (by walk_at "mk")))
local macro_rules | `(tactic| walk_at "ml")=>`(tactic| ((try simp only[List.cons_append,List.nil_append]);walk_at "mk"))
local macro_rules | `(tactic| walk_at "md")=>`(tactic| first | rfl | assumption | (exact Nat.le_of_ble_eq_true rfl) | omega | decide)
local macro_rules | `(tactic| walk_at "mo")=>`(tactic| (with_reducible first | apply ZP | apply jy | apply zb9 | apply zew | apply JV | apply zcq | apply zev | apply QG | apply qK | apply Q7 | apply jO | apply jP | apply zbo | apply zbn | apply QE | apply ziW | apply Zs | apply qS)<;>walk_at "md")
local macro_rules | `(tactic| walk_at "mp")=>`(tactic| first
 | ((with_reducible show PE _ _ _ (Expr.Name _ _) _ _ _);exact ZW (by walk_at "ml") (by kernel_rfl) (by kernel_rfl))
 | ((with_reducible show PE _ _ _ (Expr.Constant _ _ _) _ _ _);first | exact zn | exact jb | exact zni | exact znf)
 | ((with_reducible first | apply zk | apply zv | apply zoy | refine q0 (by with_unfolding_all rfl) ?_ ?_ ?_)<;>first | walk_at "mp" | walk_at "mo")
 | ((with_reducible first | apply jV | apply Z2)<;>first | walk_at "mq" | exact Nat.le_of_ble_eq_true rfl))
local macro_rules | `(tactic| walk_at "mq")=>`(tactic| first | (with_reducible exact zj) | (exact zy (by rfl) (by walk_at "mp") (by walk_at "mq")))
local macro_rules | `(tactic| walk_at "mw")=>`(tactic| first | (with_reducible first | exact Weak.nil | exact Capt.nil | exact Frz.nil) | ((with_reducible first | apply Capt.cons | apply Frz.same | apply Weak.cons)<;>first | walk_at "mw" | kernel_rfl | walk_at "ml"))
local macro_rules | `(tactic| walk_at "ms")=>`(tactic| first | exact EnvOk.local (by assumption) (by decide +kernel) | exact EnvOk.cell (by assumption) (by decide +kernel))
section
open PySem PySem.W
variable {G:Gx}{n:Nat}{env:Env}{ρ:Rho}{σ:Sig}
noncomputable abbrev zO(l:List Str):D:=.lst (l.map .str)
noncomputable abbrev zb4(l:List (Str×List Str)):D:=.dicS (l.map fun p=>(p.1,zO p.2))
theorem Zj{α:Type}{x:Str}{pos:Pos}{l:List α}{f:α→D}:ItJ G n σ (.Name x pos) [x] (.lst (l.map f)) (l.map fun y=>[(x,f y)]):=
 zgm (.name x pos) (.map fun y _=>.name x pos _)
theorem zaF{α:Type}{x y:Str}{px py pos:Pos}{k:Nat}{l:List α}{f g:α→D}:ItJ G n σ (.Tuple [.Name x px,.Name y py] k pos) [x,y] (.lst (l.map fun a=>.tup [f a,g a])) (l.map fun a=>[(y,g a),(x,f a)]):=
 zgm (.tuple k pos rfl) (.map fun a _=>Binds.tuple (names:=[x,y]) (ds:=[f a,g a]) k pos rfl rfl)
theorem znz{α:Type}{x y z:Str}{px py pz pos:Pos}{k:Nat}{l:List α}{f g h:α→D}:ItJ G n σ (.Tuple [.Name x px,.Name y py,.Name z pz] k pos) [x,y,z] (.lst (l.map fun a=>.tup [f a,g a,h a])) (l.map fun a=>[(z,h a),(y,g a),(x,f a)]):=
 zgm (.tuple k pos rfl) (.map fun a _=>Binds.tuple (names:=[x,y,z]) (ds:=[f a,g a,h a]) k pos rfl rfl)
theorem jY{α:Type}{x:Str}{pos:Pos}{l:List α}{k:α→Int}{f:α→D}:ItJ G n σ (.Name x pos) [x] (.dicI (l.map fun a=>(k a,f a))) (l.map fun a=>[(x,.int (k a))]):=by
 have:=znC (G:=G) (n:=n) (σ:=σ) (x:=x) (pos:=pos) (ds:=l.map fun a=>(k a,f a))
 rwa[List.map_map] at this
theorem Qi{α:Type}{x:Str}{pos:Pos}{l:List α}{k:α→Str}{f:α→D}:ItJ G n σ (.Name x pos) [x] (.dicS (l.map fun a=>(k a,f a))) (l.map fun a=>[(x,.str (k a))]):=by
 have:=znB (G:=G) (n:=n) (σ:=σ) (x:=x) (pos:=pos) (ds:=l.map fun a=>(k a,f a))
 rwa[List.map_map] at this
theorem qp{K α β:Type} [DecidableEq K] {adj:List (K×α)}{x:K}{l:α}{f:α→β}(h:(adj.find? fun p=>p.1=x).map (·.2)=some l):((adj.map fun p=>(p.1,f p.2)).find? fun p=>p.1=x).map (·.2)=some (f l):=by
 refine zd (Option.map_eq_some_iff.mp h) fun q hq q3_=>?_
 subst q3_
 rw[List.find?_map,Option.map_map]
 exact congrArg (Option.map fun p=>f p.2) hq
theorem Closes.inv{K:Type} [DecidableEq K] {adj:List (K×List K)}{k a:Nat}{g R:List K}(h:Closes adj k g a R):(g.length=a∧R=g)∨∃k' x l,k=k'+1∧g[a]?=some x∧(adj.find? fun p=>decide (p.1=x)).map (·.2)=some l∧Closes adj k' (g++l.filter fun o=>decide (o∉g)) (a+1) R:=
 Closes.rec (motive:=fun k g a R _=>(g.length=a∧R=g)∨∃k' x l,k=k'+1∧g[a]?=some x∧(adj.find? fun p=>decide (p.1=x)).map (·.2)=some l∧Closes adj k' (g++l.filter fun o=>decide (o∉g)) (a+1) R) (fun e=>.inl ⟨e,rfl⟩) (fun h1 h2 h3 _=>.inr ⟨_,_,_,rfl,h1,h2,h3⟩) h
noncomputable abbrev zov(a:Addr) (first:Str) (steps:List (Str×List Str)) (at_:Int):Rho:=[("at",.int at_),("group",.raw (.ref a)),("first",.str first),("steps",zb4 steps)]
theorem zld(T:Top G) {first:Str}{steps:List (Str×List Str)}{k:Nat}{R:List Str}(h:Closes steps k [first] 0 R) (hR:R.length≤1000) (hS:∀p∈steps,p.2.length≤1000):∀env,EnvOk env (zo (ze 15))→X G n env (zu (ze 15)) [("first",.str first),("steps",zb4 steps)] [] (ZU fun d' _=>d'=zO R):=by
 intro env hE
 refine zc ?_
 refine zc7 (Jf (jh (mo:=.lst [.str first]) (Qg (by walk_at "mq")) fun a=>(zt (by walk_at "mp") ⟨_,_,rfl,?_⟩))) (by walk_at "ms") (by walk_at "ms") rfl (zay 0 hE (by rfl) (by rfl))
 refine zc ?_
 refine zd8 (fun k ρ' σ'=>∃g at_,Closes steps k g at_ R∧ρ'=zov a first steps (at_:Nat)∧σ'=[(a,.lst (g.map .str))]) k ⟨_,_,h,rfl,rfl⟩ fun k ρ' σ' hI=>?_
 refine Zk hI fun g at_ hc e1 e2=>?_
 rw[e1,e2]
 have hl:g.length≤1000:=Nat.le_trans hc.length hR
 have hm:(g.map D.str).length=g.length:=List.length_map ..
 refine⟨_,zU (by walk_at "mp") (zF (zq T hE (by rfl) (by rfl)) (zg (by walk_at "mp") zj) (ZX (.lst (List.mem_singleton.mpr rfl)) (by rw[hm];exact Nat.lt_of_le_of_lt hl (by decide))) zm) Q7,fun hb=>?_,fun hb=>?_⟩
 ·rw[hm] at hb
  refine hc.inv.elim (fun y=>absurd (of_decide_eq_true hb) (y.1▸Int.lt_irrefl _)) fun y=>zbg y fun k' x l ek h1 h2 h3=>?_
  have hat:=(List.getElem?_eq_some_iff.mp h1).1
  have hr:=Nat.le_trans h3.length hR
  refine zc ?_
  refine zfD (Z8 za5 (by walk_at "mp") (Z9 (.lst (List.mem_singleton.mpr rfl))) (Zn (zt (Z3 (names:=["other"]) (ρ':=[("group",.raw (.ref a))]) (xs:=l) (bf:=fun y=>[("other",.str y)]) (c:=fun y=>decide (y∉g)) (g:=.str) hE (by rfl) (by walk_at "mw") ?_ (zI (by kernel_rfl)) ?_ ?_ ?_ ?_ ?_) (qw ?_)))) hE.inter
  ·exact zN (zv (by walk_at "mp") (zv (by walk_at "mp") (by walk_at "mp") (zaI (x:=.str x) (.lst (List.mem_singleton.mpr rfl)) (Int.natCast_nonneg _) (by rw[Int.toNat_natCast,List.getElem?_map,h1];rfl) (Jz (Nat.le_trans (Nat.le_of_lt hat) hl) (by decide)))) (qo (.self _) (qp h2))) Zj
  ·simp
  ·exact zw (by rfl)
  ·intro u1 u9 y hy
   exact ZM (zU (by walk_at "mp") (by walk_at "mp") (Q3 (.lst (List.mem_singleton.mpr rfl))))
  ·intro u1 u9 y hy _
   walk_at "mp"
  ·exact(Option.map_eq_some_iff.mp h2).elim fun p hp=>hp.2▸Nat.le_trans (hS _ (List.mem_of_find?_eq_some hp.1)) (by decide)
  ·refine jQ (.head ..) (.self _) ?_ ?_
   ·show X _ _ _ _ _ _ _
    refine zc ?_
    refine JF (by walk_at "ml") (by walk_at "mp") zam (by walk_at "ms") ?_
    exact zT (ρ':=zov a first steps ((at_:Int)+1)) (by walk_at "mw") (zz ⟨k',ek▸Nat.lt_succ_self _,_,at_+1,h3,rfl,by rw[List.map_append]⟩)
   ·rw[hm,List.length_map]
    rw[List.length_append] at hr
    exact Nat.le_trans hr (by decide)
 ·rw[hm] at hb
  refine hc.inv.elim (fun y=>?_) fun y=>zbg y fun k' x l ek h1 h2 h3=>absurd (Int.ofNat_lt.mpr (List.getElem?_eq_some_iff.mp h1).1) (of_decide_eq_false hb)
  rw[y.2]
  refine Qe (.head ..) trivial (ρ':=([("group",zO g)]:Rho)) (.froze (by walk_at "ml") .nil) ?_
  exact zc (z8 (zt (by walk_at "mp") rfl))
theorem zgK(T:Top G) {first:Str}{steps:List (Str×List Str)}{k:Nat}{R:List Str}(h:Closes steps k [first] 0 R) (hR:R.length≤1000) (hS:∀p∈steps,p.2.length≤1000):CallJ G (n+1) σ (.ref (T.fa 15)) [.str first,zb4 steps] (zO R):=
 jx T (by decide) (by decide +kernel) (by kernel_rfl) (by kernel_rfl) (zld T h hR hS)
end
section
open PySem PySem.W
variable {G:Gx}{n:Nat}{env:Env}{ρ:Rho}{σ:Sig}
noncomputable abbrev zZ(l:List (Str×Int)):D:=.dicS (l.map fun p=>(p.1,.int p.2))
theorem zfm{l:List Int}{i:Nat}{x:Int}(h:l[i]?=some x):(l.take (i+1)).sum=(l.take i).sum+x:=by
 rw[List.take_add_one,h];simp[List.sum_append]
theorem zmU{l:List (Str×Int)}:∀env,EnvOk env (zo (ze 4))→X G n env (zu (ze 4)) [("callers",zZ l)] [] (ZU fun d' _=>d'=.int (l.map (·.2)).sum):=by
 intro env hE
 refine zc ?_
 refine z4 (by walk_at "ms") (zt (by walk_at "mp") ?_)
 refine zc ?_
 refine zab (names:=["calls"]) (bs:=l.map fun p=>[("calls",.int p.2)]) (fun i ρ' σ'=>ρ'=([("nc",.int ((l.map (·.2)).take i).sum),("callers",zZ l)]:Rho)∧σ'=[]) ?_ ?_ ⟨rfl,rfl⟩ ?_ ?_
 ·exact Qz (ziH (by walk_at "mp")) (by rw[List.map_map];rfl)
 ·exact qY hE (by rfl)
 ·rintro i b _ _ ⟨rfl,rfl⟩ hb
  obtain⟨p,hp,rfl⟩:=qt hb
  refine zc ?_
  refine JF (by walk_at "ml") (by walk_at "mp") zam (by walk_at "ms") ?_
  refine zT (ρ':=([("nc",.int (((l.map (·.2)).take i).sum+p.2)),("callers",zZ l)]:Rho)) (by walk_at "mw") (zz ⟨?_,rfl⟩)
  rw[zfm (x:=p.2) (by rw[List.getElem?_map,hp];rfl)]
 ·rintro _ _ ⟨rfl,rfl⟩
  refine zz ?_
  refine zc (z8 (zt (by walk_at "mp") ?_))
  show D.int _=D.int _
  rw[List.length_map,List.take_of_length_le (by simp)]
noncomputable def zb1:List Str:=["OPTIMIZED","NEWLOCALS","VARARGS","VARKEYWORDS","NESTED","GENERATOR","NOFREE","COROUTINE","ITERABLE_COROUTINE","ASYNC_GENERATOR"]
noncomputable def ZF(p:Nat):Str:=if p<10 then zb1.getD p "" else ("0x":Str)++(⟨#[("1248":Str).cps.getD (p%4) 0]⟩:Str)++qx "0" (p/4:Nat)
theorem zol{p:Nat}(hp:p<64):∀env,EnvOk env (zo (ze 13))→X G n env (zu (ze 13)) [("place",.int (p:Int))] [] (ZU fun d' _=>d'=.str (ZF p)):=by
 intro env hE
 refine zc (z4 (by walk_at "ms") (zt (by walk_at "mp") ?_))
 show X _ _ _ _ [("names",.lst (zb1.map .str)),("place",.int (p:Int))] _ _
 refine zc (z8 ?_)
 refine zt (d:=.str (ZF p)) ?_ rfl
 refine zcK (c:=decide ((p:Int)<10)) ?_ (fun h=>?_) (fun h=>?_)
 ·exact zU (by walk_at "mp") (by walk_at "mp") Q7
 ·have h':p<10:=by have:=of_decide_eq_true h;lia
  refine zv (by walk_at "mp") (by walk_at "mp") (zaI (.self _) (by lia) ?_ (by lia))
  unfold ZF
  rw[if_pos h']
  have h10:p<zb1.length:=h'
  simp[List.getD,h10]
 ·have h':¬p<10:=by have:=of_decide_eq_false h;lia
  have e:ZF p=("0x":Str)++(⟨#[("1248":Str).cps.getD (p%4) 0]⟩:Str)++qx "0" (p/4:Nat):=by unfold ZF;rw[if_neg h']
  rw[e]
  have h4:p%4<4:=Nat.mod_lt _ (by decide)
  refine zk (d₁:=.str (("0x":Str)++(⟨#[("1248":Str).cps.getD (p%4) 0]⟩:Str))) ?_ ?_ (QG ?_)
  ·refine zk jb ?_ (QG (by exact Nat.le_of_ble_eq_true rfl))
   refine zv jb (zk (d:=.int ((p%4:Nat):Int)) (by walk_at "mp") zn (Zt (zcq (by decide)) (by rw[show(4:Int)=((4:Nat):Int) from rfl,zgx _ _ (by decide)]))) (znH (by lia) ?_ (by lia))
   have h5:p%4<("1248":Str).cps.size:=h4
   rw[Int.toNat_natCast,Array.getElem?_eq_getElem h5,Array.getD_eq_getD_getElem?,Array.getElem?_eq_getElem h5]
   rfl
  ·refine zk jb (zk (d:=.int ((p/4:Nat):Int)) (by walk_at "mp") zn (Zt (zev (by decide) ?_) (by rw[show(4:Int)=((4:Nat):Int) from rfl,zgz]))) (zcD (by lia) (by lia) (by exact Nat.le_of_ble_eq_true rfl))
   exact PyProof.noPylong_small (by lia)
  ·have h1:(("0x":Str)++(⟨#[("1248":Str).cps.getD (p%4) 0]⟩:Str)).length=3:=rfl
   have h2:("0":Str).length=1:=rfl
   rw[Jy,h1,h2]
   lia
theorem zh1(T:Top G) {l:List (Str×Int)}:CallJ G (n+1) σ (.ref (T.fa 4)) [zZ l] (.int (l.map (·.2)).sum):=
 jx T (by decide) (by decide +kernel) (by kernel_rfl) (by kernel_rfl) zmU
theorem zo4(T:Top G) {p:Nat}(hp:p<64):CallJ G (n+1) σ (.ref (T.fa 13)) [.int (p:Int)] (.str (ZF p)):=
 jx T (by decide) (by decide +kernel) (by kernel_rfl) (by kernel_rfl) (zol hp)
end
section
open PySem PySem.W
variable {G:Gx}{n:Nat}{env:Env}{ρ:Rho}{σ:Sig}
noncomputable abbrev Zq(l:List (Str×Str)):D:=.lst (l.map fun p=>.tup [.str p.1,.str p.2])
noncomputable abbrev zio(kept freed:List (Str×Str)) (names:List Str):Rho:=[("kept",Zq kept),("freed",Zq freed),("names",zO names)]
theorem zmQ(T:Top G) {names:List Str}{first:Str}{freed kept:List (Str×Str)}{call:Str×Str}{P:Out→Prop}(h0:names[0]?=some first) (hn:names.Nodup) (hs:∀p∈kept,p.2∈names) (hl2:names.length≤1000) (hkn:kept.Nodup) (hkl:kept.length≤1000) (hE:EnvOk env (zo (ze 18)))
  (hP:P (.next (zio (qn names first kept call) freed names) [])):X G (n+1) env (ZO (zu (ze 18))[1]?) (("call",.tup [.str call.1,.str call.2])::zio kept freed names) [] P:=by
 refine zc ?_
 refine zbA hE (by kernel_rfl) ?_
 refine zt (Z3 (names:=["one"]) (ρ':=[("call",.tup [.str call.1,.str call.2])]) (xs:=kept) (bf:=fun p=>[("one",.tup [.str p.1,.str p.2])]) (c:=fun p=>decide (p≠call)) (g:=fun p=>.tup [.str p.1,.str p.2]) hE (by kernel_rfl) (by walk_at "mw") ?_ (zI (by kernel_rfl)) ?_ ?_ ?_ ?_ ?_) ?_
 ·exact zN (by walk_at "mp") Zj
 ·simp
 ·exact zw (by kernel_rfl)
 ·intro u1 u9 y hy
  exact ZM (zU (by walk_at "mp") (by walk_at "mp") zhg)
 ·intro u1 u9 y hy _
  walk_at "mp"
 ·lia
 generalize hrest:kept.filter (fun o=>decide (o≠call))=rest
 have v7:rest.Nodup:=hrest▸hkn.filter _
 have hrk:∀p∈rest,p∈kept:=fun p hp=>by rw[←hrest] at hp;exact(List.mem_filter.mp hp).1
 refine zc ?_
 refine zn5 (names:=["one"]) (ρ':=[("rest",Zq rest)]) (xs:=names) (bf:=fun y=>[("one",.str y)]) (c:=fun _=>true) (kf:=fun y=>y) (g:=fun y=>zO ((rest.filter fun p=>decide (p.1=y)).map (·.2))) hE (by kernel_rfl) (by kernel_rfl) (by kernel_rfl) (by walk_at "mw") ?_ (zI (by kernel_rfl)) ?_ ?_ ?_ ?_ ?_ ?_ ?_ ?_
 ·exact zN (by walk_at "mp") Zj
 ·simp
 ·exact zw (by kernel_rfl)
 ·intro u1 u9 y hy
  exact zW
 ·intro u1 u9 y hy _
  walk_at "mp"
 ·intro u1 u9 y hy _
  refine zi (Z3 (names:=["caller","name"]) (ρ':=[("one",.str y)]) (xs:=rest) (bf:=fun p=>[("name",.str p.2),("caller",.str p.1)]) (c:=fun p=>decide (p.1=y)) (g:=fun p=>.str p.2) u9 (by kernel_rfl) (by walk_at "mw") ?_ (zI (by kernel_rfl)) ?_ ?_ ?_ ?_ ?_) ?_
  ·exact zN (by walk_at "mp") zaF
  ·simp
  ·exact zw (by kernel_rfl)
  ·intro env'' hE'' p hp
   exact ZM (zU (by walk_at "mp") (by walk_at "mp") QE)
  ·intro env'' hE'' p hp _
   walk_at "mp"
  ·exact Nat.le_trans (Zr v7 hrk) (Nat.le_trans hkl (by decide))
  ·show D.lst _=D.lst _
   rw[List.map_map];rfl
 ·exact Nat.le_trans hl2 (by decide)
 ·rw[zl,List.map_id'];exact hn
 rw[zl]
 have hsteps:(names.map fun y=>(y,zO ((rest.filter fun p=>decide (p.1=y)).map (·.2))))=(qN names rest).map fun p=>(p.1,zO p.2):=by
  unfold qN;rw[List.map_map];rfl
 rw[hsteps]
 have hgood:GoodAdj (qN names rest):=zbE v7 fun p hp=>hs p (hrk p hp)
 have hfm:first∈(qN names rest).map (·.1):=by rw[Qp];exact List.mem_of_getElem? h0
 refine qD (QA hgood hfm) fun m hcl hcn hcs=>?_
 have hRl:(closed (qN names rest) first).length≤names.length:=by
  have h:=Zr hcn hcs
  rwa[Qp] at h
 refine zc ?_
 refine z4 (by walk_at "ms") ?_
 refine zt (d:=Zq (qn names first kept call)) (zcK (c:=decide ((closed (qN names rest) first).length=names.length)) ?_ (fun h=>?_) (fun h=>?_)) ?_
 ·refine qf (zU (zF (zq T hE (by kernel_rfl) (by kernel_rfl)) (zg (zF (qZ T hE 15 (by kernel_rfl)) (zg (zv (by walk_at "mp") zn (zaI (x:=.str first) (.self _) (by decide) (by simp[h0]) (by decide))) (zg (by walk_at "mp") zj)) (zgK T hcl (Nat.le_trans hRl hl2) (fun p hp=>?_)) (ZN T (by decide))) zj) (ZX (.self _) (by rw[List.length_map];exact Nat.lt_of_le_of_lt (Nat.le_trans hRl hl2) (by decide))) zm) (zF (zq T hE (by kernel_rfl) (by kernel_rfl)) (zg (by walk_at "mp") zj) (ZX (.self _) (by rw[List.length_map];exact Nat.lt_of_le_of_lt hl2 (by decide))) zm) qK) ?_
  ·have h1:=Zr (hgood.nodup p hp) (hgood.sub p hp)
   rw[Qp] at h1
   exact Nat.le_trans h1 hl2
  ·rw[qe,List.length_map,List.length_map];exact decide_eq_decide.mpr Int.ofNat_inj
 ·have e:qn names first kept call=rest:=by unfold qn;rw[hrest,if_pos (of_decide_eq_true h)]
  rw[e]
  walk_at "mp"
 ·have e:qn names first kept call=kept:=by unfold qn;rw[hrest,if_neg (of_decide_eq_false h)]
  rw[e]
  walk_at "mp"
 exact zT (ρ':=zio (qn names first kept call) freed names) (by walk_at "mw") (zz hP)
theorem zok(T:Top G) {names:List Str}{first:Str}{freed:List (Str×Str)}(h0:names[0]?=some first) (hn:names.Nodup) (hf:freed.Nodup) (hs:∀p∈freed,p.2∈names) (hl:freed.length≤1000) (hl2:names.length≤1000) :
  ∀env,EnvOk env (zo (ze 18))→X G (n+1) env (zu (ze 18)) [("freed",Zq freed),("names",zO names)] [] (ZU fun d' _=>d'=Zq (zck names first freed)):=by
 intro env hE
 refine zc (z4 (by walk_at "ms") (zt (by walk_at "mp") ?_))
 refine zc ?_
 refine zda (names:=["call"]) (bs:=freed.reverse.map fun p=>[("call",.tup [.str p.1,.str p.2])]) (fun i kept=>kept=(freed.reverse.take i).foldl (qn names first) freed∧kept.Nodup∧(∀p∈kept,p∈freed)) (fun kept=>zio kept freed names) (fun _=>[]) freed ?_ ?_ ⟨⟨rfl,hf,fun p hp=>hp⟩,rfl,rfl⟩ ?_ ?_
 ·refine zN (d:=Zq freed.reverse) (zi (QU (by walk_at "mp") (.self _) ql ql (Q2 (by walk_at "mp")) (by decide) (by rw[List.length_map];exact Nat.le_trans hl (by decide))) ?_) Zj
  rw[Q1,zim]
 ·exact qY hE (by kernel_rfl)
 ·intro i b kept hJ hb
  refine z9 hJ fun hk hkn hks=>zd (qt hb) fun call hc q=>?_
  rw[q]
  refine zmQ T h0 hn (fun p hp=>hs p (hks p hp)) hl2 hkn (Nat.le_trans (Zr hkn hks) hl) hE ⟨_,⟨?_,?_,?_⟩,rfl,rfl⟩
  ·rw[List.take_add_one,hc,List.foldl_append,←hk];rfl
  ·unfold qn;split
   ·exact hkn.filter _
   ·exact hkn
  ·intro p hp
   unfold qn at hp
   split at hp
   ·exact hks p (List.mem_filter.mp hp).1
   ·exact hks p hp
 ·intro kept hJ
  refine zz ?_
  refine zc (z8 (zt (by walk_at "mp") ?_))
  show Zq _=Zq _
  rw[hJ.1,List.length_map,List.take_length]
  rfl
theorem zo3(T:Top G) {names:List Str}{first:Str}{freed:List (Str×Str)}(h0:names[0]?=some first) (hn:names.Nodup) (hf:freed.Nodup) (hs:∀p∈freed,p.2∈names) (hl:freed.length≤1000) (hl2:names.length≤1000) :
  CallJ G (n+2) σ (.ref (T.fa 18)) [Zq freed,zO names] (Zq (zck names first freed)):=
 jx T (by decide) (by decide +kernel) (by kernel_rfl) (by kernel_rfl) (zok T h0 hn hf hs hl hl2)
end
section
open PySem PySem.W
variable {G:Gx}{n:Nat}{env:Env}{ρ:Rho}{σ:Sig}
theorem Qu{α β:Type}{e:Expr}{k:Nat}{u0 iter:Expr}{u6:List Expr}{names:List Str}{W:List Addr}{P:App α}{scope:Scope}{xs:List β}{bf:β→Rho}{c:β→Bool}{of:β→List α}
  (hI:Inner G n scope env W) (hc:qc e=true) (x5:(clausesOf e).all (fun g=>g.is_async==0)=true) (hg:(clausesOf e)[k]?=some ⟨u0,iter,u6,0⟩) (v9:∀x,foldedSetIterable iter env x=pure x)
  (v8:ItE G n env iter ρ σ u0 names (xs.map bf)) (hs:∀x∈names,OwnName scope x) (x0:∀y∈xs,∀p∈bf y,p.1∈names) (v7:∀x∈names,ρ.lookup x=none)
  (ht:∀y∈xs,PIf G n env u6 (bf y++ρ) σ (c y)) (hb:∀y∈xs,c y=true→TailJ G n env W P e (k+1) (bf y++ρ) σ (of y)) :
  TailJ G n env W P e k ρ σ ((xs.filter c).flatMap of):=by
 rw[←Qx]
 exact zjH hI hc (fun g hg=>by simpa using List.all_eq_true.mp x5 g hg) hg v9 v8 hs x0 v7 ht hb
theorem QQ{α:Type}{e:Expr}{k:Nat}{W:List Addr}{P:App α}{out out':List α}(h:TailJ G n env W P e k ρ σ out) (e':out=out'):TailJ G n env W P e k ρ σ out':=e'▸h
noncomputable abbrev Row:=Nat×Int×Int
noncomputable abbrev dPr(l:List Row):D:=.dicI (l.map fun p=>((p.1:Int),.tup [.int p.2.1,.int p.2.2]))
noncomputable abbrev z6(l:List Nat):D:=.lst (l.map fun(k:Nat)=>.int (k:Int))
noncomputable def ups(p1 p2 p3 p4:List Row):List (List Nat):=p1.flatMap fun a=>p2.flatMap fun b=>p3.flatMap fun c=>p4.flatMap fun d=>[[0,a.1,b.1,c.1,d.1]]
noncomputable def okUp(u:List Nat):Bool:=decide ((u.filter fun k=>decide (u.getD (u.getD (u.getD k 0) 0) 0≠0))=[])
noncomputable def QB(p:List Row) (t:Nat):Int:=((p.find? fun r=>decide (r.1=t)).map fun r=>r.2.2).getD 0
noncomputable def jM(p1 p2 p3 p4:List Row) (u:List Nat):Int:=([1,2,3,4].map fun k=>QB ([[],p1,p2,p3,p4].getD k []) (u.getD k 0)).sum
theorem zcL{u:List Nat}{j:Nat}(hj:j<u.length):(u.map fun(k:Nat)=>D.int (k:Int))[((j:Nat):Int).toNat]?=some (.int ((u.getD j 0:Nat):Int)):=by
 rw[Int.toNat_natCast,List.getElem?_map,List.getElem?_eq_getElem hj,List.getD_eq_getElem?_getD,List.getElem?_eq_getElem hj]
 rfl
theorem J6{u:List Nat}{j:Nat}(hj:j<u.length) (hu:u.length≤1000):GetJ G n σ (z6 u) (.int (j:Int)) (.int ((u.getD j 0:Nat):Int)):=Zs (Int.natCast_nonneg _) (Jz (Nat.le_trans (Nat.le_of_lt hj) hu) (by decide)) (zcL hj)
theorem zlW{p:List Row}{t:Nat}(h:t∈p.map (·.1)):∃r∈p,r.1=t∧((p.map fun p=>((p.1:Int),D.tup [.int p.2.1,.int p.2.2])).find? fun q=>decide (q.1=(t:Int))).map (·.2)=some (.tup [.int r.2.1,.int r.2.2])∧QB p t=r.2.2:=by
 refine(List.mem_map.mp h).elim fun x hx=>?_
 refine(Option.isSome_iff_exists.mp (List.find?_isSome (p:=fun r:Row=>decide (r.1=t)).mpr ⟨x,hx.1,decide_eq_true hx.2⟩)).elim fun r hr=>?_
 refine⟨r,List.mem_of_find?_eq_some hr,of_decide_eq_true (List.find?_some (p:=fun r:Row=>decide (r.1=t)) hr),?_,?_⟩
 ·rw[List.find?_map,show((fun q:Int×D=>decide (q.1=(t:Int)))∘fun p:Row=>((p.1:Int),D.tup [.int p.2.1,.int p.2.2]))=fun r=>decide (r.1=t) from funext fun r=>decide_eq_decide.mpr Int.ofNat_inj,hr];rfl
 ·unfold QB;rw[hr];rfl
noncomputable def zaE(p1 p2 p3 p4:List Row):Int:=Qr (((ups p1 p2 p3 p4).filter okUp).map (jM p1 p2 p3 p4))
theorem jJ{α β:Type}{f:α→List β}{k:Nat}{l:List α}(h:∀x∈l,(f x).length≤k):(l.flatMap f).length≤l.length*k:=by
 induction l with
 | nil=>exact Nat.zero_le _
 | cons a l ih=>rw[List.flatMap_cons,List.length_append,List.length_cons,Nat.succ_mul,Nat.add_comm];exact Nat.add_le_add (ih fun x hx=>h x (.tail _ hx)) (h a (.head _))
theorem zfx{α β:Type}{f:α→List β}{k:Nat}{l:List α}(hl:l.length≤5) (h:∀x,(f x).length≤k):(l.flatMap f).length≤5*k:=Nat.le_trans (jJ fun x _=>h x) (Nat.mul_le_mul_right k hl)
theorem zhs{p1 p2 p3 p4:List Row}{u:List Nat}(h:u∈ups p1 p2 p3 p4):∃a∈p1,∃b∈p2,∃c∈p3,∃d∈p4,u=[0,a.1,b.1,c.1,d.1]:=
 (List.mem_flatMap.mp h).imp fun _ h=>⟨h.1,(List.mem_flatMap.mp h.2).imp fun _ h=>⟨h.1,(List.mem_flatMap.mp h.2).imp fun _ h=>⟨h.1,(List.mem_flatMap.mp h.2).imp fun _ h=>⟨h.1,List.mem_singleton.mp h.2⟩⟩⟩⟩
theorem zht{p1 p2 p3 p4:List Row}(hl:∀p∈[p1,p2,p3,p4],p.length≤5∧∀r∈p,r.1<5):(ups p1 p2 p3 p4).length≤625:=
 zfx (hl p1 (.head _)).1 fun _=>zfx (hl p2 (.tail _ (.head _))).1 fun _=>zfx (hl p3 (.tail _ (.tail _ (.head _)))).1 fun _=>zfx (k:=1) (hl p4 (.tail _ (.tail _ (.tail _ (.head _))))).1 fun _=>Nat.le_refl _
theorem zop{p1 p2 p3 p4:List Row}(hl:∀p∈[p1,p2,p3,p4],p.length≤5∧∀r∈p,r.1<5) {u:List Nat}(h:u∈ups p1 p2 p3 p4):u.length=5∧∀k∈u,k<5:=
 (zhs h).elim fun a h=>h.2.elim fun b h1=>h1.2.elim fun c h2=>h2.2.elim fun d h3=>h3.2▸⟨rfl,all_cons (by decide) (all_cons ((hl p1 (.head _)).2 a h.1) (all_cons ((hl p2 (.tail _ (.head _))).2 b h1.1) (all_cons ((hl p3 (.tail _ (.tail _ (.head _)))).2 c h2.1) (all_cons ((hl p4 (.tail _ (.tail _ (.tail _ (.head _))))).2 d h3.1) zx))))⟩
theorem zoL{u:List Nat}(h:∀k∈u,k<5) (k:Nat):u.getD k 0<5:=by
 rw[List.getD_eq_getElem?_getD]
 cases e:u[k]? with
 | none=>exact Nat.succ_pos 4
 | some x=>exact h x (List.mem_of_getElem? e)
theorem JI{u:List Nat}{L:List D}{PL:List (List Row)}(j:Nat) {p:List Row}(hj:j<5) (hu:u.length=5) (h1:L[j]?=some (dPr p)) (h3:u.getD j 0∈p.map (·.1)) (h4:PL.getD j []=p) :
  ∃(p:List Row) (t:Nat) (r:Row),GetJ G n [] (.lst L) (.int (j:Int)) (dPr p)∧GetJ G n [] (z6 u) (.int (j:Int)) (.int (t:Int))∧GetJ G n [] (dPr p) (.int (t:Int)) (.tup [.int r.2.1,.int r.2.2])∧QB (PL.getD j []) (u.getD j 0)=r.2.2:=
 (zlW h3).elim fun r h=>⟨p,_,r,Zs (Int.natCast_nonneg _) (Jz (Nat.le_of_lt hj) (by decide)) h1,J6 (hu▸hj) (hu▸by decide),zcQ (.self _) h.2.2.1,h4▸h.2.2.2⟩
theorem zjW{p1 p2 p3 p4:List Row}{u:List Nat}(h:u∈ups p1 p2 p3 p4) {k:Nat}(hk:k∈[1,2,3,4]) :
  ∃(p:List Row) (t:Nat) (r:Row),GetJ G n [] (.lst [dPr [],dPr p1,dPr p2,dPr p3,dPr p4]) (.int (k:Int)) (dPr p)∧GetJ G n [] (z6 u) (.int (k:Int)) (.int (t:Int))∧GetJ G n [] (dPr p) (.int (t:Int)) (.tup [.int r.2.1,.int r.2.2])∧QB ([[],p1,p2,p3,p4].getD k []) (u.getD k 0)=r.2.2:=by
 refine(zhs h).elim fun a h=>h.2.elim fun b h1=>h1.2.elim fun c h2=>h2.2.elim fun d h3=>?_
 rw[h3.2]
 exact all_cons (p:=fun k:Nat=>∃(p:List Row) (t:Nat) (r:Row),GetJ G n [] (.lst [dPr [],dPr p1,dPr p2,dPr p3,dPr p4]) (.int (k:Int)) (dPr p)∧GetJ G n [] (z6 [0,a.1,b.1,c.1,d.1]) (.int (k:Int)) (.int (t:Int))∧GetJ G n [] (dPr p) (.int (t:Int)) (.tup [.int r.2.1,.int r.2.2])∧QB ([[],p1,p2,p3,p4].getD k []) ([0,a.1,b.1,c.1,d.1].getD k 0)=r.2.2) (JI 1 (by decide) rfl rfl (List.mem_map_of_mem h.1) rfl) (all_cons (JI 2 (by decide) rfl rfl (List.mem_map_of_mem h1.1) rfl) (all_cons (JI 3 (by decide) rfl rfl (List.mem_map_of_mem h2.1) rfl) (all_cons (JI 4 (by decide) rfl rfl (List.mem_map_of_mem h3.1) rfl) zx))) k hk
theorem zmP(T:Top G) {p1 p2 p3 p4:List Row}(hl:∀p∈[p1,p2,p3,p4],p.length≤5∧∀r∈p,r.1<5) (hne:(ups p1 p2 p3 p4).filter okUp≠[]) :
  ∀env,EnvOk env (zo (ze 20))→X G n env (zu (ze 20)) [("prices",.lst [dPr [],dPr p1,dPr p2,dPr p3,dPr p4])] [] (ZU fun d' _=>d'=.int (zaE p1 p2 p3 p4)):=by
 intro env hE
 refine zc ?_
 refine zk2 (names:=["a"]) (ρ':=[("prices",.lst [dPr [],dPr p1,dPr p2,dPr p3,dPr p4])]) (xs:=p1) (bf:=fun r=>[("a",.int (r.1:Int))]) (c:=fun _=>true) (of:=fun a=>p2.flatMap fun b=>p3.flatMap fun c=>p4.flatMap fun d=>[z6 [0,a.1,b.1,c.1,d.1]]) hE (by kernel_rfl) (by kernel_rfl) (by kernel_rfl) (by walk_at "mw") ?_ (zI (by kernel_rfl)) ?_ ?_ ?_ ?_ ?_ ?_
 ·exact zN (by walk_at "mp") jY
 ·simp
 ·exact zw (by kernel_rfl)
 ·intro u1 u9 y hy
  exact zW
 ·intro u1 W hI a ha _
  refine QQ ?_ (show(p2.filter fun _=>true).flatMap _=_ by rw[zl])
  refine Qu (names:=["b"]) (xs:=p2) (bf:=fun r=>[("b",.int (r.1:Int))]) (c:=fun _=>true) hI rfl (by rfl) rfl (by intro _;rfl) ?_ (zI (by kernel_rfl)) (by simp) (zw (by kernel_rfl)) (fun y hy=>zW) fun b hb _=>?_
  ·exact zN (by walk_at "mp") jY
  refine QQ ?_ (show(p3.filter fun _=>true).flatMap _=_ by rw[zl])
  refine Qu (names:=["c"]) (xs:=p3) (bf:=fun r=>[("c",.int (r.1:Int))]) (c:=fun _=>true) hI rfl (by rfl) rfl (by intro _;rfl) ?_ (zI (by kernel_rfl)) (by simp) (zw (by kernel_rfl)) (fun y hy=>zW) fun c hc _=>?_
  ·exact zN (by walk_at "mp") jY
  refine QQ ?_ (show(p4.filter fun _=>true).flatMap _=_ by rw[zl])
  refine Qu (names:=["d"]) (xs:=p4) (bf:=fun r=>[("d",.int (r.1:Int))]) (c:=fun _=>true) hI rfl (by rfl) rfl (by intro _;rfl) ?_ (zI (by kernel_rfl)) (by simp) (zw (by kernel_rfl)) (fun y hy=>zW) fun d hd _=>?_
  ·exact zN (by walk_at "mp") jY
  refine QP rfl ?_
  show PE G n u1 _ _ _ (.lst [.int 0,.int (a.1:Int),.int (b.1:Int),.int (c.1:Int),.int (d.1:Int)])
  walk_at "mp"
 ·rw[zl]
  have:=zht hl
  unfold ups at this
  refine Nat.le_trans (Nat.le_of_eq ?_) (Nat.le_trans this (by decide))
  simp only[List.length_flatMap,z6,List.length_singleton]
 ·show X _ _ _ _ _ _ _
  have eU:(((p1.filter fun _=>true).flatMap fun a=>p2.flatMap fun b=>p3.flatMap fun c=>p4.flatMap fun d=>[z6 [0,a.1,b.1,c.1,d.1]]))=(ups p1 p2 p3 p4).map fun u=>z6 u:=by
   rw[zl]
   unfold ups
   simp only[List.map_flatMap,List.map_cons,List.map_nil]
  rw[eU]
  have hUl:=zht hl
  refine zc (z8 ?_)
  refine zt (d:=.int (zaE p1 p2 p3 p4)) ?_ rfl
  refine zF (zq T hE (by kernel_rfl) (by kernel_rfl)) (zg (d:=.lst ((((ups p1 p2 p3 p4).filter okUp).map (jM p1 p2 p3 p4)).map .int)) ?_ zj) (zgI (.self _) ?_) zm
  ·refine zi (Z3 (names:=["up"]) (ρ':=[("prices",.lst [dPr [],dPr p1,dPr p2,dPr p3,dPr p4])]) (xs:=ups p1 p2 p3 p4) (bf:=fun u=>[("up",z6 u)]) (c:=okUp) (g:=fun u=>.int (jM p1 p2 p3 p4 u)) hE (by kernel_rfl) (by walk_at "mw") ?_ (zI (by kernel_rfl)) ?_ ?_ ?_ ?_ ?_) (by rw[List.map_map];rfl)
   ·exact zN (by walk_at "mp") Zj
   ·simp
   ·exact zw (by kernel_rfl)
   ·intro u1 u9 u hu
    have h5:=(zop hl hu).2
    have hul:=(zop hl hu).1
    have gn:∀{k:Nat},k<5→GetJ G n [] (z6 u) (.int (k:Int)) _:=fun hk=>J6 (Nat.lt_of_lt_of_eq hk hul.symm) (Nat.le_trans (Nat.le_of_eq hul) (by decide))
    refine ZM (qf (zU (d₁:=z6 (u.filter fun k=>decide (u.getD (u.getD (u.getD k 0) 0) 0≠0))) (d₂:=.lst []) ?_ (by walk_at "mp") (zgD (k:=1) (.lst .nilR) (by decide) (fun _ _ h=>nomatch h.1) fun _ _ h=>nomatch h.1)) ?_)
    ·refine Z3 (names:=["k"]) (ρ':=[("up",z6 u)]) (xs:=u) (bf:=fun k=>[("k",.int (k:Int))]) (c:=fun k=>decide (u.getD (u.getD (u.getD k 0) 0) 0≠0)) (g:=fun(k:Nat)=>.int (k:Int)) u9 (by kernel_rfl) (by walk_at "mw") ?_ (zI (by kernel_rfl)) ?_ ?_ ?_ ?_ ?_
     ·exact zN (by walk_at "mp") Zj
     ·simp
     ·exact zw (by kernel_rfl)
     ·intro env'' hE'' k hk
      refine ZM (qf (zU (zv (by walk_at "mp") (zv (by walk_at "mp") (zv (by walk_at "mp") (by walk_at "mp") (gn (h5 k hk))) (gn (zoL h5 _))) (gn (zoL h5 _))) (by walk_at "mp") zbn) ?_)
      rw[bne,qe,←decide_not]
      exact decide_eq_decide.mpr (not_congr Int.natCast_eq_zero)
     ·intro env'' hE'' k hk _
      walk_at "mp"
     ·rw[hul];decide
    ·unfold okUp
     cases u.filter fun k=>decide (u.getD (u.getD (u.getD k 0) 0) 0≠0) with
     | nil=>simp[eqD,qz]
     | cons x xs=>simp[eqD,qz]
   ·intro u1 u9 u hu _
    refine zF (zq T u9 (by kernel_rfl) (by kernel_rfl)) (zg (d:=.lst (([1,2,3,4].map fun k=>QB ([[],p1,p2,p3,p4].getD k []) (u.getD k 0)).map .int)) ?_ zj) (J8 (.self _)) zm
    refine zi (Z3 (names:=["k"]) (ρ':=[("up",z6 u),("prices",.lst [dPr [],dPr p1,dPr p2,dPr p3,dPr p4])]) (xs:=[1,2,3,4]) (bf:=fun(k:Nat)=>[("k",.int (k:Int))]) (c:=fun _=>true) (g:=fun k=>.int (QB ([[],p1,p2,p3,p4].getD k []) (u.getD k 0))) u9 (by kernel_rfl) (by walk_at "mw") ?_ (zI (by kernel_rfl)) ?_ ?_ ?_ ?_ ?_) ?_
    ·refine Qz (Zw (zq T u9 (by kernel_rfl) (by kernel_rfl)) (zg (by walk_at "mp") (zg (by walk_at "mp") zj)) (zdG (by decide +kernel)) z2) ?_
     rfl
    ·simp
    ·exact zw (by kernel_rfl)
    ·intro env'' hE'' k hk
     exact zW
    ·intro env'' hE'' k hk _
     refine zbg (zjW (G:=G) (n:=n) hu hk) fun p t r g2 g1 g3 e=>?_
     rw[e]
     exact zv (zv (zv (by walk_at "mp") (by walk_at "mp") g2) (zv (by walk_at "mp") (by walk_at "mp") g1) g3) (by walk_at "mp") (by walk_at "mo")
    ·exact Nat.le_of_ble_eq_true rfl
    ·rw[zl,List.map_map];rfl
   ·exact Nat.le_trans hUl (by decide)
  ·intro e
   exact hne (by simpa using e)
theorem znV(T:Top G) {p1 p2 p3 p4:List Row}(hl:∀p∈[p1,p2,p3,p4],p.length≤5∧∀r∈p,r.1<5) (hne:(ups p1 p2 p3 p4).filter okUp≠[]) :
  CallJ G (n+1) σ (.ref (T.fa 20)) [.lst [dPr [],dPr p1,dPr p2,dPr p3,dPr p4]] (.int (zaE p1 p2 p3 p4)):=
 jx T (by decide) (by decide +kernel) (by kernel_rfl) (by kernel_rfl) (zmP T hl hne)
end
section
open PySem PySem.W
variable {G:Gx}{n:Nat}{env:Env}{ρ:Rho}{σ:Sig}
theorem Qv{α:Type}{f:α→D}{l:List (Str×α)}{k:Str}{v:α}:Zl (l.map fun p=>(p.1,f p.2)) k (f v)=(z5 l k v).map fun p=>(p.1,f p.2):=by
 unfold Zl z5
 have e:((l.map fun p=>(p.1,f p.2)).any fun p=>decide (p.1=k))=l.any fun p=>decide (p.1=k):=by rw[List.any_map];rfl
 rw[e]
 by_cases h:(l.any fun p=>decide (p.1=k))=true
 ·rw[if_pos h,if_pos h,List.map_map,List.map_map]
  refine List.map_congr_left fun p hp=>?_
  by_cases e:p.1=k
  ·simp[e]
  ·simp[e]
 ·rw[if_neg h,if_neg h];simp
theorem Qb{α β:Type}{f:β→α→β}{b:β}{l:List α}{i:Nat}{x:α}(h:l[i]?=some x):(l.take (i+1)).foldl f b=f ((l.take i).foldl f b) x:=by
 rw[List.take_add_one,h];simp
theorem J2{α:Type}(l:List (Str×α)) (i:Nat):((l.take i).foldl (fun acc p=>z5 acc p.1 p.2) []).length≤i:=by
 induction i with
 | zero=>simp
 | succ i ih=>
  cases h:l[i]? with
  | none=>rw[List.take_add_one,h];simp;lia
  | some x=>rw[Qb h];exact Nat.le_trans (zah _ _ _) (by lia)
theorem jR{α:Type}(add:α→α→α) (b l:List (Str×α)) (i:Nat):((l.take i).foldl (zM add) b).length≤b.length+i:=by
 induction i with
 | zero=>simp
 | succ i ih=>
  cases h:l[i]? with
  | none=>rw[List.take_add_one,h,Option.toList_none,List.append_nil];exact Nat.le_succ_of_le ih
  | some x=>rw[Qb h];exact Nat.le_trans (zex _ _ _) (Nat.succ_le_succ ih)
noncomputable abbrev dF{α:Type}(f:α→D) (l:List (Str×α)):D:=.dicS (l.map fun p=>(p.1,f p.2))
noncomputable abbrev mF{α:Type}(f:α→D) (l:List (Str×α)):MO:=.dicS (l.map fun p=>(p.1,f p.2))
noncomputable abbrev zbJ{α:Type}(f:α→D) (a:Addr) (t s:List (Str×α)):Rho:=[("new_callers",.raw (.ref a)),("target",dF f t),("source",dF f s)]
theorem znF{α:Type}{f:α→D}{acc:List (Str×α)}{k:Str}(h:((acc.map fun p=>(p.1,f p.2)).any fun q=>decide (q.1=k))=true):∃old,zX acc k=some old:=by
 cases e:zX acc k with
 | some v=>exact⟨v,rfl⟩
 | none=>rw[List.any_map] at h;exact Bool.noConfusion ((jv.mp e).symm.trans h)
theorem zoG{α:Type}{f:α→D}{acc:List (Str×α)}{k:Str}(h:((acc.map fun p=>(p.1,f p.2)).any fun q=>decide (q.1=k))=false):zX acc k=none:=jv.mpr (by rw[List.any_map] at h;exact h)
theorem zln{α:Type}{add:α→α→α}{acc:List (Str×α)}{p:Str×α}{old:α}(h:zX acc p.1=some old):zM add acc p=z5 acc p.1 (add old p.2):=by unfold zM;rw[h]
theorem zlo{α:Type}{add:α→α→α}{acc:List (Str×α)}{p:Str×α}(h:zX acc p.1=none):zM add acc p=z5 acc p.1 p.2:=by unfold zM;rw[h]
noncomputable def zmJ(G:Gx) (n:Nat) (env:Env) {α:Type}(f:α→D) (add:α→α→α) (t s:List (Str×α)):Prop:=
 ∀(a:Addr) (acc:List (Str×α)) (p:Str×α) (old:α) (P:Out→Prop),acc.length≤2000→zX acc p.1=some old→X G n env [] (("caller",f p.2)::("func",.str p.1)::zbJ f a t s) [(a,mF f (z5 acc p.1 (add old p.2)))] P→
  X G n env (zaH (ZO (zu (ze 3))[2]?)[0]?) (("caller",f p.2)::("func",.str p.1)::zbJ f a t s) [(a,mF f acc)] P
theorem zmV(T:Top G) {α:Type}{f:α→D}{add:α→α→α}{t s acc₀:List (Str×α)}{a:Addr}(h0:acc₀.length≤1000) (hs:s.length≤1000) (hE:EnvOk env (zo (ze 3))) (br:zmJ G n env f add t s) :
  X G n env ((zu (ze 3)).drop 2) (zbJ f a t s) [(a,mF f acc₀)] (ZU fun d' _=>d'=dF f (s.foldl (zM add) acc₀)):=by
 refine zc ?_
 refine JX (names:=["func","caller"]) (bs:=s.map fun p=>[("caller",f p.2),("func",.str p.1)]) (fun _=>True) (fun _=>zbJ f a t s) (fun i=>[(a,mF f ((s.take i).foldl (zM add) acc₀))]) ?_ ?_ ⟨trivial,rfl,rfl⟩ ?_ ?_
 ·refine Qz (zeY (by walk_at "mp") (by rfl) (by rfl)) ?_
  rw[List.map_map,List.map_map];rfl
 ·exact qY hE (by kernel_rfl)
 ·intro i b _ hb
  obtain⟨p,hp,rfl⟩:=qt hb
  have hal:((s.take i).foldl (zM add) acc₀).length≤2000:=Nat.le_trans (jR _ _ _ _) (Nat.add_le_add h0 (Nat.le_trans (Nat.le_of_lt (List.getElem?_eq_some_iff.mp hp).1) hs))
  refine zc ?_
  refine Qt (zU (by walk_at "mp") (by walk_at "mp") (znD (.dicS (List.mem_singleton.mpr rfl)))) (fun hin=>?_) (fun hin=>?_)
  ·refine(znF hin).elim fun old hold=>br a _ p old _ hal hold ?_
   refine zz ?_
   exact zT (ρ':=zbJ f a t s) (by walk_at "mw") (zz ⟨trivial,rfl,by rw[Qb hp,zln hold]⟩)
  ·refine zc ?_
   refine jo (zt (by walk_at "mp") ⟨_,_,_,by walk_at "mp",by walk_at "mp",.dicS (.head ..) (by rw[List.length_map];exact Nat.le_trans hal (by decide)),?_⟩)
   refine zz ?_
   exact zT (ρ':=zbJ f a t s) (by walk_at "mw") (zz ⟨trivial,rfl,by rw[Qb hp,zlo (zoG hin),Qv]⟩)
 ·intro _
  rw[List.length_map,List.take_length]
  refine zz ?_
  refine Qe (.head ..) trivial (ρ':=([("new_callers",dF f (s.foldl (zM add) acc₀))]:Rho)) (.froze (by walk_at "ml") .nil) ?_
  exact zc (z8 (zt (by walk_at "mp") rfl))
theorem zjw(T:Top G) {α:Type}{f:α→D}{add:α→α→α}{t s:List (Str×α)}(ht:t.length≤1000) (hs:s.length≤1000) (hE:EnvOk env (zo (ze 3))) (br:zmJ G n env f add t s) :
  X G n env (zu (ze 3)) [("target",dF f t),("source",dF f s)] [] (ZU fun d' _=>d'=dF f (qq add t s)):=by
 have hl:=fun i=>J2 t i
 refine zc ?_
 refine z4 (by walk_at "ms") (jh (mo:=.dicS []) zeO fun a=>?_)
 refine zc ?_
 refine JX (names:=["func","caller"]) (bs:=t.map fun p=>[("caller",f p.2),("func",.str p.1)]) (fun _=>True) (fun _=>zbJ f a t s) (fun i=>[(a,mF f ((t.take i).foldl (fun acc p=>z5 acc p.1 p.2) []))]) ?_ ?_ ⟨trivial,rfl,rfl⟩ ?_ ?_
 ·refine Qz (zeY (by walk_at "mp") (by rfl) (by rfl)) ?_
  rw[List.map_map,List.map_map];rfl
 ·exact qY hE (by kernel_rfl)
 ·intro i b _ hb
  obtain⟨p,hp,rfl⟩:=qt hb
  refine zc ?_
  refine jo (zt (by walk_at "mp") ⟨_,_,_,by walk_at "mp",by walk_at "mp",.dicS (.head ..) (by rw[List.length_map];exact Nat.le_trans (hl i) (Nat.le_trans (Nat.le_of_lt (List.getElem?_eq_some_iff.mp hp).1) (Nat.le_trans ht (by decide)))),?_⟩)
  exact zT (ρ':=zbJ f a t s) (by walk_at "mw") (zz ⟨trivial,rfl,by rw[Qb hp,Qv]⟩)
 intro _
 have h0:=hl t.length
 rw[List.take_length] at h0
 rw[List.length_map,List.take_length]
 exact zz (zmV T (Nat.le_trans h0 ht) hs hE br)
theorem zpj(T:Top G) {t s:List (Str×Int)}(ht:t.length≤1000) (hs:s.length≤1000) :
  ∀env,EnvOk env (zo (ze 3))→X G (n+1) env (zu (ze 3)) [("target",zZ t),("source",zZ s)] [] (ZU fun d' _=>d'=zZ (qq (·+·) t s)):=by
 intro env hE
 refine zjw (f:=D.int) T ht hs hE fun a acc p old P hal hold hP=>?_
 refine zc ?_
 refine Qt (b:=false) (zaA (zF (zq T hE (by kernel_rfl) (by kernel_rfl)) (zg (by walk_at "mp") (zg (zq T hE (by kernel_rfl) (by kernel_rfl)) zj)) zfq zm)) (fun h=>Bool.noConfusion h) (fun _=>?_)
 refine zc ?_
 refine zjl (by walk_at "mp") (by walk_at "mp") (qo (.dicS (List.mem_singleton.mpr rfl)) (qp hold)) (by walk_at "mp") zam (.dicS (.head ..) (by rw[List.length_map];exact Nat.le_trans hal (by decide))) ?_
 rw[Qv (f:=D.int)]
 exact zz hP
noncomputable abbrev qi(l:List (Str×(Int×Int))):D:=.dicS (l.map fun p=>(p.1,.tup [.int p.2.1,.int p.2.2]))
noncomputable abbrev ziR(v:Int×Int):D:=.tup [.int v.1,.int v.2]
noncomputable def qW(old new:Int×Int):Int×Int:=(new.1+old.1,new.2+old.2)
theorem zon(T:Top G) {t s:List (Str×(Int×Int))}(ht:t.length≤1000) (hs:s.length≤1000) :
  ∀env,EnvOk env (zo (ze 3))→env.code=.ref G.cX→X G (n+1) env (zu (ze 3)) [("target",qi t),("source",qi s)] [] (ZU fun d' _=>d'=qi (qq qW t s)):=by
 intro env hE hcode
 refine zjw (f:=ziR) T ht hs hE fun a acc p old P hal hold hP=>?_
 refine zc ?_
 refine Qt (b:=true) (zaA (zF (zq T hE (by kernel_rfl) (by kernel_rfl)) (zg (by walk_at "mp") (zg (zq T hE (by kernel_rfl) (by kernel_rfl)) zj)) zdH zm)) (fun _=>?_) (fun h=>Bool.noConfusion h)
 refine zc ?_
 have hget:((acc.map fun q=>(q.1,D.tup [.int q.2.1,.int q.2.2])).find? fun q=>q.1=p.1).map (·.2)=some (D.tup [.int old.1,.int old.2]):=qp (f:=ziR) hold
 have h12:PEs G (n+1) env [.Name "caller" {line:=26,col:=65,endLine:=26,endCol:=71},.Subscript (.Name "new_callers" {line:=26,col:=73,endLine:=26,endCol:=84}) (.Name "func" {line:=26,col:=85,endLine:=26,endCol:=89}) {line:=26,col:=73,endLine:=26,endCol:=90}]
   ([("caller",.tup [.int p.2.1,.int p.2.2]),("func",.str p.1),("new_callers",.raw (.ref a)),("target",qi t),("source",qi s)]:Rho) [(a,.dicS (acc.map fun p=>(p.1,.tup [.int p.2.1,.int p.2.2])))] [.tup [.int p.2.1,.int p.2.2],.tup [.int old.1,.int old.2]]:=
  zg (by walk_at "mp") (zg (zv (by walk_at "mp") (by walk_at "mp") (qo (.dicS (List.mem_singleton.mpr rfl)) hget)) zj)
 have hpe:=ziw (xs:=[p.2.1,p.2.2]) (ys:=[old.1,old.2]) (kt:=0) (pa:={line:=26,col:=53,endLine:=26,endCol:=54}) (pb:={line:=26,col:=56,endLine:=26,endCol:=57}) (pt:={line:=26,col:=53,endLine:=26,endCol:=57}) (zpos:={line:=26,col:=61,endLine:=26,endCol:=91}) (gpos:={line:=26,col:=42,endLine:=26,endCol:=92}) (pos:={line:=26,col:=36,endLine:=26,endCol:=93}) (bp:={line:=26,col:=43,endLine:=26,endCol:=48})
  (xa:="i") (xb:="j") (p1:={line:=26,col:=43,endLine:=26,endCol:=44}) (p2:={line:=26,col:=47,endLine:=26,endCol:=48}) (scope:={kind:=.function,names:=[(".0",.local),("i",.local),("j",.local)],isGenerator:=true,isCoroutine:=false})
  hE hcode (zq T hE (x:="tuple") (pos:={line:=26,col:=36,endLine:=26,endCol:=41}) (by kernel_rfl) (by kernel_rfl)) (zq T hE (x:="zip") (pos:={line:=26,col:=61,endLine:=26,endCol:=64}) (by kernel_rfl) (by kernel_rfl)) h12 rfl (by show 2≤1000;decide) (by kernel_rfl) (by kernel_rfl) (by intro _ _;rfl) (by intro _;rfl) (by intro _ _;rfl) (by intro _;rfl)
 refine jo (zt hpe ⟨_,_,_,by walk_at "mp",by walk_at "mp",.dicS (.head ..) (by rw[List.length_map];exact Nat.le_trans hal (by decide)),?_⟩)
 have hst:Zl (acc.map fun q=>(q.1,ziR q.2)) p.1 (ziR (qW old p.2))=_:=Qv
 exact zz (hst▸hP)
theorem zmG(T:Top G) {t s:List (Str×Int)}(ht:t.length≤1000) (hs:s.length≤1000):CallJ G (n+1+1) σ (.ref (T.fa 3)) [zZ t,zZ s] (zZ (qq (·+·) t s)):=
 jx T (by decide) (by decide +kernel) (by kernel_rfl) (by kernel_rfl) (zpj T ht hs)
theorem zo5(T:Top G) {t s:List (Str×(Int×Int))}(ht:t.length≤1000) (hs:s.length≤1000):CallJ G (n+1+1) σ (.ref (T.fa 3)) [qi t,qi s] (qi (qq qW t s)):=
 zl9 T (by decide +kernel) (by kernel_rfl) (by kernel_rfl) (zon T ht hs)
end
section
open PySem PySem.W
variable {G:Gx}{n:Nat}{env:Env}{ρ:Rho}{σ:Sig}
noncomputable def qv(m i:Nat):List Str:=((List.range i).filter m.testBit).map ZF
theorem zbr(m i:Nat):qv m (i+1)=if m.testBit i=true then qv m i++[ZF i] else qv m i:=by
 unfold qv
 rw[List.range_succ,List.filter_append,List.map_append]
 by_cases h:m.testBit i=true
 ·simp[h]
 ·simp[h]
theorem zfi{m i:Nat}(h:m<2^i):∀k,qv m (i+k)=qv m i
 | 0=>rfl
 | k+1=>by
  rw[←Nat.add_assoc,zbr,zfi h k,if_neg]
  have:m.testBit (i+k)=false:=Nat.testBit_lt_two_pow (Nat.lt_of_lt_of_le h (Nat.pow_le_pow_right (by decide) (Nat.le_add_right _ _)))
  simp[this]
theorem zfj(m i:Nat):(qv m i).length≤i:=by
 unfold qv
 rw[List.length_map]
 exact Nat.le_trans (List.length_filter_le _ _) (by simp)
theorem znZ(f i:Nat):f &&& 2^i=if f.testBit i=true then 2^i else 0:=by
 apply Nat.eq_of_testBit_eq
 intro j
 rw[Nat.testBit_and,Nat.testBit_two_pow]
 by_cases e:i=j
 ·subst e
  by_cases h:f.testBit i=true
  ·simp[h,Nat.testBit_two_pow]
  ·simp[h]
 ·by_cases h:f.testBit i=true
  ·simp[h,e,Nat.testBit_two_pow]
  ·simp[h,e]
theorem zlV:∀i<32,(((j1.map fun p=>(p.1,D.str p.2)).find? fun p=>p.1=((2^i:Nat):Int)).map (·.2)).getD (.str (PySem.baseText "0x" 16 ((2^i:Nat):Int)))=.str (ZF i):=by
 have:∀i<32,((j1.find? fun p=>p.1=((2^i:Nat):Int)).map (·.2)).getD (PySem.baseText "0x" 16 ((2^i:Nat):Int))=ZF i:=by decide +kernel
 intro i hi
 rw[←this i hi]
 rw[List.find?_map]
 cases e:j1.find? fun p=>p.1=((2^i:Nat):Int) with
 | none=>rw[show(List.find? ((fun p:Int×D=>decide (p.1=((2^i:Nat):Int)))∘fun p:Int×Str=>(p.1,D.str p.2)) j1)=none from e];rfl
 | some p=>rw[show(List.find? ((fun p:Int×D=>decide (p.1=((2^i:Nat):Int)))∘fun p:Int×Str=>(p.1,D.str p.2)) j1)=some p from e];rfl
theorem znE:∀i<32,(PySem.baseText "0x" 16 ((2^i:Nat):Int)).length≤10:=by decide +kernel
theorem zcT:∀i<32,(ZF i).length≤20:=by decide +kernel
theorem zdE(k:Nat):∀(l:List Str) (a:Nat),l.foldl (fun a x=>a+x.length+k) a=a+(l.map fun x=>x.length+k).sum
 | [],a=>by simp
 | x::l,a=>by rw[List.foldl_cons,zdE k l,List.map_cons,List.sum_cons];lia
theorem zhO{l:List Str}{sep:Str}(h:(l.map fun x=>x.length+sep.length).sum≤100000):JoinOk sep l=true:=by
 unfold JoinOk
 rw[List.foldl_toArray' _ _ _ rfl,zdE,Nat.zero_add]
 generalize (l.map fun x=>x.length+sep.length).sum=k at h
 show(!decide (k>PySem.sizeLine))=true
 rw[sizeLine_eq]
 simp;lia
theorem zaQ{l:List Str}{f:Str→Nat}{k:Nat}(h:∀x∈l,f x≤k):(l.map f).sum≤l.length*k:=by
 induction l with
 | nil=>simp
 | cons a l ih=>
  rw[List.map_cons,List.sum_cons,List.length_cons,Nat.add_mul]
  have:=h a List.mem_cons_self
  have:=ih fun x hx=>h x (List.mem_cons_of_mem _ hx)
  lia
theorem zgs(m i:Nat):m/2^i=2*(m/2^(i+1))+m/2^i%2:=by rw[Nat.pow_succ,←Nat.div_div_eq_div_mul];exact(Nat.div_add_mod _ 2).symm
theorem zoT{m i:Nat}(h:m.testBit i=true):m/2^i*2^i=m/2^(i+1)*2^(i+1)+2^i:=by
 rw[Nat.testBit_eq_decide_div_mod_eq] at h
 have e:=zgs m i
 rw[of_decide_eq_true h] at e
 rw[e,Nat.add_mul,Nat.one_mul,Nat.pow_succ,Nat.mul_comm 2,Nat.mul_assoc,Nat.mul_comm 2 (2^i)]
theorem znO{m i:Nat}(h:m.testBit i=false):m/2^i*2^i=m/2^(i+1)*2^(i+1):=by
 rw[Nat.testBit_eq_decide_div_mod_eq] at h
 have e:=zgs m i
 rw[(Nat.mod_two_eq_zero_or_one _).resolve_right (of_decide_eq_false h),Nat.add_zero] at e
 rw[e,Nat.pow_succ,Nat.mul_comm 2,Nat.mul_assoc,Nat.mul_comm 2 (2^i)]
theorem zgy(m i:Nat):(m/2^i*2^i) &&& 2^i=if m.testBit i=true then 2^i else 0:=by
 rw[znZ,Nat.testBit_eq_decide_div_mod_eq,Nat.testBit_eq_decide_div_mod_eq,Nat.mul_div_cancel _ (Nat.two_pow_pos i)]
theorem zpq{m i:Nat}(h:(((m/2^i*2^i) &&& 2^i:Nat):Int) != 0):m.testBit i=true:=by
 rw[zgy] at h
 cases e:m.testBit i with
 | true=>rfl
 | false=>rw[e,if_neg (by decide)] at h;exact absurd h (by decide)
theorem zoS{m i:Nat}(h:((((m/2^i*2^i) &&& 2^i:Nat):Int) != 0)=false):m.testBit i=false:=by
 rw[zgy] at h
 cases e:m.testBit i with
 | false=>rfl
 | true=>
  rw[e,if_pos rfl] at h
  exact absurd (Int.ofNat_eq_zero.mp (bne_eq_false_iff_eq.mp h)) (Nat.ne_of_gt (Nat.two_pow_pos i))
theorem znN{m i:Nat}(h:(!(((m/2^i*2^i:Nat):Int) != 0))=true):m<2^i:=
 (Nat.div_eq_zero_iff_lt (Nat.two_pow_pos i)).mp ((Nat.mul_eq_zero.mp (Int.ofNat_eq_zero.mp (bne_eq_false_iff_eq.mp (Bool.not_eq_eq_eq_not.mp h)))).resolve_right (Nat.ne_of_gt (Nat.two_pow_pos i)))
theorem znM{k:Nat}(h:(!((k:Int) != 0))=false):k≠0:=fun e=>by rw[e] at h;exact absurd h (by decide)
theorem zoR{m i:Nat}(h:m.testBit i=true):Builtin.bitXor ((m/2^i*2^i:Nat):Int) ((2^i:Nat):Int)=((m/2^(i+1)*2^(i+1):Nat):Int):=by
 rw[zi5,zgy,h,if_pos rfl,zoT h,Int.natCast_add,Int.add_assoc,←Int.two_mul,Int.add_sub_cancel]
theorem ziu{x:Str}{m i:Nat}{b:Rho}(h:(qb x 0 1 m)[i]?=some b):i<m∧b=([(x,.int (i:Int))]:Rho):=by
 unfold qb at h
 refine(List.getElem?_eq_some_iff.mp h).elim fun hi _=>?_
 rw[List.length_map,List.length_range] at hi
 rw[List.getElem?_map,List.getElem?_range hi] at h
 refine⟨hi,(Option.some.inj h).symm.trans ?_⟩
 show([(x,D.int (0+(i:Int)*1))]:Rho)=_
 rw[Int.zero_add,Int.mul_one]
theorem zkS(m:Nat):JoinOk ", " (qv m 32)=true:=
 zhO (Nat.le_trans (zaQ (k:=22) fun x hx=>(List.mem_map.mp hx).elim fun j y=>y.2▸Nat.add_le_add_right (zcT j (List.mem_range.mp (List.mem_filter.mp y.1).1)) 2) (Nat.le_trans (Nat.mul_le_mul_right _ (zfj m 32)) (by decide)))
noncomputable abbrev zef(a:Addr) (f:Nat):Rho:=[("names",.raw (.ref a)),("flags",.int (f:Int))]
theorem zju(T:Top G) {m i:Nat}{a:Addr}{P:Out→Prop}(hi:i<32) (hE:EnvOk env (zo (ze 7)))
  (hR:m<2^(i+1)→P (.brk (zef a (m/2^(i+1)*2^(i+1))) [(a,.lst ((qv m (i+1)).map .str))])) (hN:m/2^(i+1)*2^(i+1)≠0→P (.next (zef a (m/2^(i+1)*2^(i+1))) [(a,.lst ((qv m (i+1)).map .str))])) (hf:m/2^i*2^i≠0) :
  X G n env (ZO (zu (ze 7))[1]?) (("i",.int (i:Int))::zef a (m/2^i*2^i)) [(a,.lst ((qv m i).map .str))] P:=by
 refine zc ?_
 refine z4 (by walk_at "ms") (zt (d:=.int ((2^i:Nat):Int)) (zk zn (by walk_at "mp") (Zt (znY (Int.natCast_nonneg i) ?_) ?_)) ?_)
 ·rw[show Builtin.Int.intBits 1=1 by decide +kernel]
  exact Int.le_trans (Int.ofNat_le.mpr (Nat.add_le_add_left (Nat.le_of_lt hi) 1)) (by decide)
 ·rw[Int.one_mul,Int.toNat_natCast];exact congrArg D.int (Int.natCast_pow 2 i).symm
 refine zc ?_
 refine Qt (zdp (zk (d:=.int (((m/2^i*2^i) &&& 2^i:Nat):Int)) (by walk_at "mp") (by walk_at "mp") (Zt zew (by rw[JQ])))) (fun h=>?_) (fun h=>?_)
 ·have htb:=zpq h
  have hl:(qv m i).map D.str++[.str (ZF i)]=(qv m (i+1)).map D.str:=by rw[zbr,if_pos htb];exact(List.map_append (l₂:=[ZF i])).symm
  refine zc ?_
  refine Jx hE (Z8 qR (by walk_at "mp") (Z9 (.lst (List.mem_singleton.mpr rfl))) (Zn (zt (d:=.str (ZF i)) ?_ (qw ?_))))
  ·exact zi (Qs zmu (ziy (hE.glob (by kernel_rfl)) T.flags (by rfl)) (zmZ (.self _)) (zg (by walk_at "mp") (zg (zF (zq T hE (by kernel_rfl) (by kernel_rfl)) (zg (by walk_at "mp") zj) (zl8 (Nat.le_trans (znE i hi) (by decide))) zm) zj)) (zkO (.self _))) (zlV i hi)
  refine ZS (.head ..) ?_ (by rw[List.length_map];exact Nat.le_trans (zfj m i) (Nat.le_trans (Nat.le_of_lt hi) (by decide)))
  rw[hl]
  refine zc ?_
  refine JF (d:=.int ((m/2^(i+1)*2^(i+1):Nat):Int)) (by walk_at "ml") (by walk_at "mp") (zoR htb▸zhb) (by walk_at "ms") ?_
  refine zT (ρ':=zef a (m/2^(i+1)*2^(i+1))) (by walk_at "mw") ?_
  refine zc ?_
  refine Qt (zjU (zdp (by walk_at "mp"))) (fun h2=>zc (zhp (hR (znN h2)))) (fun h2=>?_)
  refine zz ?_
  refine zz ?_
  exact zz (hN (znM h2))
 ·have htb:=zoS h
  refine zz ?_
  rw[znO htb] at hf ⊢
  have hN:=hN hf
  rw[zbr,if_neg (by rw[htb];decide)] at hN
  exact zT (ρ':=zef a (m/2^(i+1)*2^(i+1))) (by walk_at "mw") (zz hN)
theorem zlb(T:Top G) {m:Nat}(h0:m≠0) (hm:m<2^32):∀env,EnvOk env (zo (ze 7))→X G n env (zu (ze 7)) [("flags",.int (m:Int))] [] (ZU fun d' _=>d'=.str (Txt.join ", " (qv m 32))):=by
 intro env hE
 have e0:m/2^0*2^0=m:=by rw[Nat.pow_zero,Nat.div_one,Nat.mul_one]
 refine zc ?_
 refine z4 (by walk_at "ms") (jh (mo:=.lst []) (Qg (by walk_at "mq")) fun a=>?_)
 show X _ _ _ _ _ _ _
 refine zc ?_
 refine JX (names:=["i"]) (bs:=qb "i" 0 1 32) (fun i=>m/2^i*2^i≠0) (fun i=>zef a (m/2^i*2^i)) (fun i=>[(a,.lst ((qv m i).map .str))]) ?_ ?_ ⟨by rw[e0];exact h0,by rw[e0],rfl⟩ ?_ ?_
 ·exact Qz (Zw (zq T hE (by kernel_rfl) (by kernel_rfl)) (by walk_at "mq") (za8 (by decide)) z2) (by kernel_rfl)
 ·exact qY hE (by kernel_rfl)
 ·intro i b hf hb
  obtain⟨hi,rfl⟩:=ziu hb
  refine zju T hi hE (fun h4=>?_) (fun h=>⟨h,rfl,rfl⟩) hf
  show X _ _ _ _ _ _ _
  have h5:=zfi h4 (31-i)
  rw[show i+1+(31-i)=32 by rw[Nat.add_right_comm];exact congrArg Nat.succ (Nat.add_sub_cancel' (Nat.le_of_lt_succ hi))] at h5
  rw[←h5]
  refine Qe (.head ..) trivial (ρ':=([("names",.lst ((qv m 32).map .str))]:Rho)) (.froze (by walk_at "ml") .nil) ?_
  exact zc (z8 (zt (Qs zj8 jb zdc (by walk_at "mq") (zfg (.self _) (zkS m))) rfl))
 ·exact fun h=>absurd (by rw[show(qb "i" 0 1 32).length=32 from rfl,Nat.div_eq_of_lt hm,Nat.zero_mul]) h
theorem zmc(T:Top G) {m:Nat}(h0:m≠0) (hm:m<2^32):CallJ G (n+1) σ (.ref (T.fa 7)) [.int (m:Int)] (.str (Txt.join ", " (qv m 32))):=
 jx T (by decide) (by decide +kernel) (by kernel_rfl) (by kernel_rfl) (zlb T h0 hm)
end
section
open PySem PySem.W
variable {G:Gx}{n:Nat}{env:Env}{ρ:Rho}{σ:Sig}
theorem QF{a b:Nat}:BinJ G n σ .BitAnd (.int (a:Int)) (.int (b:Int)) (.int ((a &&& b:Nat):Int)):=Zt zew (by rw[JQ])
theorem zcO{v:Nat}(h:v<2^58):InpJ G n σ .LShift (.int (v:Int)) (.int 6) (.int ((v*64:Nat):Int)):=by
 have:=zhd (G:=G) (n:=n) (σ:=σ) (a:=(v:Int)) (b:=6) (by decide) (by decide) (by simp;lia)
 rwa[show((v:Int)*2^(6:Int).toNat)=((v*64:Nat):Int) from by simp] at this
theorem zgr{v x:Nat}:InpJ G n σ .BitOr (.int ((v*64:Nat):Int)) (.int ((x &&& 63:Nat):Int)) (.int ((v*64+(x &&& 63):Nat):Int)):=by
 have:=ziI (G:=G) (n:=n) (σ:=σ) (a:=((v*64:Nat):Int)) (b:=((x &&& 63:Nat):Int))
 rw[zkT,zoB _ _ (zmg x)] at this
 rwa[show(((v*64:Nat):Int)+((x &&& 63:Nat):Int)-((0:Nat):Int))=((v*64+(x &&& 63):Nat):Int) from by lia] at this
noncomputable abbrev zeg(it:Addr) (c:UInt8) (v:Nat):Rho:=[("val",.int (v:Int)),("b",.int (c.toNat:Int)),("iterator",.raw (.ref it))]
theorem VLoop.inv{b:Array UInt8}{k v i r j:Nat}{c:UInt8}(h:VLoop b k c v i r j):(c.toNat &&& 64=0∧r=v∧j=i)∨(c.toNat &&& 64≠0∧∃k' c',k=k'+1∧b[i]?=some c'∧v<2^58∧VLoop b k' c' (v*64+(c'.toNat &&& 63)) (i+1) r j):=
 VLoop.rec (motive:=fun k c v i r j _=>(c.toNat &&& 64=0∧r=v∧j=i)∨(c.toNat &&& 64≠0∧∃k' c',k=k'+1∧b[i]?=some c'∧v<2^58∧VLoop b k' c' (v*64+(c'.toNat &&& 63)) (i+1) r j)) (fun h=>.inl ⟨h,rfl,rfl⟩) (fun h1 h2 h3 h4 _=>.inr ⟨h1,_,_,rfl,h2,h3,h4⟩) h
theorem VStop.inv{b:Array UInt8}{k v i:Nat}{c:UInt8}(h:VStop b k c v i):c.toNat &&& 64≠0∧v<2^58∧(b[i]?=none∨∃k' c',k=k'+1∧b[i]?=some c'∧VStop b k' c' (v*64+(c'.toNat &&& 63)) (i+1)):=
 VStop.rec (motive:=fun k c v i _=>c.toNat &&& 64≠0∧v<2^58∧(b[i]?=none∨∃k' c',k=k'+1∧b[i]?=some c'∧VStop b k' c' (v*64+(c'.toNat &&& 63)) (i+1))) (fun h1 h2 h3=>⟨h1,h3,.inl h2⟩) (fun h1 h2 h3 h4 _=>⟨h1,h3,.inr ⟨_,_,rfl,h2,h4⟩⟩) h
theorem zkf{k:Nat}(h:k≠0):((k:Int) != 0)=true:=bne_iff_ne.mpr fun e=>h (Int.ofNat_eq_zero.mp e)
theorem zk6(T:Top G) {it:Addr}{b:Array UInt8}{t:Nat}{i j k r:Nat}{o:Obj}{c:UInt8}(ho:BIt o b t i) (hc:b[i]?=some c) (hv:VLoop b k c (c.toNat &&& 63) (i+1) r j) :
  ∀env,EnvOk env (zo (ze 8))→X G n env (zu (ze 8)) [("iterator",.raw (.ref it))] [(it,.raw o)] (ZU fun d' σ'=>d'=.int (r:Int)∧∃mo',(∃o',mo'=.raw o'∧BIt o' b t j)∧(it,mo')∈σ'):=by
 intro env hE
 refine zc ?_
 refine z4 (by walk_at "ms") (Jg (zq T hE (by kernel_rfl) (by kernel_rfl)) (Je (by walk_at "mq") (JN ho hc fun o' ho'=>⟨_,.head ..,?_⟩)) (fun _=>zm))
 refine zc ?_
 refine z4 (by walk_at "ms") (zt (zk (by walk_at "mp") (zn (i:=((63:Nat):Int))) QF) ?_)
 show X _ _ _ _ (zeg it c (c.toNat &&& 63)) _ _
 refine zc ?_
 refine zd8 (fun k ρ' σ'=>∃c v i o,VLoop b k c v i r j∧BIt o b t i∧ρ'=zeg it c v∧σ'=[(it,.raw o)]) k ⟨_,_,_,_,hv,ho',rfl,rfl⟩ ?_
 intro k _ _ q3_
 refine zmz q3_ fun c v i o hl ho q4_ q5_=>?_
 subst q4_
 subst q5_
 refine⟨_,zdp (zk (by walk_at "mp") (zn (i:=((64:Nat):Int))) QF),fun hb=>?_,fun hb=>?_⟩
 ·refine hl.inv.elim (fun h=>by rw[h.1] at hb;cases hb) fun h=>ziO h.2 fun k' c' ek h2 h3 h4=>?_
  ·rw[ek]
   refine zc ?_
   refine JF (by walk_at "ml") (by walk_at "mp") (zcO h3) (by walk_at "ms") ?_
   refine zc ?_
   refine z4 (by walk_at "ms") (Jg (zq T hE (by kernel_rfl) (by kernel_rfl)) (Je (by walk_at "mq") (JN ho h2 fun o' ho'=>⟨_,.head ..,?_⟩)) (fun _=>zm))
   refine zc ?_
   refine JF (by walk_at "ml") (zk (by walk_at "mp") (zn (i:=((63:Nat):Int))) QF) zgr (by walk_at "ms") ?_
   refine zT (ρ':=zeg it c' (v*64+(c'.toNat &&& 63))) (by walk_at "mw") (zz ?_)
   exact⟨k',Nat.lt_succ_self _,_,_,_,_,h4,ho',rfl,rfl⟩
 ·refine hl.inv.elim (fun h=>?_) fun h=>absurd hb (by rw[zkf h.1];decide)
  rw[h.2.1,h.2.2]
  exact zc (z8 (zt (by walk_at "mp") ⟨rfl,_,⟨_,rfl,ho⟩,.head _⟩))
theorem zob(T:Top G) {it:Addr}{b:Array UInt8}{t:Nat}{i:Nat}{o:Obj}(ho:BIt o b t i) (hs:b[i]?=none∨∃c k,b[i]?=some c∧VStop b k c (c.toNat &&& 63) (i+1)) :
  ∀env,EnvOk env (zo (ze 8))→RX G it n env (zu (ze 8)) [("iterator",.raw (.ref it))] [(it,.raw o)]:=by
 intro env hE
 rcases hs with hs | ⟨c,k,hc,hv⟩
 ·exact zec (zeH (zhB (zq T hE (by kernel_rfl) (by kernel_rfl)) (by walk_at "mq") ho hs fun o'=>⟨_,.head ..⟩))
 refine zed ?_
 refine z4 (by walk_at "ms") (Jg (zq T hE (by kernel_rfl) (by kernel_rfl)) (Je (by walk_at "mq") (JN ho hc fun o' ho'=>⟨_,.head ..,?_⟩)) (fun _=>zm))
 refine⟨_,_,rfl,?_⟩
 refine zed ?_
 refine z4 (by walk_at "ms") (zt (zk (by walk_at "mp") (zn (i:=((63:Nat):Int))) QF) ⟨zeg it c (c.toNat &&& 63),_,rfl,?_⟩)
 refine zec ?_
 refine zlq (fun k ρ' σ'=>∃c v i o,VStop b k c v i∧BIt o b t i∧ρ'=zeg it c v∧σ'=[(it,.raw o)]) k ⟨_,_,_,_,hv,ho',rfl,rfl⟩ ?_
 intro k _ _ q6_
 refine zmz q6_ fun c v i o hl ho q7_ q8_=>?_
 subst q7_
 subst q8_
 refine z9 hl.inv fun h1 h3 h=>?_
 refine⟨qf (zdp (zk (by walk_at "mp") (zn (i:=((64:Nat):Int))) QF)) (zkf h1),h.imp (fun h2=>?_) fun h=>Zk h fun k' c' ek h2 h4=>?_⟩
 ·refine zed ?_
  refine JF (by walk_at "ml") (by walk_at "mp") (zcO h3) (by walk_at "ms") ?_
  refine⟨_,_,rfl,?_⟩
  exact zec (zeH (zhB (zq T hE (by kernel_rfl) (by kernel_rfl)) (by walk_at "mq") ho h2 fun o'=>⟨_,.head ..⟩))
 ·rw[ek]
  refine zc ?_
  refine JF (by walk_at "ml") (by walk_at "mp") (zcO h3) (by walk_at "ms") ?_
  refine zc ?_
  refine z4 (by walk_at "ms") (Jg (zq T hE (by kernel_rfl) (by kernel_rfl)) (Je (by walk_at "mq") (JN ho h2 fun o' ho'=>⟨_,.head ..,?_⟩)) (fun _=>zm))
  refine zc ?_
  refine JF (by walk_at "ml") (zk (by walk_at "mp") (zn (i:=((63:Nat):Int))) QF) zgr (by walk_at "ms") ?_
  refine zT (ρ':=zeg it c' (v*64+(c'.toNat &&& 63))) (by walk_at "mw") (zz ?_)
  exact⟨k',Nat.lt_succ_self _,_,_,_,_,h4,ho',rfl,rfl⟩
end
section
open PySem PySem.W
variable {G:Gx}{n:Nat}{env:Env}{ρ:Rho}{σ:Sig}
noncomputable def ksL:List Nat:=[5,4,3,2,1,0]
theorem zfk{k:Nat}(hk:k≤5):BinJ G n σ .Pow (.int 64) (.int (k:Int)) (.int ((64^k:Nat):Int)):=by
 refine Zt (zeu (by lia) ?_) (by simp)
 have:Builtin.Int.intBits 64=7:=by decide +kernel
 rw[this];lia
theorem qV{a b:Nat}(hb:b≠0) (hl:b.log2<9000):BinJ G n σ .FloorDiv (.int (a:Int)) (.int (b:Int)) (.int ((a/b:Nat):Int)):=
 Zt (zev (by lia) (PyProof.noPylong_of_log2 (by simpa using hl))) (by rw[zgz])
theorem qU{a b:Nat}(hb:b≠0):BinJ G n σ .Mod (.int (a:Int)) (.int (b:Int)) (.int ((a%b:Nat):Int)):=
 Zt (zcq (by lia)) (by rw[zgx _ _ hb])
theorem zc1{a b:Nat}:BinJ G n σ .Add (.int (a:Int)) (.int (b:Int)) (.int ((a+b:Nat):Int)):=Zt ZP (by simp)
theorem znu:∀k≤5,(64^k).log2<9000:=by decide +kernel
noncomputable abbrev ziT(r:List Nat):D:=.tup (r.map fun(k:Nat)=>.int (k:Int))
noncomputable abbrev zdU(l:List (List Nat)):D:=.lst (l.map ziT)
noncomputable def Jk:Option Stmt→Stmt
 | some s=>s
 | none=>.Pass ⟨0,0,0,0⟩
theorem zlc(T:Top G) {r:List Nat}(hr:∀x∈r,x<64^6) (h3:r.length≤3) {ρ:Rho}{R:Out→Prop}{env:Env}(hE:EnvOk env (zo (ze 12)))
  (hrow:List.lookup ("row":Str) ρ=some (ziT r)) (hR:R (.next (("octets",z6 (r.flatMap qm))::ρ) σ)):X1 G n env (Jk (ZO (zu (ze 12))[1]?)[0]?) ρ σ R:=by
 have eo:∀x,qm x=(ksL.filter fun k=>decide (k=0)||decide (64^k≤x)).map fun k=>x/64^k%64+64*(if 0<k then 1 else 0):=fun x=>rfl
 have eR:(z6 (r.flatMap qm))=.lst ((r.filter fun _=>true).flatMap fun x=>(qm x).map fun(k:Nat)=>D.int (k:Int)):=by
  rw[zl];show D.lst _=D.lst _;rw[List.map_flatMap]
 refine zk2 (names:=["number"]) (ρ':=[]) (xs:=r) (bf:=fun(x:Nat)=>[("number",.int (x:Int))]) (c:=fun _=>true) (of:=fun x=>(qm x).map fun(k:Nat)=>D.int (k:Int)) hE (by kernel_rfl) (by kernel_rfl) (by kernel_rfl) (by walk_at "mw") ?_ (zI (by kernel_rfl)) ?_ ?_ ?_ ?_ ?_ ?_
 ·refine Qz (zN (ZW hrow (by kernel_rfl) (by kernel_rfl)) zkc) ?_
  rw[List.map_map];rfl
 ·simp
 ·exact zw (by kernel_rfl)
 ·intro u1 u9 y hy
  exact zW
 ·intro u1 W hI x hx _
  rw[eo,List.map_map]
  have hx6:=hr x hx
  refine QQ ?_ (show(ksL.filter fun k=>decide (k=0)||decide (64^k≤x)).flatMap (fun k=>[D.int ((x/64^k%64+64*(if 0<k then 1 else 0):Nat):Int)])=_ by rw[←List.map_eq_flatMap];rfl)
  refine Qu (names:=["k"]) (xs:=ksL) (bf:=fun(k:Nat)=>[("k",.int (k:Int))]) (c:=fun k=>decide (k=0)||decide (64^k≤x)) hI rfl (by rfl) rfl (by intro _;rfl) ?_ (zI (by kernel_rfl)) (by simp) (zw (by kernel_rfl)) ?_ ?_
  ·exact Qz (Zw (zq T hI.ok (by kernel_rfl) (by kernel_rfl)) (by walk_at "mq") (zdF (by decide) (by decide) (PyProof.noPylong_small (by decide))) z2) (by kernel_rfl)
  ·intro k hk
   have hk5:k≤5:=by unfold ksL at hk;simp at hk;lia
   refine ZM (qf (jq (zdo (zU (by walk_at "mp") (by walk_at "mp") qK) fun _=>zdo (zU (by walk_at "mp") (zk (by walk_at "mp") (by walk_at "mp") (zfk hk5)) jP) fun _=>zdn)) ?_)
   rw[Bool.or_false,qe]
   congr 1
   ·exact decide_eq_decide.mpr (by lia)
   ·exact decide_eq_decide.mpr (by lia)
  ·intro k hk _
   have hk5:k≤5:=by unfold ksL at hk;simp at hk;lia
   have hp:64^k≠0:=Nat.pos_iff_ne_zero.mp (Nat.pow_pos (by decide))
   refine QP rfl ?_
   refine zi (zk (d₁:=.int ((x/64^k%64:Nat):Int)) (zk (zk (by walk_at "mp") (zk (by walk_at "mp") (by walk_at "mp") (zfk hk5)) (qV hp (znu k hk5))) (zn (i:=((64:Nat):Int))) (qU (by decide))) (zk zn (q0 (by with_unfolding_all rfl) (by walk_at "mp") zn jO) zb9) ZP) ?_
   congr 1
   by_cases h:0<k
   ·have:decide ((k:Int)>0)=true:=decide_eq_true (by lia)
    rw[this];simp[h]
   ·have:decide ((k:Int)>0)=false:=decide_eq_false (by lia)
    rw[this];simp[h]
 ·rw[zl]
  refine Nat.le_trans (je (k:=6) fun x hx=>?_) (by lia)
  rw[List.length_map]
  exact(za1 (hr x hx)).1
 ·rw[←eR];exact hR
end
section
open PySem PySem.W
variable {G:Gx}{n:Nat}{env:Env}{ρ:Rho}{σ:Sig}
theorem zhj(l:List Nat):byteArr (l.map fun(k:Nat)=>(k:Int))=qP l:=by
 unfold byteArr qP
 rw[List.map_map];rfl
theorem zdW(l:List Nat):z6 l=.lst ((l.map fun(k:Nat)=>(k:Int)).map .int):=by rw[List.map_map];rfl
theorem ziQ{α:Type}(l:List α) {i:Nat}(h:i≤l.length):(∃x,l[i]?=some x∧l.drop i=x::l.drop (i+1))∨(i=l.length∧l.drop i=[]):=by
 by_cases e:i<l.length
 ·exact .inl ⟨l[i],List.getElem?_eq_getElem e,List.drop_eq_getElem_cons e⟩
 ·exact .inr ⟨Nat.le_antisymm h (Nat.not_lt.mp e),List.drop_eq_nil_of_le (Nat.not_lt.mp e)⟩
theorem zis{b:Array UInt8}{i k:Nat}{x:Nat}{l:List Nat}(h:Reads b i (x::l) k):∃j,zfz b i x j∧Reads b j l k:=by
 cases h with
 | cons h1 h2=>exact⟨_,h1,h2⟩
theorem zjP{b:Array UInt8}{i k:Nat}(h:Reads b i [] k):i=k:=by cases h;rfl
noncomputable def qJ(x:Str) (a k:Nat):List Rho:=(List.range k).map fun(i:Nat)=>[(x,.int ((a+i:Nat):Int))]
theorem zbv(a b:Nat):(Builtin.Range.rangeSize (a:Int) (b:Int) 1).toNat=b-a:=by
 unfold Builtin.Range.rangeSize
 rw[if_pos (by decide)]
 split
 ·rw[Int.ediv_one,Int.sub_add_cancel,Int.toNat_sub]
 ·rename_i h
  exact(Nat.sub_eq_zero_of_le (Int.ofNat_le.mp (Int.not_lt.mp h))).symm
theorem zcv(x:Str) (a k:Nat):qb x (a:Int) 1 k=qJ x a k:=by
 unfold qb qJ
 refine List.map_congr_left fun i _=>?_
 simp
theorem Q6{x:Str}{px:Pos}{k:Nat}(hk:k≤1000000):ItC G n σ (.type "range") [.int (k:Int)] (.Name x px) [x] (qJ x 0 k):=by
 have:=za8 (G:=G) (n:=n) (σ:=σ) (x:=x) (px:=px) (b:=(k:Int)) (small_one (by decide) (by decide) (by lia) (by lia))
 rw[show(0:Int)=((0:Nat):Int) from rfl,zbv,zcv] at this
 exact this
theorem j7{x:Str}{px:Pos}{a b:Nat}(ha:a≤1000000) (hb:b≤1000000):ItC G n σ (.type "range") [.int (a:Int),.int (b:Int)] (.Name x px) [x] (qJ x a (b-a)):=by
 have:=zdG (G:=G) (n:=n) (σ:=σ) (x:=x) (px:=px) (a:=(a:Int)) (b:=(b:Int)) (small_one (by lia) (by lia) (by lia) (by lia))
 rw[zbv,zcv] at this
 exact this
theorem js{x:Str}{a k i:Nat}{b:Rho}(h:(qJ x a k)[i]?=some b):i<k∧b=([(x,.int ((a+i:Nat):Int))]:Rho):=by
 unfold qJ at h
 have hi:=(List.getElem?_eq_some_iff.mp h).1
 simp only[List.length_map,List.length_range] at hi
 rw[List.getElem?_map,List.getElem?_range hi] at h
 exact⟨hi,by cases h;rfl⟩
noncomputable abbrev zeh(tape:List Nat) (an:Addr) (dR:D) (torn:Nat):Rho:=[("tape",z6 tape),("numbers",.raw (.ref an)),("drawn",dR),("torn",.int (torn:Int))]
noncomputable abbrev zcI(it an:Addr) (tape:List Nat):Rho:=[("reader",.raw (.ref it)),("numbers",.raw (.ref an)),("tape",z6 tape)]
theorem zjG{rows:List (List Nat)}{i:Nat}{r:List Nat}(h:rows[i]?=some r):Qo (rows.take (i+1))=Qo (rows.take i)++qM r:=by
 rw[List.take_add_one,h];exact List.flatMap_append.trans (congrArg _ (List.append_nil _))
theorem zlr{r:List Nat}(hx:∀x∈r,x<64^6) (h3:r.length=3):∃c l,r.flatMap qm=c::l∧l.length≤17:=by
 have hf:=je (f:=qm) (k:=6) fun x h=>(za1 (hx x h)).1
 cases r with
 | nil=>cases h3
 | cons x r=>
  refine Exists.elim (JU (hx x (.head _))) fun c h=>h.elim fun l h=>?_
  have e:(x::r).flatMap qm=c::(l++r.flatMap qm):=by rw[List.flatMap_cons,h.1];rfl
  rw[e,h3] at hf
  exact⟨c,_,e,Nat.le_of_succ_le_succ hf⟩
theorem zla(T:Top G) {tape r:List Nat}{torn:Nat}{an:Addr}{dR:D}{P:Out→Prop}(hE:EnvOk env (zo (ze 12))) (hx:∀x∈r,x<64^6) (h3:r.length=3) (ht:tape.length≤18000) (hP:P (.next (zeh (tape++qM r) an dR torn) σ)) :
  X G n env (ZO (zu (ze 12))[1]?) (("row",ziT r)::zeh tape an dR torn) σ P:=by
 refine zc ?_
 refine zlc T hx (Nat.le_of_eq h3) hE (by walk_at "ml") ?_
 refine Qd (zlr hx h3) fun c l hcl hl=>?_
 have e:qM r=(128+c)::l:=by unfold qM;rw[hcl]
 have hl1:∀(xs:List Nat) (k:Nat),xs.length≤k→(xs.map fun(k:Nat)=>D.int (k:Int)).length≤k:=fun xs k h=>by rw[List.length_map];exact h
 rw[e] at hP
 rw[hcl]
 refine zc ?_
 refine z4 (by walk_at "ms") (zt (d:=z6 (tape++(128+c)::l)) ?_ ?_)
 ·refine zi (zk (zk (by walk_at "mp") (jV (zg (zk (d:=.int ((128+c:Nat):Int)) (zn (i:=((128:Nat):Int))) (zv (by walk_at "mp") zn (Zs (x:=.int (c:Int)) (by decide) (by decide) (by rfl))) zc1) zj) (Nat.le_of_ble_eq_true rfl)) (jg (.self _) (.self _) ?_)) (QU (by walk_at "mp") (.self _) (Q2 (zn (i:=((1:Nat):Int)))) ql ql (by decide) ?_) (jg (.self _) (.self _) ?_)) ?_
  ·exact Nat.le_trans (Nat.add_le_add_right (hl1 _ _ ht) 1) (by decide)
  ·exact Nat.le_trans (hl1 (c::l) 18 (Nat.succ_le_succ hl)) (by decide)
  ·rw[j5 _ (Nat.succ_le_succ (Nat.zero_le _)),List.length_append];exact Nat.le_trans (Nat.add_le_add (Nat.add_le_add_right (hl1 _ _ ht) 1) (hl1 _ _ hl)) (by decide)
  ·rw[j5 _ (Nat.succ_le_succ (Nat.zero_le _)),List.append_assoc];exact congrArg D.lst (List.map_append (l₂:=(128+c)::l)).symm
 exact zT (ρ':=zeh (tape++(128+c)::l) an dR torn) (by walk_at "mw") (zz hP)
theorem zmO(T:Top G) {A:Around}{b:Array UInt8}{t:Tok}{o oL:Obj}{p x q:Nat}{it an Ll:Addr}{tape:List Nat}{l:List D}{Q:Out→Prop}{d₀:D}(hE:EnvOk env (zo (ze 12))) (hA:AOk (n+1) A) (ho:BIt o b t p) (hv:zfz b p x q) (hl:l.length≤100000)
  (hQ:∀o',BIt o' b t q→Q (.next (zcI it an tape) [(it,.raw o'),(an,.lst (l++[.int (x:Int)])),(Ll,.raw oL)])):XA G A env (ZO (zu (ze 12))[3]?) (("turn",d₀)::zcI it an tape) [(it,.raw o),(an,.lst l),(Ll,.raw oL)] Q:=by
 refine zau (ρ':=zcI it an tape) (by walk_at "mw") ?_
 refine Qn ?_
 refine Qd hv fun c k hc hv=>?_
 refine zjg (zfu hA ?_)
 refine zc ?_
 refine Jx hE (Z8 qR (by walk_at "mp") (Z9 (.lst (.tail _ (.head _)))) (Zn (Jg (qZ T hE 8 (by kernel_rfl)) (Je (by walk_at "mq") (zkP (d:=.int (x:Int)) (T.fn 8 (by decide)).ok (by decide +kernel) (by kernel_rfl) (fun u1 u9=>zk6 T ho hc hv u1 u9) (.head _) fun mo' hmo=>?_)) (fun σ=>ZN T (by decide)))))
 refine zd hmo fun o' e ho'=>?_
 subst e
 refine⟨_,.head ..,qw ?_⟩
 refine ZS (.tail _ (.head ..)) ?_ (Nat.le_trans hl (by decide))
 refine zz ?_
 exact zjh (zjh (hQ o' ho'))
theorem zjt(T:Top G) {A:Around}{b:Array UInt8}{t:Tok}{o oL:Obj}{p:Nat}{it an Ll:Addr}{tape:List Nat}{l:List D}{Q:Out→Prop}{d₀:D}{el:Env}(hE:EnvOk env (zo (ze 12))) (hA:AOk (n+1) A) (hfr:A.frames=some [env,el]) (u7:env.frame=some env.locals) (hel:el.frame=some Ll) (hek:el.scope.kind≠.module) (hnf:∀vs,oL.data≠.fields vs)
  (ho:BIt o b t p) (y1:zgU b p) (hQ:∀o',j4 oL o'→Q (.ret (.lst l) [(Ll,.raw o')])):XA G A env (ZO (zu (ze 12))[3]?) (("turn",d₀)::zcI it an tape) [(it,.raw o),(an,.lst l),(Ll,.raw oL)] Q:=by
 refine zau (ρ':=zcI it an tape) (by walk_at "mw") ?_
 have hfm:[el].filterMap (·.frame)=[Ll]:=by rw[List.filterMap_cons,hel];rfl
 refine Qn ?_
 refine zgV (rest:=[el]) (x:="StopIteration") hfr u7 hfm (fun F s Q E H hEE=>?_) (hE.glob (by kernel_rfl)) (T.blt _ (by simp)) (by kernel_rfl) (by decide) (by kernel_rfl) (by walk_at "ml") (by kernel_rfl) (by kernel_rfl) hnf hQ
 have hL:=H.own (Ll,.raw oL) (.tail _ (.tail _ (.head _)))
 refine zhm (n:=n) (f:=T.fa 8) hA hfr H (by walk_at "mp") (.tail _ (.head _)) (qZ T hE 8 (by kernel_rfl)) (by walk_at "mp") (.head _) (ZN T (by decide)) (T.fn 8 (by decide)).ok (by decide +kernel) (by kernel_rfl) (fun u1 u9=>zob T ho y1 u1 u9) (all_cons (zlT H u7) (all_cons ⟨hek,_,oL,hel,hL.1,hnf,hL.2.2⟩ zx)) ?_ hE.inter hEE
 rw[List.filterMap_cons,u7,hfm]
 exact List.not_mem_cons_of_ne_of_not_mem (fun e=>H.locals.2.2.2 (e▸.head _)) fun q=>(List.nodup_cons.mp H.nodup).1 (.tail _ q)
theorem zmN(T:Top G) {tape nums:List Nat}{torn:Nat}{A:Around}{el:Env}{an Ll:Addr}{oL:Obj}{dR:D}(hlt:∀y∈tape,y<256) (w3:nums.length≤tape.length) (y5:tape.length≤18000) (hreads:Reads (qP (tape++qB torn)) 0 nums tape.length) (y1:zgU (qP (tape++qB torn)) tape.length) (ht:torn≤2)
  (hE:EnvOk env (zo (ze 12))) (hA:AOk (n+1) A) (hfr:A.frames=some [env,el]) (u7:env.frame=some env.locals) (hel:el.frame=some Ll) (hek:el.scope.kind≠.module) (hnf:∀vs,oL.data≠.fields vs) :
  XA G A env ((zu (ze 12)).drop 2) (zeh tape an dR torn) [(an,.lst []),(Ll,.raw oL)] (ZU fun d' σ'=>d'=z6 nums∧∃o',j4 oL o'∧(Ll,MO.raw o')∈σ'):=by
 have hto:(qB torn).length≤2:=List.length_take_le' _ _
 have hll:(tape++qB torn).length≤18002:=by rw[List.length_append];exact Nat.add_le_add y5 hto
 have e2:qH ([.int 64,.int 65]:List D) none (some (torn:Int)) none=(qB torn).map fun(k:Nat)=>D.int (k:Int):=by rw[zct _ ht];exact(List.map_take (f:=fun(k:Nat)=>D.int (k:Int)) (l:=[64,65])).symm
 refine Qn (JW hA ?_)
 refine z4 (by walk_at "ms") (zfC (ns:=(tape++qB torn).map fun(k:Nat)=>(k:Int)) (zq T hE (by kernel_rfl) (by kernel_rfl)) (zq T hE (by kernel_rfl) (by kernel_rfl)) (d:=z6 (tape++qB torn)) ?_ (by rw[zdW];exact .self _) ?_ ?_ fun it o t ho=>?_)
 ·refine zi (zk (by walk_at "mp") (QU (d:=.lst [.int 64,.int 65]) (by walk_at "mp") (.self _) ql (Q2 (by walk_at "mp")) ql (by decide) (by decide)) (jg (.self _) (.self _) ?_)) ?_
  ·rw[e2,List.length_map,List.length_map];exact Nat.le_trans (Nat.add_le_add y5 hto) (by decide)
  ·rw[e2];exact congrArg D.lst List.map_append.symm
 ·refine List.forall_mem_map.mpr fun k hk=>⟨Int.natCast_nonneg _,Int.ofNat_lt.mpr ((List.mem_append.mp hk).elim (hlt k) fun h=>?_)⟩
  exact all_cons (p:=fun k:Nat=>k<256) (by decide) (all_cons (by decide) zx) k (List.mem_of_mem_take h)
 ·rw[List.length_map];exact Nat.le_trans hll (by decide)
 rw[zhj] at ho
 refine zau (ρ':=zcI it an tape) (by walk_at "mw") ?_
 refine Qn ?_
 refine zji (names:=["turn"]) (bs:=qJ "turn" 0 (tape.length+1)) hA (fun i ρ' σ'=>∃o p,(BIt o (qP (tape++qB torn)) t p∧i≤nums.length∧Reads (qP (tape++qB torn)) p (nums.drop i) tape.length)∧ρ'=zcI it an tape∧σ'=[(it,.raw o),(an,.lst ((nums.take i).map fun(k:Nat)=>D.int (k:Int))),(Ll,.raw oL)]) ?_ ?_ ⟨o,0,⟨ho,Nat.zero_le _,hreads⟩,rfl,rfl⟩ ?_ ?_
 ·exact Zw (zq T hE (by kernel_rfl) (by kernel_rfl)) (zg (d:=.int ((tape.length+1:Nat):Int)) (zk (zF (zq T hE (by kernel_rfl) (by kernel_rfl)) (zg (by walk_at "mp") zj) (ZX (.self _) (by rw[List.length_map];exact Nat.lt_of_le_of_lt y5 (by decide))) zm) zn (Zt ZP (by rw[List.length_map];rfl))) zj) (Q6 (Nat.le_trans (Nat.succ_le_succ y5) (by decide))) z2
 ·exact qY hE (by kernel_rfl)
 ·intro i b ρ' σ' hI hb
  refine Zk hI fun o p hJ e1 e2=>?_
  subst e1;subst e2
  obtain⟨_,rfl⟩:=js hb
  refine Or.elim (ziQ nums hJ.2.1) (fun h=>?_) fun h=>?_
  ·refine zd h fun x hxi hdr=>?_
   refine zd (zis (hdr▸hJ.2.2)) fun q hv hrd'=>?_
   have hil:=(List.getElem?_eq_some_iff.mp hxi).1
   refine zmO T hE hA hJ.1 hv (by rw[List.length_map,List.length_take];exact Nat.le_trans (Nat.min_le_right _ _) (Nat.le_trans w3 (Nat.le_trans y5 (by decide)))) fun o' ho'=>⟨o',q,⟨ho',hil,hrd'⟩,rfl,?_⟩
   rw[List.take_add_one,hxi,List.map_append];rfl
  ·have hrd:=hJ.2.2
   rw[h.2] at hrd
   obtain rfl:=zjP hrd
   refine zjt T hE hA hfr u7 hel hek hnf hJ.1 y1 fun o' hs=>⟨?_,o',hs,.head _⟩
   rw[List.take_of_length_le (Nat.le_of_eq h.1.symm)]
 ·intro ρ' σ' hI
  refine Zk hI fun o p hJ e1 e2=>absurd hJ.2.1 (Nat.not_le.mpr ?_)
  rw[show(qJ "turn" 0 (tape.length+1)).length=tape.length+1 by unfold qJ;rw[List.length_map,List.length_range]]
  exact Nat.lt_succ_of_le w3
theorem zof(T:Top G) {rows:List (List Nat)}{torn:Nat}{A:Around}{el:Env}{Ll:Addr}{oL:Obj}(hr:∀r∈rows,r.length=3) (hx:∀r∈rows,∀x∈r,x<64^6) (hl:rows.length≤1000) (ht:torn≤2)
  (hE:EnvOk env (zo (ze 12))) (hA:AOk (n+1) A) (hfr:A.frames=some [env,el]) (u7:env.frame=some env.locals) (hel:el.frame=some Ll) (hek:el.scope.kind≠.module) (hnf:∀vs,oL.data≠.fields vs) :
  XA G A env (zu (ze 12)) [("drawn",zdU rows),("torn",.int (torn:Int))] [(Ll,.raw oL)] (ZU fun d' σ'=>d'=z6 rows.flatten∧∃o',j4 oL o'∧(Ll,MO.raw o')∈σ'):=by
 have y5:∀i,(Qo (rows.take i)).length≤18000:=fun i=>Nat.le_trans (zlj (fun r h=>hx r (List.mem_of_mem_take h)) fun r h=>Nat.le_of_eq (hr r (List.mem_of_mem_take h))) (Nat.mul_le_mul_right 18 (Nat.le_trans (List.length_take_le' _ _) hl))
 refine Qn (JW hA ?_)
 refine zc8 (Jf (zt (by walk_at "mp") (jh (mo:=.lst []) (Qg (by walk_at "mq")) fun an=>⟨_,_,rfl,?_⟩))) (by walk_at "ms") (by walk_at "ms") (ZZ rfl) (zbB (hE.kind _ _ (by kernel_rfl) (by decide)) (hE.kind _ _ (by kernel_rfl) (by decide)) hE.block (by kernel_rfl) (by decide +kernel))
 refine Qn (JW hA ?_)
 refine JX (names:=["row"]) (bs:=rows.map fun r=>[("row",ziT r)]) (fun _=>True) (fun i=>zeh (Qo (rows.take i)) an (zdU rows) torn) (fun _=>[(an,.lst []),(Ll,.raw oL)]) ?_ ?_ ⟨trivial,rfl,rfl⟩ ?_ ?_
 ·exact zN (by walk_at "mp") Zj
 ·exact qY hE (by kernel_rfl)
 ·intro i b _ hb
  obtain⟨r,hri,rfl⟩:=qt hb
  have hrm:=List.mem_of_getElem? hri
  exact zla T hE (hx r hrm) (hr r hrm) (y5 i) ⟨trivial,by rw[←zjG hri],rfl⟩
 intro _
 refine zz ?_
 have hreads:=zdj (b:=qP (Qo rows++qB torn)) rows 0 hx (zkl (zeC hx))
 rw[Nat.zero_add] at hreads
 have ht2:=y5 rows.length
 rw[List.take_length] at ht2
 show XA _ _ _ _ (zeh (Qo (rows.take _)) _ _ _) _ _
 rw[List.length_map,List.take_length]
 exact zmN T (zeC hx) (zbO rows hx) ht2 hreads (zkw ht) ht hE hA hfr u7 hel hek hnf
end
section
open PySem PySem.W
variable {G:Gx}{n:Nat}{env:Env}{ρ:Rho}{σ:Sig}
theorem Holds.ownSlots{F F':FZ}{s s':Shared}{o o':Obj}(H:Holds G env F ρ σ s) (ho:s.heap.get? env.locals=some o) (hs:j4 o o') (g:Grow G [env.locals] F s F' s') (ho':s'.heap.get? env.locals=some o') (hF:F' env.locals=none):Holds G env F' ρ σ s':=by
 refine Ja (H.locals) fun hLn hLF hLX hLσ=>?_
 have keep:∀b o,b≠G.X→b≠env.locals→s.heap.get? b=some o→s'.heap.get? b=some o:=fun b o h1 h2 e=>g.keep b o h1 (by simpa using h2) e
 have ns:∀m,s.heap.Ns env.locals m→s'.heap.Ns env.locals m:=fun m hn=>by
  refine qC hn fun o₁ es ep h1 hd r=>?_
  rw[ho] at h1;cases h1
  refine Exists.elim hs fun sl q2_=>?_
  subst q2_
  exact⟨_,es,ep,ho',hd,r⟩
 refine {fin:=g.fin,base:=fun b o h hx=>g.le _ _ (H.base b o h hx),xF:=?_,code:=g.code H.code,bare:=g.gens H.bare,own:=fun p hp=>?_,nodup:=H.nodup,kind:=H.kind,globals:=H.globals,builtins:=H.builtins,apart:=H.apart,vars:=fun x d h=>?_,locals:=?_,cells:=fun x c hc=>?_}
 ·refine Exists.elim (H.toBase.ne_X) fun o hp=>?_
  exact Za g H.xF hp
 ·refine z9 (H.own p hp) fun h1 h2 h3=>?_
  have hne:p.1≠env.locals:=fun e=>hLσ (e▸List.mem_map_of_mem (f:=(·.1)) hp)
  refine Exists.elim (h1.some) fun o e=>?_
  exact⟨h1.mono g.le fun o e=>keep _ _ h3 hne e,Za g h2 e,h3⟩
 ·refine zd (H.vars x d h) fun v hb hv=>?_
  refine⟨v,?_,hv.mono g.le⟩
  rcases hb with⟨k,m,hn,e⟩ | ⟨k,c,e,hc⟩
  ·exact .inl ⟨k,m,ns m hn,e⟩
  ·refine zco (H.cells x c (mem_of_lookup e)) fun _ _ h3 _ h5=>?_
   exact .inr ⟨k,c,e,Heap.IsCell.ofK hc fun o e'=>keep _ _ h3 h5 e'⟩
 ·refine Exists.elim hLn fun m hn=>?_
  exact⟨⟨m,ns m hn⟩,hF,hLX,hLσ⟩
 ·refine zco (H.cells x c hc) fun q1_ h1 h2 h3 h5=>?_
  obtain⟨v,hcell⟩:=q1_
  refine zd (id hcell) fun oc hoc _=>?_
  exact⟨⟨v,Heap.IsCell.ofK hcell fun o e'=>keep _ _ h2 h5 e'⟩,Za g h1 hoc,h2,h3,h5⟩
theorem zkM(T:Top G) {rows:List (List Nat)}{torn:Nat}{A:Around}{F:FZ}{s:Shared}{Q E:Value→Shared→Prop}{vs:List Value}(hr:∀r∈rows,r.length=3) (hx:∀r∈rows,∀x∈r,x<64^6) (hl:rows.length≤1000) (ht:torn≤2)
  (hA:AOk (n+2) A) (hfr:A.frames=some [env]) (u7:env.frame=some env.locals) (H:Holds G env F ρ σ s) (hv:Vs G.prog G.w F vs [zdU rows,.int (torn:Int)])
  (hQ:∀v F' s',V G.prog G.w F' v (z6 rows.flatten)→Holds G env F' ρ σ s'→Step G env F s σ F' s' σ→Q v s'):wpAny (model G.prog G.w) A (call (.ref (T.fa 12)) vs) Q E s:=by
 refine Ja (H.locals) fun q3_ hLF hLX hLσ=>?_
 obtain⟨m,hns⟩:=q3_
 refine qC (id hns) fun oL es ep hoL hdL _=>?_
 have hnf:∀vs,oL.data≠.fields vs:=fun vs q=>by rw[hdL] at q;cases q
 have hB:Base G F [(env.locals,MO.raw oL)] s:={H.toBase with own:=fun p hp=>by simp at hp;subst hp;exact⟨hoL,hLF,hLX⟩,nodup:=by simp}
 refine zfH (T.fn 12 (by decide)).ok (by decide +kernel) hA hB hv (by kernel_rfl) fun u1 s₀ u9 hframe' hfw hLnew g0 gg H0 hA'=>?_
 refine(zof T hr hx hl ht u9 hA' (Around.frames_deeper hfr) hframe' u7 (by rw[H.kind];decide) hnf).out F s₀ _ _ H0 fun out fl F' s' hP g u3=>?_
 have gs:=g0.trans g
 have fin:∀(d:D) (σ':Sig) (ρ':Rho) (v:Value),(d=z6 rows.flatten∧∃o',j4 oL o'∧(env.locals,MO.raw o')∈σ')→Step G u1 F s [(env.locals,MO.raw oL)] F' s' σ'→Holds G u1 F' ρ' σ' s'→V G.prog G.w F' v d→Q v s':=fun d σ' ρ' v ⟨hd,o',hso,hmo⟩ gs H' hv'=>by
  refine z9 (H'.own _ hmo) fun h1 h2 h3=>?_
  have gr:Grow G [env.locals] F s F' s':=gs.grow fun a ha=>by
   rcases hfw a ha with h | h
   ·exact .inl h
   ·simp at h;subst h;exact .inr ⟨by simp,h2⟩
  subst hd
  exact hQ v F' s' hv' (H.ownSlots hoL hso gr h1 h2) (.of gr (fun a ha=>by simp at ha;subst ha;unfold fw;simp) fun a ha=>.inl ha)
 obtain⟨d,ρ',hP,H',hv⟩:=zcn hP u3
 exact fin _ _ ρ' _ hP gs H' hv
end
section
open PySem PySem.W
variable {G:Gx}{n:Nat}{env:Env}{ρ:Rho}{σ:Sig}
noncomputable abbrev zar:=List (Str×List (Str×(Int×Int)))
noncomputable abbrev Jb(t:zar):D:=.dicS (t.map fun p=>(p.1,qi p.2))
noncomputable def QY(names:List Str) (t:zar) (r:Nat×Nat×Nat):zar:=
 z5 t (names.getD r.2.1 "") (qq qW ((zX t (names.getD r.2.1 "")).getD []) [(names.getD r.1 "",((1:Int),(r.2.2:Int)))])
noncomputable def jB(names:List Str) (rows:List (Nat×Nat×Nat)):zar:=rows.foldl (QY names) (names.map fun x=>(x,[]))
noncomputable def qI(rows:List (Nat×Nat×Nat)):List Nat:=rows.flatMap fun r=>[r.1,r.2.1,r.2.2]
theorem zdw:∀{rows:List (Nat×Nat×Nat)}{i:Nat}{r:Nat×Nat×Nat},rows[i]?=some r→(qI rows)[3*i]?=some r.1∧(qI rows)[3*i+1]?=some r.2.1∧(qI rows)[3*i+2]?=some r.2.2
 | [],i,r,h=>by simp at h
 | q::rows,0,r,h=>by simp at h;subst h;exact⟨rfl,rfl,rfl⟩
 | q::rows,i+1,r,h=>by
  have ih:=zdw (rows:=rows) (i:=i) (r:=r) (by simpa using h)
  have e:qI (q::rows)=q.1::q.2.1::q.2.2::qI rows:=rfl
  rw[e,show 3*(i+1)=3*i+3 from by lia]
  exact⟨by simpa using ih.1,by simpa [Nat.add_right_comm] using ih.2.1,by simpa [Nat.add_right_comm] using ih.2.2⟩
theorem zdv(rows:List (Nat×Nat×Nat)):(qI rows).length=3*rows.length:=by
 unfold qI
 induction rows with
 | nil=>rfl
 | cons r rows ih=>rw[List.flatMap_cons,List.length_append,ih];simp;lia
theorem zlD{α:Type}{l:List (Str×α)}{k:Str}{v:α}(p:Str×α) (hp:p∈z5 l k v):p∈l∨p=(k,v):=by
 unfold z5 at hp
 split at hp
 ·refine(List.mem_map.mp hp).elim fun q y=>?_
  have e:=y.2
  by_cases h:q.1=k
  ·rw[if_pos h,h] at e;exact .inr e.symm
  ·rw[if_neg h] at e;exact .inl (e▸y.1)
 ·exact(List.mem_append.mp hp).imp id List.mem_singleton.mp
theorem zgu{α:Type}{l:List (Str×α)}{k:Str}{v:α}(h:zX l k=some v):(k,v)∈l:=by
 unfold zX at h
 obtain⟨p,hp,rfl⟩:=Option.map_eq_some_iff.mp h
 have h1:=List.mem_of_find?_eq_some hp
 have h2:=List.find?_some hp
 simp at h2
 rw[←h2];exact h1
theorem zeM{α:Type}{l:List (Str×α)}{k:Str}{v:α}(h:k∈l.map (·.1)):(z5 l k v).map (·.1)=l.map (·.1):=by
 unfold z5
 rw[if_pos ((List.mem_map.mp h).elim fun p y=>List.any_eq_true.mpr ⟨p,y.1,decide_eq_true y.2⟩),List.map_map]
 refine List.map_congr_left fun p hp=>?_
 show(if p.1=k then (p.1,v) else p).1=p.1
 split<;>rfl
theorem j8{α:Type}{l:List (Str×α)}{k:Str}(h:k∈l.map (·.1)):∃v,zX l k=some v:=by
 cases e:zX l k with
 | some v=>exact⟨v,rfl⟩
 | none=>
  rw[jv] at e
  obtain⟨p,hp,e'⟩:=List.mem_map.mp h
  have:=List.any_eq_false.mp e p hp
  simp at this
  exact absurd e' this
theorem zcF{α:Type}(add:α→α→α) (t s:List (Str×α)):(qq add t s).length≤t.length+s.length:=by
 unfold qq
 have h1:=J2 t t.length
 rw[List.take_of_length_le (Nat.le_refl _)] at h1
 have h2:=jR add (t.foldl (fun acc p=>z5 acc p.1 p.2) []) s s.length
 rw[List.take_of_length_le (Nat.le_refl _)] at h2
 exact Nat.le_trans h2 (Nat.add_le_add_right h1 _)
structure TabOk (names:List Str) (i:Nat) (t:zar):Prop where
 keys:t.map (·.1)=names
 len:∀p∈t,p.2.length≤i
theorem zgt{names:List Str}{k:Nat}(h:k<names.length):names.getD k ""∈names:=by
 rw[List.getD_eq_getElem?_getD,List.getElem?_eq_getElem h];exact List.getElem_mem h
theorem zii{names:List Str}{i:Nat}{t:zar}{r:Nat×Nat×Nat}(h:TabOk names i t) (hr:r.2.1<names.length):TabOk names (i+1) (QY names t r):=by
 have hk:names.getD r.2.1 ""∈t.map (·.1):=by rw[h.keys];exact zgt hr
 refine⟨by unfold QY;rw[zeM hk,h.keys],fun p hp=>?_⟩
 rcases zlD p hp with hp | rfl
 ·have:=h.len p hp;lia
 ·obtain⟨v,hv⟩:=j8 hk
  have h1:=h.len _ (zgu hv)
  refine Nat.le_trans (zcF _ _ _) ?_
  rw[hv];simpa using h1
theorem zbM:∀m<901,(Builtin.Range.rangeSize 0 ((3*m:Nat):Int) 3).toNat=m∧Builtin.Range.small 0 ((3*m:Nat):Int) 3=true:=by decide +kernel
theorem zit{x:Str}{m i:Nat}{b:Rho}(h:(qb x 0 3 m)[i]?=some b):i<m∧b=([(x,.int ((3*i:Nat):Int))]:Rho):=by
 unfold qb at h
 refine(List.getElem?_eq_some_iff.mp h).elim fun hi _=>?_
 rw[List.length_map,List.length_range] at hi
 rw[List.getElem?_map,List.getElem?_range hi] at h
 refine⟨hi,(Option.some.inj h).symm.trans ?_⟩
 show([(x,D.int (0+(i:Int)*3))]:Rho)=_
 rw[Int.zero_add,Int.mul_comm];rfl
theorem zel{u:List Nat}{j x:Nat}(e:u[j]?=some x):(u.map fun(k:Nat)=>D.int (k:Int))[((j:Nat):Int).toNat]?=some (.int (x:Int)):=by rw[Int.toNat_natCast,List.getElem?_map,e];rfl
theorem zbC{names:List Str}{k:Nat}(h:k<names.length):(names.map D.str)[k]?=some (.str (names.getD k "")):=by
 rw[List.getElem?_map,List.getD_eq_getElem?_getD,List.getElem?_eq_getElem h];rfl
noncomputable abbrev zin(a:Addr) (names:List Str) (rows:List (Nat×Nat×Nat)):Rho:=[("tables",.raw (.ref a)),("numbers",z6 (qI rows)),("names",zO names)]
theorem zpd(T:Top G) {names:List Str}{rows:List (Nat×Nat×Nat)}{i:Nat}{r:Nat×Nat×Nat}{t:zar}{a:Addr}{P:Out→Prop}(hE:EnvOk env (zo (ze 14))) (hnl:names.length≤1000) (hi:i≤900) (hri:rows[i]?=some r) (hr1:r.1<names.length) (hr2:r.2.1<names.length) (hok:TabOk names i t)
  (hP:P (.next (zin a names rows) [(a,.dicS ((QY names t r).map fun p=>(p.1,qi p.2)))])):X G (n+2) env (ZO (zu (ze 14))[1]?) (("k",.int ((3*i:Nat):Int))::zin a names rows) [(a,.dicS (t.map fun p=>(p.1,qi p.2)))] P:=by
 refine z9 (zdw hri) fun g0 g1 g2=>?_
 have h3:∀k,k<3→3*i+k≤2703:=fun k hk=>Nat.add_le_add (Nat.mul_le_mul_left 3 hi) (Nat.le_of_lt hk)
 refine zc ?_
 refine z4 (by walk_at "ms") (zt (d:=.str (names.getD r.2.1 "")) (zv (by walk_at "mp") (zv (d:=.int (r.2.1:Int)) (by walk_at "mp") (zk (d:=.int ((3*i+1:Nat):Int)) (by walk_at "mp") zn (Zt ZP (by simp))) (Zs (Int.natCast_nonneg _) (Jz (h3 1 (by decide)) (by decide)) (zel g1))) (Zs (Int.natCast_nonneg _) (Jz (Nat.le_trans (Nat.le_of_lt hr2) hnl) (by decide)) (zbC hr2))) ?_)
 generalize hnm:names.getD r.2.1 ""=nm
 have x6:nm∈t.map (·.1):=by rw[hok.keys,←hnm];exact zgt hr2
 refine(j8 x6).elim fun v hv=>?_
 have hvl:v.length≤i:=hok.len _ (zgu hv)
 have hget:((t.map fun p=>(p.1,qi p.2)).find? fun p=>p.1=nm).map (·.2)=some (qi v):=qp hv
 refine zc ?_
 refine jo (zt (d:=qi (qq qW v [(names.getD r.1 "",((1:Int),(r.2.2:Int)))])) (zF (qZ T hE 3 (by kernel_rfl)) (zg (zv (by walk_at "mp") (by walk_at "mp") (qo (.dicS (List.mem_singleton.mpr rfl)) hget)) (zg (d:=qi [(names.getD r.1 "",((1:Int),(r.2.2:Int)))]) ?_ zj)) (zo5 T (Nat.le_trans hvl (Nat.le_trans hi (by decide))) (Nat.le_of_ble_eq_true rfl)) (ZN T (by decide))) ⟨_,_,_,by walk_at "mp",by walk_at "mp",.dicS (.head ..) ?_,?_⟩)
 ·refine zeP (d:=.tup [.int 1,.int (r.2.2:Int)]) ?_ ?_
  ·exact zv (by walk_at "mp") (zv (d:=.int (r.1:Int)) (by walk_at "mp") (by walk_at "mp") (Zs (Int.natCast_nonneg _) (Jz (Nat.mul_le_mul_left 3 hi) (by decide)) (zel g0))) (Zs (Int.natCast_nonneg _) (Jz (Nat.le_trans (Nat.le_of_lt hr1) hnl) (by decide)) (zbC hr1))
  ·exact Z2 (zg zn (zg (zv (by walk_at "mp") (zk (d:=.int ((3*i+2:Nat):Int)) (by walk_at "mp") zn (Zt ZP (by simp))) (Zs (Int.natCast_nonneg _) (Jz (h3 2 (by decide)) (by decide)) (zel g2))) zj)) (by simp)
 ·rw[List.length_map];exact Nat.le_trans (Nat.le_of_eq ((List.length_map ..).symm.trans (congrArg List.length hok.keys))) (Nat.le_trans hnl (by decide))
 refine zT (ρ':=zin a names rows) (by walk_at "mw") (zz ?_)
 unfold QY at hP
 rw[hnm,hv] at hP
 rw[Qv (f:=fun v=>qi v) (v:=qq qW v [(names.getD r.1 "",((1:Int),(r.2.2:Int)))])]
 exact hP
theorem zk9(T:Top G) {names:List Str}{rows:List (Nat×Nat×Nat)}(hn:names.Nodup) (hnl:names.length≤1000) (hrl:rows.length≤900) (hr:∀r∈rows,r.1<names.length∧r.2.1<names.length) :
  ∀env,EnvOk env (zo (ze 14))→X G (n+2) env (zu (ze 14)) [("numbers",z6 (qI rows)),("names",zO names)] [] (ZU fun d' _=>d'=Jb (jB names rows)):=by
 intro env hE
 refine zc ?_
 refine zh5 (names:=["name"]) (ρ':=[]) (xs:=names) (bf:=fun y=>[("name",.str y)]) (c:=fun _=>true) (kf:=fun y=>y) (g:=fun y=>.dicS []) hE (by kernel_rfl) (by kernel_rfl) (by kernel_rfl) (by walk_at "mw") ?_ (zI (by kernel_rfl)) ?_ ?_ ?_ ?_ ?_ ?_ ?_ ?_
 ·exact zN (by walk_at "mp") Zj
 ·simp
 ·exact zw (by kernel_rfl)
 ·intro u1 u9 y hy
  exact zW
 ·intro u1 u9 y hy _
  walk_at "mp"
 ·intro u1 u9 y hy _
  exact zeQ
 ·exact Nat.le_trans hnl (by decide)
 ·rw[zl,List.map_id'];exact hn
 intro a
 rw[zl]
 refine zc ?_
 refine zda (names:=["k"]) (bs:=qb "k" 0 3 rows.length) (fun i t=>t=(rows.take i).foldl (QY names) (names.map fun x=>(x,[]))∧TabOk names i t) (fun _=>zin a names rows) (fun t=>[(a,.dicS (t.map fun p=>(p.1,qi p.2)))]) (names.map fun x=>(x,[])) ?_ ?_ ⟨⟨rfl,List.map_map.trans (List.map_id _),List.forall_mem_map.mpr fun _ _=>Nat.le_refl 0⟩,rfl,by rw[List.map_map];rfl⟩ ?_ ?_
 ·refine Qz (Zw (zq T hE (by kernel_rfl) (by kernel_rfl)) (zg (by walk_at "mp") (zg (d:=.int ((3*rows.length:Nat):Int)) (zi (zF (zq T hE (by kernel_rfl) (by kernel_rfl)) (zg (by walk_at "mp") zj) (ZX (.self _) (by rw[List.length_map,zdv];exact Nat.lt_of_le_of_lt (Nat.mul_le_mul_left 3 hrl) (by decide))) zm) (by rw[List.length_map,zdv])) (zg (by walk_at "mp") zj))) (zdF (zbM _ (Nat.lt_succ_of_le hrl)).2 (by decide) (PyProof.noPylong_small (by decide))) z2) ?_
  rw[(zbM _ (Nat.lt_succ_of_le hrl)).1]
 ·exact qY hE (by kernel_rfl)
 ·intro i b t hJ hb
  obtain⟨hi,rfl⟩:=zit hb
  have hri:=List.getElem?_eq_getElem hi
  have hr1:=hr _ (List.mem_of_getElem? hri)
  exact zpd T hE hnl (Nat.le_trans (Nat.le_of_lt hi) hrl) hri hr1.1 hr1.2 hJ.2 ⟨_,⟨by rw[Qb hri,←hJ.1],zii hJ.2 hr1.2⟩,rfl,rfl⟩
 ·intro t hJ
  have e:t=jB names rows:=by
   rw[hJ.1,show(qb "k" 0 3 rows.length).length=rows.length by unfold qb;rw[List.length_map,List.length_range],List.take_length];rfl
  rw[e]
  refine zz ?_
  refine Qe (.head ..) trivial (ρ':=([("tables",Jb (jB names rows))]:Rho)) (.froze (by walk_at "ml") .nil) ?_
  exact zc (z8 (zt (by walk_at "mp") rfl))
theorem zmb(T:Top G) {names:List Str}{rows:List (Nat×Nat×Nat)}(hn:names.Nodup) (hnl:names.length≤1000) (hrl:rows.length≤900) (hr:∀r∈rows,r.1<names.length∧r.2.1<names.length) :
  CallJ G (n+2+1) σ (.ref (T.fa 14)) [z6 (qI rows),zO names] (Jb (jB names rows)):=
 jx T (by decide) (by decide +kernel) (by kernel_rfl) (by kernel_rfl) (zk9 T hn hnl hrl hr)
end
section
open PySem PySem.W
variable {G:Gx}{n:Nat}{env:Env}{ρ:Rho}{σ:Sig}
noncomputable def j2(way:Int) (a b:Nat×Nat):Int:=
 if a.2<b.2 then -1 else if b.2<a.2 then 1 else if a.1<b.1 then -way else if b.1<a.1 then way else 0
noncomputable abbrev ziS(way:Int):D:=.lst [.tup [.int 1,.int 1],.tup [.int 0,.int way]]
noncomputable abbrev ZI(a:Nat×Nat):D:=.tup [.int (a.1:Int),.int (a.2:Int)]
noncomputable abbrev zbl(C:Addr) (way:Int):D:=.inst C [("comp_select_list",ziS way)]
theorem zo1(T:Top G) {way:Int}:CallJ G (n+3) σ (.ref T.cT) [ziS way] (zbl T.cT way):=by
 have hm:0∈[0,1]:=by decide
 refine zgH T.clsT.kls (T.clsT.find 0 hm) (T.clsT.typ 0 hm) (T.clsT.fn 0 hm) (by decide +kernel) (by kernel_rfl) fun env x dx hE=>?_
 show X _ _ _ _ [("self",.raw (.ref x)),("comp_select_list",ziS way)] _ _
 refine zc ?_
 refine zeA T.clsT.kls (by walk_at "mp") (by walk_at "mp") (.head _) (.tail _ (.head ..)) (T.clsT.attr _ (by simp)) (by simp) ?_
 refine zz ?_
 exact⟨rfl,.head _,.tail _ (.head _)⟩
theorem zjv(T:Top G) {way:Int}{a b:Nat×Nat}(ha:a.1<1000∧a.2<1000) (hb:b.1<1000∧b.2<1000) :
  ∀env,EnvOk env (zo (ZH (ze 2) 1))→X G n env (zu (ZH (ze 2) 1)) [("self",zbl T.cT way),("left",ZI a),("right",ZI b)] [] (ZU fun d' _=>d'=.int (j2 way a b)):=by
 intro env hE
 refine zc ?_
 refine zab (names:=["index","direction"]) (bs:=[((1:Int),(1:Int)),(0,way)].map fun p=>[("direction",.int p.2),("index",.int p.1)]) (fun i ρ' σ'=>ρ'=([("self",zbl T.cT way),("left",ZI a),("right",ZI b)]:Rho)∧σ'=[]∧(1≤i→a.2=b.2)∧(2≤i→a.1=b.1)) ?_ ?_ ⟨rfl,rfl,by omega,by omega⟩ ?_ ?_
 ·exact zN (JT (d:=ziS way) T.clsT.kls (by walk_at "mp") (.self _) (T.clsT.attr _ (by simp)) (by simp) rfl) (zaF (l:=[((1:Int),(1:Int)),(0,way)]) (f:=fun p=>.int p.1) (g:=fun p=>.int p.2))
 ·exact qY hE (by kernel_rfl)
 ·rintro i b' _ _ ⟨rfl,rfl,h1,h2⟩ hb'
  have hi:i<2:=(List.getElem?_eq_some_iff.mp hb').1
  rcases i with _ | _ | i
  ·obtain rfl:b'=([("direction",.int 1),("index",.int 1)]:Rho):=by cases hb';rfl
   refine zc (z4 (by walk_at "ms") (zt (by walk_at "mp") ?_))
   refine zc (z4 (by walk_at "ms") (zt (by walk_at "mp") ?_))
   refine zc ?_
   refine Qt (zU (by walk_at "mp") (by walk_at "mp") Q7) (fun h=>?_) (fun h=>?_)
   ·have h':a.2<b.2:=by have:=of_decide_eq_true h;omega
    refine zc (z8 (zt (by walk_at "mp") ?_))
    show D.int _=D.int _
    unfold j2;rw[if_pos h']
   ·have h':¬a.2<b.2:=by have:=of_decide_eq_false h;omega
    refine zz ?_
    refine zc ?_
    refine Qt (zU (by walk_at "mp") (by walk_at "mp") jO) (fun h=>?_) (fun h=>?_)
    ·have h'':b.2<a.2:=by have:=of_decide_eq_true h;omega
     refine zc (z8 (zt (by walk_at "mp") ?_))
     show D.int _=D.int _
     unfold j2;rw[if_neg h',if_pos h'']
    ·have h'':¬b.2<a.2:=by have:=of_decide_eq_false h;omega
     refine zz ?_
     exact zT (ρ':=([("self",zbl T.cT way),("left",ZI a),("right",ZI b)]:Rho)) (by walk_at "mw") (zz ⟨rfl,rfl,by omega,by omega⟩)
  ·obtain rfl:b'=([("direction",.int way),("index",.int 0)]:Rho):=by cases hb';rfl
   have he:=h1 (by omega)
   refine zc (z4 (by walk_at "ms") (zt (by walk_at "mp") ?_))
   refine zc (z4 (by walk_at "ms") (zt (by walk_at "mp") ?_))
   refine zc ?_
   refine Qt (zU (by walk_at "mp") (by walk_at "mp") Q7) (fun h=>?_) (fun h=>?_)
   ·have h':a.1<b.1:=by have:=of_decide_eq_true h;omega
    refine zc (z8 (zt (by walk_at "mp") ?_))
    show D.int _=D.int _
    unfold j2;rw[if_neg (by omega),if_neg (by omega),if_pos h']
   ·have h':¬a.1<b.1:=by have:=of_decide_eq_false h;omega
    refine zz ?_
    refine zc ?_
    refine Qt (zU (by walk_at "mp") (by walk_at "mp") jO) (fun h=>?_) (fun h=>?_)
    ·have h'':b.1<a.1:=by have:=of_decide_eq_true h;omega
     refine zc (z8 (zt (by walk_at "mp") ?_))
     show D.int _=D.int _
     unfold j2;rw[if_neg (by omega),if_neg (by omega),if_neg h',if_pos h'']
    ·have h'':¬b.1<a.1:=by have:=of_decide_eq_false h;omega
     refine zz ?_
     exact zT (ρ':=([("self",zbl T.cT way),("left",ZI a),("right",ZI b)]:Rho)) (by walk_at "mw") (zz ⟨rfl,rfl,by omega,by omega⟩)
  ·omega
 ·rintro _ _ ⟨rfl,rfl,h1,h2⟩
  have e1:=h1 (by simp)
  have e2:=h2 (by simp)
  refine zz ?_
  refine zc (z8 (zt (by walk_at "mp") ?_))
  show D.int _=D.int _
  unfold j2;rw[if_neg (by omega),if_neg (by omega),if_neg (by omega),if_neg (by omega)]
theorem zkQ(T:Top G) {way:Int}{a b:Nat×Nat}(ha:a.1<1000∧a.2<1000) (hb:b.1<1000∧b.2<1000):CallJ G (n+1) σ (.ref (T.mT 1)) [zbl T.cT way,ZI a,ZI b] (.int (j2 way a b)):=
 zaJ (T.clsT.fn 1 (by decide)) (by decide +kernel) (by kernel_rfl) (zjv T ha hb)
end
section
open PySem PySem.W
variable {G:Gx}{n:Nat}{env:Env}{ρ:Rho}{σ:Sig}
noncomputable def qh(way:Int) (best row:Nat×Nat):Nat×Nat:=if j2 way row best<0 then row else best
noncomputable def Qc(way:Int) (r:Nat×Nat) (rows:List (Nat×Nat)):Nat×Nat:=rows.foldl (qh way) r
theorem zm1{x y:Int}(h:x<y) (p q:Bool):b2 (decide (x>y)||(x==y&&p))-b2 (decide (x<y)||(x==y&&q))=-1:=by
 rw[decide_eq_false (show ¬x>y from Int.not_lt.mpr (Int.le_of_lt h)),decide_eq_true h,beq_eq_false_iff_ne.mpr (Int.ne_of_lt h)];rfl
theorem zm2{x y:Int}(h:y<x) (p q:Bool):b2 (decide (x>y)||(x==y&&p))-b2 (decide (x<y)||(x==y&&q))=1:=by
 rw[decide_eq_true (show x>y from h),decide_eq_false (Int.not_lt.mpr (Int.le_of_lt h)),beq_eq_false_iff_ne.mpr (Int.ne_of_lt h).symm];rfl
theorem zm3(x:Int) (p q:Bool):b2 (decide (x>x)||(x==x&&p))-b2 (decide (x<x)||(x==x&&q))=b2 p-b2 q:=by
 rw[decide_eq_false (show ¬x>x from Int.lt_irrefl x),beq_self_eq_true];rfl
theorem zmn{x y:Int}(h:x<y):b2 (decide (x>y))-b2 (decide (x<y))=-1:=by
 rw[decide_eq_false (show ¬x>y from Int.not_lt.mpr (Int.le_of_lt h)),decide_eq_true h];rfl
theorem zmo{x y:Int}(h:y<x):b2 (decide (x>y))-b2 (decide (x<y))=1:=by
 rw[decide_eq_true (show x>y from h),decide_eq_false (Int.not_lt.mpr (Int.le_of_lt h))];rfl
theorem zlh{way:Int}(hw:way=1∨way=-1) (m k:Nat):(if m<k then -way else if k<m then way else 0)=b2 (decide (way*(m:Int)>way*(k:Int)))-b2 (decide (way*(m:Int)<way*(k:Int))):=by
 by_cases h1:m<k
 ·rw[if_pos h1]
  refine hw.elim (fun e=>?_) fun e=>?_
  ·rw[e,Int.one_mul,Int.one_mul,zmn (Int.ofNat_lt.mpr h1)]
  ·rw[e,Int.neg_mul,Int.neg_mul,Int.one_mul,Int.one_mul,zmo (Int.neg_lt_neg (Int.ofNat_lt.mpr h1))];rfl
 ·rw[if_neg h1]
  by_cases h2:k<m
  ·rw[if_pos h2]
   refine hw.elim (fun e=>?_) fun e=>?_
   ·rw[e,Int.one_mul,Int.one_mul,zmo (Int.ofNat_lt.mpr h2)]
   ·rw[e,Int.neg_mul,Int.neg_mul,Int.one_mul,Int.one_mul,zmn (Int.neg_lt_neg (Int.ofNat_lt.mpr h2))]
  ·rw[if_neg h2,Nat.le_antisymm (Nat.not_lt.mp h2) (Nat.not_lt.mp h1),decide_eq_false (Int.lt_irrefl _)];rfl
theorem zkH{way:Int}(hw:way=1∨way=-1) (a b:Nat×Nat) :
  (j2 way a b==b2 (decide ((a.2:Int)>(b.2:Int))||((a.2:Int)==(b.2:Int)&&decide (way*(a.1:Int)>way*(b.1:Int))))-b2 (decide ((a.2:Int)<(b.2:Int))||((a.2:Int)==(b.2:Int)&&decide (way*(a.1:Int)<way*(b.1:Int)))))=true:=by
 unfold j2
 rw[beq_iff_eq]
 by_cases h1:a.2<b.2
 ·rw[if_pos h1,zm1 (Int.ofNat_lt.mpr h1)]
 ·rw[if_neg h1]
  by_cases h2:b.2<a.2
  ·rw[if_pos h2,zm2 (Int.ofNat_lt.mpr h2)]
  ·rw[if_neg h2,Nat.le_antisymm (Nat.not_lt.mp h2) (Nat.not_lt.mp h1),zm3,zlh hw]
noncomputable abbrev zr(l:List Bool):List D:=l.map .bool
theorem zdO{way:Int}{rows:List (Nat×Nat)}{r:Nat×Nat}{i:Nat}:(rows.take i).foldl (qh way) r=r∨(rows.take i).foldl (qh way) r∈rows:=by
 induction rows generalizing r i with
 | nil=>rw[List.take_nil];exact .inl rfl
 | cons x rows ih=>
  cases i with
  | zero=>exact .inl rfl
  | succ i=>
   refine(ih (r:=qh way r x) (i:=i)).elim (fun h=>?_) fun h=>.inr (.tail _ h)
   rw[List.take_succ_cons,List.foldl_cons,h]
   unfold qh
   split
   ·exact .inr (.head _)
   ·exact .inl rfl
theorem zhr{way:Int}(hw:way=1∨way=-1) (b:Int):IntMulOk way b:=by
 rcases hw with rfl | rfl
 ·exact IntMulOk.of_left (by decide +kernel)
 ·exact IntMulOk.of_left (by decide +kernel)
noncomputable abbrev zou(C:Addr) (way:Int) (r:Nat×Nat) (rows:List (Nat×Nat)) (an:Addr) (best:Nat×Nat):Rho:=[("best",ZI best),("by",zbl C way),("rows",.lst ((r::rows).map ZI)),("way",.int way),("notes",.raw (.ref an))]
theorem zmT(T:Top G) {way:Int}(hw:way=1∨way=-1) {r:Nat×Nat}{rows:List (Nat×Nat)}{nb:List Bool}{an:Addr}(hl:(r::rows).length≤1000) (x8:nb.length≤100000) (hr:∀a∈r::rows,a.1<1000∧a.2<1000) :
  ∀env,EnvOk env (zo (ze 16))→X G (n+3) env (zu (ze 16)) [("rows",.lst ((r::rows).map ZI)),("way",.int way),("notes",.raw (.ref an))] [(an,.lst (zr nb))] (ZU fun d' σ'=>d'=.int ((Qc way r (r::rows)).1:Int)∧(an,MO.lst (zr (nb++List.replicate (r::rows).length true)))∈σ'):=by
 intro env hE
 refine zc ?_
 refine zc8 (Jf (zt (zv (by walk_at "mp") zn (Zs (x:=ZI r) (by decide) (by decide) rfl)) (zt (zF (jr (hE.glob (by kernel_rfl)) T.clsT.glob (by kernel_rfl)) (by walk_at "mq") (zo1 T (way:=way)) (zgj T.clsT.kls)) ⟨_,_,rfl,?_⟩))) (by walk_at "ms") (by walk_at "ms") (ZZ rfl) (zbB (hE.kind _ _ (by kernel_rfl) (by decide)) (hE.kind _ _ (by kernel_rfl) (by decide)) hE.block (by kernel_rfl) (by decide +kernel))
 refine zc ?_
 refine JX (names:=["row"]) (bs:=(r::rows).map fun a=>[("row",ZI a)]) (fun _=>True) (fun i=>zou T.cT way r rows an (((r::rows).take i).foldl (qh way) r)) (fun i=>[(an,.lst (zr (nb++List.replicate i true)))]) ?_ ?_ ⟨trivial,rfl,?_⟩ ?_ ?_
 ·exact zN (by walk_at "mp") Zj
 ·exact qY hE (by kernel_rfl)
 ·rw[List.replicate_zero,List.append_nil]
 ·intro i b _ hb
  obtain⟨a,hai,rfl⟩:=qt hb
  have hi:=(List.getElem?_eq_some_iff.mp hai).1
  have ha:=hr a (List.mem_of_getElem? hai)
  rw[show((r::rows).take (i+1)).foldl (qh way) r=qh way (((r::rows).take i).foldl (qh way) r) a from Qb hai]
  have hbb:(((r::rows).take i).foldl (qh way) r).1<1000∧(((r::rows).take i).foldl (qh way) r).2<1000:=hr _ (zdO.elim (fun h=>h▸.head _) id)
  generalize ((r::rows).take i).foldl (qh way) r=best at hbb ⊢
  refine zc ?_
  refine zpb (zjf (zt (zaB (d:=.int (j2 way a best)) T.clsT.kls (by walk_at "mp") (.self _) (T.clsT.find 1 (by decide)) (T.clsT.typ 1 (by decide)) (by kernel_rfl) (by walk_at "mq") (zkQ T ha hbb) (ju T.clsT (by decide))) (zt (d:=.tup [.int (a.2:Int),.int (way*(a.1:Int))]) ?_ (zt (d:=.tup [.int (best.2:Int),.int (way*(best.1:Int))]) ?_ ⟨_,_,_,rfl,?_⟩)))) (by walk_at "ms") (by walk_at "ms") (by walk_at "ms") (ZZ rfl) (zor (hE.kind _ _ (by kernel_rfl) (by decide)) (hE.kind _ _ (by kernel_rfl) (by decide)) (hE.kind _ _ (by kernel_rfl) (by decide)) hE.block (by kernel_rfl) (by kernel_rfl) (by decide +kernel) (by decide +kernel) (by decide +kernel))
  ·exact Z2 (zg (by walk_at "mp") (zg (zk (by walk_at "mp") (by walk_at "mp") (JV (zhr hw _))) zj)) (by simp)
  ·exact Z2 (zg (by walk_at "mp") (zg (zk (by walk_at "mp") (by walk_at "mp") (JV (zhr hw _))) zj)) (by simp)
  refine zc ?_
  refine Jx hE (Z8 qR (by walk_at "mp") (Z9 (.lst (List.mem_singleton.mpr rfl))) (Zn (zt (d:=.bool true) ?_ (qw ?_))))
  ·refine zi (zeR (zcf (zF (zq T hE (by kernel_rfl) (by kernel_rfl)) (zg (by walk_at "mp") (zg (zq T hE (by kernel_rfl) (by kernel_rfl)) zj)) zcy zm) fun _=>zcf (J4 (by walk_at "mp") (by walk_at "mp") zaG) fun _=>zcf (J4 (by walk_at "mp") (by walk_at "mp") zaG) fun _=>zhH (J4 (by walk_at "mp") (zk (J4 (by walk_at "mp") (by walk_at "mp") zhi) (J4 (by walk_at "mp") (by walk_at "mp") zhh) zgN) qK))) ?_
   rw[zkH hw];rfl
  refine ZS (.head ..) ?_ (by unfold zr;rw[List.length_map,List.length_append,List.length_replicate];exact Nat.le_trans (Nat.add_le_add x8 (Nat.le_trans (Nat.le_of_lt hi) hl)) (by decide))
  refine zc ?_
  refine z4 (by walk_at "ms") (zt (d:=ZI (qh way best a)) (zcK (c:=decide (j2 way a best<0)) (zU (by walk_at "mp") (by walk_at "mp") Q7) (fun h=>?_) (fun h=>?_)) ?_)
  ·unfold qh;rw[if_pos (of_decide_eq_true h)];walk_at "mp"
  ·unfold qh;rw[if_neg (of_decide_eq_false h)];walk_at "mp"
  refine zT (ρ':=zou T.cT way r rows an (qh way best a)) (by walk_at "mw") (zz ⟨trivial,rfl,?_⟩)
  rw[List.replicate_succ',←List.append_assoc];exact congrArg (fun l=>[(an,MO.lst l)]) (List.map_append (l₂:=[true])).symm
 ·intro _
  rw[List.length_map,List.take_length]
  refine zz ?_
  exact zc (z8 (zt (by walk_at "mp") ⟨rfl,.head _⟩))
theorem znX(T:Top G) {way:Int}(hw:way=1∨way=-1) {r:Nat×Nat}{rows:List (Nat×Nat)}{nb:List Bool}{an:Addr}(hl:(r::rows).length≤1000) (x8:nb.length≤100000) (hr:∀a∈r::rows,a.1<1000∧a.2<1000) :
  CallM G (n+3+1) (.ref (T.fa 16)) [.lst ((r::rows).map ZI),.int way,.raw (.ref an)] an (.lst (zr nb)) (.int ((Qc way r (r::rows)).1:Int)) (.lst (zr (nb++List.replicate (r::rows).length true))):=
 zc0 T (by decide) (by decide +kernel) (by kernel_rfl) (by kernel_rfl) (zmT T hw hl x8 hr)
end
section
open PySem PySem.W
noncomputable abbrev Zm:=List (Str×List (Str×Int))
noncomputable abbrev zQ:=List (Str×Str)
noncomputable def za(base:Nat):List Str:=(List.range 5).map fun k=>ZF (base+k)
noncomputable def zh{α:Type}(left:List (Str×List α)) (x:Str):List α:=(zX left x).getD []
noncomputable def JE(row:List (Str×Int)):List Str:=(row.filter fun p=>decide (p.2=0)).map (·.1)
noncomputable def zK(names:List Str) (left:Zm):List (Str×List Str):=names.map fun y=>(y,JE (zh left y))
noncomputable def zP(names:List Str) (left:Zm):List (List Str):=names.map fun x=>closed (zK names left) x
noncomputable def Z7(root:Str) (groups:List (List Str)):List (Nat×Nat):=(groups.zipIdx.filter fun p=>decide (root∉p.1)).map fun p=>(p.2,p.1.length)
noncomputable def Zp(left:Zm) (inside:List Str):List Int:=inside.flatMap fun y=>((zh left y).filter fun p=>decide (p.1∉inside)).map (·.2)
noncomputable def Zo(inside:List Str) (price:Int) (row:List (Str×Int)):List (Str×Int):=row.map fun p=>(p.1,if p.1∈inside then p.2 else p.2 + -price)
noncomputable def Q4(row:List (Str×Int)) (name:Str) (freed:zQ):zQ:=(row.filter fun p=>decide (p.2=0)&&decide ((p.1,name)∉freed)).map fun p=>(p.1,name)
noncomputable def Zf(inside:List Str) (price:Int) (s:Zm×zQ) (name:Str):Zm×zQ:=
 (z5 s.1 name (Zo inside price (zh s.1 name)),s.2++Q4 (Zo inside price (zh s.1 name)) name s.2)
structure PS where
 left:Zm
 book:List (Str×Int)
 freed:zQ
 notes:Nat
noncomputable def zL(names:List Str) (group:List Str):List Str:=names.filter fun x=>decide (x∈group)
noncomputable def jA(names:List Str) (s:PS) (k:Nat) (group:List Str):PS:=
 ⟨((zL names group).foldl (Zf (zL names group) (Qr (Zp s.left (zL names group)))) (s.left,s.freed)).1,
  qq (·+·) s.book [(Txt.join zJ (zL names group),Qr (Zp s.left (zL names group)))],
  ((zL names group).foldl (Zf (zL names group) (Qr (Zp s.left (zL names group)))) (s.left,s.freed)).2,s.notes+k+1⟩
noncomputable def qs(names:List Str) (way:Int) (s:PS):PS:=
 match Z7 (names.getD 0 "") (zP names s.left) with
 | []=>s
 | r::rs=>jA names s (r::rs).length ((zP names s.left).getD (Qc way r (r::rs)).1 [])
noncomputable def Jr(names:List Str) (left:Zm):zQ:=names.flatMap fun y=>(JE (zh left y)).map fun c=>(c,y)
noncomputable def zms(names:List Str) (left:Zm):PS:=⟨left,[],Jr names left,0⟩
noncomputable def Zc(names:List Str) (way:Int) (left:Zm):Nat→PS
 | 0=>zms names left
 | k+1=>qs names way (Zc names way left k)
theorem zlS{α:Type}{l:List (Str×α)}{k x:Str}{v:α}(h:k∈l.map (·.1)):zX (z5 l k v) x=if x=k then some v else zX l x:=by
 have hany:l.any (fun p=>decide (p.1=k))=true:=(List.mem_map.mp h).elim fun p hp=>List.any_eq_true.mpr ⟨p,hp.1,decide_eq_true hp.2⟩
 unfold z5 zX
 rw[if_pos hany,List.find?_map,show((fun p:Str×α=>decide (p.1=x))∘fun p=>if p.1=k then (p.1,v) else p)=fun p=>decide (p.1=x) from funext fun p=>by show decide ((if p.1=k then (p.1,v) else p).1=x)=_;split<;>rfl,Option.map_map]
 by_cases ex:x=k
 ·rw[if_pos ex,ex]
  refine(Option.isSome_iff_exists.mp (List.find?_isSome.mpr (List.any_eq_true.mp hany))).elim fun p hp=>?_
  rw[hp]
  show some (if p.1=k then (p.1,v) else p).2=_
  rw[if_pos (of_decide_eq_true (List.find?_some (p:=fun p:Str×α=>decide (p.1=k)) hp))]
 ·rw[if_neg ex]
  refine Option.map_congr fun p hp=>?_
  show(if p.1=k then (p.1,v) else p).2=_
  rw[if_neg fun q=>ex ((of_decide_eq_true (List.find?_some (p:=fun p:Str×α=>decide (p.1=x)) hp)).symm.trans q)]
theorem qT{α:Type}{l:List (Str×α)}{p:Str×α}(hn:(l.map (·.1)).Nodup) (h:p∈l):zX l p.1=some p.2:=by
 unfold zX
 induction l with
 | nil=>cases h
 | cons a l ih=>
  rw[List.map_cons,List.nodup_cons] at hn
  rw[List.find?_cons]
  refine(List.mem_cons.mp h).elim (fun e=>?_) fun h=>?_
  ·rw[e,decide_eq_true rfl];rfl
  ·rw[decide_eq_false fun q:a.1=p.1=>hn.1 (q▸List.mem_map_of_mem h)]
   exact ih hn.2 h
theorem zeL{β:Type}{l:List (Str×List β)}{k x:Str}{v:List β}(h:k∈l.map (·.1)):zh (z5 l k v) x=if x=k then v else zh l x:=by
 unfold zh
 rw[zlS h]
 split<;>rfl
theorem zdm{α:Type}{l:List (Str×α)}{k:Str}{v:α}(h:k∉l.map (·.1)):z5 l k v=l++[(k,v)]:=by
 unfold z5
 rw[if_neg]
 intro q
 obtain⟨p,hp,e⟩:=List.any_eq_true.mp q
 exact h (by simp at e;exact e▸List.mem_map_of_mem hp)
theorem jE{α:Type}:∀(l acc:List (Str×α)),((acc++l).map (·.1)).Nodup→l.foldl (fun acc p=>z5 acc p.1 p.2) acc=acc++l
 | [],acc,_=>by simp
 | p::l,acc,h=>by
  rw[List.foldl_cons,zdm,jE l]
  ·simp
  ·simpa using h
  ·rw[List.map_append,List.nodup_append] at h
   exact fun q=>h.2.2 p.1 q p.1 (by simp) rfl
theorem zbs{α:Type}{add:α→α→α}{t s:List (Str×α)}(h:(t.map (·.1)).Nodup):qq add t s=s.foldl (zM add) t:=by
 unfold qq
 rw[jE t [] (by simpa using h),List.nil_append]
theorem zlF{v:Int}(ks:List Str) (row:List (Str×Int)) (hn:(row.map (·.1)).Nodup) (hk:ks.Nodup) (hs:∀k∈ks,k∈row.map (·.1)) :
  (ks.map fun k=>(k,v)).foldl (zM (·+·)) row=row.map fun p=>(p.1,if p.1∈ks then p.2+v else p.2):=by
 induction ks generalizing row with
 | nil=>exact(List.map_id' row).symm
 | cons k ks ih=>
  rw[List.nodup_cons] at hk
  have step:zM (·+·) row (k,v)=row.map fun p=>(p.1,if p.1=k then p.2+v else p.2):=(List.mem_map.mp (hs k (.head _))).elim fun p₀ q=>by
   have hg:zX row k=some p₀.2:=q.2▸qT hn q.1
   unfold zM
   rw[hg]
   show z5 row k (p₀.2+v)=_
   unfold z5
   rw[if_pos (zeZ hg)]
   refine List.map_congr_left fun p hp=>?_
   by_cases e:p.1=k
   ·rw[if_pos e,if_pos e,Option.some.inj (hg.symm.trans (e▸qT hn hp))]
   ·rw[if_neg e,if_neg e]
  have hkeys:(row.map fun p=>(p.1,if p.1=k then p.2+v else p.2)).map (·.1)=row.map (·.1):=List.map_map
  rw[List.map_cons,List.foldl_cons,step,ih _ (hkeys▸hn) hk.2 (hkeys▸fun x hx=>hs x (.tail _ hx)),List.map_map]
  refine List.map_congr_left fun p hp=>congrArg (Prod.mk p.1) ?_
  show(if p.1∈ks then (if p.1=k then p.2+v else p.2)+v else (if p.1=k then p.2+v else p.2))=_
  by_cases e:p.1=k
  ·rw[e,if_neg hk.1,if_pos rfl,if_pos (.head _)]
  ·rw[if_neg e]
   by_cases q:p.1∈ks
   ·rw[if_pos q,if_pos (.tail _ q)]
   ·rw[if_neg q,if_neg fun z=>(List.mem_cons.mp z).elim e q]
theorem zmj{row:List (Str×Int)}{inside:List Str}{price:Int}(hn:(row.map (·.1)).Nodup) :
  qq (·+·) row ((row.filter fun p=>decide (p.1∉inside)).map fun p=>(p.1,-price))=Zo inside price row:=by
 rw[zbs hn]
 have e:((row.filter fun p=>decide (p.1∉inside)).map fun p=>(p.1,-price))=(((row.filter fun p=>decide (p.1∉inside)).map (·.1)).map fun k=>(k,-price)):=by rw[List.map_map];rfl
 have hsub:((row.filter fun p=>decide (p.1∉inside)).map (·.1)).Sublist (row.map (·.1)):=(List.filter_sublist).map _
 rw[e,zlF _ _ hn (hsub.nodup hn) fun k hk=>hsub.subset hk]
 unfold Zo
 refine List.map_congr_left fun p hp=>?_
 by_cases h:p.1∈inside
 ·rw[if_pos h,if_neg]
  intro q
  obtain⟨p',hp',e'⟩:=List.mem_map.mp q
  have:=(List.mem_filter.mp hp').2
  rw[e'] at this
  simp[h] at this
 ·rw[if_neg h,if_pos]
  exact List.mem_map.mpr ⟨p,List.mem_filter.mpr ⟨hp,by simpa using h⟩,rfl⟩
theorem zak(inside:List Str) (price:Int) (row:List (Str×Int)):(Zo inside price row).map (·.1)=row.map (·.1):=by
 unfold Zo;rw[List.map_map];rfl
structure PaidOk (names:List Str) (left:Zm) (freed:zQ):Prop where
 nodup:names.Nodup
 keys:left.map (·.1)=names
 rnd:∀x,((zh left x).map (·.1)).Nodup
 rsub:∀x,∀c∈(zh left x).map (·.1),c∈names
 low:∀i x,0<i→names[i]?=some x→∃j c,j<i∧names[j]?=some c∧c∈(zh left x).map (·.1)
 fnd:freed.Nodup
 fsub:∀p∈freed,p.1∈names∧p.2∈names
theorem PaidOk.get{names:List Str}{left:Zm}{freed:zQ}(h:PaidOk names left freed) {x:Str}(hx:x∈names):zX left x=some (zh left x):=by
 obtain⟨v,hv⟩:=j8 (l:=left) (k:=x) (by rw[h.keys];exact hx)
 unfold zh
 rw[hv];rfl
theorem PaidOk.row_len{names:List Str}{left:Zm}{freed:zQ}(h:PaidOk names left freed) (x:Str):(zh left x).length≤names.length:=by
 have:=Zr (h.rnd x) (h.rsub x)
 simpa using this
theorem zai{row:List (Str×Int)}{name:Str}{freed:zQ}{p:Str×Str}:p∈Q4 row name freed↔p.2=name∧(p.1,(0:Int))∈row∧p∉freed:=by
 unfold Q4
 rw[List.mem_map]
 constructor
 ·rintro⟨q,hq,rfl⟩
  have h1:=List.mem_filter.mp hq
  have h2:=h1.2
  simp only[Bool.and_eq_true,decide_eq_true_eq] at h2
  exact⟨rfl,by rw[←h2.1];exact h1.1,h2.2⟩
 ·rintro⟨h1,h2,h3⟩
  refine⟨(p.1,0),List.mem_filter.mpr ⟨h2,?_⟩,by rw[←h1]⟩
  simp only[Bool.and_eq_true,decide_eq_true_eq,true_and]
  rw[←h1];exact h3
theorem zfo{row:List (Str×Int)}{name:Str}{freed:zQ}(h:(row.map (·.1)).Nodup):(Q4 row name freed).Nodup:=by
 unfold Q4
 have h1:((row.filter fun p=>decide (p.2=0)&&decide ((p.1,name)∉freed)).map (·.1)).Nodup:=((List.filter_sublist).map _).nodup h
 have e:((row.filter fun p=>decide (p.2=0)&&decide ((p.1,name)∉freed)).map fun p=>(p.1,name))=((row.filter fun p=>decide (p.2=0)&&decide ((p.1,name)∉freed)).map (·.1)).map fun k=>(k,name):=by rw[List.map_map];rfl
 rw[e]
 exact ZC h1 fun x _ y _ e=>congrArg Prod.fst e
theorem zaj{inside:List Str}{price:Int}{s:Zm×zQ}{name x:Str}(h:name∈s.1.map (·.1)):zh (Zf inside price s name).1 x=if x=name then Zo inside price (zh s.1 name) else zh s.1 x:=zeL h
theorem J5{inside:List Str}{price:Int}{s:Zm×zQ}{name:Str}(h:name∈s.1.map (·.1)) (x:Str):(zh (Zf inside price s name).1 x).map (·.1)=(zh s.1 x).map (·.1):=by
 rw[zaj h]
 split
 ·rename_i e;rw[zak,e]
 ·rfl
theorem za6{names:List Str}{inside:List Str}{price:Int}{s:Zm×zQ}{name:Str}(h:PaidOk names s.1 s.2) (hx:name∈names):PaidOk names (Zf inside price s name).1 (Zf inside price s name).2:=by
 have hk:name∈s.1.map (·.1):=by rw[h.keys];exact hx
 refine⟨h.nodup,by unfold Zf;rw[zeM hk,h.keys],fun x=>by rw[J5 hk];exact h.rnd x,fun x=>by rw[J5 hk];exact h.rsub x,fun i x hi hxi=>by rw[J5 hk];exact h.low i x hi hxi,?_,?_⟩
 ·show(s.2++Q4 (Zo inside price (zh s.1 name)) name s.2).Nodup
  rw[List.nodup_append]
  refine⟨h.fnd,zfo (by rw[zak];exact h.rnd name),?_⟩
  intro a ha b hb e
  exact(zai.mp hb).2.2 (e▸ha)
 ·intro p hp
  rcases List.mem_append.mp hp with hp | hp
  ·exact h.fsub p hp
  ·obtain⟨h1,h2,_⟩:=zai.mp hp
   rw[h1]
   refine⟨h.rsub name p.1 ?_,hx⟩
   rw[←zak inside price]
   exact List.mem_map_of_mem (f:=(·.1)) h2
theorem zgf{names:List Str}{inside:List Str}{price:Int}:∀(l:List Str) (s:Zm×zQ),PaidOk names s.1 s.2→(∀x∈l,x∈names)→PaidOk names (l.foldl (Zf inside price) s).1 (l.foldl (Zf inside price) s).2
 | [],s,h,_=>h
 | x::l,s,h,hl=>zgf l _ (za6 h (hl x List.mem_cons_self)) fun y hy=>hl y (List.mem_cons_of_mem _ hy)
theorem ze0{names:List Str}{left:Zm}{freed:zQ}(h:PaidOk names left freed):freed.length≤names.length*names.length:=by
 have h1:=Zr (m:=names.flatMap fun a=>names.map fun b=>(a,b)) h.fnd fun p hp=>by
  obtain⟨h1,h2⟩:=h.fsub p hp
  exact List.mem_flatMap.mpr ⟨p.1,h1,List.mem_map.mpr ⟨p.2,h2,rfl⟩⟩
 have h2:=jJ (f:=fun a=>names.map fun b=>(a,b)) (k:=names.length) (l:=names) fun x hx=>by simp
 lia
theorem zaV{names:List Str}{left:Zm}{freed:zQ}(h:PaidOk names left freed):GoodAdj (zK names left) where
 nodup p hp:=by
  obtain⟨x,hx,rfl⟩:=List.mem_map.mp hp
  exact((List.filter_sublist).map _).nodup (h.rnd x)
 sub p hp o ho:=by
  obtain⟨x,hx,rfl⟩:=List.mem_map.mp hp
  have:(zK names left).map (·.1)=names:=by unfold zK;rw[List.map_map];exact List.map_id _
  rw[this]
  exact h.rsub x o (((List.filter_sublist).map _).subset ho)
theorem jC(names:List Str) (left:Zm):(zK names left).map (·.1)=names:=by unfold zK;rw[List.map_map];exact List.map_id _
theorem Closes.keeps{K:Type} [DecidableEq K] {adj:List (K×List K)}{k:Nat}{g R:List K}{a:Nat}(h:Closes adj k g a R):∀x∈g,x∈R:=by
 induction h with
 | done _=>exact fun x h=>h
 | step _ _ _ ih=>exact fun x h=>ih x (List.mem_append_left _ h)
theorem QD{names:List Str}{left:Zm}{freed:zQ}(h:PaidOk names left freed) {x:Str}(hx:x∈names) :
  (closed (zK names left) x).Nodup∧(∀y∈closed (zK names left) x,y∈names)∧x∈closed (zK names left) x∧(closed (zK names left) x).length≤names.length:=by
 obtain⟨m,h1,h2,h3⟩:=QA (zaV h) (first:=x) (by rw[jC];exact hx)
 rw[jC] at h3
 exact⟨h2,h3,h1.keeps x List.mem_cons_self,Zr h2 h3⟩
theorem zeI{root:Str}{groups:List (List Str)}{a:Nat×Nat}(h:a∈Z7 root groups):∃g,groups[a.1]?=some g∧root∉g∧a.2=g.length:=by
 unfold Z7 at h
 obtain⟨p,hp,rfl⟩:=List.mem_map.mp h
 obtain⟨h1,h2⟩:=List.mem_filter.mp hp
 rw[List.mem_zipIdx_iff_getElem?] at h1
 exact⟨p.1,h1,of_decide_eq_true h2,rfl⟩
theorem ze4{way:Int}(r:Nat×Nat) (rs:List (Nat×Nat)):Qc way r (r::rs)∈r::rs:=by
 have e:Qc way r (r::rs)=((r::rs).take (r::rs).length).foldl (qh way) r:=by rw[List.take_of_length_le (Nat.le_refl _)];rfl
 rw[e]
 rcases zdO (way:=way) (rows:=r::rs) (r:=r) (i:=(r::rs).length) with h | h
 ·rw[h];exact List.mem_cons_self
 ·exact h
theorem zbY{α β:Type}{f:α→β}{l:List α}{i:Nat}{b:β}(h:(l.map f)[i]?=some b):∃x,l[i]?=some x∧b=f x:=by
 rw[List.getElem?_map] at h
 obtain⟨x,hx,e⟩:=Option.map_eq_some_iff.mp h
 exact⟨x,hx,e.symm⟩
theorem zl1{names:List Str}{left:Zm}{freed:zQ}(h:PaidOk names left freed) {group:List Str}{x:Str}(hx:x∈group) (hxn:x∈names) (hr:names.getD 0 ""∉group):Zp left (zL names group)≠[]:=by
 obtain⟨i,hi⟩:=List.getElem?_of_mem hxn
 have key:∀(i:Nat) (x:Str),names[i]?=some x→x∈group→Zp left (zL names group)≠[]:=by
  intro i
  induction i using Nat.strongRecOn with
  | _ i ih=>
   intro x hi hx
   rcases Nat.eq_zero_or_pos i with rfl | hpos
   ·exact absurd hx (by rwa[List.getD_eq_getElem?_getD,hi] at hr)
   obtain⟨j,c,hj,hc,hm⟩:=h.low i x hpos hi
   by_cases hcg:c∈group
   ·exact ih j hj c hc hcg
   ·intro e
    obtain⟨p,hp,ep⟩:=List.mem_map.mp hm
    have:p.2∈Zp left (zL names group):=by
     unfold Zp
     refine List.mem_flatMap.mpr ⟨x,List.mem_filter.mpr ⟨List.mem_of_getElem? hi,by simpa using hx⟩,List.mem_map.mpr ⟨p,List.mem_filter.mpr ⟨hp,?_⟩,rfl⟩⟩
     simp only[decide_eq_true_eq]
     intro q
     have:=(List.mem_filter.mp q).2
     rw[ep] at this
     exact hcg (by simpa using this)
    rw[e] at this
    cases this
 exact key i x hi hx
theorem zlX{s:Nat}(h:s%2=0):(s+1)%2=1:=by rw[Nat.add_mod,h]
theorem zkv{s:Nat}(h:s%2=0):(s+1)/2=s/2:=
 have e:2*(s/2)=s:=(congrArg (2*(s/2)+·) h).symm.trans (Nat.div_add_mod s 2)
 (congrArg (fun t=>(t+1)/2) e.symm).trans (Nat.mul_add_div (by decide) (s/2) 1)
theorem zn2(a:Nat):∀(s i:Nat),s.testBit a=false→(s+2^a).testBit i=(s.testBit i||decide (i=a)):=by
 induction a with
 | zero=>
  intro s i h
  have h':s%2=0:=(Nat.mod_two_eq_zero_or_one s).resolve_right fun e=>by rw[Nat.testBit_zero,e] at h;cases h
  cases i with
  | zero=>rw[Nat.testBit_zero,Nat.testBit_zero,h',show(s+2^0)%2=1 from zlX h'];rfl
  | succ i=>rw[Nat.testBit_succ,Nat.testBit_succ,show(s+2^0)/2=s/2 from zkv h',decide_eq_false (Nat.succ_ne_zero i),Bool.or_false]
 | succ a ih=>
  intro s i h
  rw[Nat.testBit_succ] at h
  cases i with
  | zero=>rw[Nat.testBit_zero,Nat.testBit_zero,show(s+2^(a+1))%2=s%2 from Nat.add_mul_mod_self_right s (2^a) 2,decide_eq_false (Nat.succ_ne_zero a).symm,Bool.or_false]
  | succ i=>rw[Nat.testBit_succ,Nat.testBit_succ,show(s+2^(a+1))/2=s/2+2^a from Nat.add_mul_div_right s (2^a) (by decide),ih _ i h];exact congrArg _ (decide_eq_decide.mpr Nat.succ_inj.symm)
theorem zlm(L:List Nat) (h:L.Nodup) (i:Nat):((L.map fun a=>2^a).sum).testBit i=decide (i∈L):=by
 induction L generalizing i with
 | nil=>exact Nat.zero_testBit i
 | cons a L ih=>
  rw[List.nodup_cons] at h
  rw[List.map_cons,List.sum_cons,Nat.add_comm,zn2 _ _ _ ((ih h.2 a).trans (decide_eq_false h.1)),ih h.2,Bool.or_comm,←Bool.decide_or]
  exact decide_eq_decide.mpr List.mem_cons.symm
theorem zcU:∀i<32,∀j<32,ZF i=ZF j→i=j:=by decide +kernel
theorem zdN:∀i<32,zfA (ZF i):=by unfold zfA;decide +kernel
theorem qG{base:Nat}(hb:base≤27):(za base).Nodup:=by
 unfold za
 refine ZC List.nodup_range fun x hx y hy e=>?_
 rw[List.mem_range] at hx hy
 have:=zcU _ (by lia) _ (by lia) e
 lia
theorem j9{base k:Nat}(hk:k<5):(za base)[k]?=some (ZF (base+k)):=by
 unfold za
 rw[List.getElem?_map,List.getElem?_range hk];rfl
theorem qu{base:Nat}{x:Str}:x∈za base↔∃k<5,x=ZF (base+k):=by
 unfold za
 rw[List.mem_map]
 constructor
 ·rintro⟨k,hk,rfl⟩;exact⟨k,List.mem_range.mp hk,rfl⟩
 ·rintro⟨k,hk,rfl⟩;exact⟨k,List.mem_range.mpr hk,rfl⟩
theorem zkk{names:List Str}(hn:names.Nodup) {k:Nat}{x:Str}(h:names[k]?=some x):names.idxOf x=k:=by
 obtain⟨hk,rfl⟩:=List.getElem?_eq_some_iff.mp h
 exact hn.idxOf_getElem k hk
theorem Qj{base k:Nat}(hb:base≤27) (hk:k<5):(za base).idxOf (ZF (base+k))=k:=zkk (qG hb) (j9 hk)
noncomputable def jI(base:Nat) (group:List Str):Nat:=(group.map fun x=>2^(base+(za base).idxOf x)).sum
theorem zeW{base:Nat}(hb:base≤27) {group:List Str}(hn:group.Nodup) (hs:∀x∈group,x∈za base) (i:Nat) :
  (jI base group).testBit i=decide (i∈group.map fun x=>base+(za base).idxOf x):=by
 unfold jI
 have e:(group.map fun x=>2^(base+(za base).idxOf x))=(group.map fun x=>base+(za base).idxOf x).map fun a=>2^a:=by rw[List.map_map];rfl
 rw[e]
 refine zlm _ (ZC hn fun x hx y hy e=>?_) i
 obtain⟨k,hk,rfl⟩:=qu.mp (hs x hx)
 obtain⟨j,hj,rfl⟩:=qu.mp (hs y hy)
 rw[Qj hb hk,Qj hb hj] at e
 rw[Nat.add_left_cancel e]
theorem zcM{base:Nat}(hb:base≤27) {group:List Str}(hn:group.Nodup) (hs:∀x∈group,x∈za base) {i:Nat}(h:(jI base group).testBit i=true):∃k<5,i=base+k∧ZF (base+k)∈group:=by
 rw[zeW hb hn hs,decide_eq_true_eq] at h
 obtain⟨x,hx,rfl⟩:=List.mem_map.mp h
 obtain⟨k,hk,rfl⟩:=qu.mp (hs x hx)
 exact⟨k,hk,by rw[Qj hb hk],hx⟩
theorem znp{base:Nat}(hb:base≤27) {group:List Str}(hn:group.Nodup) (hs:∀x∈group,x∈za base):jI base group<2^32:=by
 refine Nat.lt_pow_two_of_testBit _ fun i hi=>?_
 exact Bool.eq_false_iff.mpr fun e=>(zcM hb hn hs e).elim fun k y=>absurd hi (Nat.not_le.mpr (y.2.1▸Nat.add_lt_add_of_le_of_lt hb y.1))
theorem zhM{base:Nat}(hb:base≤27) {group:List Str}(hn:group.Nodup) (hs:∀x∈group,x∈za base) {k:Nat}(hk:k<5):(jI base group).testBit (base+k)=decide (ZF (base+k)∈group):=by
 rw[zeW hb hn hs]
 refine decide_eq_decide.mpr ⟨fun h=>?_,fun h=>?_⟩
 ·obtain⟨x,hx,e⟩:=List.mem_map.mp h
  obtain⟨j,hj,rfl⟩:=qu.mp (hs x hx)
  rw[Qj hb hj] at e
  rwa[←Nat.add_left_cancel e]
 ·exact List.mem_map.mpr ⟨_,h,by rw[Qj hb hk]⟩
theorem zno{base:Nat}(hb:base≤27) {group:List Str}(hn:group.Nodup) (hs:∀x∈group,x∈za base) {x:Str}(hx:x∈group):jI base group≠0:=fun e=>by
 obtain⟨k,hk,rfl⟩:=qu.mp (hs x hx)
 have:=zhM hb hn hs hk
 rw[e,Nat.zero_testBit,decide_eq_true hx] at this
 cases this
theorem zcB{α:Type}{p:α→Bool}{l:List α}(h:∀x∈l,p x=false):l.filter p=[]:=List.filter_eq_nil_iff.mpr fun x hx=>by simp[h x hx]
theorem zhk{base:Nat}(hb:base≤27) {group:List Str}(hn:group.Nodup) (hs:∀x∈group,x∈za base):qv (jI base group) 32=zL (za base) group:=by
 unfold qv
 have hr:List.range 32=List.range base++((List.range 5).map (base+·)++(List.range (27-base)).map (base+5+·)):=by
  rw[show 32=base+(5+(27-base)) by rw[Nat.add_left_comm,Nat.add_sub_cancel' hb],List.range_add,List.range_add,List.map_append,List.map_map,show((fun x=>base+x)∘fun x=>5+x)=fun x=>base+5+x from funext fun x=>(Nat.add_assoc base 5 x).symm]
 have h1:(List.range base).filter (jI base group).testBit=[]:=zcB fun i hi=>Bool.eq_false_iff.mpr fun e=>(zcM hb hn hs e).elim fun k y=>Nat.not_lt_of_le (y.2.1▸Nat.le_add_right base k) (List.mem_range.mp hi)
 have h3:((List.range (27-base)).map (base+5+·)).filter (jI base group).testBit=[]:=zcB fun i hi=>by
  obtain⟨j,hj,rfl⟩:=List.mem_map.mp hi
  exact Bool.eq_false_iff.mpr fun e=>(zcM hb hn hs e).elim fun k y=>absurd y.2.1 (Nat.ne_of_gt (Nat.lt_of_lt_of_le (Nat.add_lt_add_left y.1 base) (Nat.le_add_right _ j)))
 rw[hr,List.filter_append,List.filter_append,h1,h3,List.nil_append,List.append_nil]
 unfold zL za
 rw[List.filter_map,List.filter_map,List.map_map]
 congr 1
 refine List.filter_congr fun k hk=>?_
 exact zhM hb hn hs (List.mem_range.mp hk)
theorem zkh{names group:List Str}{x:Str}(hx:x∈group) (hn:x∈names):zL names group≠[]:=fun e=>by
 have:x∈zL names group:=List.mem_filter.mpr ⟨hn,by simpa using hx⟩
 rw[e] at this;cases this
theorem zgq{base:Nat}(hb:base≤27) {group:List Str}{x:Str}(hx:x∈group) (hn:x∈za base):Txt.split (Txt.join zJ (zL (za base) group)) zJ=zL (za base) group:=
 zdg (zkh hx hn) fun p hp=>by
  obtain⟨k,hk,rfl⟩:=qu.mp (List.mem_filter.mp hp).1
  exact zdN _ (by lia)
theorem zdJ(names group:List Str):(zL names group).length≤names.length:=List.length_filter_le _ _
theorem zcz{base:Nat}(hb:base≤27) (group:List Str):JoinOk zJ (zL (za base) group)=true∧(Txt.join zJ (zL (za base) group)).length≤1000:=by
 have h2:zJ.length=2:=by decide +kernel
 have hl:∀x∈zL (za base) group,x.length≤20:=fun x hx=>by
  obtain⟨k,hk,rfl⟩:=qu.mp (List.mem_filter.mp hx).1
  exact zcT _ (by lia)
 have h5:=zdJ (za base) group
 have hf:(za base).length=5:=by simp[za]
 have h1:((zL (za base) group).map fun x=>x.length+zJ.length).sum≤(zL (za base) group).length*22:=zaQ fun x hx=>by rw[h2];have:=hl x hx;lia
 have h3:((zL (za base) group).map (·.length)).sum≤(zL (za base) group).length*20:=zaQ hl
 refine⟨zhO (by lia),?_⟩
 have h4:=StrLaws.join_length_le zJ (zL (za base) group)
 have h6:Txt.join zJ (zL (za base) group)=Str.join zJ (zL (za base) group):=StrLaws.glued_eq_join _ _
 rw[h6]
 rw[h2] at h4
 have:(zL (za base) group).length*20≤100:=by lia
 have h7:((zL (za base) group).map Str.length).sum≤100:=Nat.le_trans h3 this
 lia
end
section
open PySem PySem.W
variable {G:Gx}{n:Nat}{env:Env}{ρ:Rho}{σ:Sig}
noncomputable abbrev ZL(l:Zm):D:=.dicS (l.map fun p=>(p.1,zZ p.2))
noncomputable abbrev Qm(l:Zm):MO:=.dicS (l.map fun p=>(p.1,zZ p.2))
noncomputable abbrev Qa(l:zQ):MO:=.lst (l.map fun p=>.tup [.str p.1,.str p.2])
theorem znd{e:Expr}{mo mo':MO}(h:PO G n env e ρ σ mo) (e':mo=mo'):PO G n env e ρ σ mo':=e'▸h
theorem ze1{names:List Str}{left:Zm}(h:PaidOk names left []):PaidOk names left (Jr names left):=by
 refine⟨h.nodup,h.keys,h.rnd,h.rsub,h.low,?_,?_⟩
 ·unfold Jr
  have key:∀l:List Str,l.Nodup→(l.flatMap fun y=>(JE (zh left y)).map fun c=>(c,y)).Nodup:=by
   intro l hl
   induction l with
   | nil=>simp
   | cons a l ih=>
    rw[List.nodup_cons] at hl
    rw[List.flatMap_cons,List.nodup_append]
    refine⟨ZC (((List.filter_sublist).map _).nodup (h.rnd a)) fun x _ y _ e=>congrArg Prod.fst e,ih hl.2,?_⟩
    intro p hp q hq e
    refine zd (List.mem_map.mp hp) fun c _ q3_=>?_
    subst q3_
    refine zd (List.mem_flatMap.mp hq) fun y hy hq=>?_
    refine zd (List.mem_map.mp hq) fun d _ q2_=>?_
    subst q2_
    exact hl.1 (by rw[show a=y from congrArg Prod.snd e];exact hy)
  exact key names h.nodup
 ·intro p hp
  refine zd (List.mem_flatMap.mp hp) fun y hy hp=>?_
  refine zd (List.mem_map.mp hp) fun c hc q1_=>?_
  subst q1_
  exact⟨h.rsub y c (((List.filter_sublist).map _).subset hc),hy⟩
theorem zlg{names:List Str}{s:PS}{k:Nat}{group:List Str}(h:PaidOk names s.left s.freed):PaidOk names (jA names s k group).left (jA names s k group).freed:=
 zgf _ (s.left,s.freed) h fun x hx=>(List.mem_filter.mp hx).1
theorem zm0{names:List Str}{way:Int}{s:PS}(h:PaidOk names s.left s.freed):PaidOk names (qs names way s).left (qs names way s).freed:=by
 unfold qs
 split
 ·exact h
 ·exact zlg h
theorem zch{names:List Str}{way:Int}{left:Zm}(h:PaidOk names left []):∀k,PaidOk names (Zc names way left k).left (Zc names way left k).freed
 | 0=>ze1 h
 | k+1=>zm0 (zch h k)
theorem zeJ(root:Str) (groups:List (List Str)):(Z7 root groups).length≤groups.length:=by
 unfold Z7
 rw[List.length_map]
 have:=List.length_filter_le (fun p:List Str×Nat=>decide (root∉p.1)) groups.zipIdx
 simpa using this
theorem zie{names:List Str}{way:Int}{s:PS}:(qs names way s).notes≤s.notes+names.length+1:=by
 unfold qs
 have:=zeJ (names.getD 0 "") (zP names s.left)
 have e:(zP names s.left).length=names.length:=by simp[zP]
 split
 ·lia
 ·rename_i r rs h
  rw[h] at this
  show s.notes+(r::rs).length+1≤_
  lia
theorem zjD{names:List Str}{way:Int}{s:PS}:(qs names way s).book.length≤s.book.length+1:=by
 unfold qs
 split
 ·lia
 ·exact zcF _ _ _
theorem jF{names:List Str}{way:Int}{left:Zm}:∀k,(Zc names way left k).notes≤k*(names.length+1)∧(Zc names way left k).book.length≤k
 | 0=>⟨Nat.zero_le _,Nat.le_refl _⟩
 | k+1=>by
  have h:=jF (names:=names) (way:=way) (left:=left) k
  have h1:=zie (names:=names) (way:=way) (s:=Zc names way left k)
  have h2:=zjD (names:=names) (way:=way) (s:=Zc names way left k)
  rw[Nat.succ_mul]
  exact⟨Nat.le_trans h1 (by lia),Nat.le_trans h2 (by lia)⟩
theorem jW{e1 e2:Expr}{p1:Pos}{names:List Str}{left:Zm}{freed:zQ}{x:Str}{al:Addr}(h:PaidOk names left freed) (hx:x∈names) (hm:(al,Qm left)∈σ)
  (h1:PE G n env e1 ρ σ (.raw (.ref al))) (h2:PE G n env e2 ρ σ (.str x)):PE G n env (.Subscript e1 e2 p1) ρ σ (zZ (zh left x)):=
 zv h1 h2 (qo (.dicS hm) (qp (h.get hx)))
theorem za0{e1 e2 e3:Expr}{p1 p2:Pos}{names:List Str}{left:Zm}{freed:zQ}{x:Str}{al:Addr}{p:Str×Int}(h:PaidOk names left freed) (hx:x∈names) (hm:(al,Qm left)∈σ) (hp:p∈zh left x)
  (h1:PE G n env e1 ρ σ (.raw (.ref al))) (h2:PE G n env e2 ρ σ (.str x)) (h3:PE G n env e3 ρ σ (.str p.1)):PE G n env (.Subscript (.Subscript e1 e2 p1) e3 p2) ρ σ (.int p.2):=
 zv (jW h hx hm h1 h2) h3 (qo (.self _) (qp (qT (h.rnd x) hp)))
end
section
open PySem PySem.W
variable {G:Gx}{n:Nat}{env:Env}{ρ:Rho}{σ:Sig}
theorem Jv{α:Type}(l:List α) (k:α→Str) (v:α→Int):D.dicS (l.map fun a=>(k a,D.int (v a)))=zZ (l.map fun a=>(k a,v a)):=by
 show _=D.dicS (List.map _ (List.map _ l))
 rw[List.map_map];rfl
theorem ziU{α:Type}(l:List α) (f g:α→Str):D.lst (l.map fun a=>D.tup [.str (f a),.str (g a)])=Zq (l.map fun a=>(f a,g a)):=by
 show _=D.lst (List.map _ (List.map _ l))
 rw[List.map_map];rfl
noncomputable abbrev jk(af al an:Addr) (names:List Str) (base:Nat) (way:Int) (book:List (Str×Int)):Rho:=
 [("freed",.raw (.ref af)),("book",zZ book),("left",.raw (.ref al)),("names",zO names),("base",.int (base:Int)),("way",.int way),("notes",.raw (.ref an))]
noncomputable abbrev zf2(af al an:Addr) (names:List Str) (base:Nat) (way:Int) (book:List (Str×Int)) (word:Str) (inside:List Str) (price:Int):Rho:=
 [("price",.int price),("inside",zO inside),("word",.str word),("freed",.raw (.ref af)),("book",zZ book),("left",.raw (.ref al)),("names",zO names),("base",.int (base:Int)),("way",.int way),("notes",.raw (.ref an))]
theorem z7(base:Nat):(za base).length=5:=by simp[za]
theorem zpg(T:Top G) {base:Nat}{inside:List Str}{price way:Int}{left:Zm}{freed:zQ}{book:List (Str×Int)}{word:Str}{mn:MO}{af al an:Addr}{P:Out→Prop}
  (hE:EnvOk env (zo (ze 17))) (hok:PaidOk (za base) left freed) (hin:∀x∈inside,x∈za base)
  (hP:P (.next (zf2 af al an (za base) base way book word inside price) [(af,Qa (inside.foldl (Zf inside price) (left,freed)).2),(al,Qm (inside.foldl (Zf inside price) (left,freed)).1),(an,mn)])) :
  X1 G (n+2) env (Jk (zaH (ZO (zu (ze 17))[2]?)[3]?)[5]?) (zf2 af al an (za base) base way book word inside price) [(af,Qa freed),(al,Qm left),(an,mn)] P:=by
 refine zda (names:=["name"]) (bs:=inside.map fun x=>[("name",.str x)]) (fun i s=>s=(inside.take i).foldl (Zf inside price) (left,freed)∧PaidOk (za base) s.1 s.2) (fun _=>zf2 af al an (za base) base way book word inside price) (fun s=>[(af,Qa s.2),(al,Qm s.1),(an,mn)]) (left,freed) ?_ ?_ ⟨⟨rfl,hok⟩,rfl,rfl⟩ ?_ ?_
 ·exact zN (by walk_at "mp") Zj
 ·exact qY hE (by kernel_rfl)
 ·intro i b s hJ hb
  have hok':=hJ.2
  refine zd (qt hb) fun x hx q6_=>?_
  subst q6_
  have hxn:=hin x (List.mem_of_getElem? hx)
  have hrl:=hok'.row_len x
  rw[z7] at hrl
  have x6:x∈s.1.map (·.1):=by rw[hok'.keys];exact hxn
  have hll:s.1.length=5:=by rw[←List.length_map,hok'.keys,z7]
  refine zc ?_
  refine jo (zt (d:=zZ (Zo inside price (zh s.1 x))) (zi (zF (qZ T hE 3 (by kernel_rfl)) (zg (jW hok' hxn (.tail _ (.head _)) (by walk_at "mp") (by walk_at "mp")) (zg (d:=zZ (((zh s.1 x).filter fun p=>decide (p.1∉inside)).map fun p=>(p.1,-price))) ?_ zj)) (zmG T (Nat.le_trans hrl (by decide)) ?_) (ZN T (by decide))) (congrArg zZ (zmj (hok'.rnd x)))) ⟨_,_,_,by walk_at "mp",by walk_at "mp",.dicS (.tail _ (.head ..)) (by simp;lia),?_⟩)
  ·refine zi (Qq (names:=["caller"]) (ρ':=[("inside",zO inside),("price",.int price)]) (xs:=zh s.1 x) (bf:=fun p=>[("caller",.str p.1)]) (c:=fun p=>decide (p.1∉inside)) (kf:=fun p=>p.1) (g:=fun _=>.int (-price)) hE (by kernel_rfl) (by walk_at "mw") ?_ (zI (by kernel_rfl)) ?_ ?_ ?_ ?_ ?_ ?_ ?_) (Jv _ _ _)
   ·exact zN (jW hok' hxn (.tail _ (.head _)) (by walk_at "mp") (by walk_at "mp")) Qi
   ·simp
   ·exact zw (by kernel_rfl)
   ·intro u1 u9 y hy
    exact ZM (zU (by walk_at "mp") (by walk_at "mp") (Q3 (.self _)))
   ·intro u1 u9 y hy _
    walk_at "mp"
   ·intro u1 u9 y hy _
    walk_at "mp"
   ·exact Nat.le_trans hrl (by decide)
   ·exact((List.filter_sublist).map _).nodup (hok'.rnd x)
  ·rw[List.length_map]
   exact Nat.le_trans (List.length_filter_le _ _) (Nat.le_trans hrl (by decide))
  rw[Qv]
  have hok2:=za6 (inside:=inside) (price:=price) hok' hxn
  have hrow:zh (z5 s.1 x (Zo inside price (zh s.1 x))) x=Zo inside price (zh s.1 x):=by rw[zeL x6,if_pos rfl]
  have hfl:=ze0 hok'
  rw[z7] at hfl
  have hlr:(Zo inside price (zh s.1 x)).length≤5:=by unfold Zo;rw[List.length_map];exact hrl
  refine zc ?_
  refine zfD (Z8 za5 (by walk_at "mp") (Z9 (.lst (.head _))) (Zn (zt (d:=Zq (Q4 (Zo inside price (zh s.1 x)) x s.2)) (zi (Z3 (names:=["caller"]) (ρ':=[("freed",.raw (.ref af)),("left",.raw (.ref al)),("name",.str x)]) (xs:=Zo inside price (zh s.1 x)) (bf:=fun p=>[("caller",.str p.1)]) (c:=fun p=>decide (p.2=0)&&decide ((p.1,x)∉s.2)) (g:=fun p=>.tup [.str p.1,.str x]) hE (by kernel_rfl) (by walk_at "mw") ?_ (zI (by kernel_rfl)) ?_ ?_ ?_ ?_ ?_) (ziU _ _ _)) (qw ?_)))) hE.inter
  ·refine zN (d:=zZ (Zo inside price (zh s.1 x))) (zi (jW hok2 hxn (.tail _ (.head _)) (by walk_at "mp") (by walk_at "mp")) ?_) Qi
   exact congrArg zZ hrow
  ·simp
  ·exact zw (by kernel_rfl)
  ·intro u1 u9 y hy
   have hy':y∈zh (Zf inside price s x).1 x:=by
    show y∈zh (z5 s.1 x (Zo inside price (zh s.1 x))) x
    rw[hrow];exact hy
   refine ZM (qf (jq (jp (b:=decide (y.2=0)) (qf (zU (za0 hok2 hxn (.tail _ (.head _)) hy' (by walk_at "mp") (by walk_at "mp") (by walk_at "mp")) (by walk_at "mp") qK) (qe _ _)) fun _=>jp (zU (by walk_at "mp") (by walk_at "mp") (zg7 (.lst (.head _)))) fun _=>j6)) (by rw[Bool.and_true]))
  ·intro u1 u9 y hy _
   walk_at "mp"
  ·exact Nat.le_trans hlr (by decide)
  ·refine jQ (.head ..) (.self _) ?_ ?_
   ·show X _ _ _ _ _ _ _
    refine zT (ρ':=zf2 af al an (za base) base way book word inside price) (by walk_at "mw") (zz ⟨Zf inside price s x,⟨?_,hok2⟩,rfl,?_⟩)
    ·rw[Qb hx,←hJ.1]
    ·rw[←List.map_append];rfl
   ·rw[List.length_map,List.length_map]
    exact Nat.le_trans (Nat.add_le_add hfl (by unfold Q4;rw[List.length_map];exact Nat.le_trans (List.length_filter_le _ _) hlr)) (by decide)
 ·intro s hJ
  have hs:=hJ.1
  rw[List.length_map,List.take_length] at hs
  rw[hs]
  exact zz hP
end
section
open PySem PySem.W
variable {G:Gx}{n:Nat}{env:Env}{ρ:Rho}{σ:Sig}
theorem zan{α β:Type}(f:α→β):∀l:List α,(l.flatMap fun p=>[f p])=l.map f
 | []=>rfl
 | a::l=>by rw[List.flatMap_cons,zan f l];rfl
theorem zcH{α:Type}(f:α→Nat):∀l:List α,(l.map fun x=>((f x:Nat):Int)).sum=(((l.map f).sum:Nat):Int)
 | []=>rfl
 | a::l=>by simp[zcH f l]
theorem zl7{base:Nat}(hb:base≤27) {x:Str}(hx:x∈za base):CallJ G n σ (.builtin "list.index") [zO (za base),.str x] (.int (((za base).idxOf x:Nat):Int)):=by
 refine zd (qu.mp hx) fun k hk q2_=>?_
 subst q2_
 rw[Qj hb hk]
 refine zi1 (k:=0) (x:=.str (ZF (base+k))) (.self _) ?_ ?_ ?_ ?_ (by lia)
 ·intro y hy
  refine zd (List.mem_map.mp hy) fun z _ q1_=>?_
  subst q1_
  exact .str
 ·rw[List.getElem?_map,j9 hk];rfl
 ·rw[zbi];simp
 ·intro i y hi hy
  rw[List.getElem?_map,j9 (by lia)] at hy
  cases hy
  rw[zbi,decide_eq_false_iff_not]
  intro e
  have:=zcU _ (by lia) _ (by lia) e
  lia
theorem znb{base k:Nat}(h:base+k≤1000):BinJ G n σ .Pow (.int 2) (.int ((base+k:Nat):Int)) (.int ((2^(base+k):Nat):Int)):=by
 refine Zt (zeu (by lia) ?_) ?_
 ·have:Builtin.Int.intBits 2=2:=by decide +kernel
  rw[this];lia
 ·rw[Int.toNat_natCast];simp
theorem zk7(T:Top G) {base:Nat}{way:Int}{s:PS}{inside:List Str}{word:Str}{nbs:List D}{af al an:Addr}{P:Out→Prop}
  (hE:EnvOk env (zo (ze 17))) (hok:PaidOk (za base) s.left s.freed) (y7:s.book.length≤100) (y6:∀y∈inside,y∈za base) (hil:inside.length≤5) (y2:Txt.split word zJ=inside) (hjl:word.length≤1000) (hine:Zp s.left inside≠[])
  (hP':P (.next (jk af al an (za base) base way (qq (·+·) s.book [(word,Qr (Zp s.left inside))])) [(af,Qa (inside.foldl (Zf inside (Qr (Zp s.left inside))) (s.left,s.freed)).2),(al,Qm (inside.foldl (Zf inside (Qr (Zp s.left inside))) (s.left,s.freed)).1),(an,.lst nbs)])) :
  X G (n+4) env ((zaH (ZO (zu (ze 17))[2]?)[3]?).drop 3) (("word",.str word)::jk af al an (za base) base way s.book) [(af,Qa s.freed),(al,Qm s.left),(an,.lst nbs)] P:=by
 refine zc ?_
 refine z4 (by walk_at "ms") (zt (d:=zO inside) (zi (Qs zhN (by walk_at "mp") zdc (by walk_at "mq") (zd3 (by decide +kernel) (Nat.le_trans hjl (by decide)) (by show(Txt.split word zJ).length≤_;rw[y2];exact Nat.le_trans hil (by decide)))) (by show zO (Txt.split word zJ)=_;rw[y2])) ?_)
 refine zc ?_
 refine z4 (by walk_at "ms") (zt (d:=.int (Qr (Zp s.left inside))) (zF (zq T hE (by kernel_rfl) (by kernel_rfl)) (zg (d:=.lst ((Zp s.left inside).map .int)) (zi (zix (names:=["name"]) (ρ':=[("inside",zO inside),("left",.raw (.ref al))]) (xs:=inside) (bf:=fun x=>[("name",.str x)]) (c:=fun _=>true) (of:=fun y=>((zh s.left y).filter fun p=>decide (p.1∉inside)).map fun p=>.int p.2) hE (by kernel_rfl) (by walk_at "mw") ?_ (zI (by kernel_rfl)) ?_ ?_ ?_ ?_ ?_) ?_) zj) (zgI (.self _) hine) zm) ?_)
 ·exact zN (by walk_at "mp") Zj
 ·simp
 ·exact zw (by kernel_rfl)
 ·intro u1 u9 y hy
  exact zW
 ·intro u1 W hI y hy _
  refine QQ (Qu (names:=["caller"]) (xs:=zh s.left y) (bf:=fun p=>[("caller",.str p.1)]) (c:=fun p=>decide (p.1∉inside)) (of:=fun p=>[.int p.2]) hI rfl (by rfl) rfl (by intro _;rfl) ?_ (zI (by kernel_rfl)) (by simp) (zw (by kernel_rfl)) (fun p hp=>?_) fun p hp _=>?_) (zan _ _)
  ·exact zN (jW hok (y6 y hy) (.tail _ (.head _)) (by walk_at "mp") (by walk_at "mp")) Qi
  ·exact ZM (zU (by walk_at "mp") (by walk_at "mp") (Q3 (.self _)))
  ·exact QP rfl (za0 hok (y6 y hy) (.tail _ (.head _)) hp (by walk_at "mp") (by walk_at "mp") (by walk_at "mp"))
 ·rw[zl]
  have h1:=jJ (f:=fun y=>((zh s.left y).filter fun p=>decide (p.1∉inside)).map fun p=>D.int p.2) (k:=5) (l:=inside) fun y hy=>by
   rw[List.length_map]
   refine Nat.le_trans (List.length_filter_le _ _) ?_
   have:=hok.row_len y
   rwa[z7] at this
  lia
 ·rw[zl]
  unfold Zp
  rw[List.map_flatMap]
  simp only[List.map_map]
  rfl
 refine zT (ρ':=zf2 af al an (za base) base way s.book word inside (Qr (Zp s.left inside))) (by walk_at "mw") ?_
 refine zc ?_
 refine zpg T hE hok y6 ?_
 refine zc ?_
 refine z4 (by walk_at "ms") (zt (d:=zZ (qq (·+·) s.book [(word,Qr (Zp s.left inside))])) (zF (qZ T hE 3 (by kernel_rfl)) (zg (by walk_at "mp") (zg (d:=zZ [(word,Qr (Zp s.left inside))]) (zeP (by walk_at "mp") (by walk_at "mp")) zj)) (zmG T (Nat.le_trans y7 (by decide)) (Nat.le_of_ble_eq_true rfl)) (ZN T (by decide))) ?_)
 exact zT (ρ':=jk af al an (za base) base way (qq (·+·) s.book [(word,Qr (Zp s.left inside))])) (by walk_at "mw") (zz hP')
theorem zk8(T:Top G) {base:Nat}(hb:base≤27) {way:Int}{s:PS}{nb:List Bool}{af al an:Addr}{x:Str}{group:List Str}{k:Nat}{P:Out→Prop}
  (hE:EnvOk env (zo (ze 17))) (hok:PaidOk (za base) s.left s.freed) (x8:nb.length≤1005) (y7:s.book.length≤100) (w0:group.Nodup) (y3:∀y∈group,y∈za base) (hgl:group.length≤5) (y8:x∈group) (x7:(za base).getD 0 ""∉group)
  (hP:P (.next (jk af al an (za base) base way (jA (za base) s k group).book) [(af,Qa (jA (za base) s k group).freed),(al,Qm (jA (za base) s k group).left),(an,.lst (zr (nb++[true])))])) :
  X G (n+4) env ((zaH (ZO (zu (ze 17))[2]?)[3]?).drop 1) (("group",zO group)::jk af al an (za base) base way s.book) [(af,Qa s.freed),(al,Qm s.left),(an,.lst (zr nb))] P:=by
 have hmk:Txt.join ", " (qv (jI base group) 32)=Txt.join zJ (zL (za base) group):=by rw[zhk hb w0 y3]
 refine zc ?_
 refine z4 (by walk_at "ms") (zt (d:=.str (Txt.join zJ (zL (za base) group))) (zi (zF (qZ T hE 7 (by kernel_rfl)) (zg (d:=.int ((jI base group:Nat):Int)) (zi (zF (zq T hE (by kernel_rfl) (by kernel_rfl)) (zg (d:=.lst ((group.map fun x=>((2^(base+(za base).idxOf x):Nat):Int)).map .int)) (zi (Z3 (names:=["name"]) (ρ':=[("base",.int (base:Int)),("names",zO (za base))]) (xs:=group) (bf:=fun x=>[("name",.str x)]) (c:=fun _=>true) (g:=fun x=>.int ((2^(base+(za base).idxOf x):Nat):Int)) hE (by kernel_rfl) (by walk_at "mw") ?_ (zI (by kernel_rfl)) ?_ ?_ ?_ ?_ ?_) ?_) zj) (J8 (.self _)) zm) ?_) zj) (zmc T (zno hb w0 y3 y8) (znp hb w0 y3)) (ZN T (by decide))) (congrArg D.str hmk)) ?_)
 ·exact zN (by walk_at "mp") Zj
 ·simp
 ·exact zw (by kernel_rfl)
 ·intro u1 u9 y hy
  exact zW
 ·intro u1 u9 y hy _
  have hi:(za base).idxOf y<5:=by
   refine zd (qu.mp (y3 y hy)) fun k hk q3_=>?_
   subst q3_
   rw[Qj hb hk];exact hk
  exact zk zn (zk (by walk_at "mp") (Qs znr (by walk_at "mp") (Z9 (.self _)) (by walk_at "mq") (zl7 hb (y3 y hy))) (Zt ZP (by rw[←Int.natCast_add]))) (znb (Nat.le_trans (Nat.add_le_add hb (Nat.le_of_lt hi)) (by decide)))
 ·exact Nat.le_trans hgl (by decide)
 ·rw[zl,List.map_map];rfl
 ·rw[zcH];rfl
 have hjok:=(zcz hb group).1
 refine zc ?_
 refine Jx hE (Z8 qR (by walk_at "mp") (Z9 (.lst (.tail _ (.tail _ (.head _))))) (Zn (zt (d:=.bool true) (zi (q0 (d₁:=.str (Txt.join zJ (zL (za base) group))) (d₂:=.str (Txt.join zJ (zL (za base) group))) (by with_unfolding_all rfl) (by walk_at "mp") (Qs zj8 jb zdc (zg (d:=zO (zL (za base) group)) (Z3 (names:=["name"]) (ρ':=[("group",zO group)]) (xs:=za base) (bf:=fun x=>[("name",.str x)]) (c:=fun y=>decide (y∈group)) (g:=.str) hE (by kernel_rfl) (by walk_at "mw") ?_ (zI (by kernel_rfl)) ?_ ?_ ?_ ?_ ?_) zj) (zfg (.self _) hjok)) QE) (by rw[decide_eq_true rfl])) (qw (ZS (.tail _ (.tail _ (.head ..))) ?_ ?_)))))
 ·exact zN (by walk_at "mp") Zj
 ·simp
 ·exact zw (by kernel_rfl)
 ·intro u1 u9 y hy
  exact ZM (zU (by walk_at "mp") (by walk_at "mp") (zhR (.self _)))
 ·intro u1 u9 y hy _
  walk_at "mp"
 ·rw[z7];decide
 rotate_left
 ·unfold zr;rw[List.length_map];exact Nat.le_trans x8 (by decide)
 rw[show zr nb++[D.bool true]=zr (nb++[true]) from(List.map_append (l₂:=[true])).symm]
 refine zT (ρ':=("word",.str (Txt.join zJ (zL (za base) group)))::jk af al an (za base) base way s.book) (by walk_at "mw") ?_
 exact zk7 T hE hok y7 (fun y hy=>(List.mem_filter.mp hy).1) (Nat.le_trans (zdJ _ _) (Nat.le_of_eq (z7 base))) (zgq hb y8 (y3 x y8)) (zcz hb group).2 (zl1 (left:=s.left) hok y8 (y3 x y8) x7) hP
theorem zmM(T:Top G) {base:Nat}(hb:base≤27) {way:Int}(hw:way=1∨way=-1) {s:PS}{nb:List Bool}{af al an:Addr}{r:Nat×Nat}{rs:List (Nat×Nat)}{P:Out→Prop}
  (hE:EnvOk env (zo (ze 17))) (hok:PaidOk (za base) s.left s.freed) (x8:nb.length≤1000) (y7:s.book.length≤100) (hrows:Z7 ((za base).getD 0 "") (zP (za base) s.left)=r::rs)
  (hP:∀s',s'=jA (za base) s (r::rs).length ((zP (za base) s.left).getD (Qc way r (r::rs)).1 [])→P (.next (jk af al an (za base) base way s'.book) [(af,Qa s'.freed),(al,Qm s'.left),(an,.lst (zr (nb++List.replicate ((r::rs).length+1) true)))])) :
  X G (n+4) env (zaH (ZO (zu (ze 17))[2]?)[3]?) (("rows",.lst ((r::rs).map ZI))::("groups",.lst ((zP (za base) s.left).map zO))::jk af al an (za base) base way s.book) [(af,Qa s.freed),(al,Qm s.left),(an,.lst (zr nb))] P:=by
 have hgl:(zP (za base) s.left).length=5:=by unfold zP;rw[List.length_map,z7]
 have hrl:(r::rs).length≤5:=by
  have:=zeJ ((za base).getD 0 "") (zP (za base) s.left)
  rw[hrows,hgl] at this;exact this
 have hrm:∀a∈r::rs,∃x,x∈za base∧(zP (za base) s.left)[a.1]?=some (closed (zK (za base) s.left) x)∧(za base).getD 0 ""∉closed (zK (za base) s.left) x∧a.2=(closed (zK (za base) s.left) x).length:=by
  intro a ha
  rw[←hrows] at ha
  refine qD (zeI ha) fun g h1 h2 h3=>?_
  refine zd (zbY h1) fun x hx q4_=>?_
  subst q4_
  exact⟨x,List.mem_of_getElem? hx,h1,h2,h3⟩
 refine jK (hrm _ (ze4 (way:=way) r rs)) fun x hx hgx x7 _=>?_
 refine Ja (QD hok hx) fun w0 y3 y8 w2=>?_
 rw[z7] at w2
 have hgD:(zP (za base) s.left).getD (Qc way r (r::rs)).1 []=closed (zK (za base) s.left) x:=by rw[List.getD_eq_getElem?_getD,hgx];rfl
 have hfi:(Qc way r (r::rs)).1<5:=by
  have:=(List.getElem?_eq_some_iff.mp hgx).1
  rwa[hgl] at this
 refine zc ?_
 refine z4 (by walk_at "ms") (zo9 (by walk_at "mp") (Jg (qZ T hE 16 (by kernel_rfl)) (Je (by walk_at "mq") (zb7 (znX T hw (by lia) (by lia) ?_) (.tail _ (.tail _ (.head ..))) ⟨zO (closed (zK (za base) s.left) x),Zs (by lia) (by lia) ?_,?_⟩)) (fun _=>ZN T (by decide))))
 ·intro a ha
  refine jK (hrm a ha) fun y hy h1 _ h3=>?_
  have:=(List.getElem?_eq_some_iff.mp h1).1
  have h4:=(QD hok hy).2.2.2
  rw[z7] at h4
  lia
 ·rw[Int.toNat_natCast,List.getElem?_map,hgx];rfl
 refine zT (ρ':=("group",zO (closed (zK (za base) s.left) x))::jk af al an (za base) base way s.book) (by walk_at "mw") ?_
 refine zk8 (k:=(r::rs).length) T hb hE hok ?_ y7 w0 y3 w2 y8 x7 ?_
 ·rw[List.length_append,List.length_replicate];exact Nat.add_le_add x8 hrl
 ·rw[←hgD,List.append_assoc,←List.replicate_succ'];exact hP _ rfl
end
section
open PySem PySem.W
variable {G:Gx}{n:Nat}{env:Env}{ρ:Rho}{σ:Sig}
theorem zn8(T:Top G) {base:Nat}(hb:base≤27) {way:Int}(hw:way=1∨way=-1) {s:PS}{nb:List Bool}{af al an:Addr}{dt:D}{P:Out→Prop}
  (hE:EnvOk env (zo (ze 17))) (hok:PaidOk (za base) s.left s.freed) (x8:nb.length+s.notes≤1000) (y7:s.book.length≤100)
  (hP:∀s',s'=qs (za base) way s→P (.next (jk af al an (za base) base way s'.book) [(af,Qa s'.freed),(al,Qm s'.left),(an,.lst (zr (nb++List.replicate s'.notes true)))])) :
  X G (n+4) env (ZO (zu (ze 17))[2]?) (("turn",dt)::jk af al an (za base) base way s.book) [(af,Qa s.freed),(al,Qm s.left),(an,.lst (zr (nb++List.replicate s.notes true)))] P:=by
 have hgood:=zaV hok
 have hn5:=z7 base
 refine zc ?_
 refine zbA hE (by kernel_rfl) ?_
 refine zt (d:=zb4 (zK (za base) s.left)) (zi (Qq (names:=["name"]) (ρ':=[("left",.raw (.ref al))]) (xs:=za base) (bf:=fun y=>[("name",.str y)]) (c:=fun _=>true) (kf:=fun y=>y) (g:=fun y=>zO (JE (zh s.left y))) hE (by kernel_rfl) (by walk_at "mw") ?_ (zI (by kernel_rfl)) ?_ ?_ ?_ ?_ ?_ ?_ ?_) ?_) ?_
 ·exact zN (by walk_at "mp") Zj
 ·simp
 ·exact zw (by kernel_rfl)
 ·intro u1 u9 y hy
  exact zW
 ·intro u1 u9 y hy _
  walk_at "mp"
 ·intro u1 u9 y hy _
  refine zi (Z3 (names:=["caller"]) (ρ':=[("left",.raw (.ref al)),("name",.str y)]) (xs:=zh s.left y) (bf:=fun p=>[("caller",.str p.1)]) (c:=fun p=>decide (p.2=0)) (g:=fun p=>.str p.1) u9 (by kernel_rfl) (by walk_at "mw") ?_ (zI (by kernel_rfl)) ?_ ?_ ?_ ?_ ?_) ?_
  ·exact zN (jW hok hy (.tail _ (.head _)) (by walk_at "mp") (by walk_at "mp")) Qi
  ·simp
  ·exact zw (by kernel_rfl)
  ·intro env'' hE'' p hp
   exact ZM (qf (zU (za0 hok hy (.tail _ (.head _)) hp (by walk_at "mp") (by walk_at "mp") (by walk_at "mp")) (by walk_at "mp") qK) (qe _ _))
  ·intro env'' hE'' p hp _
   walk_at "mp"
  ·have:=hok.row_len y;lia
  ·show D.lst _=D.lst _
   unfold JE;rw[List.map_map];rfl
 ·lia
 ·rw[zl];simpa using hok.nodup
 ·rw[zl]
  show D.dicS _=D.dicS _
  unfold zK;rw[List.map_map];rfl
 have hst:∀p∈zK (za base) s.left,p.2.length≤1000:=fun p hp=>by
  have h1:=Zr (hgood.nodup p hp) (hgood.sub p hp)
  rw[jC] at h1
  lia
 refine zc ?_
 refine zc9 (names:=["name"]) (ρ':=[("steps",zb4 (zK (za base) s.left))]) (xs:=za base) (bf:=fun y=>[("name",.str y)]) (c:=fun _=>true) (g:=fun y=>zO (closed (zK (za base) s.left) y)) hE (by kernel_rfl) (by kernel_rfl) (by kernel_rfl) (by walk_at "mw") ?_ (zI (by kernel_rfl)) ?_ ?_ ?_ ?_ ?_ ?_
 ·exact zN (by walk_at "mp") Zj
 ·simp
 ·exact zw (by kernel_rfl)
 ·intro u1 u9 y hy
  exact zW
 ·intro u1 u9 y hy _
  refine qD (QA hgood (first:=y) (by rw[jC];exact hy)) fun m hcl _ _=>?_
  have:=(QD hok hy).2.2.2
  exact zF (qZ T u9 15 (by kernel_rfl)) (by walk_at "mq") (zgK T hcl (by lia) hst) (ZN T (by decide))
 ·lia
 rw[zl]
 have hgr:((za base).map fun y=>zO (closed (zK (za base) s.left) y))=(zP (za base) s.left).map zO:=by
  unfold zP;rw[List.map_map];rfl
 rw[hgr]
 have hgl:(zP (za base) s.left).length=5:=by unfold zP;rw[List.length_map,hn5]
 have hg5:∀g∈zP (za base) s.left,g.length≤5:=fun g hg=>by
  refine zd (List.mem_map.mp hg) fun y hy q3_=>?_
  subst q3_
  have:=(QD hok hy).2.2.2
  lia
 have x7:(za base)[0]?=some ((za base).getD 0 ""):=by
  rw[List.getD_eq_getElem?_getD,List.getElem?_eq_getElem (by lia)];rfl
 refine zc ?_
 refine zc9 (names:=["place","group"]) (ρ':=[("names",zO (za base))]) (xs:=(zP (za base) s.left).zipIdx) (bf:=fun p=>[("group",zO p.1),("place",.int (p.2:Int))]) (c:=fun p=>decide ((za base).getD 0 ""∉p.1)) (g:=fun p=>ZI (p.2,p.1.length)) hE (by kernel_rfl) (by kernel_rfl) (by kernel_rfl) (by walk_at "mw") ?_ (zI (by kernel_rfl)) ?_ ?_ ?_ ?_ ?_ ?_
 ·refine Qz (Zw (zq T hE (by kernel_rfl) (by kernel_rfl)) (by walk_at "mq") (zbw rfl rfl) z2) ?_
  unfold za2
  rw[List.zipIdx_map,List.map_map,List.map_map]
  rfl
 ·simp
 ·exact zw (by kernel_rfl)
 ·intro u1 u9 p hp
  exact ZM (zU (zv (by walk_at "mp") zn (Zs (by decide) (by decide) (by show((za base).map D.str)[0]?=_;rw[List.getElem?_map,x7];rfl))) (by walk_at "mp") (Q3 (.self _)))
 ·intro u1 u9 p hp _
  have hp1:p.1.length≤5:=hg5 _ (by
   rw[List.mem_zipIdx_iff_getElem?] at hp
   exact List.mem_of_getElem? hp)
  refine Z2 (zg (by walk_at "mp") (zg (zi (zF (zq T u9 (by kernel_rfl) (by kernel_rfl)) (by walk_at "mq") (ZX (.self _) (by simp;lia)) zm) (by rw[List.length_map])) zj)) (by simp)
 ·simp;lia
 have hrw:(((zP (za base) s.left).zipIdx.filter fun p=>decide ((za base).getD 0 ""∉p.1)).map fun p=>ZI (p.2,p.1.length))=(Z7 ((za base).getD 0 "") (zP (za base) s.left)).map ZI:=by
  unfold Z7;rw[List.map_map];rfl
 rw[hrw]
 refine zT (ρ':=(("rows",.lst ((Z7 ((za base).getD 0 "") (zP (za base) s.left)).map ZI))::("groups",.lst ((zP (za base) s.left).map zO))::jk af al an (za base) base way s.book:Rho)) (by walk_at "mw") ?_
 refine zc ?_
 cases hrows:Z7 ((za base).getD 0 "") (zP (za base) s.left) with
 | nil=>
  refine Qt (zU (by walk_at "mp") (by walk_at "mp") (zbm (k:=0) (.self _) (.self _) .nilR)) (fun h=>by simp[qz] at h) (fun _=>?_)
  refine zz ?_
  have e:qs (za base) way s=s:=by unfold qs;rw[hrows]
  exact zT (ρ':=jk af al an (za base) base way s.book) (by walk_at "mw") (zz (hP s e.symm))
 | cons r rs=>
  refine Qt (zU (by walk_at "mp") (by walk_at "mp") (zbm (k:=0) (.self _) (.self _) .nilR)) (fun _=>?_) (fun h=>by simp[qz] at h)
  refine zmM T hb hw hE hok (by simp;lia) y7 hrows fun s' hs'=>?_
  have e:qs (za base) way s=s':=by unfold qs;rw[hrows,hs']
  have en:s'.notes=s.notes+((r::rs).length+1):=by rw[hs'];rfl
  have hP':=hP s' e.symm
  rw[en] at hP'
  rw[List.append_assoc,List.replicate_append_replicate]
  exact zz hP'
theorem zog(T:Top G) {base:Nat}(hb:base≤27) {way:Int}(hw:way=1∨way=-1) {left:Zm}{nb:List Bool}{an:Addr}(hok:PaidOk (za base) left []) (x8:nb.length≤100) :
  ∀env,EnvOk env (zo (ze 17))→X G (n+4) env (zu (ze 17)) [("plain",ZL left),("names",zO (za base)),("base",.int (base:Int)),("way",.int way),("notes",.raw (.ref an))] [(an,.lst (zr nb))]
   (ZU fun d' σ'=>d'=.tup [ZL (Zc (za base) way left 7).left,zZ (Zc (za base) way left 7).book,Zq (Zc (za base) way left 7).freed]∧(an,MO.lst (zr (nb++List.replicate (Zc (za base) way left 7).notes true)))∈σ'):=by
 intro env hE
 have hn5:=z7 base
 have hll:left.length=5:=by have:=congrArg List.length hok.keys;rwa[List.length_map,hn5] at this
 refine zc ?_
 refine zc7 (Jf (jh (mo:=Qm left) (znc (zq T hE (by kernel_rfl) (by kernel_rfl)) (by walk_at "mp") (.self _) (by simp;lia)) fun al=>(zt (d:=zZ []) zeQ ⟨_,_,rfl,?_⟩))) (by walk_at "ms") (by walk_at "ms") (ZZ rfl) (zay 0 hE (by rfl) (by kernel_rfl))
 refine zc ?_
 refine zbA hE (by kernel_rfl) ?_
 refine jh (mo:=Qa (Jr (za base) left)) (znd (zpm (names:=["name"]) (ρ':=[("left",.raw (.ref al))]) (xs:=za base) (bf:=fun y=>[("name",.str y)]) (c:=fun _=>true) (of:=fun y=>((zh left y).filter fun p=>decide (p.2=0)).map fun p=>.tup [.str p.1,.str y]) hE (by kernel_rfl) (by walk_at "mw") ?_ (zI (by kernel_rfl)) ?_ ?_ ?_ ?_ ?_) ?_) fun af=>?_
 ·exact zN (by walk_at "mp") Zj
 ·simp
 ·exact zw (by kernel_rfl)
 ·intro u1 u9 y hy
  exact zW
 ·intro u1 W hI y hy _
  refine QQ (Qu (names:=["caller"]) (xs:=zh left y) (bf:=fun p=>[("caller",.str p.1)]) (c:=fun p=>decide (p.2=0)) (of:=fun p=>[.tup [.str p.1,.str y]]) hI rfl (by rfl) rfl (by intro _;rfl) ?_ (zI (by kernel_rfl)) (by simp) (zw (by kernel_rfl)) (fun p hp=>?_) fun p hp _=>?_) (zan _ _)
  ·exact zN (jW hok hy (.head _) (by walk_at "mp") (by walk_at "mp")) Qi
  ·exact ZM (qf (zU (za0 hok hy (.head _) hp (by walk_at "mp") (by walk_at "mp") (by walk_at "mp")) (by walk_at "mp") qK) (qe _ _))
  ·refine QP rfl ?_
   walk_at "mp"
 ·rw[zl]
  have h1:=jJ (f:=fun y=>((zh left y).filter fun p=>decide (p.2=0)).map fun p=>D.tup [.str p.1,.str y]) (k:=5) (l:=za base) fun y hy=>by
   rw[List.length_map]
   refine Nat.le_trans (List.length_filter_le _ _) ?_
   have:=hok.row_len y
   rwa[hn5] at this
  lia
 ·rw[zl]
  show MO.lst _=MO.lst _
  unfold Jr JE
  rw[List.map_flatMap]
  simp only[List.map_map]
  rfl
 refine zT (ρ':=jk af al an (za base) base way []) (by walk_at "mw") ?_
 refine zc ?_
 refine zab (names:=["turn"]) (bs:=qb "turn" 0 1 7) (fun i ρ' σ'=>ρ'=jk af al an (za base) base way (Zc (za base) way left i).book∧σ'=[(af,Qa (Zc (za base) way left i).freed),(al,Qm (Zc (za base) way left i).left),(an,.lst (zr (nb++List.replicate (Zc (za base) way left i).notes true)))]) ?_ ?_ ⟨rfl,?_⟩ ?_ ?_
 ·exact Qz (Zw (zq T hE (by kernel_rfl) (by kernel_rfl)) (by walk_at "mq") (za8 (by decide)) z2) (by kernel_rfl)
 ·exact qY hE (by kernel_rfl)
 ·show _=[(af,Qa (Jr (za base) left)),(al,Qm left),(an,.lst (zr (nb++List.replicate 0 true)))]
  simp
 ·rintro i b _ _ ⟨rfl,rfl⟩ hb'
  have hi:i<7:=by
   have:=(List.getElem?_eq_some_iff.mp hb').1
   simpa [qb] using this
  obtain⟨d,rfl⟩:∃d,b=([("turn",d)]:Rho):=by
   unfold qb at hb'
   refine zd (qt hb') fun x _ q14_=>?_
   subst q14_
   exact⟨_,rfl⟩
  obtain⟨h1,h2⟩:=jF (names:=za base) (way:=way) (left:=left) i
  rw[hn5] at h1
  refine zn8 T hb hw hE (zch hok i) (by lia) (by lia) fun s' hs'=>?_
  subst hs'
  exact⟨rfl,rfl⟩
 ·rintro _ _ ⟨rfl,rfl⟩
  refine zz ?_
  rw[show(qb "turn" 0 1 7).length=7 from rfl]
  generalize Zc (za base) way left 7=s
  refine Qe (.head ..) trivial (ρ':=([("freed",Zq s.freed),("book",zZ s.book),("left",.raw (.ref al))]:Rho)) (.froze (by walk_at "ml") (.same (by walk_at "ml") (.same (by walk_at "ml") .nil))) ?_
  refine Qe (.head ..) trivial (ρ':=([("freed",Zq s.freed),("book",zZ s.book),("left",ZL s.left)]:Rho)) (.same (by walk_at "ml") (.same (by walk_at "ml") (.froze (by walk_at "ml") .nil))) ?_
  exact zc (z8 (zt (by walk_at "mp") ⟨rfl,.head _⟩))
theorem zoZ(T:Top G) {base:Nat}(hb:base≤27) {way:Int}(hw:way=1∨way=-1) {left:Zm}{nb:List Bool}{an:Addr}(hok:PaidOk (za base) left []) (x8:nb.length≤100) :
  CallM G (n+4+1) (.ref (T.fa 17)) [ZL left,zO (za base),.int (base:Int),.int way,.raw (.ref an)] an (.lst (zr nb)) (.tup [ZL (Zc (za base) way left 7).left,zZ (Zc (za base) way left 7).book,Zq (Zc (za base) way left 7).freed]) (.lst (zr (nb++List.replicate (Zc (za base) way left 7).notes true))):=
 zc0 T (by decide) (by decide +kernel) (by kernel_rfl) (by kernel_rfl) (zog T hb hw hok x8)
end
section
open PySem PySem.W
variable {G:Gx}{n:Nat}{env:Env}{ρ:Rho}{σ:Sig}
structure WSt where
 count:List Nat
 b:Int
 n:Int
 nt:Int
noncomputable def QK(count:List Nat) (b:Nat):List Nat:=if count.length≤b then count++List.replicate (b-count.length+1) 0 else count
noncomputable def JO(count:List Nat) (b:Nat):List Nat:=(QK count b).set b ((QK count b).getD b 0+1)
noncomputable def wsF:List Nat→WSt→WSt
 | [],s=>s
 | c::r,s=>if c=32 then wsF r ⟨s.count,s.b+1,s.n+1,s.nt⟩ else if c=9 then wsF r ⟨JO s.count s.b.toNat,0,s.n+1,s.nt+1⟩ else s
noncomputable def zS(x:Str):WSt:=wsF x.cps.toList ⟨[],0,0,0⟩
theorem ze5(count:List Nat) (b:Nat):b<(QK count b).length∧(QK count b).length≤max count.length (b+1):=by
 unfold QK
 split
 ·rename_i h
  rw[List.length_append,List.length_replicate,←Nat.add_assoc,Nat.add_sub_cancel' h]
  exact⟨Nat.lt_succ_self b,Nat.le_max_right _ _⟩
 ·rename_i h
  exact⟨Nat.not_le.mp h,Nat.le_max_left _ _⟩
theorem zfh(count:List Nat) (b:Nat):(JO count b).length≤max count.length (b+1):=by
 unfold JO;rw[List.length_set];exact(ze5 count b).2
theorem zhA(c k:Nat):decide ((⟨#[c]⟩:Str)=⟨#[k]⟩)=decide (c=k):=by
 refine decide_eq_decide.mpr ⟨fun h=>?_,fun h=>by rw[h]⟩
 have:=congrArg (fun x:Str=>x.cps[0]?) h
 simpa using this
theorem zm7(c:Nat):decide ((⟨#[c]⟩:Str)=" ")=decide (c=32):=by
 have e:(" ":Str)=⟨#[32]⟩:=by decide +kernel
 rw[e,zhA]
theorem zlp(c:Nat):decide ((⟨#[c]⟩:Str)="\t")=decide (c=9):=by
 have e:("\t":Str)=⟨#[9]⟩:=by decide +kernel
 rw[e,zhA]
theorem zj7{u:List Nat}{j:Nat}(hj:j<u.length):(u.map fun(k:Nat)=>D.int (k:Int))[j]?=some (.int ((u.getD j 0:Nat):Int)):=zcL hj
theorem zil{l:List (Str×D)}{k:Str}{d:D}(h:(l.any fun p=>decide (p.1=k))=false):Zl l k d=l++[(k,d)]:=by
 unfold Zl;rw[h];rfl
theorem Jh{K:Frag}{C:Addr}{e value:Expr}{name:Str}{u8 pos:Pos}{x dx:Addr}{l:List (Str×D)}{d:D}{σ':Sig}{P:Out→Prop}(k:Kls G K C) (hv:PE G n env value ρ σ d) (he:PE G n env e ρ σ (.raw (.ref x))) (hx:(x,MO.raw (instObj C dx))∈σ) (u:Upd σ dx (.dicS l) (.dicS (l++[(name,d)])) σ')
  (hn:(l.any fun p=>decide (p.1=name))=false) (ha:findIn K (.ref C) name=some none) (hl:l.length≤1000) (hP:P (.next ρ σ')) (hs:swapsWith value (some (.Attribute e name u8)) pos.line env=pure false):X1 G n env (.Assign [.Attribute e name u8] value pos) ρ σ P:=
 zeA k hv he hx (by rw[zil hn];exact u) ha hl hP hs
theorem znP{α:Type}{l:List α}{i:Nat}{c:α}(h:l[i]?=some c):l.drop i=c::l.drop (i+1):=by
 obtain⟨hi,rfl⟩:=List.getElem?_eq_some_iff.mp h
 exact List.drop_eq_getElem_cons hi
noncomputable def zo6:List Stmt:=zaH (zl3 (ZO (zu (ZH (ze 10) 1))[4]?)[0]?)[0]?
noncomputable abbrev zdV(s:WSt):D:=.tup [.tup (s.count.map fun(k:Nat)=>.int (k:Int)),.int s.b]
noncomputable abbrev zeo(x:Str):List (Str×D):=[("raw",.str x),("n",.int (zS x).n),("nt",.int (zS x).nt),("norm",zdV (zS x)),("is_simple",.bool (decide (((zS x).count.length:Int)≤1)))]
noncomputable abbrev dWs(C:Addr) (x:Str):D:=.inst C (zeo x)
noncomputable abbrev JB(a x:Addr) (s:WSt):Rho:=[("nt",.int s.nt),("n",.int s.n),("b",.int s.b),("count",.raw (.ref a)),("S",.str " "),("T",.str "\t"),("self",.raw (.ref x))]
noncomputable abbrev zci(l:List Nat):MO:=.lst (l.map fun(k:Nat)=>.int (k:Int))
theorem zpi(T:Top G) (hE:EnvOk env (zo (ZH (ze 10) 1))) {s:WSt}{a x:Addr}{τ:Sig}{P:Out→Prop}(hb0:0≤s.b) (hb:s.b≤1000) (hc:s.count.length≤1000)
  (hP:∀a',P (.next (JB a' x ⟨JO s.count s.b.toNat,0,s.n+1,s.nt+1⟩) ((a',zci (JO s.count s.b.toNat))::τ))):X G n env zo6 (JB a x s) ((a,zci s.count)::τ) P:=by
 have hfl:=ze5 s.count s.b.toNat
 have hk:s.b.toNat≤1000:=Int.toNat_le.mpr hb
 refine zc (z4 (by walk_at "ms") (zt (by walk_at "mp") ?_))
 refine zc (z4 (by walk_at "ms") (zt (by walk_at "mp") ?_))
 have hT:∀a',X G n env (zo6.drop 3) (JB a' x ⟨s.count,s.b,s.n+1,s.nt+1⟩) ((a',zci (QK s.count s.b.toNat))::τ) P:=by
  intro a'
  refine zc ?_
  refine zjj (j:=s.b.toNat) (d:=.int (((QK s.count s.b.toNat).getD s.b.toNat 0+1:Nat):Int)) (zk (zv (d:=.int (((QK s.count s.b.toNat).getD s.b.toNat 0:Nat):Int)) (by walk_at "mp") (by walk_at "mp") (zaI (.lst (.head _)) hb0 (zj7 hfl.1) (Int.lt_of_le_of_lt hb (by decide)))) zn (Zt ZP (by simp))) (by walk_at "mp") (zi (d:=.int s.b) (by walk_at "mp") (by rw[Int.toNat_of_nonneg hb0])) (.head ..) (by rw[List.length_map];exact hfl.1) (by rw[List.length_map];exact Nat.le_trans hfl.2 (Nat.max_le.mpr ⟨Nat.le_trans hc (by decide),Nat.le_trans (Nat.succ_le_succ hk) (by decide)⟩)) ?_ rfl
  refine zc (z4 (by walk_at "ms") (zt (by walk_at "mp") ?_))
  have e:(((QK s.count s.b.toNat).map fun(k:Nat)=>D.int (k:Int)).set s.b.toNat (.int (((QK s.count s.b.toNat).getD s.b.toNat 0+1:Nat):Int)))=(JO s.count s.b.toNat).map fun(k:Nat)=>D.int (k:Int):=by
   unfold JO;rw[List.map_set]
  rw[e]
  exact zT (ρ':=JB a' x ⟨JO s.count s.b.toNat,0,s.n+1,s.nt+1⟩) (by walk_at "mw") (zz (hP a'))
 refine zT (ρ':=JB a x ⟨s.count,s.b,s.n+1,s.nt+1⟩) (by walk_at "mw") ?_
 refine zc ?_
 refine Qt (zU (by walk_at "mp") (zF (zq T hE (by kernel_rfl) (by kernel_rfl)) (by walk_at "mq") (ZX (.lst (.head _)) (by rw[List.length_map];exact Nat.lt_of_le_of_lt hc (by decide))) zm) jP) (fun h=>?_) (fun h=>?_)
 ·have h':s.count.length≤s.b.toNat:=(Int.le_toNat hb0).mpr (List.length_map (α:=Nat) ..▸of_decide_eq_true h)
  have hn:s.b.toNat-s.count.length+1≤1001:=Nat.succ_le_succ (Nat.le_trans (Nat.sub_le _ _) hk)
  refine zc ?_
  refine z4 (by walk_at "ms") (jh (mo:=.lst _) (zox (by walk_at "mp") (zk (by walk_at "mp") (zi (d':=.int ((s.b.toNat-s.count.length+1:Nat):Int)) (zk (zk (by walk_at "mp") (zF (zq T hE (by kernel_rfl) (by kernel_rfl)) (by walk_at "mq") (ZX (.lst (.head _)) (by rw[List.length_map];exact Nat.lt_of_le_of_lt hc (by decide))) zm) jy) zn ZP) ?_) (zcE (.self _) (Int.le_trans (by decide) (Int.natCast_nonneg _)) (Int.ofNat_le.mpr (Nat.le_trans hn (by decide))))) (.lst (.head _)) (.self _) ?_) fun a'=>?_)
  ·rw[List.length_map,Int.natCast_add,Int.ofNat_sub h',Int.toNat_of_nonneg hb0];rfl
  ·rw[List.length_map,List.length_replicate,Int.toNat_natCast];exact Nat.le_trans (Nat.add_le_add hc hn) (by decide)
  refine zz ?_
  have e:(s.count.map fun(k:Nat)=>D.int (k:Int))++List.replicate ((s.b.toNat-s.count.length+1:Nat):Int).toNat (D.int 0)=(QK s.count s.b.toNat).map fun(k:Nat)=>D.int (k:Int):=by
   unfold QK
   rw[if_pos h',List.map_append,List.map_replicate,Int.toNat_natCast];rfl
  rw[e]
  exact Qe (.tail _ (.head ..)) trivial (ρ':=JB a' x ⟨s.count,s.b,s.n+1,s.nt+1⟩) (by walk_at "mw") (hT a')
 ·have h':¬s.count.length≤s.b.toNat:=fun q=>of_decide_eq_false h (List.length_map (α:=Nat) ..▸(Int.le_toNat hb0).mp q)
  refine zz ?_
  have e:QK s.count s.b.toNat=s.count:=by unfold QK;rw[if_neg h']
  have:=hT a
  rw[e] at this
  exact this
theorem zfI(T:Top G) {ws:Str}{x dx a:Addr}{s:WSt}(hE:EnvOk env (zo (ZH (ze 10) 1))) (hs:s=zS ws) (hc:s.count.length≤1000):X G n env ((zu (ZH (ze 10) 1)).drop 5) (JB a x s) [(a,zci s.count),(x,.raw (instObj T.cW dx)),(dx,.dicS [("raw",.str ws)])] (ZU fun d' σ'=>d'=.none∧(x,MO.raw (instObj T.cW dx))∈σ'∧(dx,MO.dicS (zeo ws))∈σ'):=by
 refine zc ?_
 refine Jh T.clsW.kls (by walk_at "mp") (by walk_at "mp") (.tail _ (.head _)) (.tail _ (.tail _ (.head ..))) (by rfl) (T.clsW.attr _ (by simp)) (Nat.le_of_ble_eq_true rfl) ?_ (by rfl)
 refine zc ?_
 refine Jh T.clsW.kls (by walk_at "mp") (by walk_at "mp") (.tail _ (.head _)) (.tail _ (.tail _ (.head ..))) (by rfl) (T.clsW.attr _ (by simp)) (Nat.le_of_ble_eq_true rfl) ?_ (by rfl)
 refine zc ?_
 refine Jh (d:=zdV s) T.clsW.kls (Z2 (zg (zF (zq T hE (by kernel_rfl) (by kernel_rfl)) (by walk_at "mq") (zi0 (.lst (.head _)) (by rw[List.length_map];exact Nat.le_trans hc (by decide))) z2) (zg (by walk_at "mp") zj)) (by simp)) (by walk_at "mp") (.tail _ (.head _)) (.tail _ (.tail _ (.head ..))) (by rfl) (T.clsW.attr _ (by simp)) (Nat.le_of_ble_eq_true rfl) ?_ (by rfl)
 refine zc ?_
 refine Jh (d:=.bool (decide ((s.count.length:Int)≤1))) T.clsW.kls (zi (q0 (by with_unfolding_all rfl) (zF (zq T hE (by kernel_rfl) (by kernel_rfl)) (by walk_at "mq") (ZX (.lst (.head _)) (by rw[List.length_map];exact Nat.lt_of_le_of_lt hc (by decide))) zm) (by walk_at "mp") zbo) (by rw[List.length_map])) (by walk_at "mp") (.tail _ (.head _)) (.tail _ (.tail _ (.head ..))) (by rfl) (T.clsW.attr _ (by simp)) (Nat.le_of_ble_eq_true rfl) ?_ (by rfl)
 subst hs
 exact zz ⟨rfl,.tail _ (.head _),.tail _ (.tail _ (.head _))⟩
theorem zo0(T:Top G) {ws:Str}(hl:ws.length≤1000):CallJ G (n+3) σ (.ref T.cW) [.str ws] (dWs T.cW ws):=by
 have hm:1∈[1,2,3,6]:=by decide
 refine zgH T.clsW.kls (T.clsW.find 1 hm) (T.clsW.typ 1 hm) (T.clsW.fn 1 hm) (by decide +kernel) (by kernel_rfl) fun env x dx hE=>?_
 have hsz:ws.cps.toList.length≤1000:=by simpa [Str.length] using hl
 show X _ _ _ _ [("self",.raw (.ref x)),("ws",.str ws)] _ _
 refine zc ?_
 refine Jh T.clsW.kls (by walk_at "mp") (by walk_at "mp") (.head _) (.tail _ (.head ..)) (by rfl) (T.clsW.attr _ (by simp)) (Nat.le_of_ble_eq_true rfl) ?_ (by rfl)
 obtain⟨t1,hS⟩:=T.sW
 obtain⟨t2,hT⟩:=T.tW
 refine zc ?_
 refine zc8 (Jf (zt (zdq T.clsW.kls (jr (hE.glob (by kernel_rfl)) T.clsW.glob (by kernel_rfl)) T.rdW hS) (zt (zdq T.clsW.kls (jr (hE.glob (by kernel_rfl)) T.clsW.glob (by kernel_rfl)) T.rdW hT) ⟨_,_,rfl,?_⟩))) (by walk_at "ms") (by walk_at "ms") (ZZ rfl) (zbB (hE.kind _ _ (by kernel_rfl) (by decide)) (hE.kind _ _ (by kernel_rfl) (by decide)) hE.block (by kernel_rfl) (by decide +kernel))
 refine zc ?_
 refine z4 (by walk_at "ms") (jh (mo:=.lst []) (Qg (by walk_at "mq")) fun a=>?_)
 refine zc ?_
 refine zjm (by walk_at "mp") (by walk_at "ms") (by walk_at "ms") (by walk_at "ms") ?_
 refine zT (ρ':=([("nt",.int 0),("n",.int 0),("b",.int 0),("count",.raw (.ref a)),("S",.str " "),("T",.str "\t"),("self",.raw (.ref x))]:Rho)) (by walk_at "mw") ?_
 show X _ _ _ _ (JB a x ⟨[],0,0,0⟩) [(a,zci []),(x,.raw (instObj T.cW dx)),(dx,.dicS [("raw",.str ws)])] _
 refine zc ?_
 refine zda (names:=["ch"]) (bs:=ws.cps.toList.map fun c=>[("ch",.str ⟨#[c]⟩)]) (fun i p=>wsF (ws.cps.toList.drop i) p.2=zS ws∧0≤p.2.b∧p.2.b≤(i:Int)∧p.2.count.length≤i) (fun p=>JB p.1 x p.2) (fun p=>[(p.1,zci p.2.count),(x,.raw (instObj T.cW dx)),(dx,.dicS [("raw",.str ws)])]) (a,⟨[],0,0,0⟩) ?_ ?_ ⟨⟨rfl,Int.le_refl _,Int.le_refl _,Nat.le_refl _⟩,rfl,rfl⟩ ?_ ?_
 ·exact zN (JT (d:=.str ws) T.clsW.kls (by walk_at "mp") (.own (l:=[("raw",.str ws)]) (.tail _ (.head _)) (.tail _ (.tail _ (.head _)))) (T.clsW.attr _ (.head _)) (by kernel_rfl) (by rfl)) zoJ
 ·exact qY hE (by kernel_rfl)
 ·intro i b' p hJ hb'
  refine Ja hJ fun hF hb0 hb hc=>?_
  obtain⟨c,hci,rfl⟩:=qt hb'
  have hi:i≤1000:=Nat.le_trans (Nat.le_of_lt (List.getElem?_eq_some_iff.mp hci).1) hsz
  rw[znP hci] at hF
  refine zc ?_
  refine Qt (qf (zU (by walk_at "mp") (by walk_at "mp") QE) (zm7 c)) (fun h=>?_) (fun h=>?_)
  ·have h':c=32:=of_decide_eq_true h
   rw[wsF,if_pos h'] at hF
   refine zc (z4 (by walk_at "ms") (zt (by walk_at "mp") ?_))
   refine zc (z4 (by walk_at "ms") (zt (by walk_at "mp") ?_))
   refine zz ?_
   exact zT (ρ':=JB p.1 x ⟨p.2.count,p.2.b+1,p.2.n+1,p.2.nt⟩) (by walk_at "mw") (zz ⟨(p.1,_),⟨hF,Int.le_trans hb0 (Int.le_add_one (Int.le_refl _)),Int.add_le_add_right hb 1,Nat.le_succ_of_le hc⟩,rfl,rfl⟩)
  ·have h':c≠32:=of_decide_eq_false h
   rw[wsF,if_neg h'] at hF
   refine zc ?_
   refine Qt (qf (zU (by walk_at "mp") (by walk_at "mp") QE) (zlp c)) (fun h=>?_) (fun h=>?_)
   ·have h2:c=9:=of_decide_eq_true h
    rw[if_pos h2] at hF
    refine zT (ρ':=JB p.1 x p.2) (by walk_at "mw") ?_
    refine zpi T hE hb0 (Int.le_trans hb (Int.ofNat_le.mpr hi)) (Nat.le_trans hc hi) fun a'=>?_
    refine zz ?_
    exact zz ⟨(a',_),⟨hF,Int.le_refl _,Int.natCast_nonneg _,Nat.le_trans (zfh _ _) (Nat.max_le.mpr ⟨Nat.le_succ_of_le hc,Nat.succ_le_succ (Int.toNat_le.mpr hb)⟩)⟩,rfl,rfl⟩
   ·have h2:c≠9:=of_decide_eq_false h
    rw[if_neg h2] at hF
    refine zc (zhp ?_)
    exact zT (ρ':=JB p.1 x p.2) (by walk_at "mw") (zfI T hE hF (Nat.le_trans hc hi))
 ·intro p hJ
  refine Ja hJ fun hF hb0 hb hc=>?_
  rw[List.length_map] at hF hc
  rw[List.drop_of_length_le (Nat.le_refl _)] at hF
  exact zz (zfI (s:=p.2) T hE hF (Nat.le_trans hc hsz))
end
section
open PySem PySem.W
variable {G:Gx}{n:Nat}{env:Env}{ρ:Rho}{σ:Sig}
noncomputable def JA(s:WSt):Int:=max ((s.count.length:Int)-1) s.b
noncomputable def zcP(count:List Nat) (ts i:Nat):Nat:=((List.range i).map fun j=>(ts+j)/ts*count.getD (ts+j) 0).sum
noncomputable def jZ(s:WSt) (ts:Nat):Int:=s.b+(ts:Int)*(((zcP s.count ts (s.count.length-ts):Nat):Int)+s.nt)
noncomputable def JK(s t:WSt):Bool:=
 if s.n≥t.n then false else if (s.count.length:Int)≤1∧(t.count.length:Int)≤1 then decide (s.nt≤t.nt)
 else (List.range (max (JA s) (JA t)).toNat).all fun j=>decide (jZ s (2+j)<jZ t (2+j))
theorem zn7(l:List Nat):∀(s:WSt) (k:Nat),0≤s.b→s.b≤(k:Int)→s.count.length≤k→0≤(wsF l s).b∧(wsF l s).b≤((k+l.length:Nat):Int)∧(wsF l s).count.length≤k+l.length:=by
 induction l with
 | nil=>exact fun s k h0 h1 h2=>⟨h0,h1,h2⟩
 | cons c l ih=>
  intro s k h0 h1 h2
  have e:k+(l.length+1)=k+1+l.length:=(Nat.add_right_comm k 1 l.length).symm
  have k0:(k:Int)≤((k+1:Nat):Int):=Int.ofNat_le.mpr (Nat.le_succ k)
  have k1:k≤k+1+l.length:=Nat.le_trans (Nat.le_succ k) (Nat.le_add_right _ _)
  unfold wsF
  rw[List.length_cons,e]
  split
  ·exact ih ⟨s.count,s.b+1,s.n+1,s.nt⟩ (k+1) (Int.le_trans h0 (Int.le_add_one (Int.le_refl _))) (Int.add_le_add_right h1 1) (Nat.le_succ_of_le h2)
  ·split
   ·exact ih ⟨JO s.count s.b.toNat,0,s.n+1,s.nt+1⟩ (k+1) (Int.le_refl _) (Int.natCast_nonneg _) (Nat.le_trans (zfh s.count s.b.toNat) (Nat.max_le.mpr ⟨Nat.le_succ_of_le h2,Nat.succ_le_succ (Int.toNat_le.mpr h1)⟩))
   ·exact⟨h0,Int.le_trans h1 (Int.ofNat_le.mpr k1),Nat.le_trans h2 k1⟩
theorem zcb{x:Str}(hx:x.length≤1000):0≤(zS x).b∧(zS x).b≤1000∧(zS x).count.length≤1000:=
 have hl:0+x.cps.toList.length≤1000:=(Nat.zero_add _).symm▸hx
 z9 (zn7 x.cps.toList ⟨[],0,0,0⟩ 0 (Int.le_refl _) (Int.le_refl _) (Nat.le_refl _)) fun h1 h2 h3=>⟨h1,Int.le_trans h2 (Int.ofNat_le.mpr hl),Nat.le_trans h3 hl⟩
theorem zhC{x:Str}(hx:x.length≤1000):JA (zS x)≤1000:=
 z9 (zcb hx) fun _ h1 h2=>Int.max_le.mpr ⟨Int.le_trans (Int.sub_le_self _ (by decide)) (Int.ofNat_le.mpr h2),h1⟩
theorem zm8{x y:Str}(hx:x.length≤1000) (hy:y.length≤1000):∃N:Nat,max (JA (zS x)) (JA (zS y))=(N:Int)∧N≤1000:=
 have h0:0≤max (JA (zS x)) (JA (zS y)):=Int.le_trans (zcb hx).1 (Int.le_trans (Int.le_max_right _ _) (Int.le_max_left _ _))
 ⟨_,(Int.toNat_of_nonneg h0).symm,Int.toNat_le.mpr (Int.max_le.mpr ⟨zhC hx,zhC hy⟩)⟩
theorem zmE(T:Top G) {x:Str}(hx:x.length≤1000):CallJ G (n+1) σ (.ref (T.mW 2)) [dWs T.cW x] (.int (JA (zS x))):=by
 refine zaJ (T.clsW.fn 2 (by decide)) (by decide +kernel) (by kernel_rfl) fun env hE=>?_
 show X _ _ _ _ [("self",dWs T.cW x)] _ _
 refine zc ?_
 refine zc7 (zt (JT (d:=zdV (zS x)) T.clsW.kls (by walk_at "mp") (.self _) (T.clsW.attr _ (by simp)) (by kernel_rfl) rfl) ⟨_,_,rfl,?_⟩) (by walk_at "ms") (by walk_at "ms") (ZZ rfl) (by rfl)
 refine zc (z8 (zt (zF (zq T hE (by kernel_rfl) (by kernel_rfl)) (zg (zk (zF (zq T hE (by kernel_rfl) (by kernel_rfl)) (by walk_at "mq") (zff (by rw[List.length_map];exact Nat.lt_of_le_of_lt (zcb hx).2.2 (by decide))) zm) zn jy) (zg (by walk_at "mp") zj)) zfe zm) ?_))
 show D.int _=D.int _
 rw[List.length_map];rfl
theorem zeE{a:Nat}(h:a≤1000000) (b:Int):IntMulOk (a:Int) b:=IntMulOk.of_left (intBits_le_64 (by omega) (by omega))
theorem zki(count:List Nat) (ts i:Nat):zcP count ts (i+1)=zcP count ts i+(ts+i)/ts*count.getD (ts+i) 0:=by
 unfold zcP;rw[List.range_succ,List.map_append,List.sum_append];simp
theorem zmF(T:Top G) {x:Str}{ts:Nat}(hx:x.length≤1000) (ht:1≤ts) (ht2:ts≤2000):CallJ G (n+1) σ (.ref (T.mW 3)) [dWs T.cW x,.int (ts:Int)] (.int (jZ (zS x) ts)):=by
 have h2:=(zcb hx).2.2
 refine zaJ (T.clsW.fn 3 (by decide)) (by decide +kernel) (by kernel_rfl) fun env hE=>?_
 show X _ _ _ _ [("self",dWs T.cW x),("tabsize",.int (ts:Int))] _ _
 refine zc ?_
 refine zc7 (zt (JT (d:=zdV (zS x)) T.clsW.kls (by walk_at "mp") (.self _) (T.clsW.attr _ (by simp)) (by kernel_rfl) rfl) ⟨_,_,rfl,?_⟩) (by walk_at "ms") (by walk_at "ms") (ZZ rfl) (by rfl)
 refine zc (z4 (by walk_at "ms") (zt (by walk_at "mp") ?_))
 refine zc ?_
 refine zab (names:=["i"]) (bs:=qJ "i" ts ((zS x).count.length-ts)) (fun i ρ' σ'=>ρ'=([("il",.int ((zcP (zS x).count ts i:Nat):Int)),("trailing",.int (zS x).b),("count",.tup ((zS x).count.map fun(k:Nat)=>.int (k:Int))),("self",dWs T.cW x),("tabsize",.int (ts:Int))]:Rho)∧σ'=[]) ?_ ?_ ⟨rfl,rfl⟩ ?_ ?_
 ·exact Zw (zq T hE (by kernel_rfl) (by kernel_rfl)) (zg (by walk_at "mp") (zg (zi (zF (zq T hE (by kernel_rfl) (by kernel_rfl)) (by walk_at "mq") (zff (by rw[List.length_map];exact Nat.lt_of_le_of_lt h2 (by decide))) zm) (by rw[List.length_map])) zj)) (j7 (Nat.le_trans ht2 (by decide)) (Nat.le_trans h2 (by decide))) z2
 ·exact qY hE (by kernel_rfl)
 ·rintro i b _ _ ⟨rfl,rfl⟩ hb
  obtain⟨hi,rfl⟩:=js hb
  have hil:=Nat.add_lt_of_lt_sub' hi
  refine zc ?_
  refine z4 (by walk_at "ms") (zt (d:=.int ((zcP (zS x).count ts (i+1):Nat):Int)) (zi (zk (by walk_at "mp") (zk (zk (by walk_at "mp") (by walk_at "mp") (qV (Nat.ne_of_gt ht) ?_)) (zv (by walk_at "mp") (by walk_at "mp") (qS (Int.natCast_nonneg _) (Jz (Nat.le_of_lt hil) (Nat.lt_of_le_of_lt h2 (by decide))) (zcL hil))) (JV (zeE ?_ _))) ZP) ?_) ?_)
  ·exact Nat.lt_of_le_of_lt (Nat.le_trans (Nat.log2_le_self ts) ht2) (by decide)
  ·exact Nat.le_trans (Nat.div_le_self _ _) (Nat.le_trans (Nat.le_of_lt hil) (Nat.le_trans h2 (by decide)))
  ·rw[zki];simp
  exact zT (ρ':=([("il",.int ((zcP (zS x).count ts (i+1):Nat):Int)),("trailing",.int (zS x).b),("count",.tup ((zS x).count.map fun(k:Nat)=>.int (k:Int))),("self",dWs T.cW x),("tabsize",.int (ts:Int))]:Rho)) (by walk_at "mw") (zz ⟨rfl,rfl⟩)
 ·rintro _ _ ⟨rfl,rfl⟩
  have e:(qJ "i" ts ((zS x).count.length-ts)).length=(zS x).count.length-ts:=by simp[qJ]
  rw[e]
  refine zz ?_
  exact zc (z8 (zt (zk (by walk_at "mp") (zk (by walk_at "mp") (zk (by walk_at "mp") (JT (d:=.int (zS x).nt) T.clsW.kls (by walk_at "mp") (.self _) (T.clsW.attr _ (by simp)) (by kernel_rfl) rfl) ZP) (JV (zeE (Nat.le_trans ht2 (by decide)) _))) ZP) rfl))
theorem zo2(T:Top G) {x y:Str}(hx:x.length≤1000) (hy:y.length≤1000):CallJ G (n+2) σ (.ref (T.mW 6)) [dWs T.cW x,dWs T.cW y] (.bool (JK (zS x) (zS y))):=by
 have g:∀(nm:Str) (d:D) (z:Str) {e:Expr}{pos:Pos}{ρ:Rho}{env:Env},nm∈([("raw":Str),"n","nt","norm","is_simple"]:List Str)→((zeo z).find? fun p=>decide (p.1=nm)).map (·.2)=some d→zjc d=true→PE G (n+1) env e ρ [] (dWs T.cW z)→
   (eval (.Attribute e nm pos) env=(do let o ←eval e env;standAt pos.atName;let r ←holding [o] (getAttr o nm true);letTemporaryGo e o r;pure r))→PE G (n+1) env (.Attribute e nm pos) ρ [] d:=fun nm d z e pos ρ env hm hf hp he hev=>JT T.clsW.kls he (.self _) (T.clsW.attr _ hm) hf hp hev
 refine zaJ (T.clsW.fn 6 (by decide)) (by decide +kernel) (by kernel_rfl) fun env hE=>?_
 show X _ _ _ _ [("self",dWs T.cW x),("other",dWs T.cW y)] _ _
 refine zc ?_
 refine Qt (zU (g "n" (.int (zS x).n) x (by simp) (by kernel_rfl) rfl (by walk_at "mp") (by with_unfolding_all rfl)) (g "n" (.int (zS y).n) y (by simp) (by kernel_rfl) rfl (by walk_at "mp") (by with_unfolding_all rfl)) jP) (fun h=>?_) (fun h=>?_)
 ·refine zc (z8 (zt (by walk_at "mp") ?_))
  show D.bool _=D.bool _
  unfold JK;rw[if_pos (of_decide_eq_true h)]
 have hn:=of_decide_eq_false h
 refine zz ?_
 refine zc ?_
 refine Qt (jq (jp (zaA (g "is_simple" (.bool (decide (((zS x).count.length:Int)≤1))) x (by simp) (by kernel_rfl) rfl (by walk_at "mp") (by with_unfolding_all rfl))) fun _=>jp (zaA (g "is_simple" (.bool (decide (((zS y).count.length:Int)≤1))) y (by simp) (by kernel_rfl) rfl (by walk_at "mp") (by with_unfolding_all rfl))) fun _=>j6)) (fun h=>?_) (fun h=>?_)
 ·refine zc (z8 (zt (J4 (g "nt" (.int (zS x).nt) x (by simp) (by kernel_rfl) rfl (by walk_at "mp") (by with_unfolding_all rfl)) (g "nt" (.int (zS y).nt) y (by simp) (by kernel_rfl) rfl (by walk_at "mp") (by with_unfolding_all rfl)) zbo) ?_))
  show D.bool _=D.bool _
  simp only[Bool.and_true,Bool.and_eq_true,decide_eq_true_eq] at h
  unfold JK;rw[if_neg hn,if_pos h]
 have hs:¬(((zS x).count.length:Int)≤1∧((zS y).count.length:Int)≤1):=fun q=>by simp[q.1,q.2] at h
 have hl:JK (zS x) (zS y)=(List.range (max (JA (zS x)) (JA (zS y))).toNat).all fun j=>decide (jZ (zS x) (2+j)<jZ (zS y) (2+j)):=by unfold JK;rw[if_neg hn,if_neg hs]
 refine zz ?_
 refine zd (zm8 hx hy) fun N hNe hNl=>?_
 rw[hNe,Int.toNat_natCast] at hl
 refine zc ?_
 refine z4 (by walk_at "ms") (zt (d:=.int ((N+1:Nat):Int)) (zi (zk (zF (zq T hE (by kernel_rfl) (by kernel_rfl)) (zg (zaB (d:=.int (JA (zS x))) T.clsW.kls (by walk_at "mp") (.self _) (T.clsW.find 2 (by decide)) (T.clsW.typ 2 (by decide)) (by kernel_rfl) zj (zmE T hx) (ju T.clsW (by decide))) (zg (zaB (d:=.int (JA (zS y))) T.clsW.kls (by walk_at "mp") (.self _) (T.clsW.find 2 (by decide)) (T.clsW.typ 2 (by decide)) (by kernel_rfl) zj (zmE T hy) (ju T.clsW (by decide))) zj)) zfe zm) zn ZP) (by rw[hNe];rfl)) ?_)
 refine zc ?_
 refine zab (names:=["ts"]) (bs:=qJ "ts" 2 (N+2-2)) (fun i ρ' σ'=>(∀j<i,jZ (zS x) (2+j)<jZ (zS y) (2+j))∧ρ'=([("n",.int ((N+1:Nat):Int)),("self",dWs T.cW x),("other",dWs T.cW y)]:Rho)∧σ'=[]) ?_ ?_ ?_ ?_ ?_
 ·exact Zw (zq T hE (by kernel_rfl) (by kernel_rfl)) (zg (zi (d':=.int ((2:Nat):Int)) (by walk_at "mp") rfl) (zg (zi (d':=.int ((N+2:Nat):Int)) (zk (by walk_at "mp") zn ZP) (by simp[Int.add_assoc])) zj)) (j7 (by decide) (Nat.le_trans (Nat.add_le_add_right hNl 2) (by decide))) z2
 ·exact qY hE (by kernel_rfl)
 ·exact⟨fun j hj=>absurd hj (Nat.not_lt_zero _),rfl,rfl⟩
 ·rintro i b _ _ ⟨y4,rfl,rfl⟩ hb
  obtain⟨hi,rfl⟩:=js hb
  have h2i:2+i≤2000:=Nat.le_trans (Nat.add_le_add_left (Nat.le_trans (Nat.le_of_lt hi) hNl) 2) (by decide)
  refine zc ?_
  refine Qt (zU (zaB (d:=.int (jZ (zS x) (2+i))) T.clsW.kls (by walk_at "mp") (.self _) (T.clsW.find 3 (by decide)) (T.clsW.typ 3 (by decide)) (by kernel_rfl) (by walk_at "mq") (zmF T hx (Nat.le_add_right_of_le (by decide)) h2i) (ju T.clsW (by decide))) (zaB (d:=.int (jZ (zS y) (2+i))) T.clsW.kls (by walk_at "mp") (.self _) (T.clsW.find 3 (by decide)) (T.clsW.typ 3 (by decide)) (by kernel_rfl) (by walk_at "mq") (zmF T hy (Nat.le_add_right_of_le (by decide)) h2i) (ju T.clsW (by decide))) jP) (fun h=>?_) (fun h=>?_)
  ·have h':=of_decide_eq_true h
   refine zc (z8 (zt (by walk_at "mp") ?_))
   show D.bool _=D.bool _
   rw[hl]
   have:(List.range N).all (fun j=>decide (jZ (zS x) (2+j)<jZ (zS y) (2+j)))=false:=by
    rw[List.all_eq_false]
    exact⟨i,List.mem_range.mpr hi,fun q=>Int.not_lt.mpr h' (of_decide_eq_true q)⟩
   rw[this]
  ·have h':=of_decide_eq_false h
   refine zz ?_
   refine zT (ρ':=([("n",.int ((N+1:Nat):Int)),("self",dWs T.cW x),("other",dWs T.cW y)]:Rho)) (by walk_at "mw") (zz ⟨fun j hj=>?_,rfl,rfl⟩)
   rcases Nat.lt_or_eq_of_le (Nat.le_of_lt_succ hj) with h2 | h2
   ·exact y4 j h2
   ·subst h2;exact Int.not_le.mp h'
 ·rintro _ _ ⟨y4,rfl,rfl⟩
  have e:(qJ "ts" 2 (N+2-2)).length=N:=by simp[qJ]
  rw[e] at y4
  refine zz ?_
  refine zc (z8 (zt (by walk_at "mp") ?_))
  show D.bool _=D.bool _
  rw[hl]
  have:(List.range N).all (fun j=>decide (jZ (zS x) (2+j)<jZ (zS y) (2+j)))=true:=by
   rw[List.all_eq_true]
   intro j hj
   simpa using y4 j (List.mem_range.mp hj)
  rw[this]
end
section
open PySem PySem.W
variable {G:Gx}{n:Nat}{env:Env}{ρ:Rho}{σ:Sig}
theorem zhc{a b:Int}:InpJ G n σ .Sub (.int a) (.int b) (.int (a-b)):=.mk fun A F s Q E v₁ v₂ hA H h₁ h₂ h=>by
 obtain⟨_,rfl⟩:=h₁.inv;obtain⟨_,rfl⟩:=h₂.inv;exact PySem.AutoIntOps.isub_0 (h _ F _ (.tok H.fin) (.int _ _))
noncomputable def ZK(kept:zQ) (x:Str):List Str:=(kept.filter fun p=>decide (p.1=x)).map (·.2)
noncomputable def zdt:List (Str×Str):=[("\t","  "),("   \t","  \t  "),(" ","\t"),("\t"," \t")]
noncomputable def jc(k:Nat):Str×Str:=zdt.getD k ("","")
noncomputable def JL(seed at_ len place:Nat):Str:=qx "\t" (((len-1)/2-place/2:Nat):Int)++(if place%2=0 then (jc ((seed+at_)%4)).1 else (jc ((seed+at_)%4)).2)
noncomputable def ZQ(seed at_ len:Nat):List Str:=(List.range len).map (JL seed at_ len)
noncomputable def Q0(kept:zQ) (seed:Nat) (rows:List (Str×Str)) (at_:Nat):List (Str×Str):=
 rows.take (at_+1)++((ZK kept (rows.getD at_ ("","")).1).zip (ZQ seed at_ (ZK kept (rows.getD at_ ("","")).1).length)).map (fun p=>(p.1,(rows.getD at_ ("","")).2++p.2))++rows.drop (at_+1)
noncomputable def qg(kept:zQ) (seed:Nat) (root:Str):Nat→List (Str×Str)
 | 0=>[(root,"")]
 | k+1=>Q0 kept seed (qg kept seed root k) k
theorem zf6:∀k<4,(jc k).1.length≤5∧(jc k).2.length≤5:=by decide +kernel
theorem QZ(x y:Str):(x++y).length=x.length+y.length:=by
 show(x++y).cps.size=_
 rw[Str.cps_append,Array.size_append];rfl
theorem zhw:("\t":Str).length=1:=by decide +kernel
theorem zeX{k j len place n:Nat}(h:len≤2*n) (hj:j<4):(qx "\t" (((len-1)/2-place/2:Nat):Int)).length+(if k=0 then (jc j).1 else (jc j).2).length≤n+5:=by
 rw[Jy,zhw,Nat.mul_one]
 refine Nat.add_le_add (zhS h) ?_
 split
 ·exact(zf6 j hj).1
 ·exact(zf6 j hj).2
theorem zgg{seed at_ len place:Nat}(h:len≤100):(JL seed at_ len place).length≤60:=by
 unfold JL
 rw[QZ]
 exact Nat.le_trans (zeX (n:=50) h (Nat.mod_lt _ (by decide))) (by decide)
theorem zjL{kept:zQ}{seed at_:Nat}{rows:List (Str×Str)}(h:at_<rows.length):(Q0 kept seed rows at_).length=rows.length+(ZK kept (rows.getD at_ ("","")).1).length:=by
 unfold Q0
 rw[List.length_append,List.length_append,List.length_take,List.length_map,List.length_zip,List.length_drop,zh0 _ h]
 unfold ZQ
 rw[List.length_map,List.length_range,Nat.min_self]
theorem zj1{k:Nat}(h:k<4):(zdt.map fun p=>D.tup [.str p.1,.str p.2])[k]?=some (.tup [.str (jc k).1,.str (jc k).2]):=by
 rw[List.getElem?_map,show zdt[k]?=some (jc k) by unfold jc;rw[List.getD_eq_getElem?_getD,List.getElem?_eq_getElem h];rfl];rfl
theorem zpn{p:Str×Str}(m:Nat):GetJ G n σ (.tup [.str p.1,.str p.2]) (.int ((m%2:Nat):Int)) (.str (if m%2=0 then p.1 else p.2)):=by
 rcases Nat.mod_two_eq_zero_or_one m with h | h<;>rw[h]<;>exact qS (by decide) (by decide) rfl
theorem Jq{rows:List (Str×Str)}{k:Nat}(h:k<rows.length):rows[k]?=some (rows.getD k ("","")):=by
 rw[List.getD_eq_getElem?_getD,List.getElem?_eq_getElem h];rfl
theorem zbI{kept:zQ}{seed:Nat}{root:Str}(hk:kept.length≤100):∀k,(∀j<k,j<(qg kept seed root j).length)→(qg kept seed root k).length≤1+100*k∧∀r∈qg kept seed root k,r.2.length≤60*k
 | 0,_=>by
  refine⟨Nat.le_refl _,fun r hr=>?_⟩
  have:r=(root,("":Str)):=by simpa [qg] using hr
  rw[this];exact Nat.le_refl _
 | k+1,hj=>by
  obtain⟨h1,h2⟩:=zbI (seed:=seed) (root:=root) hk k fun j h=>hj j (by lia)
  have hkk:=hj k (by lia)
  have hkl:(ZK kept ((qg kept seed root k).getD k ("","")).1).length≤100:=by
   unfold ZK;rw[List.length_map];exact Nat.le_trans (List.length_filter_le _ _) hk
  refine⟨?_,fun r hr=>?_⟩
  ·show(Q0 kept seed (qg kept seed root k) k).length≤_
   rw[zjL hkk]
   exact Nat.le_trans (Nat.add_le_add h1 hkl) (Nat.le_of_eq (Nat.add_assoc 1 (100*k) 100))
  ·have hr':r∈Q0 kept seed (qg kept seed root k) k:=hr
   unfold Q0 at hr'
   rcases List.mem_append.mp hr' with h | h
   ·rcases List.mem_append.mp h with h | h
    ·have:=h2 r (List.mem_of_mem_take h);lia
    ·obtain⟨p,hp,rfl⟩:=List.mem_map.mp h
     have h3:=h2 _ (List.mem_of_getElem? (Jq hkk))
     have h4:p.2∈ZQ seed k (ZK kept ((qg kept seed root k).getD k ("","")).1).length:=(List.of_mem_zip hp).2
     obtain⟨pl,_,e⟩:=List.mem_map.mp h4
     have h5:=zgg (seed:=seed) (at_:=k) (place:=pl) hkl
     rw[e] at h5
     show(_++_:Str).length≤_
     rw[QZ]
     lia
   ·have:=h2 r (List.mem_of_mem_drop h);lia
noncomputable abbrev dRs(l:List (Str×Str)):D:=.lst (l.map fun p=>.tup [.str p.1,.str p.2])
noncomputable abbrev zer:D:=.lst (zdt.map fun p=>.tup [.str p.1,.str p.2])
noncomputable abbrev zei(kept:zQ) (names:List Str) (seed:Nat) (an ah:Addr) (rows:List (Str×Str)):Rho:=
 [("rows",dRs rows),("heads",.raw (.ref ah)),("pairs",zer),("kept",Zq kept),("names",zO names),("seed",.int (seed:Int)),("notes",.raw (.ref an))]
theorem zfB(ks ls:List Str):(zc6 (ks.map D.str) (ls.map D.str)).map (fun l=>(([("one":Str),"lead"]:List Str).zip l).reverse)=(ks.zip ls).map fun p=>([("lead",D.str p.2),("one",D.str p.1)]:Rho):=by
 unfold zc6
 induction ks generalizing ls with
 | nil=>rfl
 | cons k ks ih=>
  cases ls with
  | nil=>rfl
  | cons l ls=>simp only[List.map_cons,List.zipWith_cons_cons,List.zip_cons_cons];rw[ih];rfl
theorem zod(T:Top G) {kept:zQ}{names:List Str}{seed at_:Nat}{an ah:Addr}{rows:List (Str×Str)}{τ:Sig}{P:Out→Prop}(hE:EnvOk env (zo (ze 19))) (hk:kept.length≤100) (hat:at_<rows.length) (hrl:rows.length≤1000) (hll:∀r∈rows,r.2.length≤1000)
  (hP:P (.next (zei kept names seed an ah (Q0 kept seed rows at_)) τ)):X G n env (ZO (zu (ze 19))[1]?) (("at",.int (at_:Int))::zei kept names seed an ah rows) τ P:=by
 have hr:=Jq hat
 generalize hrr:rows.getD at_ ("","")=r at *
 have hrm:=hll r (List.mem_of_getElem? hr)
 have hkl:(ZK kept r.1).length≤100:=by unfold ZK;rw[List.length_map];exact Nat.le_trans (List.length_filter_le _ _) hk
 have getr:∀{τ:Sig},GetJ G n τ (dRs rows) (.int (at_:Int)) (.tup [.str r.1,.str r.2]):=Zs (by lia) (by lia) (by rw[Int.toNat_natCast,List.getElem?_map,hr];rfl)
 refine zc ?_
 refine zbA hE (by kernel_rfl) ?_
 refine zt (d:=zO (ZK kept r.1)) (zi (Z3 (names:=["caller","one"]) (ρ':=[("at",.int (at_:Int)),("rows",dRs rows)]) (xs:=kept) (bf:=fun p=>[("one",.str p.2),("caller",.str p.1)]) (c:=fun p=>decide (p.1=r.1)) (g:=fun p=>.str p.2) hE (by kernel_rfl) (by walk_at "mw") ?_ (zI (by kernel_rfl)) ?_ ?_ ?_ ?_ ?_) ?_) ?_
 ·exact zN (by walk_at "mp") zaF
 ·simp
 ·exact zw (by kernel_rfl)
 ·intro u1 u9 p hp
  exact ZM (zU (by walk_at "mp") (zv (zv (by walk_at "mp") (by walk_at "mp") getr) zn (qS (by decide) (by decide) rfl)) QE)
 ·intro u1 u9 p hp _
  walk_at "mp"
 ·lia
 ·show D.lst _=D.lst _
  unfold ZK;rw[List.map_map];rfl
 generalize hks:ZK kept r.1=kids at *
 refine zc ?_
 refine zc9 (names:=["place"]) (ρ':=[("at",.int (at_:Int)),("kids",zO kids),("pairs",zer),("seed",.int (seed:Int))]) (xs:=List.range kids.length) (bf:=fun(i:Nat)=>[("place",.int ((0+i:Nat):Int))]) (c:=fun _=>true) (g:=fun pl=>.str (JL seed at_ kids.length pl)) hE (by kernel_rfl) (by kernel_rfl) (by kernel_rfl) (by walk_at "mw") ?_ (zI (by kernel_rfl)) ?_ ?_ ?_ ?_ ?_ ?_
 ·exact Zw (zq T hE (by kernel_rfl) (by kernel_rfl)) (zg (zi (d':=.int ((kids.length:Nat):Int)) (zF (zq T hE (by kernel_rfl) (by kernel_rfl)) (by walk_at "mq") (ZX (.self _) (by simp;lia)) zm) (by rw[List.length_map])) zj) (Q6 (by lia)) z2
 ·simp
 ·exact zw (by kernel_rfl)
 ·intro u1 u9 y hy
  exact zW
 ·intro u1 u9 pl hpl _
  have hpl':=List.mem_range.mp hpl
  simp only[Nat.zero_add]
  refine zk (d₁:=.str (qx "\t" (((kids.length-1)/2-pl/2:Nat):Int))) (zk jb (d₂:=.int (((kids.length-1)/2-pl/2:Nat):Int)) (zi (zk (d₁:=.int (((kids.length-1)/2:Nat):Int)) (zk (d₁:=.int ((kids.length-1:Nat):Int)) (zi (zk (zF (zq T u9 (by kernel_rfl) (by kernel_rfl)) (by walk_at "mq") (ZX (.self _) (by rw[List.length_map];exact Nat.lt_of_le_of_lt hkl (by decide))) zm) zn jy) ?_) (zn (i:=((2:Nat):Int))) (qV (by decide) (by decide))) (zk (d:=.int ((pl/2:Nat):Int)) (by walk_at "mp") (zn (i:=((2:Nat):Int))) (qV (by decide) (by decide))) jy) ?_) (zcD (zpE _) (zpC (zhS (n:=50) hkl) (by decide)) (by rw[zhw];decide))) (zv (zv (by walk_at "mp") (zk (zk (by walk_at "mp") (by walk_at "mp") zc1) (zn (i:=((4:Nat):Int))) (qU (by decide))) (Zs (Int.natCast_nonneg _) (Jz (Nat.le_of_lt (Nat.mod_lt _ (by decide))) (by decide)) (zj1 (Nat.mod_lt _ (by decide))))) (zk (by walk_at "mp") (zn (i:=((2:Nat):Int))) (qU (by decide))) (zpn pl)) (QG ?_)
  ·rw[List.length_map];exact congrArg D.int (Int.ofNat_sub (Nat.one_le_of_lt hpl')).symm
  ·exact congrArg D.int (Int.ofNat_sub (Nat.div_le_div_right (Nat.le_sub_one_of_lt hpl'))).symm
  ·exact Nat.le_trans (zeX (n:=50) hkl (Nat.mod_lt _ (by decide))) (by decide)
 ·simp;lia
 rw[zl]
 have hleads:((List.range kids.length).map fun pl=>D.str (JL seed at_ kids.length pl))=(ZQ seed at_ kids.length).map D.str:=by
  unfold ZQ;rw[List.map_map];rfl
 rw[hleads]
 have hlsl:(ZQ seed at_ kids.length).length=kids.length:=by simp[ZQ]
 have hlsm:∀l∈ZQ seed at_ kids.length,l.length≤60:=fun l hl=>by
  obtain⟨pl,_,rfl⟩:=List.mem_map.mp hl
  exact zgg hkl
 have hst:Q0 kept seed rows at_=rows.take (at_+1)++(kids.zip (ZQ seed at_ kids.length)).map (fun p=>(p.1,r.2++p.2))++rows.drop (at_+1):=by unfold Q0;rw[hrr,hks]
 generalize ZQ seed at_ kids.length=leads at *
 have hdl:∀(l:List (Str×Str)),(l.map fun p=>D.tup [.str p.1,.str p.2]).length=l.length:=fun l=>List.length_map ..
 refine zc ?_
 refine z4 (by walk_at "ms") (zt (d:=dRs (Q0 kept seed rows at_)) (zi (zk (d₁:=dRs (rows.take (at_+1)++(kids.zip leads).map fun p=>(p.1,r.2++p.2))) (zi (zk (d₁:=dRs (rows.take (at_+1))) (d₂:=dRs ((kids.zip leads).map fun p=>(p.1,r.2++p.2))) (zi (QU (by walk_at "mp") (.self _) ql (Q2 (zk (d:=.int ((at_+1:Nat):Int)) (by walk_at "mp") zn (Zt ZP (by simp)))) ql (by decide) (by simp;lia)) ?_) (zi (Z3 (names:=["one","lead"]) (ρ':=[("at",.int (at_:Int)),("rows",dRs rows)]) (xs:=kids.zip leads) (bf:=fun p=>[("lead",.str p.2),("one",.str p.1)]) (c:=fun _=>true) (g:=fun p=>.tup [.str p.1,.str (r.2++p.2)]) hE (by kernel_rfl) (by walk_at "mw") ?_ (zI (by kernel_rfl)) ?_ ?_ ?_ ?_ ?_) ?_) (jg (.self _) (.self _) ?_)) ?_) (d₂:=dRs (rows.drop (at_+1))) (zi (QU (by walk_at "mp") (.self _) (Q2 (zk (d:=.int ((at_+1:Nat):Int)) (by walk_at "mp") zn (Zt ZP (by simp)))) ql ql (by decide) (by simp;lia)) ?_) (jg (.self _) (.self _) ?_)) ?_) ?_)
 ·rw[Q1,zct _ (by lia)]
 ·exact Qz (Zw (zq T hE (by kernel_rfl) (by kernel_rfl)) (by walk_at "mq") (zny rfl rfl) z2) (zfB _ _)
 ·simp
 ·exact zw (by kernel_rfl)
 ·intro u1 u9 p hp
  exact zW
 ·intro u1 u9 p hp _
  have:=hlsm p.2 (List.of_mem_zip hp).2
  exact Z2 (zg (by walk_at "mp") (zg (zk (zv (zv (by walk_at "mp") (by walk_at "mp") getr) zn (qS (by decide) (by decide) rfl)) (by walk_at "mp") (QG (by lia))) zj)) (by simp)
 ·rw[List.length_zip];exact Nat.le_trans (Nat.min_le_left _ _) (Nat.le_trans hkl (by decide))
 ·rw[zl]
  show _=D.lst (List.map _ (List.map _ _))
  rw[List.map_map];rfl
 ·rw[hdl,hdl,List.length_map,List.length_zip];exact Nat.le_trans (Nat.add_le_add (Nat.le_trans (List.length_take_le' _ _) hrl) (Nat.le_trans (Nat.min_le_left _ _) hkl)) (by decide)
 ·show D.lst _=D.lst _
  rw[List.map_append]
 ·rw[Q1,j5 _ (by lia)]
 ·rw[hdl,hdl,List.length_append,List.length_map,List.length_zip,List.length_take,List.length_drop,zh0 _ hat];exact Nat.le_trans (Nat.add_le_add hrl (Nat.le_trans (Nat.min_le_left _ _) hkl)) (by decide)
 ·rw[hst]
  show D.lst _=D.lst _
  rw[←List.map_append]
 exact zT (ρ':=zei kept names seed an ah (Q0 kept seed rows at_)) (by walk_at "mw") (zz hP)
end
section
open PySem PySem.W
variable {G:Gx}{n:Nat}{env:Env}{ρ:Rho}{σ:Sig}
theorem zlO{op:Operator}{a b d d':D}(h:InpJ G n σ op a b d) (e:d=d'):InpJ G n σ op a b d':=e▸h
noncomputable def J3(R:List (Str×Str)) (k:Nat):Str:=(R.getD k ("","")).2++"x \t"
noncomputable def ZE(R:List (Str×Str)) (k:Nat):Str:=(R.getD k ("","")).1
structure PageOk (kept:zQ) (seed:Nat) (root:Str) (R:List (Str×Str)) (par:Nat→Nat):Prop where
 short:∀k<5,k<(qg kept seed root k).length
 rows:qg kept seed root 5=R
 len:R.length=5
 lt:∀row,1≤row→row<5→par row<row
 told:∀row,1≤row→row<5→∀k,par row≤k→k<row→JK (zS (J3 R k)) (zS (J3 R row))=decide (k=par row)
 call:∀row,1≤row→row<5→∀k,par row≤k→k<row→decide ((ZE R k,ZE R row)∈kept)=decide (k=par row)
noncomputable abbrev zmD(C:Addr) (R:List (Str×Str)):D:=.lst (R.map fun r=>dWs C (r.2++"x \t"))
noncomputable abbrev zaW(C:Addr) (kept:zQ) (an ah:Addr) (R:List (Str×Str)):Rho:=
 [("page",zmD C R),("rows",dRs R),("heads",.raw (.ref ah)),("kept",Zq kept),("notes",.raw (.ref an))]
noncomputable abbrev Z5(l:List (Str×Str)):List (Str×D):=l.map fun p=>(p.1,.str p.2)
noncomputable def Zy(R:List (Str×Str)) (par:Nat→Nat) (k:Nat):List (Str×Str):=(List.range k).foldl (fun h i=>z5 h (ZE R (i+1)) (ZE R (par (i+1)))) []
noncomputable def jH(par:Nat→Nat) (k:Nat):Nat:=((List.range k).map fun i=>i+1-par (i+1)).sum
theorem zcA(R:List (Str×Str)) (par:Nat→Nat) (k:Nat):Zy R par (k+1)=z5 (Zy R par k) (ZE R (k+1)) (ZE R (par (k+1))):=by
 unfold Zy;rw[List.range_succ,List.foldl_append];rfl
theorem zcw(par:Nat→Nat) (k:Nat):jH par (k+1)=jH par k+(k+1-par (k+1)):=by
 unfold jH;rw[List.range_succ,List.map_append,List.sum_append];simp
theorem zdL(R:List (Str×Str)) (par:Nat→Nat) (k:Nat):(Zy R par k).length≤k:=by
 induction k with
 | zero=>exact Nat.le_refl _
 | succ k ih=>rw[zcA];exact Nat.le_trans (zah _ _ _) (Nat.succ_le_succ ih)
theorem zj3{par:Nat→Nat}(i:Nat) (h:i≤4):jH par i≤i*5:=by
 induction i with
 | zero=>exact Nat.le_refl _
 | succ k ih=>rw[zcw,Nat.succ_mul];exact Nat.add_le_add (ih (Nat.le_of_succ_le h)) (Nat.le_trans (Nat.sub_le _ _) (Nat.le_succ_of_le h))
theorem zfF:("x \t":Str).length=3:=by decide +kernel
theorem zjZ{R:List (Str×Str)}(h:∀r∈R,r.2.length≤900) {k:Nat}(hk:k<R.length):(J3 R k).length≤1000:=by
 unfold J3
 rw[QZ,zfF];exact Nat.le_trans (Nat.add_le_add_right (h _ (List.mem_of_getElem? (Jq hk))) 3) (by decide)
theorem zko{C:Addr}{R:List (Str×Str)}(h5:R.length=5) {k:Nat}(hk:k<5):GetJ G n σ (zmD C R) (.int (k:Int)) (dWs C (J3 R k)):=
 Zs (Int.natCast_nonneg _) (Jz (Nat.le_of_lt hk) (by decide)) (by rw[Int.toNat_natCast,List.getElem?_map,Jq (by rw[h5];exact hk)];rfl)
theorem zdM{R:List (Str×Str)}(h5:R.length=5) {k:Nat}(hk:k<5) {e₁ e₂:Expr}{p:Pos}(he:PE G n env e₁ ρ σ (dRs R)) (hi:PE G n env e₂ ρ σ (.int (k:Int))) {p':Pos} {t q}:PE G n env (.Subscript (.Subscript e₁ e₂ p) (.Constant (.int 0) t q) p') ρ σ (.str (ZE R k)):=
 zv (zv he hi (Zs (x:=.tup [.str (ZE R k),.str (R.getD k ("","")).2]) (Int.natCast_nonneg _) (Jz (Nat.le_of_lt hk) (by decide)) (by rw[Int.toNat_natCast,List.getElem?_map,Jq (by rw[h5];exact hk)];rfl))) zn (qS (by decide) (by decide) rfl)
theorem znm(row:Nat) (nb:List Bool):zr nb=zr (nb++List.replicate (row-row) true):=by rw[Nat.sub_self,List.replicate_zero,List.append_nil]
theorem zoC{row m:Nat}(nb:List Bool) (h1:0<m) (h2:m≤row):zr (nb++List.replicate (row-m) true)++[D.bool true]=zr (nb++List.replicate (row-(m-1)) true):=by
 rw[Nat.sub_sub_right row h1,Nat.sub_add_comm h2,List.replicate_succ',←List.append_assoc];exact(List.map_append (l₂:=[true])).symm
theorem zlf{nb:List Bool}(h:nb.length≤1000) {row m:Nat}(h5:row<5):(zr (nb++List.replicate (row-m) true)).length≤1005:=by
 unfold zr
 rw[List.length_map,List.length_append,List.length_replicate];exact Nat.add_le_add h (Nat.le_trans (Nat.sub_le _ _) (Nat.le_of_lt h5))
theorem zmY{p m:Nat}(h:p≤m) (hb:(decide ((m:Int)>0)&&((decide (m=p)==false)&&true))=true):p<m:=
 Nat.lt_of_le_of_ne h fun e=>by rw[decide_eq_true e.symm] at hb;exact absurd (Bool.and_eq_true_iff.mp hb).2 (by decide)
theorem zoq{p m:Nat}(h:p≤m) (hb:(decide ((m:Int)>0)&&((decide (m=p)==false)&&true))=false):m=p:=
 Decidable.by_contra fun e=>by
  rw[decide_eq_false e,decide_eq_true (Int.natCast_pos.mpr (Nat.lt_of_le_of_lt (Nat.zero_le p) (Nat.lt_of_le_of_ne h fun q=>e q.symm)))] at hb;exact absurd hb (by decide)
theorem zoe(T:Top G) {kept:zQ}{an ah:Addr}{R:List (Str×Str)}{row p:Nat}{h:List (Str×Str)}{nb:List Bool}{P:Out→Prop}(hE:EnvOk env (zo (ze 19))) (hRl:R.length=5)
  (hl:∀r∈R,r.2.length≤900) (hlt:p<row) (htold:∀k,p≤k→k<row→JK (zS (J3 R k)) (zS (J3 R row))=decide (k=p)) (y0:∀k,p≤k→k<row→decide ((ZE R k,ZE R row)∈kept)=decide (k=p)) (h5:row<5) (hh:h.length≤1000) (x8:nb.length≤1000)
  (hP:P (.next (zaW T.cW kept an ah R) [(ah,.dicS (Z5 (z5 h (ZE R row) (ZE R p)))),(an,.lst (zr (nb++List.replicate (row-p) true)))])) :
  X G (n+3) env (ZO (zu (ze 19))[3]?) (("row",.int (row:Int))::zaW T.cW kept an ah R) [(ah,.dicS (Z5 h)),(an,.lst (zr nb))] P:=by
 refine zc ?_
 refine zc8 (Jf (zt (by walk_at "mp") (zt (d:=.bool (decide (row=p))) (zi (by walk_at "mp") (congrArg D.bool (decide_eq_false (Nat.ne_of_gt hlt)).symm)) ⟨_,_,rfl,?_⟩))) (by walk_at "ms") (by walk_at "ms") (ZZ rfl) (zbB (hE.kind _ _ (by kernel_rfl) (by decide)) (hE.kind _ _ (by kernel_rfl) (by decide)) hE.block (by kernel_rfl) (by decide +kernel))
 refine zc ?_
 refine zk1 (fun m a=>m=a∧p≤a∧a≤row) (fun a=>("above",.int (a:Int))::("told",.bool (decide (a=p)))::("row",.int (row:Int))::zaW T.cW kept an ah R) (fun a=>[(ah,.dicS (Z5 h)),(an,.lst (zr (nb++List.replicate (row-a) true)))]) row row ⟨⟨rfl,Nat.le_of_lt hlt,Nat.le_refl _⟩,rfl,by rw[←znm]⟩ fun m a q_=>?_
 obtain⟨rfl,ha1,ha2⟩:=q_
 refine⟨_,jq (jp (zU (by walk_at "mp") (by walk_at "mp") jO) fun _=>jp (zU (by walk_at "mp") (by walk_at "mp") zhQ) fun _=>j6),fun hb=>?_,fun hb=>?_⟩
 ·have hap:p<m:=zmY ha1 hb
  have h0m:=Nat.zero_lt_of_lt hap
  have hm1:m-1<row:=Nat.lt_of_lt_of_le (Nat.sub_one_lt (Nat.ne_of_gt h0m)) ha2
  have hpm:=Nat.le_sub_one_of_lt hap
  have hm5:=Nat.lt_trans hm1 h5
  refine zc ?_
  refine JF (d:=.int ((m-1:Nat):Int)) (by walk_at "ml") (by walk_at "mp") (zlO zhc (congrArg D.int (Int.ofNat_sub h0m).symm)) (by walk_at "ms") ?_
  refine zc ?_
  refine z4 (by walk_at "ms") (zt (d:=.bool (decide (m-1=p))) (zi (zaB (d:=.bool (JK (zS (J3 R (m-1))) (zS (J3 R row)))) T.clsW.kls (zv (by walk_at "mp") (by walk_at "mp") (zko hRl hm5)) (.self _) (T.clsW.find 6 (by decide)) (T.clsW.typ 6 (by decide)) (by kernel_rfl) (zg (zv (by walk_at "mp") (by walk_at "mp") (zko hRl h5)) zj) (zo2 T (zjZ hl (by rw[hRl];exact hm5)) (zjZ hl (by rw[hRl];exact h5))) (ju T.clsW (by decide))) (congrArg D.bool (htold _ hpm hm1))) ?_)
  refine zc ?_
  refine Jx hE (Z8 qR (by walk_at "mp") (Z9 (.lst (.tail _ (.head _)))) (Zn (zt (d:=.bool true) (zi (q0 (b:=decide (m-1=p)==decide (m-1=p)) (by with_unfolding_all rfl) (by walk_at "mp") (zi (d:=.bool (decide ((ZE R (m-1),ZE R row)∈kept))) (q0 (by with_unfolding_all rfl) (Z2 (zg (zdM hRl hm5 (by walk_at "mp") (by walk_at "mp")) (zg (zdM hRl h5 (by walk_at "mp") (by walk_at "mp")) zj)) (by simp)) (by walk_at "mp") (zlP (.self _))) (congrArg D.bool (y0 _ hpm hm1))) zhQ) (by rw[beq_self_eq_true])) (qw (ZS (.tail _ (.head ..)) ?_ ?_)))))
  rotate_left
  ·exact Nat.le_trans (zlf x8 h5) (by decide)
  rw[zoC nb h0m ha2]
  exact zT (ρ':=(("above",.int ((m-1:Nat):Int))::("told",.bool (decide (m-1=p)))::("row",.int (row:Int))::zaW T.cW kept an ah R:Rho)) (by walk_at "mw") (zz ⟨m-1,Nat.sub_one_lt (Nat.ne_of_gt h0m),m-1,⟨rfl,hpm,Nat.le_of_lt hm1⟩,rfl,rfl⟩)
 ·have hap:m=p:=zoq ha1 hb
  subst hap
  refine zc ?_
  refine jo (zt (d:=.str (ZE R m)) (zdM hRl (Nat.lt_trans hlt h5) (by walk_at "mp") (by walk_at "mp")) ⟨_,.str (ZE R row),_,by walk_at "mp",zdM hRl h5 (by walk_at "mp") (by walk_at "mp"),.dicS (.head ..) (by rw[List.length_map];exact Nat.le_trans hh (by decide)),?_⟩)
  rw[Qv (f:=D.str)]
  exact zT (ρ':=zaW T.cW kept an ah R) (by walk_at "mw") (zz hP)
theorem zpe(T:Top G) {kept:zQ}{seed:Nat}{root:Str}{an ah:Addr}{R:List (Str×Str)}{par:Nat→Nat}{row:Nat}{h:List (Str×Str)}{nb:List Bool}{P:Out→Prop}(hE:EnvOk env (zo (ze 19))) (ok:PageOk kept seed root R par)
  (hl:∀r∈R,r.2.length≤900) (h1:1≤row) (h5:row<5) (hh:h.length≤1000) (x8:nb.length≤1000)
  (hP:P (.next (zaW T.cW kept an ah R) [(ah,.dicS (Z5 (z5 h (ZE R row) (ZE R (par row))))),(an,.lst (zr (nb++List.replicate (row-par row) true)))])) :
  X G (n+3) env (ZO (zu (ze 19))[3]?) (("row",.int (row:Int))::zaW T.cW kept an ah R) [(ah,.dicS (Z5 h)),(an,.lst (zr nb))] P:=by
 exact zoe T hE ok.len hl (ok.lt row h1 h5) (ok.told row h1 h5) (ok.call row h1 h5) h5 hh x8 hP
theorem zmR(T:Top G) {kept:zQ}{names:List Str}{seed:Nat}{root:Str}{an:Addr}{R:List (Str×Str)}{par:Nat→Nat}{nb:List Bool}(ok:PageOk kept seed root R par) (hk:kept.length≤100) (h0:names[0]?=some root) (hn5:names.length=5) (x8:nb.length≤500) :
  ∀env,EnvOk env (zo (ze 19))→X G (n+3) env (zu (ze 19)) [("kept",Zq kept),("names",zO names),("seed",.int (seed:Int)),("notes",.raw (.ref an))] [(an,.lst (zr nb))]
   (ZU fun d' σ'=>d'=.dicS (Z5 (Zy R par 4))∧(an,MO.lst (zr (nb++List.replicate (jH par 4) true)))∈σ'):=by
 intro env hE
 have hRl:=zbI (seed:=seed) (root:=root) hk 5 ok.short
 rw[ok.rows] at hRl
 refine zc ?_
 refine zml (zjf (zt (d:=dRs [(root,"")]) (jV (zg (Z2 (zg (zv (by walk_at "mp") zn (Zs (x:=.str root) (by decide) (by decide) (by simp[h0]))) (zg jb zj)) (by simp)) zj) (by simp)) (jh (mo:=.dicS []) zeO fun ah=>(zt (d:=zer) (zi (d:=.lst [.tup [.str "\t",.str "  "],.tup [.str "   \t",.str "  \t  "],.tup [.str " ",.str "\t"],.tup [.str "\t",.str " \t"]]) (by walk_at "mp") rfl) ⟨_,_,_,rfl,?_⟩)))) (by walk_at "ms") (by walk_at "ms") (by walk_at "ms") (ZZ rfl) (zay 0 hE (by rfl) (by kernel_rfl))
 refine zT (ρ':=zei kept names seed an ah [(root,"")]) (by walk_at "mw") ?_
 refine zc ?_
 refine JX (names:=["at"]) (bs:=qJ "at" 0 5) (fun _=>True) (fun i=>zei kept names seed an ah (qg kept seed root i)) (fun _=>[(ah,.dicS []),(an,.lst (zr nb))]) ?_ ?_ ⟨trivial,rfl,rfl⟩ ?_ ?_
 ·exact Zw (zq T hE (by kernel_rfl) (by kernel_rfl)) (zg (zi (d':=.int ((5:Nat):Int)) (zF (zq T hE (by kernel_rfl) (by kernel_rfl)) (by walk_at "mq") (ZX (.self _) (by simp;lia)) zm) (by rw[List.length_map,hn5])) zj) (Q6 (by decide)) z2
 ·exact qY hE (by kernel_rfl)
 ·intro i b _ hb
  obtain⟨hi,rfl⟩:=js hb
  rw[Nat.zero_add]
  have h1:=zbI (seed:=seed) (root:=root) hk i fun j hj=>ok.short j (Nat.lt_trans hj hi)
  exact zod T hE hk (ok.short i hi) (Nat.le_trans h1.1 (Nat.le_trans (Nat.add_le_add_left (Nat.mul_le_mul_left 100 (Nat.le_of_lt hi)) 1) (by decide))) (fun r hr=>Nat.le_trans (h1.2 r hr) (Nat.le_trans (Nat.mul_le_mul_left 60 (Nat.le_of_lt hi)) (by decide))) ⟨trivial,rfl,rfl⟩
 ·intro _
  show X _ _ _ _ (zei kept names seed an ah (qg kept seed root 5)) _ _
  rw[ok.rows]
  have hR5:=ok.len
  refine zz ?_
  refine zc ?_
  refine zc9 (names:=["name","lead"]) (ρ':=[]) (xs:=R) (bf:=fun p=>[("lead",.str p.2),("name",.str p.1)]) (c:=fun _=>true) (g:=fun p=>dWs T.cW (p.2++"x \t")) hE (by kernel_rfl) (by kernel_rfl) (by kernel_rfl) (by walk_at "mw") ?_ (zI (by kernel_rfl)) ?_ ?_ ?_ ?_ ?_ ?_
  ·exact zN (by walk_at "mp") zaF
  ·simp
  ·exact zw (by kernel_rfl)
  ·intro u1 u9 p hp
   exact zW
  ·intro u1 u9 p hp _
   exact zF (jr (u9.glob (by kernel_rfl)) T.clsW.glob (by kernel_rfl)) (zg (zk (by walk_at "mp") jb (QG (by rw[zfF];exact Nat.le_trans (Nat.add_le_add_right (hRl.2 p hp) 3) (by decide)))) zj) (zo0 T (by rw[QZ,zfF];exact Nat.le_trans (Nat.add_le_add_right (hRl.2 p hp) 3) (by decide))) (zgj T.clsW.kls)
  ·rw[hR5];decide
  rw[zl]
  refine zT (ρ':=zaW T.cW kept an ah R) (by walk_at "mw") ?_
  refine zc ?_
  refine JX (names:=["row"]) (bs:=qJ "row" 1 4) (fun _=>True) (fun _=>zaW T.cW kept an ah R) (fun i=>[(ah,.dicS (Z5 (Zy R par i))),(an,.lst (zr (nb++List.replicate (jH par i) true)))]) ?_ ?_ ⟨trivial,rfl,?_⟩ ?_ ?_
  ·exact Zw (zq T hE (by kernel_rfl) (by kernel_rfl)) (zg (zi (d':=.int ((1:Nat):Int)) (by walk_at "mp") rfl) (zg (zi (d':=.int ((5:Nat):Int)) (zF (zq T hE (by kernel_rfl) (by kernel_rfl)) (by walk_at "mq") (ZX (.self _) (by simp;lia)) zm) (by rw[List.length_map,hR5])) zj)) (j7 (by decide) (by decide)) z2
  ·exact qY hE (by kernel_rfl)
  ·show _=[(ah,MO.dicS []),(an,MO.lst (zr (nb++List.replicate 0 true)))]
   simp
  ·intro i b _ hb
   obtain⟨hi,rfl⟩:=js hb
   rw[Nat.add_comm 1 i]
   refine zpe T hE ok (fun r hr=>Nat.le_trans (hRl.2 r hr) (by decide)) (Nat.le_add_left 1 i) (Nat.succ_lt_succ hi) (Nat.le_trans (zdL R par i) (Nat.le_trans (Nat.le_of_lt hi) (by decide))) (by rw[List.length_append,List.length_replicate];exact Nat.le_trans (Nat.add_le_add x8 (Nat.le_trans (zj3 i (Nat.le_of_lt hi)) (Nat.mul_le_mul_right 5 (Nat.le_of_lt hi)))) (by decide)) ⟨trivial,rfl,?_⟩
   rw[zcA,zcw,List.append_assoc,List.replicate_append_replicate]
  ·intro _
   refine zz ?_
   refine Qe (.head ..) trivial (ρ':=([("heads",.dicS (Z5 (Zy R par 4)))]:Rho)) (.froze (by walk_at "ml") .nil) ?_
   exact zc (z8 (zt (by walk_at "mp") ⟨rfl,.head _⟩))
theorem znW(T:Top G) {kept:zQ}{names:List Str}{seed:Nat}{root:Str}{an:Addr}{R:List (Str×Str)}{par:Nat→Nat}{nb:List Bool}(ok:PageOk kept seed root R par) (hk:kept.length≤100) (h0:names[0]?=some root) (hn5:names.length=5) (x8:nb.length≤500) :
  CallM G (n+3+1) (.ref (T.fa 19)) [Zq kept,zO names,.int (seed:Int),.raw (.ref an)] an (.lst (zr nb)) (.dicS (Z5 (Zy R par 4))) (.lst (zr (nb++List.replicate (jH par 4) true))):=
 zc0 T (by decide) (by decide +kernel) (by kernel_rfl) (by kernel_rfl) (zmR T ok hk h0 hn5 x8)
end
section
open PySem PySem.W
variable {G:Gx}{n:Nat}{env:Env}{ρ:Rho}{σ:Sig}
theorem jD{α:Type}(l:List α) (lo hi st:Option Int) (h:st.getD 1>0):(qH l lo hi st).length≤l.length:=by
 unfold qH
 refine Nat.le_trans (List.length_filterMap_le _ _) (sliceRange_length_le _ _ _ _ (fun hc=>?_) fun hc=>absurd h hc)
 simp only[sliceBounds]
 simp only[h,if_true]
 constructor
 ·cases lo with
  | none=>simp
  | some i=>dsimp only;omega
 ·cases hi with
  | none=>simp
  | some i=>dsimp only;omega
noncomputable abbrev zao(l:List Int):D:=.lst (l.map .int)
noncomputable def Jt(u2:List Int) (k:Nat):List Int:=qH (qH u2 none (some 60) none) (some (k:Int)) none (some 9)
noncomputable def zaS(u2:List Int) (k:Nat):Nat:=((Jt u2 k).map fun x=>(x.fmod (10^10)).toNat).sum
noncomputable def ZJ(u2:List Int):List Nat:=zbN.zipIdx.map fun p=>p.1+zaS u2 p.2
theorem zeD(u2:List Int):(ZJ u2).length=9:=by simp[ZJ,zbN]
theorem zjJ(u2:List Int) (k:Nat):((Jt u2 k).map fun x=>x.fmod (10^10)).sum=(zaS u2 k:Int):=by
 unfold zaS
 rw[←zcH]
 congr 1
 refine List.map_congr_left fun x _=>?_
 rw[Int.toNat_of_nonneg (by rw[Int.fmod_eq_emod_of_nonneg _ (by decide)];exact Int.emod_nonneg _ (by decide))]
theorem zhy{u2:List Int}(hl:u2.length≤100) (k:Nat):zaS u2 k≤1000000000000:=by
 have h1:(Jt u2 k).length≤100:=Nat.le_trans (jD _ _ _ _ (by decide)) (Nat.le_trans (jD _ _ _ _ (by decide)) hl)
 unfold zaS
 have:∀l:List Int,(l.map fun x=>(x.fmod (10^10)).toNat).sum≤l.length*10000000000:=by
  intro l
  induction l with
  | nil=>simp
  | cons x l ih=>
   have h2:x.fmod (10^10)<10^10:=by rw[Int.fmod_eq_emod_of_nonneg _ (by decide)];exact Int.emod_lt_of_pos _ (by decide)
   rw[List.map_cons,List.sum_cons,List.length_cons];omega
 have:=this (Jt u2 k)
 omega
theorem zoa(T:Top G) {u2:List Int}{R:Out→Prop}(hE:EnvOk env (zo (ze 21))) (hl:u2.length≤100) (hs:List.lookup ("script":Str) ρ=some (zao u2)) (hR:R (.next (("sums",z6 (ZJ u2))::ρ) σ)):X1 G n env (Jk (zu (ze 21))[0]?) ρ σ R:=by
 have hlen:∀k:Nat,(Jt u2 k).length≤100:=fun k=>Nat.le_trans (jD _ _ _ _ (by decide)) (Nat.le_trans (jD _ _ _ _ (by decide)) hl)
 refine zc9 (names:=["k","own"]) (ρ':=[("script",zao u2)]) (xs:=zbN.zipIdx) (bf:=fun p=>[("own",.int ((p.1:Nat):Int)),("k",.int ((p.2:Nat):Int))]) (c:=fun _=>true) (g:=fun p=>.int ((p.1+zaS u2 p.2:Nat):Int)) hE (by kernel_rfl) (by kernel_rfl) (by kernel_rfl) (.cons "script" hs (by kernel_rfl) .nil) ?_ (zI (by kernel_rfl)) ?_ ?_ ?_ ?_ ?_ ?_
 ·refine Qz (Zw (zq T hE (by kernel_rfl) (by kernel_rfl)) (by walk_at "mq") (zbw rfl rfl) z2) ?_
  rfl
 ·simp
 ·exact zw (by kernel_rfl)
 ·intro u1 u9 p hp
  exact zW
 ·intro u1 u9 p hp _
  refine zi (zk (by walk_at "mp") (zF (zq T u9 (by kernel_rfl) (by kernel_rfl)) (zg (d:=.lst (((Jt u2 p.2).map fun x=>x.fmod (10^10)).map .int)) (zi (Z3 (names:=["x"]) (ρ':=[]) (xs:=Jt u2 p.2) (bf:=fun x=>[("x",.int x)]) (c:=fun _=>true) (g:=fun x=>.int (x.fmod (10^10))) u9 (by kernel_rfl) (by walk_at "mw") ?_ (zI (by kernel_rfl)) ?_ ?_ ?_ ?_ ?_) ?_) zj) (J8 (.self _)) zm) ZP) ?_
  ·refine zN (d:=.lst ((Jt u2 p.2).map .int)) (zi (QU (QU (by walk_at "mp") (.self _) ql (Q2 (by walk_at "mp")) ql (by decide) (by simp;lia)) (.self _) (Q2 (by walk_at "mp")) ql (Q2 (by walk_at "mp")) (by decide) ?_) ?_) Zj
   ·exact Nat.le_trans (jD _ _ _ _ (by decide)) (by simp;lia)
   ·rw[Q1,Q1];rfl
  ·simp
  ·exact zw (by kernel_rfl)
  ·intro env'' hE'' x hx
   exact zW
  ·intro env'' hE'' x hx _
   exact zk (by walk_at "mp") (zk zn zn (zeu (by decide) (by decide +kernel))) (zcq (by decide))
  ·have:=hlen p.2;lia
  ·rw[zl,List.map_map];rfl
  ·rw[zjJ];simp
 ·decide
 ·rw[zl]
  have e:zbN.zipIdx.map (fun p=>D.int ((p.1+zaS u2 p.2:Nat):Int))=(ZJ u2).map fun(k:Nat)=>D.int (k:Int):=by unfold ZJ;rw[List.map_map];rfl
  rw[e];exact hR
end
section
open PySem PySem.W
variable {G:Gx}{n:Nat}{env:Env}{ρ:Rho}{σ:Sig}
theorem zg1{K K' α:Type} [DecidableEq K] [DecidableEq K'] {κ:K→K'} (hκ:∀a b,κ a=κ b→a=b) {f:α→D}{l:List (K×α)}{k:K}{v:α}:Zl (l.map fun p=>(κ p.1,f p.2)) (κ k) (f v)=(z5 l k v).map fun p=>(κ p.1,f p.2):=by
 have hd:∀a b,decide (κ a=κ b)=decide (a=b):=fun a b=>decide_eq_decide.mpr ⟨hκ a b,fun e=>by rw[e]⟩
 unfold Zl z5
 have e:((l.map fun p=>(κ p.1,f p.2)).any fun p=>decide (p.1=κ k))=l.any fun p=>decide (p.1=k):=by
  rw[List.any_map]
  congr 1
  funext p
  exact hd _ _
 rw[e]
 by_cases h:(l.any fun p=>decide (p.1=k))=true
 ·rw[if_pos h,if_pos h,List.map_map,List.map_map]
  refine List.map_congr_left fun p hp=>?_
  by_cases e:p.1=k
  ·simp[e]
  ·have:¬κ p.1=κ k:=fun q=>e (hκ _ _ q)
   simp[e,this]
 ·rw[if_neg h,if_neg h];simp
theorem zbD{K K' α β:Type} [DecidableEq K] [DecidableEq K'] {κ:K→K'} (hκ:∀a b,κ a=κ b→a=b) {f:α→D}(key:β→K) (val:β→α):∀(xs:List β) (acc:List (K×α)),
  qj (acc.map fun p=>(κ p.1,f p.2)) (xs.flatMap fun y=>[(κ (key y),f (val y))])=(xs.foldl (fun acc y=>z5 acc (key y) (val y)) acc).map fun p=>(κ p.1,f p.2)
 | [],acc=>rfl
 | y::xs,acc=>by
  rw[List.flatMap_cons,List.foldl_cons,←zbD hκ key val xs,←zg1 hκ]
  rfl
noncomputable abbrev dC3(r:ZG):D:=.tup [.int (r.1:Int),.int (r.2.1:Int),.int (r.2.2:Int)]
noncomputable def qQ(s:List Nat) (k:Nat):List ZG:=zee (s.getD (k-1) 0) (s.getD (k+3) 0) k
noncomputable def ZD(s:List Nat) (i:Nat):List ZG:=(List.range i).flatMap fun j=>qQ s (j+1)
noncomputable def Zg(s:List Nat) (i:Nat):List (List Row):=[]::(List.range i).map fun j=>QT (qQ s (j+1))
theorem zaq(s:List Nat) (i:Nat):ZD s (i+1)=ZD s i++qQ s (i+1):=by
 unfold ZD;rw[List.range_succ,List.flatMap_append];simp
theorem zf4(s:List Nat) (i:Nat):Zg s (i+1)=Zg s i++[QT (qQ s (i+1))]:=by
 unfold Zg;rw[List.range_succ,List.map_append];rfl
theorem zbq(s:List Nat) (i:Nat):(ZD s i).length=3*i:=by
 induction i with
 | zero=>rfl
 | succ i ih=>rw[zaq,List.length_append,ih];show _+3=_;lia
noncomputable abbrev zf1(u2:List Int) (s:List Nat) (base:Nat) (way:Int) (ac ap:Addr):Rho:=
 [("prices",.raw (.ref ap)),("calls",.raw (.ref ac)),("way",.int way),("base",.int (base:Int)),("sums",z6 s),("script",zao u2)]
theorem zom(T:Top G) {u2:List Int}{s:List Nat}{base k:Nat}{way:Int}{ac ap:Addr}{P:Out→Prop}(hE:EnvOk env (zo (ze 21))) (hs9:s.length=9) (hk1:1≤k) (hk5:k<5)
  (hP:P (.next (zf1 u2 s base way ac ap) [(ap,.lst ((Zg s k).map dPr)),(ac,.lst ((ZD s k).map dC3))])) :
  X G n env (ZO (zu (ze 21))[2]?) (("k",.int (k:Int))::zf1 u2 s base way ac ap) [(ap,.lst ((Zg s (k-1)).map dPr)),(ac,.lst ((ZD s (k-1)).map dC3))] P:=by
 have hcl:=zbq s (k-1)
 have gets:∀j:Nat,j<9→∀τ,GetJ G n τ (z6 s) (.int (j:Int)) (.int ((s.getD j 0:Nat):Int)):=fun j hj τ=>J6 (by lia) (by lia)
 refine zc ?_
 refine zc8 (Jf (zt (d:=.int ((s.getD (k-1) 0:Nat):Int)) (zv (by walk_at "mp") (zk (d:=.int ((k-1:Nat):Int)) (by walk_at "mp") zn (Zt jy (by congr 1;lia))) (gets _ (by lia) _)) (zt (d:=.int ((s.getD (k+3) 0:Nat):Int)) (zv (by walk_at "mp") (zk (d:=.int ((k+3:Nat):Int)) (by walk_at "mp") zn (Zt ZP (by congr 1))) (gets _ (by lia) _)) ⟨_,_,rfl,?_⟩))) (by walk_at "ms") (by walk_at "ms") (ZZ rfl) (zbB (hE.kind _ _ (by kernel_rfl) (by decide)) (hE.kind _ _ (by kernel_rfl) (by decide)) hE.block (by kernel_rfl) (by decide +kernel))
 have hrow:qQ s k=zee (s.getD (k-1) 0) (s.getD (k+3) 0) k:=rfl
 generalize s.getD (k-1) 0=a at *
 generalize s.getD (k+3) 0=p at *
 refine zc ?_
 refine z4 (by walk_at "ms") (zt (d:=.lst ((qQ s k).map dC3)) (zi (d:=.lst [.tup [.int ((a%k:Nat):Int),.int (k:Int),.int ((p%40:Nat):Int)],.tup [.int ((a/4%5:Nat):Int),.int (k:Int),.int ((p/40%40:Nat):Int)],.tup [.int ((a/20%5:Nat):Int),.int (k:Int),.int ((p/1600:Nat):Int)]])
  (jV (zy rfl (Z2 (zy rfl (zk (by walk_at "mp") (by walk_at "mp") (qU (by lia))) (zy rfl (by walk_at "mp") (zy rfl (zk (by walk_at "mp") (zn (i:=((40:Nat):Int))) (qU (by decide))) zj))) (by simp))
   (zy rfl (Z2 (zy rfl (zk (zk (by walk_at "mp") (zn (i:=((4:Nat):Int))) (qV (by decide) (by decide))) (zn (i:=((5:Nat):Int))) (qU (by decide))) (zy rfl (by walk_at "mp") (zy rfl (zk (zk (by walk_at "mp") (zn (i:=((40:Nat):Int))) (qV (by decide) (by decide))) (zn (i:=((40:Nat):Int))) (qU (by decide))) zj))) (by simp))
   (zy rfl (Z2 (zy rfl (zk (zk (by walk_at "mp") (zn (i:=((20:Nat):Int))) (qV (by decide) (by decide))) (zn (i:=((5:Nat):Int))) (qU (by decide))) (zy rfl (by walk_at "mp") (zy rfl (zk (by walk_at "mp") (zn (i:=((1600:Nat):Int))) (qV (by decide) (by decide))) zj))) (by simp)) zj))) (by simp)) (by rw[hrow];rfl)) ?_)
 have hrl:(qQ s k).length=3:=by rw[hrow];rfl
 have hsc:ZD s k=ZD s (k-1)++qQ s k:=by have:=zaq s (k-1);rwa[show k-1+1=k by lia] at this
 have hsp:Zg s k=Zg s (k-1)++[QT (qQ s k)]:=by have:=zf4 s (k-1);rwa[show k-1+1=k by lia] at this
 clear hrow
 rw[hsc,hsp] at hP
 generalize qQ s k=row at *
 refine zc ?_
 refine Jx hE (Z8 za5 (by walk_at "mp") (Z9 (.lst (.tail _ (.head _)))) (Zn (zt (by walk_at "mp") (qw (jQ (.tail _ (.head ..)) (.self _) ?_ (by simp;lia))))))
 rw[←List.map_append]
 refine zc ?_
 refine Jx hE (Z8 qR (by walk_at "mp") (Z9 (.lst (.head _))) (Zn (zt (d:=dPr (QT row)) (zi (zoA (names:=["tail","name","price"]) (ρ':=[("row",.lst (row.map dC3))]) (xs:=row) (bf:=fun r=>[("price",.int (r.2.2:Int)),("name",.int (r.2.1:Int)),("tail",.int (r.1:Int))]) (c:=fun _=>true) (of:=fun r=>[((r.1:Int),.tup [.int (((row.map (·.1)).countP (fun t=>decide (t=r.1)):Nat):Int),.int (((row.filter fun c=>decide (c.1=r.1)).map fun c=>((c.2.2:Nat):Int)).sum)])]) hE (by kernel_rfl) (by walk_at "mw") ?_ (zI (by kernel_rfl)) ?_ ?_ ?_ ?_ ?_) ?_) (qw (ZS (.head ..) ?_ ?_)))))
 ·exact zN (by walk_at "mp") znz
 ·simp
 ·exact zw (by kernel_rfl)
 ·intro u1 u9 r hr
  exact zW
 ·intro u1 W hI r hr _
  refine zih rfl (by walk_at "mp") ?_
  refine Z2 (zy rfl (zi (Qs zns (d₀:=.lst ((row.map (·.1)).map fun(t:Nat)=>.int (t:Int))) (zi (Z3 (names:=["call"]) (ρ':=[]) (xs:=row) (bf:=fun r=>[("call",dC3 r)]) (c:=fun _=>true) (g:=fun r=>.int (r.1:Int)) hI.ok (by kernel_rfl) (by walk_at "mw") ?_ (zI (by kernel_rfl)) ?_ ?_ ?_ ?_ ?_) ?_) (Z9 (.self _)) (by walk_at "mq") (zi3 (k:=0) (.self _) ?_)) ?_) (zy rfl (zF (zq T hI.ok (by kernel_rfl) (by kernel_rfl)) (zg (d:=zao ((row.filter fun c=>decide (c.1=r.1)).map fun c=>((c.2.2:Nat):Int))) (zi (Z3 (names:=["call"]) (ρ':=[("tail",.int (r.1:Int))]) (xs:=row) (bf:=fun c=>[("call",dC3 c)]) (c:=fun c=>decide (c.1=r.1)) (g:=fun c=>.int (c.2.2:Int)) hI.ok (by kernel_rfl) (by walk_at "mw") ?_ (zI (by kernel_rfl)) ?_ ?_ ?_ ?_ ?_) ?_) zj) (J8 (.self _)) zm) zj)) (by simp)
  ·exact zN (by walk_at "mp") Zj
  ·simp
  ·exact zw (by kernel_rfl)
  ·intro env'' hE'' c hc
   exact zW
  ·intro env'' hE'' c hc _
   exact zv (by walk_at "mp") zn (qS (by decide) (by decide) rfl)
  ·lia
  ·rw[zl,List.map_map];rfl
  ·intro x hx
   refine zd (List.mem_map.mp hx) fun t _ q1_=>?_
   subst q1_
   exact .int
  ·congr 1
   rw[List.countP_map]
   congr 2
   funext t
   show eqD (.int (t:Int)) (.int (r.1:Int))=decide (t=r.1)
   rw[zlZ]
   exact decide_eq_decide.mpr (by lia)
  ·exact zN (by walk_at "mp") Zj
  ·simp
  ·exact zw (by kernel_rfl)
  ·intro env'' hE'' c hc
   refine ZM (qf (zU (zv (by walk_at "mp") zn (qS (x:=.int (c.1:Int)) (by decide) (by decide) rfl)) (by walk_at "mp") qK) ?_)
   rw[qe]
   exact decide_eq_decide.mpr (by lia)
  ·intro env'' hE'' c hc _
   exact zv (by walk_at "mp") zn (qS (by decide) (by decide) rfl)
  ·lia
  ·show D.lst _=D.lst (List.map _ (List.map _ _))
   rw[List.map_map];rfl
 ·rw[zl,zbf];lia
 ·rw[zl]
  show D.dicI _=D.dicI _
  congr 1
  exact zbD (κ:=fun(t:Nat)=>(t:Int)) (fun a b e=>by lia) (f:=fun v:Int×Int=>D.tup [.int v.1,.int v.2]) (fun r:ZG=>r.1) (fun r=>((((row.map (·.1)).countP (fun t=>decide (t=r.1)):Nat):Int),(((row.filter fun c=>decide (c.1=r.1)).map fun c=>((c.2.2:Nat):Int)).sum))) row []
 ·show X _ _ _ _ _ _ _
  rw[show([dPr (QT row)]:List D)=[QT row].map dPr from rfl,←List.map_append]
  exact zT (ρ':=zf1 u2 s base way ac ap) (by walk_at "mw") (zz hP)
 ·simp[Zg];lia
end
section
open PySem PySem.W
variable {G:Gx}{n:Nat}{env:Env}{ρ:Rho}{σ:Sig}{A:Around}
theorem zmK(T:Top G) {x fx:Str}{px pf p1 p2:Pos}{a1 a2:Expr}{rows:List (List Nat)}{torn:Nat}{P:Out→Prop}(hr:∀r∈rows,r.length=3) (hx:∀r∈rows,∀x∈r,x<64^6) (hl:rows.length≤1000) (ht:torn≤2)
  (hA:AOk (n+2) A) (hfr:A.frames=some [env]) (u7:env.frame=some env.locals) (hf:PE G (n+2) env (.Name fx pf) ρ σ (.raw (.ref (T.fa 12)))) (ha:PEs G (n+2) env [a1,a2] ρ σ [zdU rows,.int (torn:Int)]) (hk:zG env x)
  (hs:qr [a1,a2])
  (he:∀env,eval (.Call (.Name fx pf) [a1,a2] [] p1) env=(do callWith p1 (←eval (.Name fx pf) env) [] (backTo p1 (starEach [a1,a2] env)) (backToKw p1 (keywordEach [] env))))
  (hP:P (.next ((x,z6 rows.flatten)::ρ) σ)):XA1 G A env (.Assign [.Name x px] (.Call (.Name fx pf) [a1,a2] [] p1) p2) ρ σ P:=.mk fun F s Q E H hQ=>by
 refine wpAny_Assign_Name ?_ (zaO rfl)
 rw[he]
 refine wpAny_bind (hf.out A F s _ E hA H fun v F₁ s₁ g₁ V₁=>?_)
 obtain rfl:=V₁.inv
 refine jn hs (ZN T (i:=12) (by decide)) (ha.out A F₁ s₁ _ E p1 hA (H.grow g₁) fun vs F₂ s₂ g₂ V₂=>⟨⟨F₂,((H.grow g₁).grow g₂).toBase⟩,?_⟩)
 refine zkM T hr hx hl ht hA hfr u7 ((H.grow g₁).grow g₂) V₂ fun v F' s' V₃ H₃ g₃=>?_
 exact QL H₃ V₃ hk fun s₄ g₄ H₄=>hQ _ .next F' s₄ hP (((Step.pure (g₁.trans g₂)).trans g₃).trans (.of g₄ zbF fun a h=>.inl h)) H₄
theorem zdB{k:Nat}:∀(l m:List Int),Likes k (l.map .int) (m.map .int)
 | [],_=>.nilL
 | _::_,[]=>.nilR
 | a::l,b::m=>.cons .int (zdB l m)
theorem ze7:∀l:List Int,qz (l.map .int) (l.map .int)=true
 | []=>rfl
 | a::l=>by simp[qz,eqD,ze7 l]
noncomputable abbrev dCs(l:List ZG):D:=.lst (l.map dC3)
theorem zl5(l:List ZG):dCs l=zdU (l.map fun r=>[r.1,r.2.1,r.2.2]):=by
 show D.lst _=D.lst (List.map _ (List.map _ _))
 rw[List.map_map];rfl
theorem zkr(l:List ZG):(l.map fun r=>[r.1,r.2.1,r.2.2]).flatten=qI l:=by
 unfold qI;rw[List.flatMap_def]
noncomputable def Z6(s:List Nat):Nat:=s.getD 8 0%28
noncomputable def q9(s:List Nat):Int:=1-((s.getD 8 0/28%2:Nat):Int)*2
noncomputable def Jl(s:List Nat):Nat:=s.getD 8 0/168
theorem zjs(s:List Nat):q9 s=1∨q9 s=-1:=by
 unfold q9
 have:s.getD 8 0/28%2<2:=Nat.mod_lt _ (by decide)
 lia
noncomputable abbrev zlu(s:List Nat):Rho:=[("numbers",z6 (qI (ZD s 4))),("prices",.lst ((Zg s 4).map dPr)),("way",.int (q9 s)),("base",.int (Z6 s:Int)),("sums",z6 s)]
theorem zgG{s:List Nat}(hs:∀k,s.getD k 0≤2000000000000):∀r∈ZD s 4,r.1<5∧r.2.1<5∧r.2.2<64^6:=by
 intro r hr
 unfold ZD at hr
 refine zd (List.mem_flatMap.mp hr) fun j hj hr=>?_
 have hj':=List.mem_range.mp hj
 unfold qQ zee at hr
 have h1:=hs (j+1-1)
 have h2:=hs (j+1+3)
 simp only[List.mem_cons,List.not_mem_nil,or_false] at hr
 generalize s.getD (j+1-1) 0=a at *
 generalize s.getD (j+1+3) 0=p at *
 rcases hr with rfl | rfl | rfl
 ·refine⟨Nat.lt_of_lt_of_le (Nat.mod_lt _ (by lia)) (by lia),by show j+1<5;lia,?_⟩
  show p%40<_
  lia
 ·refine⟨by show a/4%5<5;lia,by show j+1<5;lia,?_⟩
  show p/40%40<_
  lia
 ·refine⟨by show a/20%5<5;lia,by show j+1<5;lia,?_⟩
  show p/1600<_
  lia
theorem zmS(T:Top G) {u2:List Int}{P:Out→Prop}(hE:EnvOk env (zo (ze 21))) (hA:AOk (n+5) A) (hfr:A.frames=some [env]) (u7:env.frame=some env.locals) (hl:u2.length≤100)
  (h:XA G A env ((zu (ze 21)).drop 5) (zlu (ZJ u2)) [] P):XA G A env (zu (ze 21)) [("script",zao u2)] [] P:=by
 have hs9:=zeD u2
 refine Qn (JW hA (zoa T hE hl (by walk_at "ml") ?_))
 have hsl:∀k,(ZJ u2).getD k 0≤2000000000000:=fun k=>by
  rw[List.getD_eq_getElem?_getD]
  cases e:(ZJ u2)[k]? with
  | none=>simp
  | some x=>
   have hx:=List.mem_of_getElem? e
   unfold ZJ at hx
   refine zd (List.mem_map.mp hx) fun p hp q22_=>?_
   subst q22_
   have h1:=zhy hl p.2
   have h2:p.1∈zbN:=by
    rw[List.mem_zipIdx_iff_getElem?] at hp
    exact List.mem_of_getElem? hp
   have h3:∀y∈zbN,y≤1000000:=by decide
   have:=h3 _ h2
   show p.1+zaS u2 p.2≤_
   lia
 generalize ZJ u2=s at *
 have gets:∀j:Nat,j<9→∀τ,GetJ G (n+5) τ (z6 s) (.int (j:Int)) (.int ((s.getD j 0:Nat):Int)):=fun j hj τ=>J6 (by lia) (by lia)
 have g8:∀τ,GetJ G (n+5) τ (z6 s) (.int 8) (.int ((s.getD 8 0:Nat):Int)):=fun τ=>gets 8 (by decide) τ
 refine Qn (JW hA ?_)
 refine zpa (zn4 (zt (d:=.int (Z6 s:Int)) (zk (zv (by walk_at "mp") (by walk_at "mp") (g8 _)) (zn (i:=((28:Nat):Int))) (qU (by decide))) (zt (d:=.int (q9 s)) (zk zn (zk (zk (zk (zv (by walk_at "mp") (by walk_at "mp") (g8 _)) (zn (i:=((28:Nat):Int))) (qV (by decide) (by decide))) (zn (i:=((2:Nat):Int))) (qU (by decide))) zn (JV ?_)) jy) (jh (mo:=.lst []) (Qg (by walk_at "mq")) fun ac=>(jh (mo:=.lst [dPr []]) (Qg (zy rfl zj0 zj)) fun ap=>⟨_,_,_,_,rfl,?_⟩))))) (by walk_at "ms") (by walk_at "ms") (by walk_at "ms") (by walk_at "ms") (ZZ rfl) (zay 0 hE (by rfl) (by kernel_rfl))
 ·refine IntMulOk.of_left (intBits_le_64 (by lia) ?_)
  have:s.getD 8 0/28%2<2:=Nat.mod_lt _ (by decide)
  lia
 refine zau (ρ':=zf1 u2 s (Z6 s) (q9 s) ac ap) (by walk_at "mw") ?_
 refine Qn (JW hA ?_)
 refine zab (names:=["k"]) (bs:=qJ "k" 1 4) (fun i ρ' σ'=>ρ'=zf1 u2 s (Z6 s) (q9 s) ac ap∧σ'=[(ap,.lst ((Zg s i).map dPr)),(ac,.lst ((ZD s i).map dC3))]) ?_ ?_ ⟨rfl,rfl⟩ ?_ ?_
 ·exact Zw (zq T hE (by kernel_rfl) (by kernel_rfl)) (zg (zi (d':=.int ((1:Nat):Int)) (by walk_at "mp") rfl) (zg (zi (d':=.int ((5:Nat):Int)) (by walk_at "mp") rfl) zj)) (j7 (by decide) (by decide)) z2
 ·exact qY hE (by kernel_rfl)
 ·rintro i b _ _ ⟨rfl,rfl⟩ hb
  obtain⟨hi,rfl⟩:=js hb
  obtain⟨k,hk⟩:∃k,k=1+i:=⟨_,rfl⟩
  rw[←hk]
  obtain rfl:i=k-1:=by lia
  refine zom T hE hs9 (by lia) (by lia) ?_
  rw[show k-1+1=k by lia]
  exact⟨rfl,rfl⟩
 rintro _ _ ⟨rfl,rfl⟩
 rw[show(qJ "k" 1 4).length=4 from rfl]
 refine Qe (.head ..) trivial (ρ':=([("prices",.lst ((Zg s 4).map dPr)),("calls",.raw (.ref ac)),("way",.int (q9 s)),("base",.int (Z6 s:Int)),("sums",z6 s)]:Rho)) (.froze (by walk_at "ml") (by walk_at "mw")) ?_
 refine Qe (.head ..) trivial (ρ':=([("prices",.lst ((Zg s 4).map dPr)),("calls",dCs (ZD s 4)),("way",.int (q9 s)),("base",.int (Z6 s:Int)),("sums",z6 s)]:Rho)) (.same (by walk_at "ml") (.froze (by walk_at "ml") (by walk_at "mw"))) (zz ?_)
 have hlt:=zgG hsl
 have hcl:=zbq s 4
 refine Qn ?_
 refine zmK T (n:=n+3) (rows:=(ZD s 4).map fun r=>[r.1,r.2.1,r.2.2]) (torn:=s.getD 8 0/56%3) ?_ ?_ ?_ (by have:s.getD 8 0/56%3<3:=Nat.mod_lt _ (by decide);lia) hA hfr u7 (qZ T hE 12 (by kernel_rfl)) (zy rfl (zi (d:=dCs (ZD s 4)) (by walk_at "mp") (zl5 _)) (zy rfl (zk (zk (zv (by walk_at "mp") (by walk_at "mp") (g8 _)) (zn (i:=((56:Nat):Int))) (qV (by decide) (by decide))) (zn (i:=((3:Nat):Int))) (qU (by decide))) zj)) (by walk_at "ms") (fun _ _=>rfl) (by intro _;rfl) ?_
 ·intro r hr
  refine zd (List.mem_map.mp hr) fun c _ q14_=>?_
  subst q14_
  rfl
 ·intro r hr x hx
  refine zd (List.mem_map.mp hr) fun c hc q13_=>?_
  subst q13_
  refine z9 (hlt c hc) fun h1 h2 h3=>?_
  simp only[List.mem_cons,List.not_mem_nil,or_false] at hx
  rcases hx with rfl | rfl | rfl
  ·exact Nat.lt_of_lt_of_le h1 (by decide)
  ·exact Nat.lt_of_lt_of_le h2 (by decide)
  ·exact h3
 ·rw[List.length_map];lia
 rw[zkr]
 refine Qn (JW hA ?_)
 refine Qt (b:=false) (qf (zU (d₁:=z6 (qI (ZD s 4))) (d₂:=z6 (qI (ZD s 4))) (by walk_at "mp") (zi (zix (names:=["call"]) (ρ':=[]) (xs:=ZD s 4) (bf:=fun r=>[("call",dC3 r)]) (c:=fun _=>true) (of:=fun r=>[.int (r.1:Int),.int (r.2.1:Int),.int (r.2.2:Int)]) hE (by kernel_rfl) (by walk_at "mw") ?_ (zI (by kernel_rfl)) ?_ ?_ ?_ ?_ ?_) ?_) (by rw[zdW];exact zbm (k:=0) (.self _) (.self _) (zdB _ _))) (by rw[ze7];rfl)) (fun h=>by cases h) (fun _=>?_)
 ·exact zN (by walk_at "mp") Zj
 ·simp
 ·exact zw (by kernel_rfl)
 ·intro u1 u9 r hr
  exact zW
 ·intro u1 W hI r hr _
  refine QQ (Qu (names:=["number"]) (xs:=[r.1,r.2.1,r.2.2]) (bf:=fun(x:Nat)=>[("number",.int (x:Int))]) (c:=fun _=>true) (of:=fun x=>[.int (x:Int)]) hI rfl (by rfl) rfl (by intro _;rfl) ?_ (zI (by kernel_rfl)) (by simp) (zw (by kernel_rfl)) (fun p hp=>zW) fun p hp _=>?_) (by rfl)
  ·exact zN (d:=dC3 r) (by walk_at "mp") zkc
  ·exact QP rfl (by walk_at "mp")
 ·rw[zl]
  have:=jJ (f:=fun r:ZG=>[D.int (r.1:Int),.int (r.2.1:Int),.int (r.2.2:Int)]) (k:=3) (l:=ZD s 4) fun r hr=>by simp
  lia
 ·rw[zl]
  show D.lst _=D.lst _
  unfold qI
  rw[List.map_flatMap];rfl
 ·refine zz ?_
  exact zau (ρ':=zlu s) (by walk_at "mw") h
end
section
open PySem PySem.W
variable {G:Gx}{n:Nat}{env:Env}{ρ:Rho}{σ:Sig}{A:Around}
noncomputable def qO(names:List Str) (t:zar):Zm:=names.map fun x=>(x,(zh t x).map fun p=>(p.1,p.2.2))
theorem zne(names:List Str) (t:zar):D.dicS (names.map fun x=>(x,zZ ((zh t x).map fun p=>(p.1,p.2.2))))=ZL (qO names t):=by
 show _=D.dicS (List.map (fun p:Str×List (Str×Int)=>(p.1,zZ p.2)) (List.map (fun x=>(x,(zh t x).map fun p=>(p.1,p.2.2))) names))
 rw[List.map_map];rfl
noncomputable def zp(s:List Nat) (k:Nat):List Row:=(Zg s 4).getD k []
noncomputable abbrev zb(s:List Nat):List Str:=za (Z6 s)
noncomputable def z1(s:List Nat):zar:=jB (zb s) (ZD s 4)
noncomputable def Ze(s:List Nat):PS:=Zc (zb s) (q9 s) (qO (zb s) (z1 s)) 7
noncomputable def Zx(s:List Nat):zQ:=zck (zb s) ((zb s).getD 0 "") (Ze s).freed
structure DrawOk (s:List Nat):Prop where
 tget:∀x∈zb s,zX (z1 s) x=some (zh (z1 s) x)
 tnd:∀x,((zh (z1 s) x).map (·.1)).Nodup
 tlen:∀x,(zh (z1 s) x).length≤5
 pnd:∀k,((zp s k).map (·.1)).Nodup∧(zp s k).length≤5∧∀p∈zp s k,p.1<5
 tabs:z1 s=(List.range 5).map fun k=>((zb s).getD k "",(zp s k).map fun p=>((zb s).getD p.1 "",p.2))
 plain:qO (zb s) (z1 s)=(List.range 5).map fun k=>((zb s).getD k "",(zp s k).map fun p=>((zb s).getD p.1 "",p.2.2))
 paid:PaidOk (zb s) (qO (zb s) (z1 s)) []
theorem j3(s:List Nat):Z6 s≤27:=by unfold Z6;lia
theorem zae{s:List Nat}{i j:Nat}(hi:i<5) (hj:j<5) (h:(zb s).getD i ""=(zb s).getD j ""):i=j:=by
 have hb:=j3 s
 have e:∀k,k<5→(zb s).getD k ""=ZF (Z6 s+k):=fun k hk=>by rw[List.getD_eq_getElem?_getD,j9 hk];rfl
 rw[e i hi,e j hj] at h
 have:=zcU _ (by lia) _ (by lia) h
 lia
theorem zaZ{s:List Nat}{e1 e2:Expr}{p1:Pos}{k:Nat}(hk:k<5) (h1:PE G n env e1 ρ σ (zO (zb s))) (h2:PE G n env e2 ρ σ (.int (k:Int))):PE G n env (.Subscript e1 e2 p1) ρ σ (.str ((zb s).getD k "")):=
 zv h1 h2 (Zs (by lia) (by lia) (by rw[Int.toNat_natCast];exact zbC (by rw[z7];exact hk)))
theorem zad{s:List Nat}{e1 e2:Expr}{p1:Pos}{k:Nat}(hk:k<5) (h1:PE G n env e1 ρ σ (.lst ((Zg s 4).map dPr))) (h2:PE G n env e2 ρ σ (.int (k:Int))):PE G n env (.Subscript e1 e2 p1) ρ σ (dPr (zp s k)):=by
 refine zv h1 h2 (Zs (by lia) (by lia) ?_)
 have hl:(Zg s 4).length=5:=by simp[Zg]
 rw[Int.toNat_natCast,List.getElem?_map,List.getElem?_eq_getElem (by lia)]
 unfold zp
 rw[List.getD_eq_getElem?_getD,List.getElem?_eq_getElem (by lia)]
 rfl
theorem zhW{l:List Row}{p:Row}(hn:(l.map (·.1)).Nodup) (h:p∈l):((l.map fun p=>((p.1:Int),D.tup [.int p.2.1,.int p.2.2])).find? fun q=>decide (q.1=(p.1:Int))).map (·.2)=some (.tup [.int p.2.1,.int p.2.2]):=by
 induction l with
 | nil=>cases h
 | cons a l ih=>
  rw[List.map_cons,List.nodup_cons] at hn
  rw[List.map_cons,List.find?_cons]
  rcases List.mem_cons.mp h with rfl | h
  ·simp
  ·have hne:¬a.1=p.1:=fun e=>hn.1 (e▸List.mem_map_of_mem (f:=(·.1)) h)
   have:¬((a.1:Int)=(p.1:Int)):=by lia
   simp only[this,decide_false]
   exact ih hn.2 h
theorem zlx{k:Nat}(l:List (Str×(Int×Int))):Pure (k+2) (qi l):=.dicS fun p hp=>by
 refine zd (List.mem_map.mp hp) fun q _ q1_=>?_
 subst q1_
 exact .like (.tup (.cons .int (.cons .int .nil)))
theorem zeN{k:Nat}(l:List (Str×Int)):Pure (k+1) (zZ l):=.dicS fun p hp=>by
 refine zd (List.mem_map.mp hp) fun q _ q2_=>?_
 subst q2_
 exact .like .int
noncomputable abbrev zlt(s:List Nat) (an:Addr):Rho:=[("plain",ZL (qO (zb s) (z1 s))),("tables",Jb (z1 s)),("names",zO (zb s)),("notes",.raw (.ref an)),("prices",.lst ((Zg s 4).map dPr)),("way",.int (q9 s)),("base",.int (Z6 s:Int)),("sums",z6 s)]
theorem zoh(T:Top G) {s:List Nat}{P:Out→Prop}(hE:EnvOk env (zo (ze 21))) (ok:DrawOk s) (hlt:∀r∈ZD s 4,r.1<5∧r.2.1<5∧r.2.2<64^6)
  (h:∀an,X G (n+5) env ((zu (ze 21)).drop 8) (zlt s an) [(an,.lst (zr []))] P):X G (n+5) env ((zu (ze 21)).drop 5) (zlu s) [] P:=by
 have hb:=j3 s
 have hn5:(zb s).length=5:=z7 (Z6 s)
 have hcl:=zbq s 4
 refine zc ?_
 refine zc7 (Jf (zt (d:=zO (zb s)) (zi (Z3 (names:=["k"]) (ρ':=[("base",.int (Z6 s:Int))]) (xs:=List.range 5) (bf:=fun(i:Nat)=>[("k",.int ((0+i:Nat):Int))]) (c:=fun _=>true) (g:=fun k=>.str (ZF (Z6 s+k))) hE (by kernel_rfl) (by walk_at "mw") ?_ (zI (by kernel_rfl)) ?_ ?_ ?_ ?_ ?_) ?_) (jh (mo:=.lst []) (Qg (by walk_at "mq")) fun an=>⟨_,_,rfl,?_⟩))) (by walk_at "ms") (by walk_at "ms") (ZZ rfl) (zay 0 hE (by rfl) (by kernel_rfl))
 ·exact Zw (zq T hE (by kernel_rfl) (by kernel_rfl)) (zy rfl (zn (i:=((5:Nat):Int))) zj) (Q6 (by decide)) z2
 ·simp
 ·exact zw (by kernel_rfl)
 ·intro u1 u9 k hk
  exact zW
 ·intro u1 u9 k hk _
  have hk5:=List.mem_range.mp hk
  rw[Nat.zero_add]
  exact zF (qZ T u9 13 (by kernel_rfl)) (zy rfl (zk (by walk_at "mp") (by walk_at "mp") zc1) zj) (zo4 T (by lia)) (ZN T (by decide))
 ·decide
 ·rw[zl]
  show D.lst _=D.lst _
  unfold zb za
  rw[List.map_map];rfl
 refine zc ?_
 refine z4 (by walk_at "ms") (zt (d:=Jb (z1 s)) (zF (qZ T hE 14 (by kernel_rfl)) (by walk_at "mq") (zmb T (qG hb) (by lia) (by lia) (fun r hr=>by have:=hlt r hr;lia)) (ZN T (by decide))) ?_)
 have htget:∀x∈zb s,∀τ,GetJ G (n+5) τ (Jb (z1 s)) (.str x) (qi (zh (z1 s) x)):=fun x hx τ=>qo (.self _) (qp (ok.tget x hx))
 refine zc ?_
 refine zbA hE (by kernel_rfl) ?_
 refine zt (d:=ZL (qO (zb s) (z1 s))) (zi (Qq (names:=["name"]) (ρ':=[("tables",Jb (z1 s))]) (xs:=zb s) (bf:=fun x=>[("name",.str x)]) (c:=fun _=>true) (kf:=fun x=>x) (g:=fun x=>zZ ((zh (z1 s) x).map fun p=>(p.1,p.2.2))) hE (by kernel_rfl) (by walk_at "mw") ?_ (zI (by kernel_rfl)) ?_ ?_ ?_ ?_ ?_ ?_ ?_) ?_) ?_
 ·exact zN (by walk_at "mp") Zj
 ·simp
 ·exact zw (by kernel_rfl)
 ·intro u1 u9 x hx
  exact zW
 ·intro u1 u9 x hx _
  walk_at "mp"
 ·intro u1 u9 x hx _
  refine zi (Qq (names:=["caller"]) (ρ':=[("name",.str x),("tables",Jb (z1 s))]) (xs:=zh (z1 s) x) (bf:=fun p=>[("caller",.str p.1)]) (c:=fun _=>true) (kf:=fun p=>p.1) (g:=fun p=>.int p.2.2) u9 (by kernel_rfl) (by walk_at "mw") ?_ (zI (by kernel_rfl)) ?_ ?_ ?_ ?_ ?_ ?_ ?_) ?_
  ·exact zN (d:=qi (zh (z1 s) x)) (zv (by walk_at "mp") (by walk_at "mp") (htget x hx _)) Qi
  ·simp
  ·exact zw (by kernel_rfl)
  ·intro env'' hE'' p hp
   exact zW
  ·intro env'' hE'' p hp _
   walk_at "mp"
  ·intro env'' hE'' p hp _
   exact zv (zv (d:=.tup [.int p.2.1,.int p.2.2]) (zv (by walk_at "mp") (by walk_at "mp") (htget x hx _)) (by walk_at "mp") (qo (.self _) (qp (f:=fun v:Int×Int=>D.tup [.int v.1,.int v.2]) (qT (ok.tnd x) hp)))) zn (qS (by decide) (by decide) rfl)
  ·have:=ok.tlen x;lia
  ·rw[zl];exact ok.tnd x
  ·rw[zl];exact Jv _ _ _
 ·lia
 ·rw[zl];simpa using qG hb
 ·rw[zl];exact zne _ _
 exact zT (ρ':=zlt s an) (by walk_at "mw") (h an)
end
section
open PySem PySem.W
variable {G:Gx}{n:Nat}{env:Env}{ρ:Rho}{σ:Sig}{A:Around}
theorem zjI{α β:Type}(nm:Nat→Str) (pc:Nat→List (Nat×α)) (f:α→β) (g:List (Str×β)→D) (l:List Nat):D.dicS (l.map fun k=>(nm k,g ((pc k).map fun p=>(nm p.1,f p.2))))=.dicS ((l.map fun k=>(nm k,(pc k).map fun p=>(nm p.1,f p.2))).map fun p=>(p.1,g p.2)):=by
 rw[List.map_map];rfl
theorem zf3(m:Nat):zr (List.replicate m true)++[D.bool true]=zr (List.replicate (m+1) true):=by
 rw[List.replicate_succ'];simp[zr]
noncomputable abbrev zir(s:List Nat) (an:Addr):Rho:=[("kept",Zq (Zx s)),("left",ZL (Ze s).left),("book",zZ (Ze s).book),("plain",ZL (qO (zb s) (z1 s))),("names",zO (zb s)),("notes",.raw (.ref an)),("prices",.lst ((Zg s 4).map dPr)),("sums",z6 s)]
theorem zpf(T:Top G) {s:List Nat}{an:Addr}{P:Out→Prop}(hE:EnvOk env (zo (ze 21))) (ok:DrawOk s)
  (h:X G (n+5) env ((zu (ze 21)).drop 12) (zir s an) [(an,.lst (zr (List.replicate ((Ze s).notes+2) true)))] P):X G (n+5) env ((zu (ze 21)).drop 8) (zlt s an) [(an,.lst (zr []))] P:=by
 have hb:=j3 s
 have hn5:(zb s).length=5:=z7 (Z6 s)
 have hpn:∀k,((zp s k).map (·.1)).Nodup:=fun k=>(ok.pnd k).1
 have hpl:∀k,(zp s k).length≤5:=fun k=>(ok.pnd k).2.1
 have hp5:∀k,∀p∈zp s k,p.1<5:=fun k=>(ok.pnd k).2.2
 have hfok:=zch (names:=zb s) (way:=q9 s) ok.paid 7
 have hfl:=ze0 hfok
 rw[hn5] at hfl
 refine zR (jF (names:=zb s) (way:=q9 s) (left:=qO (zb s) (z1 s)) 7) fun hn7 hb7=>?_
 rw[hn5] at hn7
 have x9:Zc (zb s) (q9 s) (qO (zb s) (z1 s)) 7=Ze s:=rfl
 rw[x9] at hfok hfl hn7 hb7
 refine zc ?_
 refine zml (Jg (qZ T hE 17 (by kernel_rfl)) (Je (by walk_at "mq") (zb7 (zoZ T hb (zjs s) (nb:=[]) ok.paid (by simp)) (.head ..) ⟨_,_,_,rfl,?_⟩)) (fun _=>ZN T (by decide))) (by walk_at "ms") (by walk_at "ms") (by walk_at "ms") (ZZ rfl) (by rfl)
 rw[x9,List.nil_append]
 refine zc ?_
 refine Jx hE (Z8 qR (by walk_at "mp") (Z9 (.lst (.head _))) (Zn (zt (d:=.bool true) (q0 (d₁:=Jb (z1 s)) (d₂:=Jb (z1 s)) (by with_unfolding_all rfl) (by walk_at "mp") (zi (Qq (names:=["k"]) (ρ':=[("names",zO (zb s)),("prices",.lst ((Zg s 4).map dPr))]) (xs:=List.range 5) (bf:=fun(i:Nat)=>[("k",.int ((0+i:Nat):Int))]) (c:=fun _=>true) (kf:=fun k=>(zb s).getD k "") (g:=fun k=>qi ((zp s k).map fun p=>((zb s).getD p.1 "",p.2))) hE (by kernel_rfl) (by walk_at "mw") ?_ (zI (by kernel_rfl)) ?_ ?_ ?_ ?_ ?_ ?_ ?_) ?_) (zap (k:=2) ?_)) (qw (ZS (.head ..) ?_ ?_)))))
 ·exact Zw (zq T hE (by kernel_rfl) (by kernel_rfl)) (zy rfl (zn (i:=((5:Nat):Int))) zj) (Q6 (by decide)) z2
 ·simp
 ·exact zw (by kernel_rfl)
 ·intro u1 u9 k hk
  exact zW
 ·intro u1 u9 k hk _
  rw[Nat.zero_add]
  exact zaZ (List.mem_range.mp hk) (by walk_at "mp") (by walk_at "mp")
 ·intro u1 u9 k hk _
  have hk5:=List.mem_range.mp hk
  rw[Nat.zero_add]
  refine zi (Qq (names:=["tail"]) (ρ':=[("k",.int (k:Int)),("names",zO (zb s)),("prices",.lst ((Zg s 4).map dPr))]) (xs:=zp s k) (bf:=fun p=>[("tail",.int (p.1:Int))]) (c:=fun _=>true) (kf:=fun p=>(zb s).getD p.1 "") (g:=fun p=>.tup [.int p.2.1,.int p.2.2]) u9 (by kernel_rfl) (by walk_at "mw") ?_ (zI (by kernel_rfl)) ?_ ?_ ?_ ?_ ?_ ?_ ?_) ?_
  ·exact zN (zad hk5 (by walk_at "mp") (by walk_at "mp")) jY
  ·simp
  ·exact zw (by kernel_rfl)
  ·intro env'' hE'' p hp
   exact zW
  ·intro env'' hE'' p hp _
   exact zaZ (hp5 k p hp) (by walk_at "mp") (by walk_at "mp")
  ·intro env'' hE'' p hp _
   exact zv (zad hk5 (by walk_at "mp") (by walk_at "mp")) (by walk_at "mp") (zcQ (.self _) (zhW (hpn k) hp))
  ·have:=hpl k;lia
  ·rw[zl]
   have:=hpn k
   have e:((zp s k).map fun p=>(zb s).getD p.1 "")=((zp s k).map (·.1)).map fun i=>(zb s).getD i "":=by rw[List.map_map];rfl
   rw[e]
   refine ZC this fun x hx y hy he=>?_
   refine zd (List.mem_map.mp hx) fun p hp q6_=>?_
   subst q6_
   refine zd (List.mem_map.mp hy) fun q hq q5_=>?_
   subst q5_
   exact zae (hp5 k p hp) (hp5 k q hq) he
  ·rw[zl]
   show _=D.dicS (List.map _ (List.map _ _))
   rw[List.map_map];rfl
 ·simp
 ·rw[zl]
  exact ZC List.nodup_range fun x hx y hy he=>zae (List.mem_range.mp hx) (List.mem_range.mp hy) he
 ·rw[zl]
  refine(zjI (fun k=>(zb s).getD k "") (zp s) (fun v=>v) (fun l=>qi l) (List.range 5)).trans ?_
  rw[←ok.tabs]
 ·intro p hp
  refine zd (List.mem_map.mp hp) fun q _ q4_=>?_
  subst q4_
  exact zlx q.2
 rotate_left
 ·simp[zr];lia
 rw[zf3]
 refine zc ?_
 refine Jx hE (Z8 qR (by walk_at "mp") (Z9 (.lst (.head _))) (Zn (zt (d:=.bool true) (q0 (d₁:=ZL (qO (zb s) (z1 s))) (d₂:=ZL (qO (zb s) (z1 s))) (by with_unfolding_all rfl) (by walk_at "mp") (zi (Qq (names:=["k"]) (ρ':=[("names",zO (zb s)),("prices",.lst ((Zg s 4).map dPr))]) (xs:=List.range 5) (bf:=fun(i:Nat)=>[("k",.int ((0+i:Nat):Int))]) (c:=fun _=>true) (kf:=fun k=>(zb s).getD k "") (g:=fun k=>zZ ((zp s k).map fun p=>((zb s).getD p.1 "",p.2.2))) hE (by kernel_rfl) (by walk_at "mw") ?_ (zI (by kernel_rfl)) ?_ ?_ ?_ ?_ ?_ ?_ ?_) ?_) (zap (k:=1) ?_)) (qw (ZS (.head ..) ?_ ?_)))))
 ·exact Zw (zq T hE (by kernel_rfl) (by kernel_rfl)) (zy rfl (zn (i:=((5:Nat):Int))) zj) (Q6 (by decide)) z2
 ·simp
 ·exact zw (by kernel_rfl)
 ·intro u1 u9 k hk
  exact zW
 ·intro u1 u9 k hk _
  rw[Nat.zero_add]
  exact zaZ (List.mem_range.mp hk) (by walk_at "mp") (by walk_at "mp")
 ·intro u1 u9 k hk _
  have hk5:=List.mem_range.mp hk
  rw[Nat.zero_add]
  refine zi (Qq (names:=["tail"]) (ρ':=[("k",.int (k:Int)),("names",zO (zb s)),("prices",.lst ((Zg s 4).map dPr))]) (xs:=zp s k) (bf:=fun p=>[("tail",.int (p.1:Int))]) (c:=fun _=>true) (kf:=fun p=>(zb s).getD p.1 "") (g:=fun p=>.int p.2.2) u9 (by kernel_rfl) (by walk_at "mw") ?_ (zI (by kernel_rfl)) ?_ ?_ ?_ ?_ ?_ ?_ ?_) ?_
  ·exact zN (zad hk5 (by walk_at "mp") (by walk_at "mp")) jY
  ·simp
  ·exact zw (by kernel_rfl)
  ·intro env'' hE'' p hp
   exact zW
  ·intro env'' hE'' p hp _
   exact zaZ (hp5 k p hp) (by walk_at "mp") (by walk_at "mp")
  ·intro env'' hE'' p hp _
   exact zv (zv (zad hk5 (by walk_at "mp") (by walk_at "mp")) (by walk_at "mp") (zcQ (.self _) (zhW (hpn k) hp))) zn (qS (by decide) (by decide) rfl)
  ·have:=hpl k;lia
  ·rw[zl]
   have:=hpn k
   have e:((zp s k).map fun p=>(zb s).getD p.1 "")=((zp s k).map (·.1)).map fun i=>(zb s).getD i "":=by rw[List.map_map];rfl
   rw[e]
   refine ZC this fun x hx y hy he=>?_
   refine zd (List.mem_map.mp hx) fun p hp q3_=>?_
   subst q3_
   refine zd (List.mem_map.mp hy) fun q hq q2_=>?_
   subst q2_
   exact zae (hp5 k p hp) (hp5 k q hq) he
  ·rw[zl];exact Jv _ _ _
 ·simp
 ·rw[zl]
  exact ZC List.nodup_range fun x hx y hy he=>zae (List.mem_range.mp hx) (List.mem_range.mp hy) he
 ·rw[zl]
  refine(zjI (fun k=>(zb s).getD k "") (zp s) (fun v:Int×Int=>v.2) (fun l=>zZ l) (List.range 5)).trans ?_
  rw[←ok.plain]
 ·intro p hp
  refine zd (List.mem_map.mp hp) fun q _ q1_=>?_
  subst q1_
  exact zeN q.2
 rotate_left
 ·simp[zr];lia
 rw[zf3]
 refine zc ?_
 refine z4 (by walk_at "ms") (zt (d:=Zq (Zx s)) (zF (qZ T hE 18 (by kernel_rfl)) (by walk_at "mq") (zo3 T (n:=n+3) (first:=(zb s).getD 0 "") ?_ (qG hb) hfok.fnd (fun p hp=>(hfok.fsub p hp).2) (by lia) (by lia)) (ZN T (by decide))) ?_)
 ·rw[List.getD_eq_getElem?_getD,List.getElem?_eq_getElem (by lia)];rfl
 exact zT (ρ':=zir s an) (by walk_at "mw") h
end
section
open PySem PySem.W
variable {G:Gx}{n:Nat}{env:Env}{ρ:Rho}{σ:Sig}{A:Around}
noncomputable abbrev z0(w:Str):List Str:=Txt.split w zJ
noncomputable abbrev zcj(s:List Nat):Int:=zaE (zp s 1) (zp s 2) (zp s 3) (zp s 4)
noncomputable abbrev Qf(s:List Nat):Zm:=qO (zb s) (z1 s)
structure EndOk (s:List Nat) (R:List (Str×Str)) (par:Nat→Nat):Prop where
 kept4:(Zx s).length=4
 knd:((Zx s).map (·.2)).Nodup
 ksub:∀x∈(Zx s).map (·.2),x∈(zb s).drop 1
 page:PageOk (Zx s) (Jl s) ((zb s).getD 0 "") R par
 hnd:((Zy R par 4).map (·.1)).Nodup
 hkeys:∀x,x∈(Zy R par 4).map (·.1)↔x∈(zb s).drop 1
 least:(ups (zp s 1) (zp s 2) (zp s 3) (zp s 4)).filter okUp≠[]
 told1:((Ze s).book.map (·.2)).sum=zcj s
 told2:((Zy R par 4).map fun p=>(zX (zh (Qf s) p.1) p.2).getD 0).sum=zcj s
 bnd:((Ze s).book.map (·.1)).Nodup
 wlen:∀w∈(Ze s).book.map (·.1),w.length≤1000∧(z0 w).length≤5
 wsub:∀w∈(Ze s).book.map (·.1),∀x∈z0 w,x∈(zb s).drop 1
 wone:∀w∈(Ze s).book.map (·.1),((z0 w).filter fun x=>decide ((zX (Zy R par 4) x).getD ""∉z0 w)).length=1
 left:(Ze s).left=(zb s).map fun x=>(x,(zh (Qf s) x).map fun p=>(p.1,p.2-(((Ze s).book.filter fun b=>decide (x∈z0 b.1)&&decide (p.1∉z0 b.1)).map (·.2)).sum))
theorem zcS:∀(l acc:List Str),(acc++l).Nodup→l.foldl ZY acc=acc++l
 | [],acc,_=>by simp
 | x::l,acc,h=>by
  have hx:x∉acc:=fun q=>by
   rw[List.nodup_append] at h
   exact h.2.2 x q x List.mem_cons_self rfl
  have e:ZY acc x=acc++[x]:=by unfold ZY;rw[if_neg hx]
  rw[List.foldl_cons,e,zcS l _ (by simpa using h)]
  simp
theorem zkp{row:List (Str×Int)}{x:Str}:((((row.map fun p=>(p.1,D.int p.2)).find? fun p=>p.1=x).map (·.2)).getD (.int 0))=.int ((zX row x).getD 0):=by
 unfold zX
 induction row with
 | nil=>rfl
 | cons a l ih=>
  rw[List.map_cons,List.find?_cons,List.find?_cons]
  by_cases e:a.1=x
  ·simp[e]
  ·simp only[e,decide_false];exact ih
theorem zf5{H:List (Str×Str)}{e1 e2:Expr}{p1:Pos}{x:Str}(hx:x∈H.map (·.1)) (h1:PE G n env e1 ρ σ (.dicS (Z5 H))) (h2:PE G n env e2 ρ σ (.str x)):PE G n env (.Subscript e1 e2 p1) ρ σ (.str ((zX H x).getD "")):=by
 refine Exists.elim (j8 hx) fun v hv=>?_
 rw[hv]
 exact zv h1 h2 (qo (.self _) (qp (f:=D.str) hv))
theorem zaY{w:Str}{e:Expr}{u8 pos p2:Pos}{k:Nat}(hw:w.length≤1000) (hs:(z0 w).length≤5) (h:PE G n env e ρ σ (.str w))
  (x3:attributeBase e "split" env (eval e env)=eval e env) (x4:(u8.endLine==pos.line)=true):PE G n env (.Call (.Attribute e "split" u8) [.Constant (.str ", ") k p2] [] pos) ρ σ (zO (z0 w)):=
 Qs zhN h zdc (zy rfl jb zj) (zd3 (by decide +kernel) (by lia) (by show(z0 w).length≤_;lia)) (fun _ _=>rfl) x3 (by rfl) x4
theorem zpB(T:Top G) {N:List Str}{kept:zQ}{P:Out→Prop}(hE:EnvOk env (zo (ze 21))) (lk:List.lookup ("kept":Str) ρ=some (Zq kept)) (ln:List.lookup ("names":Str) ρ=some (zO N)) (hn5:N.length=5) (hnd:N.Nodup) (hk4:kept.length=4) (hknd:(kept.map (·.2)).Nodup)
  (hks:∀x∈kept.map (·.2),x∈N.drop 1) (h:P (.next ρ σ)):X1 G (n+5) env (Jk (zu (ze 21))[12]?) ρ σ P:=by
 have hnd1:(N.drop 1).Nodup:=(List.drop_sublist _ _).nodup hnd
 have hd1:(N.drop 1).length=4:=by rw[List.length_drop];lia
 have pk:∀{n:Nat}{σ:Sig}{pos:Pos},PE G n env (.Name "kept" pos) ρ σ (Zq kept):=ZW lk (by kernel_rfl) (by kernel_rfl)
 have pn:∀{n:Nat}{σ:Sig}{pos:Pos},PE G n env (.Name "names" pos) ρ σ (zO N):=ZW ln (by kernel_rfl) (by kernel_rfl)
 have hsl:D.lst (qH (N.map D.str) (some 1) none none)=zO (N.drop 1):=by
  rw[Q1]
  have:=j5 N (a:=1) (by lia)
  rw[show((1:Nat):Int)=1 from rfl] at this
  rw[this]
 generalize N.drop 1=M at *
 refine Qt (b:=false) (qf (jq (zdo (zU (zF (zq T hE (by kernel_rfl) (by kernel_rfl)) (zy rfl pk zj) (ZX (.self _) (by simp;lia)) zm) zn zbn) fun _=>zdo (b:=false) ?_ fun _=>zdn)) ?_) (fun h=>by cases h) (fun _=>zz h)
 ·refine ziv (xs:=((kept.filter fun _=>true).map (·.2)).foldl ZY []) (ys:=M.foldl ZY []) (zpl (U:=M) (by lia) (names:=["caller","name"]) (ρ':=[]) (xs:=kept) (bf:=fun p=>[("name",.str p.2),("caller",.str p.1)]) (c:=fun _=>true) (g:=fun p=>p.2) hE (by kernel_rfl) (by walk_at "mw") ?_ (zI (by kernel_rfl)) ?_ ?_ ?_ ?_ ?_ ?_) (fun a=>zow (zq T hE (by kernel_rfl) (by kernel_rfl)) (zi (QU pn (.self _) (Q2 zn) ql ql (by decide) (by simp;lia)) hsl) (.self _) ?_) ?_ ?_
  ·exact zN pk zaF
  ·simp
  ·exact zw (by kernel_rfl)
  ·intro u1 u9 p hp
   exact zW
  ·intro u1 u9 p hp _
   walk_at "mp"
  ·intro p hp
   exact hks _ (List.mem_map_of_mem hp)
  ·lia
  ·lia
  ·rw[zl,zcS _ _ (by simpa using hknd),zcS _ _ (by simpa using hnd1)]
   simp;lia
  ·intro x hx
   rw[zl,zb0] at hx
   rw[zb0]
   rcases hx with hx | hx
   ·cases hx
   ·exact .inr (hks x hx)
 ·rw[List.length_map,hk4];rfl
end
section
open PySem PySem.W
variable {G:Gx}{n:Nat}{env:Env}{ρ:Rho}{σ:Sig}{A:Around}
theorem zn9(T:Top G) {H:List (Str×Str)}{PL:Zm}{book:List (Str×Int)}{P:Out→Prop}(hE:EnvOk env (zo (ze 21))) (lb:List.lookup ("book":Str) ρ=some (zZ book)) (lh:List.lookup ("heads":Str) ρ=some (.dicS (Z5 H))) (lp:List.lookup ("plain":Str) ρ=some (ZL PL))
  (hg:∀p∈H,zX PL p.1=some (zh PL p.1)) (hnd:(H.map (·.1)).Nodup) (hl:H.length≤100)
  (h:P (.next (("told",.lst [.int (book.map (·.2)).sum,.int (H.map fun p=>(zX (zh PL p.1) p.2).getD 0).sum])::ρ) σ)):X1 G (n+5) env (Jk (zu (ze 21))[14]?) ρ σ P:=by
 refine z4 (by walk_at "ms") (zt (jV (zy rfl (zF (qZ T hE 4 (by kernel_rfl)) (zy rfl (ZW lb (by kernel_rfl) (by kernel_rfl)) zj) (zh1 T) (ZN T (by decide))) (zy rfl (zi (zF (qZ T hE 4 (by kernel_rfl)) (zy rfl (d:=zZ (H.map fun p=>(p.1,(zX (zh PL p.1) p.2).getD 0))) (zi (Qq (names:=["name"]) (ρ':=[("heads",.dicS (Z5 H)),("plain",ZL PL)]) (xs:=H) (bf:=fun p=>[("name",.str p.1)]) (c:=fun _=>true) (kf:=fun p=>p.1) (g:=fun p=>.int ((zX (zh PL p.1) p.2).getD 0)) hE (by kernel_rfl) (.cons "heads" lh (by kernel_rfl) (.cons "plain" lp (by kernel_rfl) .nil)) ?_ (zI (by kernel_rfl)) ?_ ?_ ?_ ?_ ?_ ?_ ?_) ?_) zj) (zh1 T) (ZN T (by decide))) ?_) zj)) (by simp)) h)
 ·exact zN (ZW lh (by kernel_rfl) (by kernel_rfl)) Qi
 ·simp
 ·exact zw (by kernel_rfl)
 ·intro u1 u9 p hp
  exact zW
 ·intro u1 u9 p hp _
  walk_at "mp"
 ·intro u1 u9 p hp _
  have hh:(zX H p.1).getD ""=p.2:=by rw[qT hnd hp];rfl
  exact zi (Qs zmu (zv (by walk_at "mp") (by walk_at "mp") (qo (.self _) (qp (hg p hp)))) (zeb (.self _)) (zy rfl (zf5 (H:=H) (List.mem_map_of_mem hp) (by walk_at "mp") (by walk_at "mp")) (zy rfl zn zj)) (zkN (.self _))) (by rw[hh];exact zkp)
 ·lia
 ·rw[zl];exact hnd
 ·rw[zl];exact Jv _ _ _
 ·rw[List.map_map];rfl
theorem zoc(T:Top G) {p1 p2 p3 p4:List Row}{an:Addr}{L:Int}{nb:List Bool}{τ:Sig}{P:Out→Prop}(hE:EnvOk env (zo (ze 21))) (lt:List.lookup ("told":Str) ρ=some (.lst [.int L,.int L])) (lp:List.lookup ("prices":Str) ρ=some (.lst [dPr [],dPr p1,dPr p2,dPr p3,dPr p4])) (ln:List.lookup ("notes":Str) ρ=some (.raw (.ref an)))
  (hl:∀p∈[p1,p2,p3,p4],p.length≤5∧∀r∈p,r.1<5) (hne:(ups p1 p2 p3 p4).filter okUp≠[]) (hL:zaE p1 p2 p3 p4=L) (x8:nb.length≤1000)
  (h:P (.next ρ ((an,.lst (zr (nb++[true])))::τ))):X1 G (n+5) env (Jk (zu (ze 21))[15]?) ρ ((an,.lst (zr nb))::τ) P:=by
 refine Jx hE (Z8 qR (ZW ln (by kernel_rfl) (by kernel_rfl)) (Z9 (.lst (.head _))) (Zn (zt (d:=.bool true) (zi (zeR (zcf (b:=true) (zi (q0 (d₁:=.lst []) (d₂:=.lst []) (by with_unfolding_all rfl) (zi (Z3 (names:=["x"]) (ρ':=[]) (xs:=[L,L]) (bf:=fun x=>[("x",.int x)]) (c:=fun _=>false) (g:=fun x=>.int x) hE (by kernel_rfl) (by walk_at "mw") ?_ (zI (by kernel_rfl)) ?_ ?_ ?_ ?_ ?_) ?_) (by walk_at "mp") (zgD (k:=1) (.lst .nil) (by decide) (fun _ _ h=>nomatch h.1) fun _ _ h=>nomatch h.1)) (by simp[eqD,qz])) fun _=>zhH (b:=true) (zi (q0 (d₁:=.lst [.int L,.int L]) (d₂:=.lst [.int L,.int L]) (by with_unfolding_all rfl) (ZW lt (by kernel_rfl) (by kernel_rfl)) (zi (zk (jV (zy rfl (zF (qZ T hE 20 (by kernel_rfl)) (zy rfl (ZW lp (by kernel_rfl) (by kernel_rfl)) zj) (znV T hl hne) (ZN T (by decide))) zj) (by simp)) zn (zcE (.self _) (by decide) (by decide))) (by rw[hL];rfl)) (zgD (k:=1) (.lst (.cons .int (.cons .int .nil))) (by decide) (fun _ _ h=>nomatch h.1) fun _ _ h=>nomatch h.1)) (by simp[eqD,qz])))) rfl) (qw (ZS (.head ..) ?_ ?_)))))
 ·exact zN (d:=.lst ([L,L].map .int)) (ZW lt (by kernel_rfl) (by kernel_rfl)) Zj
 ·simp
 ·exact zw (by kernel_rfl)
 ·intro u1 u9 x hx
  exact ZM (qf (zjU (zaA (zF (zq T u9 (by kernel_rfl) (by kernel_rfl)) (zy rfl (by walk_at "mp") (zy rfl (zq T u9 (by kernel_rfl) (by kernel_rfl)) zj)) zcy zm))) rfl)
 ·intro u1 u9 x hx hc
  cases hc
 ·simp
 ·rfl
 ·rw[show zr nb++[D.bool true]=zr (nb++[true]) by simp[zr]];exact h
 ·simp[zr];lia
theorem zmL(T:Top G) {H:List (Str×Str)}{book:List (Str×Int)}{an:Addr}{nb:List Bool}{τ:Sig}{P:Out→Prop}(hE:EnvOk env (zo (ze 21))) (lb:List.lookup ("book":Str) ρ=some (zZ book)) (lh:List.lookup ("heads":Str) ρ=some (.dicS (Z5 H))) (ln:List.lookup ("notes":Str) ρ=some (.raw (.ref an)))
  (hw:∀p∈book,p.1.length≤1000∧(z0 p.1).length≤5∧(∀x∈z0 p.1,x∈H.map (·.1))∧((z0 p.1).filter fun x=>decide ((zX H x).getD ""∉z0 p.1)).length=1) (hbl:book.length≤100) (x8:nb.length≤1000)
  (h:P (.next ρ ((an,.lst (zr (nb++List.replicate book.length true)))::τ))):X1 G (n+5) env (Jk (zu (ze 21))[16]?) ρ ((an,.lst (zr nb))::τ) P:=by
 refine Jx hE (Z8 za5 (ZW ln (by kernel_rfl) (by kernel_rfl)) (Z9 (.lst (.head _))) (Zn (zt (Z3 (names:=["word"]) (ρ':=[("heads",.dicS (Z5 H))]) (xs:=book) (bf:=fun p=>[("word",.str p.1)]) (c:=fun _=>true) (g:=fun p=>.bool true) hE (by kernel_rfl) (.cons "heads" lh (by kernel_rfl) .nil) ?_ (zI (by kernel_rfl)) ?_ ?_ ?_ ?_ ?_) (qw (jQ (.head ..) (.self _) ?_ ?_)))))
 ·exact zN (ZW lb (by kernel_rfl) (by kernel_rfl)) Qi
 ·simp
 ·exact zw (by kernel_rfl)
 ·intro u1 u9 p hp
  exact zW
 ·intro u1 u9 p hp _
  refine Ja (hw p hp) fun h1 h2 h3 h4=>?_
  refine zi (q0 (d₁:=.int ((((z0 p.1).filter fun x=>decide ((zX H x).getD ""∉z0 p.1)).length:Nat):Int)) (by with_unfolding_all rfl) (zi (zF (zq T u9 (by kernel_rfl) (by kernel_rfl)) (zy rfl (Z3 (names:=["name"]) (ρ':=[("heads",.dicS (Z5 H)),("word",.str p.1)]) (xs:=z0 p.1) (bf:=fun x=>[("name",.str x)]) (c:=fun x=>decide ((zX H x).getD ""∉z0 p.1)) (g:=.str) u9 (by kernel_rfl) (by walk_at "mw") ?_ (zI (by kernel_rfl)) ?_ ?_ ?_ ?_ ?_) zj) (ZX (.self _) ?_) zm) ?_) zn qK) ?_
  ·exact zN (zaY h1 h2 (by walk_at "mp") (by rfl) (by rfl)) Zj
  ·simp
  ·exact zw (by kernel_rfl)
  ·intro env'' hE'' x hx
   exact ZM (zU (zf5 (h3 x hx) (by walk_at "mp") (by walk_at "mp")) (zaY h1 h2 (by walk_at "mp") (by rfl) (by rfl)) (Q3 (.self _)))
  ·intro env'' hE'' x hx _
   walk_at "mp"
  ·lia
  ·rw[List.length_map];exact Nat.lt_of_le_of_lt (List.length_filter_le _ _) (by lia)
  ·rw[List.length_map]
  ·rw[h4];rfl
 ·lia
 ·have e:zr nb++(book.filter fun _=>true).map (fun _=>D.bool true)=zr (nb++List.replicate book.length true):=by
   rw[zl]
   simp[zr,List.map_const']
  rw[e];exact h
 ·rw[zl];simp[zr];lia
end
section
open PySem PySem.W
variable {G:Gx}{n:Nat}{env:Env}{ρ:Rho}{σ:Sig}{A:Around}
theorem zoi(T:Top G) {N:List Str}{PL L:Zm}{book:List (Str×Int)}{an:Addr}{nb:List Bool}{τ:Sig}{P:Out→Prop}(hE:EnvOk env (zo (ze 21))) (lb:List.lookup ("book":Str) ρ=some (zZ book)) (lp:List.lookup ("plain":Str) ρ=some (ZL PL)) (ll:List.lookup ("left":Str) ρ=some (ZL L)) (lN:List.lookup ("names":Str) ρ=some (zO N)) (ln:List.lookup ("notes":Str) ρ=some (.raw (.ref an)))
  (hNd:N.Nodup) (hNl:N.length≤100) (hg:∀x∈N,zX PL x=some (zh PL x)) (v7:∀x,((zh PL x).map (·.1)).Nodup) (hrl:∀x,(zh PL x).length≤100) (x0:(book.map (·.1)).Nodup) (hbl:book.length≤100) (hw:∀p∈book,p.1.length≤1000∧(z0 p.1).length≤5) (x8:nb.length≤1000)
  (hL:L=N.map fun x=>(x,(zh PL x).map fun p=>(p.1,p.2-((book.filter fun b=>decide (x∈z0 b.1)&&decide (p.1∉z0 b.1)).map (·.2)).sum)))
  (h:P (.next ρ ((an,.lst (zr (nb++[true])))::τ))):X1 G (n+5) env (Jk (zu (ze 21))[17]?) ρ ((an,.lst (zr nb))::τ) P:=by
 have hLd:ZL L=.dicS (N.map fun x=>(x,zZ ((zh PL x).map fun p=>(p.1,p.2-((book.filter fun b=>decide (x∈z0 b.1)&&decide (p.1∉z0 b.1)).map (·.2)).sum)))):=by
  rw[hL]
  show D.dicS (List.map _ (List.map _ N))=_
  rw[List.map_map];rfl
 clear hL
 refine Jx hE (Z8 qR (ZW ln (by kernel_rfl) (by kernel_rfl)) (Z9 (.lst (.head _))) (Zn (zt (d:=.bool true) (q0 (d₁:=ZL L) (d₂:=ZL L) (by with_unfolding_all rfl) (ZW ll (by kernel_rfl) (by kernel_rfl)) (zi (Qq (names:=["name"]) (ρ':=[("book",zZ book),("plain",ZL PL)]) (xs:=N) (bf:=fun x=>[("name",.str x)]) (c:=fun _=>true) (kf:=fun x=>x) (g:=fun x=>zZ ((zh PL x).map fun p=>(p.1,p.2-((book.filter fun b=>decide (x∈z0 b.1)&&decide (p.1∉z0 b.1)).map (·.2)).sum))) hE (by kernel_rfl) (.cons "book" lb (by kernel_rfl) (.cons "plain" lp (by kernel_rfl) .nil)) ?_ (zI (by kernel_rfl)) ?_ ?_ ?_ ?_ ?_ ?_ ?_) ?_) (zap (k:=1) ?_)) (qw (ZS (.head ..) ?_ ?_)))))
 ·exact zN (ZW lN (by kernel_rfl) (by kernel_rfl)) Zj
 ·simp
 ·exact zw (by kernel_rfl)
 ·intro u1 u9 x hx
  exact zW
 ·intro u1 u9 x hx _
  walk_at "mp"
 ·intro u1 u9 x hx _
  have getx:∀τ,GetJ G (n+5) τ (ZL PL) (.str x) (zZ (zh PL x)):=fun τ=>qo (.self _) (qp (hg x hx))
  refine zi (Qq (names:=["caller"]) (ρ':=[("book",zZ book),("name",.str x),("plain",ZL PL)]) (xs:=zh PL x) (bf:=fun p=>[("caller",.str p.1)]) (c:=fun _=>true) (kf:=fun p=>p.1) (g:=fun p=>.int (p.2-((book.filter fun b=>decide (x∈z0 b.1)&&decide (p.1∉z0 b.1)).map (·.2)).sum)) u9 (by kernel_rfl) (by walk_at "mw") ?_ (zI (by kernel_rfl)) ?_ ?_ ?_ ?_ ?_ ?_ ?_) ?_
  ·exact zN (zv (by walk_at "mp") (by walk_at "mp") (getx _)) Qi
  ·simp
  ·exact zw (by kernel_rfl)
  ·intro env'' hE'' p hp
   exact zW
  ·intro env'' hE'' p hp _
   walk_at "mp"
  ·intro env'' hE'' p hp _
   refine zk (zv (zv (by walk_at "mp") (by walk_at "mp") (getx _)) (by walk_at "mp") (qo (.self _) (qp (f:=D.int) (qT (v7 x) hp)))) (zF (zq T hE'' (by kernel_rfl) (by kernel_rfl)) (zy rfl (d:=zao ((book.filter fun b=>decide (x∈z0 b.1)&&decide (p.1∉z0 b.1)).map (·.2))) (zi (Z3 (names:=["word"]) (ρ':=[("book",zZ book),("caller",.str p.1),("name",.str x)]) (xs:=book) (bf:=fun b=>[("word",.str b.1)]) (c:=fun b=>decide (x∈z0 b.1)&&decide (p.1∉z0 b.1)) (g:=fun b=>.int b.2) hE'' (by kernel_rfl) (by walk_at "mw") ?_ (zI (by kernel_rfl)) ?_ ?_ ?_ ?_ ?_) ?_) zj) (J8 (.self _)) zm) jy
   ·exact zN (by walk_at "mp") Qi
   ·simp
   ·exact zw (by kernel_rfl)
   ·intro env3 hE3 b hb
    refine zR (hw b hb) fun h1 h2=>?_
    exact ZM (qf (jq (jp (zU (by walk_at "mp") (zaY h1 h2 (by walk_at "mp") (by rfl) (by rfl)) (zhR (.self _))) fun _=>jp (zU (by walk_at "mp") (zaY h1 h2 (by walk_at "mp") (by rfl) (by rfl)) (Q3 (.self _))) fun _=>j6)) (by rw[Bool.and_true]))
   ·intro env3 hE3 b hb _
    exact zv (by walk_at "mp") (by walk_at "mp") (qo (.self _) (qp (f:=D.int) (qT x0 hb)))
   ·lia
   ·show D.lst _=D.lst (List.map _ (List.map _ _))
    rw[List.map_map];rfl
  ·have:=hrl x;lia
  ·rw[zl];exact v7 x
  ·rw[zl];exact Jv _ _ _
 ·lia
 ·rw[zl];simpa using hNd
 ·rw[zl];exact hLd.symm
 ·intro p hp
  refine zd (List.mem_map.mp hp) fun q _ q1_=>?_
  subst q1_
  exact zeN q.2
 ·rw[show zr nb++[D.bool true]=zr (nb++[true]) by simp[zr]];exact h
 ·simp[zr];lia
theorem zmh(m:Nat):(List.replicate m true).all id=true:=by simp
noncomputable abbrev ziq(s:List Nat) (an:Addr) (R:List (Str×Str)) (par:Nat→Nat):Rho:=[("heads",.dicS (Z5 (Zy R par 4))),("left",ZL (Ze s).left),("book",zZ (Ze s).book),("plain",ZL (Qf s)),("names",zO (zb s)),("notes",.raw (.ref an)),("prices",.lst [dPr [],dPr (zp s 1),dPr (zp s 2),dPr (zp s 3),dPr (zp s 4)])]
theorem zoj(T:Top G) {s:List Nat}{an:Addr}{R:List (Str×Str)}{par:Nat→Nat}{m:Nat}(hE:EnvOk env (zo (ze 21))) (dr:DrawOk s) (ok:EndOk s R par) (hm:m≤300) :
  X G (n+5) env ((zu (ze 21)).drop 14) (ziq s an R par) [(an,.lst (zr (List.replicate m true)))] (ZU fun d' _=>d'=.bool true):=by
 have hb:=j3 s
 have hn5:(zb s).length=5:=z7 (Z6 s)
 have hnd:=qG hb
 have hfok:=zch (names:=zb s) (way:=q9 s) dr.paid 7
 refine zR (jF (names:=zb s) (way:=q9 s) (left:=Qf s) 7) fun hn7 hb7=>?_
 have hb7:(Ze s).book.length≤7:=hb7
 have hsub:∀x∈(zb s).drop 1,x∈zb s:=fun x hx=>List.mem_of_mem_drop hx
 have hH:=zdL R par 4
 refine zc ?_
 refine zn9 T hE (H:=Zy R par 4) (PL:=Qf s) (book:=(Ze s).book) (by walk_at "ml") (by walk_at "ml") (by walk_at "ml") (fun p hp=>dr.paid.get (hsub _ ((ok.hkeys _).mp (List.mem_map_of_mem hp)))) ok.hnd (by lia) ?_
 rw[ok.told1,ok.told2]
 refine zc ?_
 refine zoc T hE (p1:=zp s 1) (p2:=zp s 2) (p3:=zp s 3) (p4:=zp s 4) (by walk_at "ml") (by walk_at "ml") (by walk_at "ml") (fun p hp=>?_) ok.least rfl (by simp;lia) ?_
 ·simp only[List.mem_cons,List.not_mem_nil,or_false] at hp
  rcases hp with rfl | rfl | rfl | rfl
  ·exact⟨(dr.pnd 1).2.1,(dr.pnd 1).2.2⟩
  ·exact⟨(dr.pnd 2).2.1,(dr.pnd 2).2.2⟩
  ·exact⟨(dr.pnd 3).2.1,(dr.pnd 3).2.2⟩
  ·exact⟨(dr.pnd 4).2.1,(dr.pnd 4).2.2⟩
 rw[←List.replicate_succ']
 refine zc ?_
 refine zmL T hE (H:=Zy R par 4) (book:=(Ze s).book) (by walk_at "ml") (by walk_at "ml") (by walk_at "ml") (fun p hp=>?_) (by lia) (by simp;lia) ?_
 ·have hw:=List.mem_map_of_mem (f:=(·.1)) hp
  exact⟨(ok.wlen _ hw).1,(ok.wlen _ hw).2,fun x hx=>(ok.hkeys x).mpr (ok.wsub _ hw x hx),ok.wone _ hw⟩
 rw[List.replicate_append_replicate]
 refine zc ?_
 refine zoi T hE (N:=zb s) (PL:=Qf s) (L:=(Ze s).left) (book:=(Ze s).book) (by walk_at "ml") (by walk_at "ml") (by walk_at "ml") (by walk_at "ml") (by walk_at "ml") hnd (by lia) (fun x hx=>dr.paid.get hx) dr.paid.rnd (fun x=>by have:(zh (Qf s) x).length≤(zb s).length:=dr.paid.row_len x;lia) ok.bnd (by lia) (fun p hp=>ok.wlen _ (List.mem_map_of_mem hp)) (by simp;lia) ok.left ?_
 rw[←List.replicate_succ']
 refine zc (z8 (zt (zi (zF (zq T hE (by kernel_rfl) (by kernel_rfl)) (by walk_at "mq") (zma (.lst (.head _))) zm) (by rw[zmh])) rfl))
theorem zph(T:Top G) {s:List Nat}{an:Addr}{R:List (Str×Str)}{par:Nat→Nat}{m:Nat}(hE:EnvOk env (zo (ze 21))) (hs9:s.length=9) (dr:DrawOk s) (ok:EndOk s R par) (hm:m≤200) :
  X G (n+5) env ((zu (ze 21)).drop 12) (zir s an) [(an,.lst (zr (List.replicate m true)))] (ZU fun d' _=>d'=.bool true):=by
 have hb:=j3 s
 have hn5:(zb s).length=5:=z7 (Z6 s)
 have hk4:=ok.kept4
 have hN:jH par 4≤20:=by
  unfold jH
  rw[show List.range 4=[0,1,2,3] from rfl]
  simp only[List.map_cons,List.map_nil,List.sum_cons,List.sum_nil]
  omega
 refine zc ?_
 refine zpB T hE (N:=zb s) (kept:=Zx s) (by walk_at "ml") (by walk_at "ml") hn5 (qG hb) hk4 ok.knd ok.ksub ?_
 refine zc ?_
 refine z4 (by walk_at "ms") (Jg (qZ T hE 19 (by kernel_rfl)) (Je (ds:=[Zq (Zx s),zO (zb s),.int (Jl s:Int),.raw (.ref an)]) (zy rfl (by walk_at "mp") (zy rfl (by walk_at "mp") (zy rfl (zk (zv (d:=.int ((s.getD 8 0:Nat):Int)) (by walk_at "mp") (by walk_at "mp") (J6 (u:=s) (j:=8) (by omega) (by omega))) (zn (i:=((168:Nat):Int))) (qV (by decide) (by decide))) (zy rfl (by walk_at "mp") zj)))) (zb7 (znW T (n:=n+1) ok.page (by omega) (by rw[List.getD_eq_getElem?_getD,List.getElem?_eq_getElem (by omega)];rfl) hn5 (by simp;omega)) (.head ..) ?_)) (fun _=>ZN T (by decide)))
 rw[List.replicate_append_replicate]
 refine zT (ρ':=ziq s an R par) ?_ (zoj T hE dr ok (by omega))
 rw[show ziq s an R par=([("heads",.dicS (Z5 (Zy R par 4))),("left",ZL (Ze s).left),("book",zZ (Ze s).book),("plain",ZL (Qf s)),("names",zO (zb s)),("notes",.raw (.ref an)),("prices",.lst ((Zg s 4).map dPr))]:Rho) from rfl]
 walk_at "mw"
end
section
open PySem
section
variable {K:Type} [DecidableEq K]
inductive To (f:K→List K) (x:K):K→Prop
 | self:To f x x
 | step {y z:K}:To f x y→z∈f y→To f x z
theorem To.trans{f:K→List K}{x y z:K}(h:To f x y) (h':To f y z):To f x z:=by
 induction h' with
 | self=>exact h
 | step _ hz ih=>exact ih.step hz
theorem To.mono{f g:K→List K}{x z:K}(h:To f x z) (hfg:∀y,∀z∈f y,z∈g y):To g x z:=by
 induction h with
 | self=>exact .self
 | step _ hz ih=>exact ih.step (hfg _ _ hz)
theorem To.closed{f:K→List K}{x z:K}(h:To f x z) {P:K→Prop}(hx:P x) (hP:∀y,P y→∀z∈f y,P z):P z:=by
 induction h with
 | self=>exact hx
 | step _ hz ih=>exact hP _ ih _ hz
theorem Closes.sound{adj:List (K×List K)}{k:Nat}{g R:List K}{a:Nat}(h:Closes adj k g a R) {x:K}(hg:∀z∈g,To (nbr adj) x z):∀z∈R,To (nbr adj) x z:=by
 induction h with
 | done _=>exact hg
 | @step k g a y l R h1 h2 _ ih=>
  refine ih fun z hz=>?_
  rcases List.mem_append.mp hz with hz | hz
  ·exact hg z hz
  ·refine(hg y (List.mem_of_getElem? h1)).step ?_
   unfold nbr;rw[h2]
   exact(List.mem_filter.mp hz).1
theorem Closes.whole{adj:List (K×List K)}{k:Nat}{g R:List K}{a:Nat}(h:Closes adj k g a R) (hg:∀i,i<a→∀y,g[i]?=some y→∀z∈nbr adj y,z∈g):∀y∈R,∀z∈nbr adj y,z∈R:=by
 induction h with
 | done e=>
  intro y hy
  obtain⟨i,hi⟩:=List.getElem?_of_mem hy
  exact hg i (by rw[←e];exact(List.getElem?_eq_some_iff.mp hi).1) y hi
 | @step k g a x l R h1 h2 h3 ih=>
  refine ih fun i hi y hy z hz=>?_
  have ha:a<g.length:=(List.getElem?_eq_some_iff.mp h1).1
  rw[List.getElem?_append_left (by lia)] at hy
  by_cases e:i=a
  ·subst e
   rw[h1] at hy;cases hy
   by_cases hzg:z∈g
   ·exact List.mem_append_left _ hzg
   ·refine List.mem_append_right _ (List.mem_filter.mpr ⟨?_,by simpa using hzg⟩)
    unfold nbr at hz;rw[h2] at hz;exact hz
  ·exact List.mem_append_left _ (hg i (by lia) y hy z hz)
theorem zdZ{adj:List (K×List K)}(hg:GoodAdj adj) {x:K}(hx:x∈adj.map (·.1)) (z:K):z∈closed adj x↔To (nbr adj) x z:=by
 refine qD (QA hg hx) fun m h1 _ _=>?_
 constructor
 ·exact h1.sound (x:=x) (fun z hz=>by rw[List.mem_singleton.mp hz];exact .self) z
 ·intro h
  exact h.closed (P:=fun z=>z∈closed adj x) (h1.keeps x List.mem_cons_self) (h1.whole fun i hi=>absurd hi (Nat.not_lt_zero _))
theorem znn{names:List K}(f:K→List K) {y:K}(hy:y∈names):nbr (names.map fun y=>(y,f y)) y=f y:=by
 unfold nbr
 induction names with
 | nil=>cases hy
 | cons a l ih=>
  rw[List.map_cons,List.find?_cons]
  by_cases e:a=y
  ·simp[e]
  ·simp only[e,decide_false]
   exact ih ((List.mem_cons.mp hy).resolve_left fun q=>e q.symm)
theorem zg8{names:List K}(f:K→List K) (y:K):∀z∈nbr (names.map fun y=>(y,f y)) y,z∈f y:=by
 unfold nbr
 induction names with
 | nil=>intro z hz;simp at hz
 | cons a l ih=>
  rw[List.map_cons,List.find?_cons]
  by_cases e:a=y
  ·simp[e]
  ·simp only[e,decide_false]
   exact ih
theorem zfO{names:List K}{f:K→List K}(hf:∀y∈names,∀z∈f y,z∈names) {x z:K}(hx:x∈names):To (nbr (names.map fun y=>(y,f y))) x z↔To f x z:=by
 constructor
 ·exact fun h=>h.mono (zg8 f)
 ·intro h
  have:z∈names∧To (nbr (names.map fun y=>(y,f y))) x z:=by
   refine h.closed (P:=fun z=>z∈names∧To (nbr (names.map fun y=>(y,f y))) x z) ⟨hx,.self⟩ fun y hy z hz=>⟨hf y hy.1 z hz,hy.2.step ?_⟩
   rw[znn f hy.1];exact hz
  exact this.2
theorem zdx{l m:List K}(hl:l.Nodup) (hs:∀x∈l,x∈m) (h:m.length≤l.length):∀x∈m,x∈l:=by
 intro x hx
 by_cases hxl:x∈l
 ·exact hxl
 ·have h1:=Zr (l:=x::l) (m:=m) (List.nodup_cons.mpr ⟨hxl,hl⟩) fun y hy=>by
   rcases List.mem_cons.mp hy with rfl | hy
   ·exact hx
   ·exact hs y hy
  simp at h1
  lia
noncomputable def Zb(T:List (K×K)) (u:K):List K:=(T.filter fun p=>decide (p.1=u)).map (·.2)
noncomputable def ins(T:List (K×K)) (u:K):List K:=(T.filter fun p=>decide (p.2=u)).map (·.1)
theorem Qw{T:List (K×K)}{u z:K}:z∈Zb T u↔(u,z)∈T:=by
 unfold Zb
 rw[List.mem_map]
 constructor
 ·intro q3_
  refine zd q3_ fun p hp q4_=>?_
  subst q4_
  refine zR (List.mem_filter.mp hp) fun h1 h2=>?_
  have:p.1=u:=by simpa using h2
  rw[←this];exact h1
 ·intro h
  exact⟨(u,z),List.mem_filter.mpr ⟨h,by simp⟩,rfl⟩
theorem Q5{T:List (K×K)}{u z:K}:z∈ins T u↔(z,u)∈T:=by
 unfold ins
 rw[List.mem_map]
 constructor
 ·intro q5_
  refine zd q5_ fun p hp q6_=>?_
  subst q6_
  refine zR (List.mem_filter.mp hp) fun h1 h2=>?_
  have:p.2=u:=by simpa using h2
  rw[←this];exact h1
 ·intro h
  exact⟨(z,u),List.mem_filter.mpr ⟨h,by simp⟩,rfl⟩
noncomputable abbrev Rch(T:List (K×K)) (r x:K):Prop:=To (Zb T) r x
theorem Rch.mono{T U:List (K×K)}{r x:K}(h:Rch T r x) (hs:∀g∈T,g∈U):Rch U r x:=To.mono h fun y z hz=>Qw.mpr (hs _ (Qw.mp hz))
theorem Rch.edge{T:List (K×K)}{r x y:K}(h:Rch T r x) (he:(x,y)∈T):Rch T r y:=h.step (Qw.mpr he)
theorem Rch.back{U:List (K×K)}{r y z:K}(hb:To (ins U) y z) (h:Rch U r z):Rch U r y:=by
 induction hb with
 | self=>exact h
 | step _ hz ih=>exact ih (h.edge (Q5.mp hz))
noncomputable def All(T:List (K×K)) (names:List K) (r:K):Prop:=∀y∈names,Rch T r y
theorem zn0{names:List K}{T:List (K×K)}{r:K}(hn:names.Nodup) (hT:T.Nodup) (hs:∀p∈T,p.2∈names) (hr:r∈names):(closed (qN names T) r).length=names.length↔All T names r:=by
 have hg:=zbE hT hs
 have hk:r∈(qN names T).map (·.1):=by rw[Qp];exact hr
 refine qD (QA hg hk) fun m h1 h2 h3=>?_
 rw[Qp] at h3
 have key:∀z,z∈closed (qN names T) r↔Rch T r z:=fun z=>by
  rw[zdZ hg hk]
  exact zfO (f:=Zb T) (fun y _ z hz=>hs _ (Qw.mp hz)) hr
 constructor
 ·intro e y hy
  exact(key y).mp (zdx h2 h3 (by lia) y hy)
 ·intro h
  have h4:=Zr h2 h3
  have h5:=Zr hn fun y hy=>(key y).mpr (h y hy)
  lia
theorem Rch.without{T:List (K×K)}{r x:K}{g:K×K}{U:List (K×K)}(hU:∀h∈T,h≠g→h∈U) (hg:Rch U r g.2) (h:Rch T r x):Rch U r x:=by
 induction h with
 | self=>exact .self
 | @step y z _ hz ih=>
  have hm:=Qw.mp hz
  by_cases e:(y,z)=g
  ·rw[←e] at hg;exact hg
  ·exact ih.edge (hU _ hm e)
noncomputable abbrev Ent(S:List K) (g:K×K):Prop:=g.2∈S∧g.1∉S
theorem Rch.enters{T:List (K×K)}{r x:K}{S:List K}(hr:r∉S) (h:Rch T r x):(Rch (T.filter fun g=>decide (¬Ent S g)) r x∧x∉S)∨∃g∈T,Ent S g∧Rch (T.filter fun g=>decide (¬Ent S g)) r g.1:=by
 induction h with
 | self=>exact .inl ⟨.self,hr⟩
 | @step y z _ hz ih=>
  have hm:=Qw.mp hz
  rcases ih with⟨h1,h2⟩ | h
  ·by_cases hzS:z∈S
   ·exact .inr ⟨(y,z),hm,⟨hzS,h2⟩,h1⟩
   ·exact .inl ⟨h1.edge (List.mem_filter.mpr ⟨hm,by simp[Ent,hzS]⟩),hzS⟩
  ·exact .inr h
end
end
section
open PySem
section
variable {K:Type} [DecidableEq K]
theorem All.mono{T U:List (K×K)}{names:List K}{r:K}(h:All T names r) (hs:∀g∈T,g∈U):All U names r:=fun y hy=>(h y hy).mono hs
theorem zkt{l:List (K×K)}{g:K×K}(h:g∉l):l.filter (fun o=>decide (o≠g))=l:=List.filter_eq_self.mpr fun x hx=>decide_eq_true fun q=>h (q▸hx)
theorem zl4{pre Ts:List (K×K)}{g:K×K}(h1:g∉pre) (h2:g∉Ts):((pre++[g])++Ts).filter (fun o=>decide (o≠g))=pre++Ts:=by
 rw[List.filter_append,List.filter_append,zkt h1,zkt h2,show [g].filter (fun o=>decide (o≠g))=[] from List.filter_cons_of_neg fun h=>absurd rfl (of_decide_eq_true h),List.append_nil]
noncomputable def zgT(names:List K) (r:K) (pre L T:List (K×K)):Prop:=∀g∈T,∀p1 s1,L=p1++g::s1→¬All (pre++p1++T.filter fun h=>decide (h≠g)) names r
theorem zj6{names:List K}{r:K}{g:K×K}{suf pre Ts:List (K×K)}(hgT:g∉Ts) (h4:zgT names r (pre++[g]) suf Ts):zgT names r pre (g::suf) Ts:=fun g' hg' p1 s1 es=>
 (List.cons_eq_append_iff.mp es).elim (fun y=>absurd hg' ((List.cons.inj y.2).1▸hgT)) fun y=>y.elim fun q y hA=>h4 g' hg' q s1 y.2 (by rw[←List.append_cons,←y.1];exact hA)
theorem zj5{names:List K}{r:K}{g:K×K}{suf pre Ts:List (K×K)}(y3:g∉suf) (hlen:¬All (pre++Ts) names r) (h4:zgT names r (pre++[g]) suf Ts):zgT names r pre (g::suf) (g::Ts):=fun g' hg' p1 s1 es=>
 (List.cons_eq_append_iff.mp es).elim (fun y hA=>hlen (hA.mono fun x hx=>(List.mem_append.mp hx).elim (fun h=>List.mem_append_left _ (by rw[y.1,List.append_nil] at h;exact h)) fun h=>
   List.mem_append_right _ ((List.mem_cons.mp (List.mem_filter.mp h).1).resolve_left ((List.cons.inj y.2).1▸of_decide_eq_true (List.mem_filter.mp h).2))))
  fun y=>y.elim fun q y hA=>h4 g' ((List.mem_cons.mp hg').resolve_left fun e=>y3 (e▸y.2▸List.mem_append_right _ (.head _))) q s1 y.2 (hA.mono fun x hx=>(List.mem_append.mp hx).elim (fun h=>List.mem_append_left _ (by rw[←List.append_cons,←y.1];exact h)) fun h=>
   (List.mem_cons.mp (List.mem_filter.mp h).1).elim (fun e=>List.mem_append_left _ (List.mem_append_left _ (List.mem_append_right _ (List.mem_singleton.mpr e)))) fun m=>List.mem_append_right _ (List.mem_filter.mpr ⟨m,(List.mem_filter.mp h).2⟩))
theorem zlM{names:List K}{r:K}(hn:names.Nodup) (hr:r∈names) (suf:List (K×K)):∀(pre:List (K×K)),(pre++suf).Nodup→(∀p∈pre++suf,p.2∈names)→All (pre++suf) names r→
  ∃Ts,suf.reverse.foldl (qn names r) (pre++suf)=pre++Ts∧Ts.Sublist suf∧All (pre++Ts) names r∧zgT names r pre suf Ts:=by
 induction suf with
 | nil=>exact fun pre _ _ ha=>⟨[],rfl,.slnil,ha,fun g hg=>absurd hg List.not_mem_nil⟩
 | cons g suf ih=>
  intro pre hd hs ha
  have hg:g∉pre++suf:=(List.nodup_cons.mp (List.perm_middle.nodup_iff.mp hd)).1
  rw[List.append_cons] at hd hs ha
  rw[List.append_cons]
  refine jK (ih (pre++[g]) hd hs ha) fun Ts h1 h2 h3 h4=>?_
  have hsl:(pre++Ts).Sublist ((pre++[g])++suf):=List.Sublist.append (List.sublist_append_left _ _) h2
  have hiff:=zn0 hn (hsl.nodup hd) (fun p hp=>hs p (hsl.subset hp)) hr
  have hgT:g∉Ts:=fun hm=>hg (List.mem_append_right _ (h2.subset hm))
  rw[List.reverse_cons,List.foldl_append,h1,List.foldl_cons,List.foldl_nil]
  unfold qn
  rw[zl4 (fun hm=>hg (List.mem_append_left _ hm)) hgT]
  split
  ·rename_i hlen
   exact⟨Ts,rfl,h2.cons _,hiff.mp hlen,zj6 hgT h4⟩
  ·rename_i hlen
   exact⟨g::Ts,(List.append_cons ..).symm,h2.cons_cons _,List.append_cons pre g Ts▸h3,zj5 (fun hm=>hg (List.mem_append_right _ hm)) (fun h=>hlen (hiff.mpr h)) h4⟩
structure KeptOk (names:List K) (r:K) (L T:List (K×K)):Prop where
 sub:T.Sublist L
 all:All T names r
 need:∀g∈T,∀p1 s1,L=p1++g::s1→¬All (p1++T.filter fun h=>decide (h≠g)) names r
theorem znx{names:List K}{r:K}{L:List (K×K)}(hn:names.Nodup) (hr:r∈names) (hd:L.Nodup) (hs:∀p∈L,p.2∈names) (ha:All L names r):KeptOk names r L (zck names r L):=by
 refine jK (zlM hn hr L [] (by simpa using hd) (by simpa using hs) (by simpa using ha)) fun Ts h1 h2 h3 h4=>?_
 have e:zck names r L=Ts:=by
  unfold zck
  simpa using h1
 rw[e]
 exact⟨h2,by simpa using h3,fun g hg p1 s1 es=>by simpa using h4 g hg p1 s1 es⟩
theorem KeptOk.need'{names:List K}{r:K}{L T:List (K×K)}(k:KeptOk names r L T) {g:K×K}(hg:g∈T):¬All (T.filter fun h=>decide (h≠g)) names r:=by
 refine Zu (List.append_of_mem (k.sub.subset hg)) fun p1 s1 e=>?_
 exact fun h=>k.need g hg p1 s1 e (h.mono fun x hx=>List.mem_append_right _ hx)
theorem KeptOk.root{names:List K}{r:K}{L T:List (K×K)}(k:KeptOk names r L T) {g:K×K}(hg:g∈T):g.2≠r:=by
 intro e
 refine k.need' hg fun y hy=>?_
 exact Rch.without (g:=g) (fun h hh hne=>List.mem_filter.mpr ⟨hh,by simpa using hne⟩) (by rw[e];exact .self) (k.all y hy)
theorem KeptOk.one{names:List K}{r:K}{L T:List (K×K)}(k:KeptOk names r L T) {S:List K}{pre suf:List (K×K)}(hL:L=pre++suf) (y9:∀g∈pre,¬Ent S g) (hS:∀y∈S,∀z∈S,To (ins pre) y z) (hr:r∉S) (hne:S≠[]) (hsub:∀y∈S,y∈names) :
  ∃g∈T,Ent S g∧∀g'∈T,Ent S g'→g'=g:=by
 obtain⟨y,hy⟩:∃y,y∈S:=List.exists_mem_of_ne_nil _ hne
 rcases (k.all y (hsub y hy)).enters hr with⟨_,h⟩ | ⟨g,hg,he,hR⟩
 ·exact absurd hy h
 refine⟨g,hg,he,fun g' hg' he'=>?_⟩
 by_cases e:g'=g
 ·exact e
 exfalso
 have hm:g'∈suf:=by
  have:=k.sub.subset hg'
  rw[hL] at this
  exact(List.mem_append.mp this).resolve_left fun h=>y9 g' h he'
 refine Zu (List.append_of_mem hm) fun p1 s1 es=>?_
 refine k.need g' hg' (pre++p1) s1 (by rw[hL,es];simp) fun z hz=>?_
 have hU:∀h∈T,h≠g'→h∈(pre++p1)++T.filter fun h=>decide (h≠g'):=fun h hh hne=>List.mem_append_right _ (List.mem_filter.mpr ⟨hh,by simpa using hne⟩)
 have h1:Rch ((pre++p1)++T.filter fun h=>decide (h≠g')) r g.1:=hR.mono fun x hx=>by
  refine zR (List.mem_filter.mp hx) fun hx1 hx2=>?_
  exact hU x hx1 fun q=>by rw[q] at hx2;simp[he'] at hx2
 have h2:=h1.edge (y:=g.2) (hU g hg fun q=>e q.symm)
 have h3:Rch ((pre++p1)++T.filter fun h=>decide (h≠g')) r g'.2:=Rch.back ((hS g'.2 he'.1 g.2 he.1).mono fun y z hz=>Q5.mpr (by simp[Q5.mp hz])) h2
 exact Rch.without hU h3 (k.all z hz)
theorem Rch.into{T:List (K×K)}{r x y:K}(hr:r≠y) (h:Rch T r x):(Rch (T.filter fun g=>decide (g.2≠y)) r x∧x≠y)∨∃g∈T,g.2=y∧g.1≠y∧Rch (T.filter fun g=>decide (g.2≠y)) r g.1:=by
 induction h with
 | self=>exact .inl ⟨.self,hr⟩
 | @step u v _ hv ih=>
  have hm:=Qw.mp hv
  rcases ih with⟨h1,h2⟩ | h
  ·by_cases hvy:v=y
   ·exact .inr ⟨(u,v),hm,hvy,h2,h1⟩
   ·exact .inl ⟨h1.edge (List.mem_filter.mpr ⟨hm,by simpa using hvy⟩),hvy⟩
  ·exact .inr h
theorem KeptOk.call{names:List K}{r:K}{L T:List (K×K)}(k:KeptOk names r L T) {y:K}(hy:y∈names) (hr:r≠y):∃g∈T,g.2=y∧g.1≠y∧∀g'∈T,g'.2=y→g'=g:=by
 rcases (k.all y hy).into hr with⟨_,h⟩ | ⟨g,hg,e2,e1,hR⟩
 ·exact absurd rfl h
 refine⟨g,hg,e2,e1,fun g' hg' e'=>?_⟩
 by_cases e:g'=g
 ·exact e
 exfalso
 refine k.need' hg' fun z hz=>?_
 have hU:∀h∈T,h≠g'→h∈T.filter fun h=>decide (h≠g'):=fun h hh hne=>List.mem_filter.mpr ⟨hh,by simpa using hne⟩
 have h1:Rch (T.filter fun h=>decide (h≠g')) r g.1:=hR.mono fun x hx=>by
  refine zR (List.mem_filter.mp hx) fun hx1 hx2=>?_
  exact hU x hx1 fun q=>by rw[q] at hx2;simp[e'] at hx2
 have h2:=h1.edge (y:=g.2) (hU g hg fun q=>e q.symm)
 rw[e2] at h2
 exact Rch.without (g:=g') hU (by rw[e'];exact h2) (k.all z hz)
end
end
section
open PySem
theorem zly{way:Int}(hw:way=1∨way=-1) (a b:Nat×Nat):(qh way a b).2≤a.2∧(qh way a b).2≤b.2:=by
 unfold qh j2
 rcases hw with rfl | rfl<;>(repeat' split)<;>lia
theorem ze3{way:Int}(hw:way=1∨way=-1):∀(rows:List (Nat×Nat)) (r:Nat×Nat),(Qc way r rows).2≤r.2∧∀x∈rows,(Qc way r rows).2≤x.2
 | [],r=>⟨Nat.le_refl _,fun x hx=>by cases hx⟩
 | a::rows,r=>by
  have h1:=zly hw r a
  obtain⟨h2,h3⟩:=ze3 hw rows (qh way r a)
  have e:Qc way r (a::rows)=Qc way (qh way r a) rows:=rfl
  rw[e]
  refine⟨Nat.le_trans h2 h1.1,fun x hx=>?_⟩
  rcases List.mem_cons.mp hx with rfl | hx
  ·exact Nat.le_trans h2 h1.2
  ·exact h3 x hx
section
variable {K:Type} [DecidableEq K]
theorem KeptOk.nodup{names:List K}{r:K}{L T:List (K×K)}(k:KeptOk names r L T) (hd:L.Nodup):T.Nodup:=k.sub.nodup hd
theorem KeptOk.ends{names:List K}{r:K}{L T:List (K×K)}(k:KeptOk names r L T) (hd:L.Nodup) (hs:∀p∈L,p.2∈names):(T.map (·.2)).Nodup∧∀x,x∈T.map (·.2)↔x∈names∧x≠r:=by
 refine⟨ZC (k.nodup hd) fun x hx y hy e=>?_,fun x=>⟨fun h=>?_,fun h=>?_⟩⟩
 ·have hn:=k.root hx
  refine jK (k.call (y:=x.2) (hs _ (k.sub.subset hx)) (fun q=>hn q.symm)) fun g _ _ _ h=>?_
  rw[h x hx rfl,h y hy e.symm]
 ·refine zd (List.mem_map.mp h) fun g hg q1_=>?_
  subst q1_
  exact⟨hs _ (k.sub.subset hg),k.root hg⟩
 ·refine qD (k.call h.1 (fun q=>h.2 q.symm)) fun g hg e _=>?_
  exact List.mem_map.mpr ⟨g,hg,e⟩
theorem KeptOk.len{names:List K}{r:K}{rest:List K}{L T:List (K×K)}(k:KeptOk names r L T) (hd:L.Nodup) (hs:∀p∈L,p.2∈names) (hn:names.Nodup) (he:names=r::rest):T.length=rest.length:=by
 refine zR (k.ends hd hs) fun h1 h2=>?_
 subst he
 rw[List.nodup_cons] at hn
 have a1:=Zr h1 (m:=rest) fun x hx=>by
  refine zR ((h2 x).mp hx) fun h3 h4=>?_
  exact(List.mem_cons.mp h3).resolve_left h4
 have a2:=Zr hn.2 (m:=T.map (·.2)) fun x hx=>(h2 x).mpr ⟨List.mem_cons_of_mem _ hx,fun e=>hn.1 (e▸hx)⟩
 simp at a1 a2
 lia
end
theorem ze2{names:List Str}{inside:List Str}{price:Int}:∀(l:List Str) (s:Zm×zQ),PaidOk names s.1 s.2→(∀x∈l,x∈names)→l.Nodup→
  (∀y,zh (l.foldl (Zf inside price) s).1 y=if y∈l then Zo inside price (zh s.1 y) else zh s.1 y)∧
  (∃new,(l.foldl (Zf inside price) s).2=s.2++new)∧∀p,p∈(l.foldl (Zf inside price) s).2↔p∈s.2∨(p.2∈l∧(p.1,(0:Int))∈Zo inside price (zh s.1 p.2))
 | [],s,h,_,_=>⟨fun y=>by simp,⟨[],by simp⟩,fun p=>by simp⟩
 | x::l,s,h,hl,hd=>by
  rw[List.nodup_cons] at hd
  have hx:=hl x List.mem_cons_self
  have hk:x∈s.1.map (·.1):=by rw[h.keys];exact hx
  refine z9 (ze2 (inside:=inside) (price:=price) l (Zf inside price s x) (za6 h hx) (fun y hy=>hl y (List.mem_cons_of_mem _ hy)) hd.2) fun h1 q2_ h3=>?_
  obtain⟨new,h2⟩:=q2_
  rw[List.foldl_cons]
  refine⟨fun y=>?_,⟨Q4 (Zo inside price (zh s.1 x)) x s.2++new,by rw[h2];show(s.2++_)++new=_;rw[List.append_assoc]⟩,fun p=>?_⟩
  ·rw[h1 y,zaj hk]
   by_cases e:y=x
   ·subst e;simp[hd.1]
   ·simp[e]
  ·rw[h3 p]
   have hs2:p∈(Zf inside price s x).2↔p∈s.2∨(p.2=x∧(p.1,(0:Int))∈Zo inside price (zh s.1 x)):=by
    show p∈s.2++_↔_
    rw[List.mem_append,zai]
    constructor
    ·rintro(h | ⟨e,h,_⟩)
     ·exact .inl h
     ·exact .inr ⟨e,h⟩
    ·rintro(h | ⟨e,h⟩)
     ·exact .inl h
     ·by_cases q:p∈s.2
      ·exact .inl q
      ·exact .inr ⟨e,h,q⟩
   rw[hs2,zaj hk]
   constructor
   ·rintro((h | ⟨e,h⟩) | ⟨e,h⟩)
    ·exact .inl h
    ·exact .inr ⟨by simp[e],by rw[e];exact h⟩
    ·have:p.2≠x:=fun q=>hd.1 (q▸e)
     rw[if_neg this] at h
     exact .inr ⟨List.mem_cons_of_mem _ e,h⟩
   ·rintro(h | ⟨e,h⟩)
    ·exact .inl (.inl h)
    ·by_cases q:p.2=x
     ·exact .inl (.inr ⟨q,by rw[←q];exact h⟩)
     ·exact .inr ⟨(List.mem_cons.mp e).resolve_left q,by rw[if_neg q];exact h⟩
end
section
open PySem
structure Turn where
 S:List Str
 price:Int
 pre:zQ
noncomputable def jG(H:List Turn) (c y:Str):Int:=(H.map fun h=>if y∈h.S∧c∉h.S then h.price else 0).sum
noncomputable def zb8(H:List Turn):List (Str×Int):=H.foldl (fun b h=>qq (·+·) b [(Txt.join zJ h.S,h.price)]) []
structure TurnOk (names:List Str) (r:Str) (freed:zQ) (h:Turn):Prop where
 ne:h.S≠[]
 root:r∉h.S
 sub:h.S.Sublist names
 pos:0≤h.price
 pre:∃suf,freed=h.pre++suf
 no:∀g∈h.pre,¬Ent h.S g
 conn:∀y∈h.S,∀z∈h.S,To (ins h.pre) y z
structure Ran (names:List Str) (r:Str) (pl:Zm) (s:PS) (H:List Turn):Prop where
 ok:PaidOk names s.left s.freed
 row:∀y,zh s.left y=(zh pl y).map fun p=>(p.1,p.2-jG H p.1 y)
 pos:∀y,∀p∈zh s.left y,0≤p.2
 free:∀c y,(c,y)∈s.freed↔(c,(0:Int))∈zh s.left y
 book:s.book=zb8 H
 turn:∀h∈H,TurnOk names r s.freed h
theorem Jp{row:List (Str×Int)}{c:Str}:c∈JE row↔(c,(0:Int))∈row:=by
 unfold JE
 rw[List.mem_map]
 constructor
 ·intro q5_
  refine zd q5_ fun p hp q6_=>?_
  subst q6_
  refine zR (List.mem_filter.mp hp) fun h1 h2=>?_
  have:p.2=0:=by simpa using h2
  rw[←this];exact h1
 ·intro h
  exact⟨(c,0),List.mem_filter.mpr ⟨h,by simp⟩,rfl⟩
variable {names:List Str}{r:Str}{pl:Zm}{s:PS}{H:List Turn}
theorem Ran.grp(R:Ran names r pl s H) {x:Str}(hx:x∈names) (z:Str):z∈closed (zK names s.left) x↔To (ins s.freed) x z:=by
 rw[zdZ (zaV R.ok) (by rw[jC];exact hx)]
 have e:=zfO (names:=names) (f:=fun y=>JE (zh s.left y)) (fun y _ z hz=>R.ok.rsub y z (List.mem_map_of_mem (f:=(·.1)) (Jp.mp hz))) (x:=x) (z:=z) hx
 refine e.trans ?_
 constructor
 ·exact fun h=>h.mono fun y z hz=>Q5.mpr ((R.free z y).mpr (Jp.mp hz))
 ·exact fun h=>h.mono fun y z hz=>Jp.mpr ((R.free z y).mp (Q5.mp hz))
structure Chosen (names:List Str) (r:Str) (s:PS) (g:List Str):Prop where
 ne:g≠[]
 root:r∉g
 sub:∀y∈g,y∈names
 conn:∀y∈g,∀z∈g,To (ins s.freed) y z
 no:∀e∈s.freed,¬Ent g e
theorem zkJ(R:Ran names r pl s H) {way:Int}(hw:way=1∨way=-1) {a:Nat×Nat}{as:List (Nat×Nat)}(e:Z7 r (zP names s.left)=a::as) :
  Chosen names r s ((zP names s.left).getD (Qc way a (a::as)).1 []):=by
 have hm:=ze4 (way:=way) a as
 refine qD (zeI (e▸hm:Qc way a (a::as)∈Z7 r (zP names s.left))) fun g hg hrg hlen=>?_
 rw[List.getD_eq_getElem?_getD,hg,Option.getD_some]
 refine zd (zbY hg) fun x hx q7_=>?_
 subst q7_
 have hxn:=List.mem_of_getElem? hx
 have gf:=QD R.ok hxn
 have hconn:∀y∈closed (zK names s.left) x,∀z∈closed (zK names s.left) x,z∈closed (zK names s.left) y:=by
  intro y hy z hz
  have hyn:=gf.2.1 y hy
  have gy:=QD R.ok hyn
  have hsub:∀u∈closed (zK names s.left) y,u∈closed (zK names s.left) x:=fun u hu=>(R.grp hxn u).mpr (((R.grp hxn y).mp hy).trans ((R.grp hyn u).mp hu))
  refine Exists.elim (List.getElem?_of_mem hyn) fun j hj=>?_
  have hrow:(j,(closed (zK names s.left) y).length)∈Z7 r (zP names s.left):=by
   unfold Z7
   refine List.mem_map.mpr ⟨(closed (zK names s.left) y,j),List.mem_filter.mpr ⟨?_,by simpa using fun q=>hrg (hsub r q)⟩,rfl⟩
   rw[List.mem_zipIdx_iff_getElem?]
   show(zP names s.left)[j]?=_
   unfold zP
   rw[List.getElem?_map,hj];rfl
  have hle:=(ze3 hw (a::as) a).2 _ (e▸hrow)
  rw[hlen] at hle
  exact zdx gy.1 hsub hle z hz
 refine⟨fun q=>?_,hrg,gf.2.1,fun y hy z hz=>(R.grp (gf.2.1 y hy) z).mp (hconn y hy z hz),fun p hp he=>he.2 ?_⟩
 ·have:=gf.2.2.1
  rw[q] at this;cases this
 ·exact(R.grp hxn p.1).mpr (((R.grp hxn p.2).mp he.1).step (Q5.mpr hp))
theorem za3{g:List Str}{y:Str}(h:∀y∈g,y∈names):y∈zL names g↔y∈g:=by
 unfold zL
 rw[List.mem_filter]
 exact⟨fun q=>of_decide_eq_true q.2,fun q=>⟨h y q,decide_eq_true q⟩⟩
theorem ziP{g:List Str}(h:∀y∈g,y∈names) (e:Str×Str):Ent (zL names g) e↔Ent g e:=by
 unfold Ent
 rw[za3 h,za3 h]
theorem zbS{left:Zm}{S:List Str}{v:Int}:v∈Zp left S↔∃y∈S,∃p∈zh left y,p.1∉S∧p.2=v:=by
 unfold Zp
 rw[List.mem_flatMap]
 constructor
 ·intro q10_
  refine zd q10_ fun y hy h=>?_
  refine zd (List.mem_map.mp h) fun p hp q9_=>?_
  subst q9_
  refine zR (List.mem_filter.mp hp) fun h1 h2=>?_
  exact⟨y,hy,p,h1,of_decide_eq_true h2,rfl⟩
 ·rintro⟨y,hy,p,hp,h1,rfl⟩
  exact⟨y,hy,List.mem_map.mpr ⟨p,List.mem_filter.mpr ⟨hp,decide_eq_true h1⟩,rfl⟩⟩
theorem ze8(ok:PaidOk names s.left s.freed) {S:List Str}(hr:∀x,names[0]?=some x→x∉S):∀(m i:Nat) (x:Str),i≤m→names[i]?=some x→x∈S→Zp s.left S≠[]
 | 0,i,x,hi,hx,hS=>by
  have:i=0:=by lia
  subst this
  exact absurd hS (hr x hx)
 | m+1,i,x,hi,hx,hS=>by
  by_cases h0:i=0
  ·subst h0;exact absurd hS (hr x hx)
  refine Zk (ok.low i x (by lia) hx) fun j c hj hc hk=>?_
  by_cases hcS:c∈S
  ·exact ze8 ok hr m j c (by lia) hc hcS
  ·refine zd (List.mem_map.mp hk) fun p hp q11_=>?_
   subst q11_
   intro q
   have:p.2∈Zp s.left S:=zbS.mpr ⟨x,hS,p,hp,hcS,rfl⟩
   rw[q] at this;cases this
theorem zeS(H:List Turn) (h:Turn) (c y:Str):jG (H++[h]) c y=jG H c y+if y∈h.S∧c∉h.S then h.price else 0:=by
 unfold jG;simp
theorem zg9{S:List Str}{price:Int}{row:List (Str×Int)}{c:Str}(hc:c∈S):(c,(0:Int))∈Zo S price row↔(c,(0:Int))∈row:=by
 unfold Zo
 rw[List.mem_map]
 constructor
 ·intro q12_
  refine zd q12_ fun p hp e=>?_
  have e1:p.1=c:=congrArg Prod.fst e
  have e2:=congrArg Prod.snd e
  simp only at e2
  rw[if_pos (e1▸hc)] at e2
  rw[←e1,←e2];exact hp
 ·intro h
  exact⟨_,h,by simp[hc]⟩
theorem zna(R:Ran names r pl s H) {S:List Str}{price:Int}(hsl:S.Sublist names) (hne:S≠[]) (hrS:r∉S) (hpr:0≤price) (hmin:∀y∈S,∀p∈zh s.left y,p.1∉S→price≤p.2)
  (hno:∀e∈s.freed,¬Ent S e) (hconn:∀y∈S,∀z∈S,To (ins s.freed) y z) {y₀:Str}{p₀:Str×Int}(hy₀:y₀∈S) (hp₀:p₀∈zh s.left y₀) (hc₀:p₀.1∉S) (hv₀:p₀.2=price) (nt:Nat) :
  Ran names r pl ⟨(S.foldl (Zf S price) (s.left,s.freed)).1,qq (·+·) s.book [(Txt.join zJ S,price)],(S.foldl (Zf S price) (s.left,s.freed)).2,nt⟩ (H++[⟨S,price,s.freed⟩])∧
  (∃new,(S.foldl (Zf S price) (s.left,s.freed)).2=s.freed++new)∧∃e∈(S.foldl (Zf S price) (s.left,s.freed)).2,Ent S e:=by
 refine z9 (ze2 (inside:=S) (price:=price) S (s.left,s.freed) R.ok (fun x hx=>hsl.subset hx) (hsl.nodup R.ok.nodup)) fun f1 q14_ f3=>?_
 obtain⟨new,f2⟩:=q14_
 have hok:=zgf (inside:=S) (price:=price) S (s.left,s.freed) R.ok (fun x hx=>hsl.subset hx)
 generalize S.foldl (Zf S price) (s.left,s.freed)=s' at *
 simp only at f1 f2 f3
 refine⟨⟨hok,fun y=>?_,fun y p hp=>?_,fun c y=>?_,?_,fun h hh=>?_⟩,⟨new,f2⟩,(p₀.1,y₀),(f3 _).mpr (.inr ⟨hy₀,?_⟩),⟨hy₀,hc₀⟩⟩
 ·show zh s'.1 y=_
  rw[f1 y]
  by_cases hy:y∈S
  ·rw[if_pos hy,R.row y]
   unfold Zo
   rw[List.map_map]
   refine List.map_congr_left fun p _=>?_
   show(p.1,if p.1∈S then p.2-jG H p.1 y else p.2-jG H p.1 y + -price)=(p.1,p.2-jG (H++[⟨S,price,s.freed⟩]) p.1 y)
   rw[zeS]
   by_cases hc:p.1∈S
   ·simp[hc]
   ·simp only[hc,hy,if_false,not_false_eq_true,and_true,if_true]
    congr 1;lia
  ·rw[if_neg hy,R.row y]
   refine List.map_congr_left fun p _=>?_
   rw[zeS]
   simp[hy]
 ·have hp:p∈zh s'.1 y:=hp
  rw[f1 y] at hp
  by_cases hy:y∈S
  ·rw[if_pos hy] at hp
   unfold Zo at hp
   refine zd (List.mem_map.mp hp) fun q hq q13_=>?_
   subst q13_
   show 0≤if q.1∈S then q.2 else q.2 + -price
   have h1:=R.pos y q hq
   by_cases hc:q.1∈S
   ·rw[if_pos hc];exact h1
   ·rw[if_neg hc]
    have:=hmin y hy q hq hc
    lia
  ·rw[if_neg hy] at hp
   exact R.pos y p hp
 ·show(c,y)∈s'.2↔(c,(0:Int))∈zh s'.1 y
  rw[f3,f1 y]
  by_cases hy:y∈S
  ·rw[if_pos hy]
   constructor
   ·rintro(h | h)
    ·have hc:c∈S:=Decidable.byContradiction fun q=>hno _ h ⟨hy,q⟩
     exact(zg9 hc).mpr ((R.free c y).mp h)
    ·exact h.2
   ·exact fun h=>.inr ⟨hy,h⟩
  ·rw[if_neg hy,←R.free c y]
   exact⟨fun h=>h.resolve_right fun q=>hy q.1,.inl⟩
 ·show qq _ s.book _=_
  rw[R.book]
  unfold zb8
  rw[List.foldl_append];rfl
 ·rcases List.mem_append.mp hh with hh | hh
  ·have t:=R.turn h hh
   refine Exists.elim (t.pre) fun suf e=>?_
   exact⟨t.ne,t.root,t.sub,t.pos,⟨suf++new,by show s'.2=_;rw[f2,e,List.append_assoc]⟩,t.no,t.conn⟩
  ·rw[List.mem_singleton.mp hh]
   exact⟨hne,hrS,hsl,hpr,⟨new,f2⟩,hno,hconn⟩
 ·unfold Zo
  refine List.mem_map.mpr ⟨p₀,hp₀,?_⟩
  rw[if_neg hc₀,hv₀]
  congr 1;lia
theorem zlw(R:Ran names r pl s H) (hr:names[0]?=some r) {g:List Str}(ch:Chosen names r s g) (k:Nat) :
  (∃H',Ran names r pl (jA names s k g) H')∧(∃new,(jA names s k g).freed=s.freed++new)∧∃e∈(jA names s k g).freed,Ent g e:=by
 have hin:∀y,y∈zL names g↔y∈g:=fun y=>za3 ch.sub
 have hent:=ziP ch.sub
 unfold jA
 have hsl:(zL names g).Sublist names:=List.filter_sublist
 generalize zL names g=S at *
 have hSne:S≠[]:=by
  refine Exists.elim (List.exists_mem_of_ne_nil _ ch.ne) fun y hy=>?_
  intro q
  have:=(hin y).mpr hy
  rw[q] at this;cases this
 have hrS:r∉S:=fun q=>ch.root ((hin r).mp q)
 have hne:Zp s.left S≠[]:=by
  refine Exists.elim (List.exists_mem_of_ne_nil _ hSne) fun y hy=>?_
  refine Exists.elim (List.getElem?_of_mem (hsl.subset hy)) fun i hi=>?_
  exact ze8 R.ok (fun x hx=>by rw[hr] at hx;cases hx;exact hrS) i i y (Nat.le_refl _) hi hy
 obtain⟨y₀,hy₀,p₀,hp₀,hc₀,hv₀⟩:=zbS.mp (zgc hne)
 have hmin:∀y∈S,∀p∈zh s.left y,p.1∉S→Qr (Zp s.left S)≤p.2:=fun y hy p hp hc=>zhK (zbS.mpr ⟨y,hy,p,hp,hc,rfl⟩)
 have hpr:0≤Qr (Zp s.left S):=by rw[←hv₀];exact R.pos _ _ hp₀
 generalize Qr (Zp s.left S)=price at *
 obtain⟨h1,h2,e,h3,h4⟩:=zna R hsl hSne hrS hpr hmin (fun e he q=>ch.no e he ((hent e).mp q)) (fun y hy z hz=>ch.conn y ((hin y).mp hy) z ((hin z).mp hz)) hy₀ hp₀ hc₀ hv₀ (s.notes+k+1)
 exact⟨⟨_,h1⟩,h2,e,h3,(hent e).mp h4⟩
end
section
open PySem
variable {names:List Str}{r:Str}{pl:Zm}{s:PS}{H:List Turn}
theorem zjS(h:PaidOk names pl []) (hp:∀y,∀p∈zh pl y,0≤p.2):Ran names r pl (zms names pl) [] where
 ok:=ze1 h
 row y:=by
  show zh pl y=_
  conv=>lhs;rw[←List.map_id (zh pl y)]
  refine List.map_congr_left fun p _=>?_
  show p=(p.1,p.2-0)
  rw[Int.sub_zero]
 pos:=hp
 free c y:=by
  show(c,y)∈Jr names pl↔_
  unfold Jr
  rw[List.mem_flatMap]
  constructor
  ·intro q2_
   refine zd q2_ fun y' hy' hm=>?_
   refine zd (List.mem_map.mp hm) fun c' hc' e=>?_
   cases e
   exact Jp.mp hc'
  ·intro hm
   have hm:(c,(0:Int))∈zh pl y:=hm
   refine⟨y,?_,List.mem_map.mpr ⟨c,Jp.mpr hm,rfl⟩⟩
   rw[←h.keys]
   unfold zh at hm
   cases e:zX pl y with
   | none=>rw[e] at hm;cases hm
   | some v=>
    unfold zX at e
    refine zd (Option.map_eq_some_iff.mp e) fun q hq _=>?_
    have:q.1=y:=by simpa using List.find?_some hq
    exact this▸List.mem_map_of_mem (f:=(·.1)) (List.mem_of_find?_eq_some hq)
 book:=rfl
 turn h hh:=by cases hh
noncomputable abbrev Jd:=List Str×Bool
structure Blk (names:List Str) (r:Str) (freed:zQ) (P:List Jd):Prop where
 cover:∀y∈names,y≠r→∃B∈P,y∈B.1
 conn:∀B∈P,∀y∈B.1,∀z∈B.1,To (ins freed) y z
 done:∀B∈P,B.2=true→∃g∈freed,Ent B.1 g
noncomputable def zdu(P:List Jd):Nat:=(P.filter fun B=>!B.2).length
noncomputable def mu(P:List Jd):Nat:=P.length+zdu P
noncomputable def apart(S:List Str) (B:Jd):Bool:=B.1.all fun y=>decide (y∉S)
theorem zbG{α:Type}(f:α→Bool):∀l:List α,(l.filter f).length+(l.filter fun x=>!f x).length=l.length
 | []=>rfl
 | a::l=>by
  have:=zbG f l
  by_cases h:f a=true
  ·simp[List.filter_cons,h];lia
  ·simp[List.filter_cons,h];lia
theorem zlC(f:Jd→Bool) (P:List Jd):mu P=mu (P.filter f)+mu (P.filter fun x=>!f x):=by
 unfold mu zdu
 have h1:=zbG f P
 have h2:=zbG f (P.filter fun B=>!B.2)
 simp only[List.filter_filter] at *
 have e1:=congrArg List.length (List.filter_congr (l:=P) (p:=fun a=>(!a.2&&f a)) (q:=fun a=>(f a&&!a.2)) fun x _=>Bool.and_comm _ _)
 have e2:=congrArg List.length (List.filter_congr (l:=P) (p:=fun a=>(!a.2&&!f a)) (q:=fun a=>(!f a&&!a.2)) fun x _=>Bool.and_comm _ _)
 lia
theorem zmd{freed:zQ}{P:List Jd}(b:Blk names r freed P) {g:List Str}(ch:Chosen names r s g) (hf:s.freed=freed) {new:zQ}{freed':zQ}(e:freed'=freed++new) (hent:∃e∈freed',Ent g e) :
  ∃P',Blk names r freed' P'∧mu P'+1≤mu P∧1≤mu P':=by
 subst hf
 have hmono:∀y z,To (ins s.freed) y z→To (ins freed') y z:=fun y z h=>h.mono fun u v hv=>Q5.mpr (e▸List.mem_append_left _ (Q5.mp hv))
 have hsub:∀B∈P,apart g B=false→∀z∈B.1,z∈g:=by
  intro B hB h z hz
  unfold apart at h
  rw[List.all_eq_false] at h
  refine zd h fun y hy hyg=>?_
  have hyg:y∈g:=by simpa using hyg
  refine(b.conn B hB y hy z hz).closed (P:=fun z=>z∈g) hyg fun u hu v hv=>?_
  exact Decidable.byContradiction fun q=>ch.no _ (Q5.mp hv) ⟨hu,q⟩
 refine⟨(g,true)::P.filter (apart g),⟨fun y hy hyr=>?_,fun B hB=>?_,fun B hB h=>?_⟩,?_,?_⟩
 ·refine zd (b.cover y hy hyr) fun B hB hyB=>?_
  cases h:apart g B with
  | true=>exact⟨B,List.mem_cons_of_mem _ (List.mem_filter.mpr ⟨hB,h⟩),hyB⟩
  | false=>exact⟨_,List.mem_cons_self,hsub B hB h y hyB⟩
 ·rcases List.mem_cons.mp hB with rfl | hB
  ·exact fun y hy z hz=>hmono _ _ (ch.conn y hy z hz)
  ·exact fun y hy z hz=>hmono _ _ (b.conn B (List.mem_filter.mp hB).1 y hy z hz)
 ·rcases List.mem_cons.mp hB with rfl | hB
  ·exact hent
  ·refine zd (b.done B (List.mem_filter.mp hB).1 h) fun q hq hq2=>?_
   exact⟨q,e▸List.mem_append_left _ hq,hq2⟩
 ·have e1:=zlC (apart g) P
  have e2:mu ((g,true)::P.filter (apart g))=mu (P.filter (apart g))+1:=by
   unfold mu zdu;simp;lia
  have hge:2≤mu (P.filter fun x=>!apart g x):=by
   refine Exists.elim (List.exists_mem_of_ne_nil _ ch.ne) fun y hy=>?_
   have hin:∀y∈g,∃B∈P.filter (fun x=>!apart g x),y∈B.1:=fun y hy=>by
    refine zd (b.cover y (ch.sub y hy) (fun q=>ch.root (q▸hy))) fun B hB hyB=>?_
    refine⟨B,List.mem_filter.mpr ⟨hB,?_⟩,hyB⟩
    have:apart g B=false:=by
     unfold apart
     rw[List.all_eq_false]
     exact⟨y,hyB,by simpa using hy⟩
    simp[this]
   have v6:∀B∈P.filter (fun x=>!apart g x),B∈P∧apart g B=false:=fun B hB=>by
    refine zR (List.mem_filter.mp hB) fun h1 h2=>?_
    exact⟨h1,by simpa using h2⟩
   generalize P.filter (fun x=>!apart g x)=Rm at *
   match Rm with
   | []=>obtain⟨B,hB,_⟩:=hin y hy;cases hB
   | [B]=>
    refine zR (v6 B List.mem_cons_self) fun hB hap=>?_
    have hgB:∀y∈g,y∈B.1:=fun y hy=>by
     refine zd (hin y hy) fun B' hB' h=>?_
     rw[List.mem_singleton.mp hB'] at h;exact h
    have hBf:B.2=false:=by
     cases hb2:B.2 with
     | false=>rfl
     | true=>
      refine qD (b.done B hB hb2) fun q hq hq1 hq2=>?_
      exact absurd ⟨hsub B hB hap _ hq1,fun h=>hq2 (hgB _ h)⟩ (ch.no q hq)
    unfold mu zdu
    simp[hBf]
   | B::B'::Rm=>unfold mu;simp;lia
  lia
 ·unfold mu;rw[List.length_cons];lia
theorem zeB(R:Ran names r pl s H) (hr:names[0]?=some r) {way:Int}(hw:way=1∨way=-1) {P:List Jd}(b:Blk names r s.freed P) (hne:Z7 r (zP names s.left)≠[]) :
  ∃H' P',Ran names r pl (qs names way s) H'∧Blk names r (qs names way s).freed P'∧mu P'+1≤mu P∧1≤mu P':=by
 have hr0:names.getD 0 ""=r:=by rw[List.getD_eq_getElem?_getD,hr];rfl
 unfold qs
 rw[hr0]
 cases e:Z7 r (zP names s.left) with
 | nil=>exact absurd e hne
 | cons a as=>
  have ch:=zkJ R hw e
  simp only
  refine z9 (zlw R hr ch (a::as).length) fun q3_ q4_ hent=>?_
  obtain⟨H',R'⟩:=q3_
  obtain⟨new,hnew⟩:=q4_
  refine qD (zmd b ch rfl hnew hent) fun P' b' h1 h2=>?_
  exact⟨H',P',R',b',h1,h2⟩
theorem zjC(hr:names[0]?=some r) {way:Int}(e:Z7 r (zP names s.left)=[]):qs names way s=s:=by
 have hr0:names.getD 0 ""=r:=by rw[List.getD_eq_getElem?_getD,hr];rfl
 unfold qs
 rw[hr0,e]
theorem zf7(h:PaidOk names pl []) (hp:∀y,∀p∈zh pl y,0≤p.2) (hr:names[0]?=some r) {way:Int}(hw:way=1∨way=-1) (hn:names.length=5):∀k,∃H P,Ran names r pl (Zc names way pl k) H∧Blk names r (Zc names way pl k).freed P∧
   (Z7 r (zP names (Zc names way pl k).left)=[]∨mu P+k≤8)
 | 0=>by
  refine⟨[],(names.drop 1).map fun y=>([y],false),zjS h hp,⟨fun y hy hyr=>?_,fun B hB y hy z hz=>?_,fun B hB hb=>?_⟩,.inr ?_⟩
  ·obtain⟨x,l,e⟩:∃x l,names=x::l:=by
    cases names with
    | nil=>cases hy
    | cons x l=>exact⟨x,l,rfl⟩
   subst e
   simp at hr
   subst hr
   exact⟨([y],false),List.mem_map.mpr ⟨y,by simpa using (List.mem_cons.mp hy).resolve_left hyr,rfl⟩,by simp⟩
  ·refine zd (List.mem_map.mp hB) fun x _ q7_=>?_
   subst q7_
   rw[List.mem_singleton.mp hy,List.mem_singleton.mp hz]
   exact .self
  ·refine zd (List.mem_map.mp hB) fun x _ q6_=>?_
   subst q6_
   cases hb
  ·unfold mu zdu
   have e:((names.drop 1).map fun y=>(([y],false):Jd)).filter (fun B=>!B.2)=(names.drop 1).map fun y=>(([y],false):Jd):=List.filter_eq_self.mpr fun B hB=>by
    refine zd (List.mem_map.mp hB) fun x _ q5_=>?_
    subst q5_
    rfl
   rw[e,List.length_map,List.length_drop]
   lia
 | k+1=>by
  refine Zk (zf7 h hp hr hw hn k) fun H P R b hk=>?_
  show ∃H P,Ran names r pl (qs names way (Zc names way pl k)) H∧Blk names r (qs names way (Zc names way pl k)).freed P∧(Z7 r (zP names (qs names way (Zc names way pl k)).left)=[]∨_)
  by_cases e:Z7 r (zP names (Zc names way pl k).left)=[]
  ·rw[zjC hr e]
   exact⟨H,P,R,b,.inl e⟩
  ·refine ziO (zeB R hr hw b e) fun H' P' R' b' h1 h2=>?_
   have:=hk.resolve_left e
   exact⟨H',P',R',b',.inr (by lia)⟩
theorem zlA(h:PaidOk names pl []) (hp:∀y,∀p∈zh pl y,0≤p.2) (hr:names[0]?=some r) {way:Int}(hw:way=1∨way=-1) (hn:names.length=5):∃H,Ran names r pl (Zc names way pl 7) H∧All (Zc names way pl 7).freed names r:=by
 refine Zk (zf7 h hp hr hw hn 7) fun H P R b hk=>?_
 have e:Z7 r (zP names (Zc names way pl 7).left)=[]:=by
  rcases hk with e | hk
  ·exact e
  ·by_cases e:Z7 r (zP names (Zc names way pl 7).left)=[]
   ·exact e
   ·refine ziO (zeB R hr hw b e) fun _ P' _ _ h1 h2=>?_
    lia
 refine⟨H,R,fun y hy=>?_⟩
 have x7:r∈closed (zK names (Zc names way pl 7).left) y:=by
  refine Decidable.byContradiction fun q=>?_
  refine Exists.elim (List.getElem?_of_mem hy) fun j hj=>?_
  have:(j,(closed (zK names (Zc names way pl 7).left) y).length)∈Z7 r (zP names (Zc names way pl 7).left):=by
   unfold Z7
   refine List.mem_map.mpr ⟨(closed (zK names (Zc names way pl 7).left) y,j),List.mem_filter.mpr ⟨?_,by simpa using q⟩,rfl⟩
   rw[List.mem_zipIdx_iff_getElem?]
   show(zP names _)[j]?=_
   unfold zP
   rw[List.getElem?_map,hj];rfl
  rw[e] at this;cases this
 exact Rch.back ((R.grp hy r).mp x7) .self
end
section
open PySem
theorem zcs{α:Type}(f g:α→Int):∀l:List α,(l.map fun x=>f x+g x).sum=(l.map f).sum+(l.map g).sum
 | []=>rfl
 | a::l=>by simp only[List.map_cons,List.sum_cons,zcs f g l];lia
theorem J0{α:Type}:∀l:List α,(l.map fun _=>(0:Int)).sum=0
 | []=>rfl
 | a::l=>by simp only[List.map_cons,List.sum_cons,J0 l];lia
theorem zcG{α β:Type}(f:α→β→Int) (m:List β):∀l:List α,(l.map fun x=>(m.map fun y=>f x y).sum).sum=(m.map fun y=>(l.map fun x=>f x y).sum).sum
 | []=>by simp[J0]
 | a::l=>by simp only[List.map_cons,List.sum_cons,zcG f m l];rw[←zcs]
theorem zaR{α:Type}{f g:α→Int}:∀{l:List α},(∀x∈l,f x≤g x)→(l.map f).sum≤(l.map g).sum
 | [],_=>Int.le_refl _
 | a::l,h=>by
  have h1:=h a List.mem_cons_self
  have h2:=zaR fun x hx=>h x (List.mem_cons_of_mem a hx)
  simp only[List.map_cons,List.sum_cons];lia
theorem zhx{α:Type} [DecidableEq α] {q:α→Prop} [DecidablePred q] {v:Int}{g:α}:∀{l:List α},l.Nodup→g∈l→q g→(∀x∈l,q x→x=g)→(l.map fun x=>if q x then v else 0).sum=v
 | [],_,h,_,_=>by cases h
 | a::l,hn,hg,hq,hu=>by
  rw[List.nodup_cons] at hn
  rw[List.map_cons,List.sum_cons]
  by_cases e:a=g
  ·subst e
   rw[if_pos hq]
   have:(l.map fun x=>if q x then v else 0)=l.map fun _=>0:=List.map_congr_left fun x hx=>by
    rw[if_neg]
    intro h
    exact hn.1 (hu x (List.mem_cons_of_mem _ hx) h▸hx)
   rw[this,J0];lia
  ·rw[if_neg fun h=>e (hu a List.mem_cons_self h),zhx hn.2 ((List.mem_cons.mp hg).resolve_left fun h=>e h.symm) hq fun x hx=>hu x (List.mem_cons_of_mem _ hx)];lia
theorem zfS{α:Type}{q:α→Prop} [DecidablePred q] {v:Int}(hv:0≤v):∀{l:List α},(∃x∈l,q x)→v≤(l.map fun x=>if q x then v else 0).sum
 | [],h=>by obtain⟨x,hx,_⟩:=h;cases hx
 | a::l,⟨x,hx,hq⟩=>by
  have hnn:∀m:List α,0≤(m.map fun x=>if q x then v else 0).sum:=fun m=>by
   induction m with
   | nil=>exact Int.le_refl _
   | cons b m ih=>simp only[List.map_cons,List.sum_cons];split<;>lia
  rw[List.map_cons,List.sum_cons]
  have:=hnn l
  by_cases e:q a
  ·rw[if_pos e];lia
  ·rw[if_neg e]
   have hx':x∈l:=(List.mem_cons.mp hx).resolve_left fun h=>e (h▸hq)
   have:=zfS hv ⟨x,hx',hq⟩
   lia
noncomputable def QH(φ:Str→Bool) (b:List (Str×Int)):Int:=((b.filter fun q=>φ q.1).map (·.2)).sum
theorem zg3(φ:Str→Bool) (a b:List (Str×Int)):QH φ (a++b)=QH φ a+QH φ b:=by
 unfold QH;rw[List.filter_append,List.map_append,List.sum_append]
theorem zbH(φ:Str→Bool) (p:Str×Int) (b:List (Str×Int)):QH φ (p::b)=(if φ p.1 then p.2 else 0)+QH φ b:=by
 unfold QH
 by_cases h:φ p.1=true
 ·rw[List.filter_cons_of_pos (by simpa using h),if_pos h];rfl
 ·rw[List.filter_cons_of_neg (by simpa using h),if_neg h];lia
theorem zge{α:Type}(l:List (Str×α)) (k:Str) (v:α):(l.map fun p=>if p.1=k then (p.1,v) else p).map (·.1)=l.map (·.1):=by
 rw[List.map_map]
 refine List.map_congr_left fun p _=>?_
 show(if p.1=k then (p.1,v) else p).1=p.1
 split<;>rfl
theorem zfZ(φ:Str→Bool) {w:Str}{v old:Int}:∀{b:List (Str×Int)},(b.map (·.1)).Nodup→zX b w=some old→QH φ (b.map fun p=>if p.1=w then (p.1,v) else p)=QH φ b+if φ w then v-old else 0
 | [],_,h=>by simp[zX] at h
 | p::b,hn,h=>by
  rw[List.map_cons,List.nodup_cons] at hn
  rw[List.map_cons,zbH,zbH]
  unfold zX at h
  rw[List.find?_cons] at h
  by_cases e:p.1=w
  ·simp only[e,decide_true] at h
   have h:p.2=old:=by simpa using h
   have hb:b.map (fun p=>if p.1=w then (p.1,v) else p)=b:=by
    conv=>rhs;rw[←List.map_id b]
    refine List.map_congr_left fun q hq=>?_
    rw[if_neg fun(h:q.1=w)=>hn.1 (e▸h▸List.mem_map_of_mem (f:=(·.1)) hq)];rfl
   rw[hb,if_pos e]
   show(if φ p.1=true then v else 0)+_=_
   rw[e,h]
   split<;>lia
  ·simp only[e,decide_false] at h
   rw[if_neg e,zfZ φ hn.2 (by unfold zX;exact h)]
   lia
theorem zn1{b:List (Str×Int)}{w:Str}{p:Int}(hn:(b.map (·.1)).Nodup) :
  ((qq (·+·) b [(w,p)]).map (·.1)).Nodup∧(∀x,x∈(qq (·+·) b [(w,p)]).map (·.1)↔x∈b.map (·.1)∨x=w)∧∀φ,QH φ (qq (·+·) b [(w,p)])=QH φ b+if φ w then p else 0:=by
 rw[zbs hn]
 show((zM (·+·) b (w,p)).map (·.1)).Nodup∧(∀x,x∈(zM (·+·) b (w,p)).map (·.1)↔_)∧∀φ,QH φ (zM (·+·) b (w,p))=_
 unfold zM
 cases e:zX b w with
 | none=>
  have hw:w∉b.map (·.1):=by
   intro h
   refine zd (List.mem_map.mp h) fun q hq e1=>?_
   rw[jv,List.any_eq_false] at e
   exact e q hq (by simpa using e1)
  simp only
  rw[zdm hw]
  refine⟨?_,fun x=>by simp,fun φ=>?_⟩
  ·rw[List.map_append,List.nodup_append]
   refine⟨hn,by simp,?_⟩
   intro a ha c hc q
   simp at hc
   exact hw (hc▸q▸ha)
  ·rw[zg3,zbH]
   show QH φ b+((if φ w=true then p else 0)+0)=_
   lia
 | some old=>
  simp only
  have ep:z5 b w (old+p)=b.map fun q=>if q.1=w then (q.1,old+p) else q:=by
   unfold z5;rw[if_pos (zeZ e)]
  have hw:w∈b.map (·.1):=by
   unfold zX at e
   refine zd (Option.map_eq_some_iff.mp e) fun q hq _=>?_
   have:q.1=w:=by simpa using List.find?_some hq
   exact this▸List.mem_map_of_mem (f:=(·.1)) (List.mem_of_find?_eq_some hq)
  rw[ep,zge]
  refine⟨hn,fun x=>⟨.inl,fun h=>h.elim id fun q=>q▸hw⟩,fun φ=>?_⟩
  rw[zfZ φ hn e]
  split<;>lia
theorem zgL:∀(H:List Turn) (b:List (Str×Int)),(b.map (·.1)).Nodup→
  ((H.foldl (fun b h=>qq (·+·) b [(Txt.join zJ h.S,h.price)]) b).map (·.1)).Nodup∧(∀x,x∈(H.foldl (fun b h=>qq (·+·) b [(Txt.join zJ h.S,h.price)]) b).map (·.1)↔x∈b.map (·.1)∨∃h∈H,x=Txt.join zJ h.S)∧
  ∀φ,QH φ (H.foldl (fun b h=>qq (·+·) b [(Txt.join zJ h.S,h.price)]) b)=QH φ b+(H.map fun h=>if φ (Txt.join zJ h.S) then h.price else 0).sum
 | [],b,hn=>⟨hn,fun x=>by simp,fun φ=>by simp⟩
 | h::H,b,hn=>by
  refine z9 (zn1 (w:=Txt.join zJ h.S) (p:=h.price) hn) fun h1 h2 h3=>?_
  refine z9 (zgL H _ h1) fun k1 k2 k3=>?_
  rw[List.foldl_cons]
  refine⟨k1,fun x=>?_,fun φ=>?_⟩
  ·rw[k2 x,h2 x]
   constructor
   ·rintro((h | h) | ⟨t,ht,e⟩)
    ·exact .inl h
    ·exact .inr ⟨_,List.mem_cons_self,h⟩
    ·exact .inr ⟨t,List.mem_cons_of_mem _ ht,e⟩
   ·rintro(h | ⟨t,ht,e⟩)
    ·exact .inl (.inl h)
    ·rcases List.mem_cons.mp ht with rfl | ht
     ·exact .inl (.inr e)
     ·exact .inr ⟨t,ht,e⟩
  ·rw[k3 φ,h3 φ,List.map_cons,List.sum_cons];lia
theorem JP(H:List Turn):((zb8 H).map (·.1)).Nodup∧(∀x,x∈(zb8 H).map (·.1)↔∃h∈H,x=Txt.join zJ h.S)∧∀φ,QH φ (zb8 H)=(H.map fun h=>if φ (Txt.join zJ h.S) then h.price else 0).sum:=by
 refine z9 (zgL H [] (by simp)) fun h1 h2 h3=>?_
 refine⟨h1,fun x=>(h2 x).trans (by simp),fun φ=>(h3 φ).trans ?_⟩
 show(0:Int)+_=_
 lia
end
section
open PySem
variable {names:List Str}{r:Str}{pl:Zm}{s:PS}{H:List Turn}{T:zQ}
noncomputable def wAt(pl:Zm) (c y:Str):Int:=(zX (zh pl y) c).getD 0
theorem Ran.rnd(R:Ran names r pl s H) (y:Str):((zh pl y).map (·.1)).Nodup:=by
 have:=R.ok.rnd y
 rw[R.row y,List.map_map] at this
 exact this
theorem Ran.w_free(R:Ran names r pl s H) {c y:Str}(h:(c,y)∈s.freed):wAt pl c y=jG H c y∧c∈(zh pl y).map (·.1):=by
 have:=(R.free c y).mp h
 rw[R.row y] at this
 obtain⟨p,hp,e⟩:=List.mem_map.mp this
 have e1:p.1=c:=congrArg Prod.fst e
 have e2:p.2-jG H p.1 y=0:=congrArg Prod.snd e
 rw[e1] at e2
 unfold wAt
 rw[←e1,qT (R.rnd y) hp,e1]
 exact⟨by show p.2=_;lia,e1▸List.mem_map_of_mem (f:=(·.1)) hp⟩
theorem Ran.w_key(R:Ran names r pl s H) {c y:Str}(h:c∈(zh pl y).map (·.1)):jG H c y≤wAt pl c y:=by
 obtain⟨p,hp,rfl⟩:=List.mem_map.mp h
 have:=R.pos y (p.1,p.2-jG H p.1 y) (by rw[R.row y];exact List.mem_map.mpr ⟨p,hp,rfl⟩)
 unfold wAt
 rw[qT (R.rnd y) hp]
 have h2:0≤p.2-jG H p.1 y:=this
 show _≤p.2
 lia
theorem zf9(H:List Turn) (g:Str×Str):jG H g.1 g.2=(H.map fun h=>if Ent h.S g then h.price else 0).sum:=rfl
theorem TurnOk.one{freed:zQ}{h:Turn}(t:TurnOk names r freed h) (k:KeptOk names r freed T):∃g∈T,Ent h.S g∧∀g'∈T,Ent h.S g'→g'=g:=by
 obtain⟨suf,e⟩:=t.pre
 exact k.one e t.no t.conn t.root t.ne fun y hy=>t.sub.subset hy
theorem Ran.cost(R:Ran names r pl s H) (k:KeptOk names r s.freed T) {E:List (Str×Str)}(hE:E.Nodup) (hm:∀g,g∈E↔g∈T):(E.map fun g=>wAt pl g.1 g.2).sum=(H.map (·.price)).sum:=by
 have e1:(E.map fun g=>wAt pl g.1 g.2)=E.map fun g=>(H.map fun h=>if Ent h.S g then h.price else 0).sum:=List.map_congr_left fun g hg=>by
  rw[(R.w_free (c:=g.1) (y:=g.2) (k.sub.subset ((hm g).mp hg))).1,zf9]
 rw[e1,zcG]
 congr 1
 refine List.map_congr_left fun h hh=>?_
 obtain⟨g,hg,he,hu⟩:=(R.turn h hh).one k
 exact zhx hE ((hm g).mpr hg) he fun x hx hq=>hu x ((hm x).mp hx) hq
theorem Ran.cost_low(R:Ran names r pl s H) {E:List (Str×Str)}(hk:∀g∈E,g.1∈(zh pl g.2).map (·.1)) (hS:∀h∈H,∃g∈E,Ent h.S g):(H.map (·.price)).sum≤(E.map fun g=>wAt pl g.1 g.2).sum:=by
 have h1:(E.map fun g=>(H.map fun h=>if Ent h.S g then h.price else 0).sum).sum≤(E.map fun g=>wAt pl g.1 g.2).sum:=zaR fun g hg=>by
  rw[←zf9]
  exact R.w_key (hk g hg)
 rw[zcG] at h1
 refine Int.le_trans (zaR fun h hh=>?_) h1
 exact zfS (R.turn h hh).pos (hS h hh)
noncomputable def itU(u:List Nat):Nat→Nat→Nat
 | 0,k=>k
 | m+1,k=>itU u m (u.getD k 0)
noncomputable abbrev uL(a b c d:Nat):List Nat:=[0,a,b,c,d]
theorem zgn{a b c d:Nat}:∀m,itU (uL a b c d) m 0=0
 | 0=>rfl
 | m+1=>zgn m
theorem zoK:((List.range 5).all fun a=>(List.range 5).all fun b=>(List.range 5).all fun c=>(List.range 5).all fun d=>(List.range 5).all fun k=>itU (uL a b c d) 4 k==0||itU (uL a b c d) 4 ((uL a b c d).getD k 0) != 0)=true:=by decide +kernel
theorem zlN{a:Nat}(ha:a<5) {b:Nat}(hb:b<5) {c:Nat}(hc:c<5) {d:Nat}(hd:d<5) {k:Nat}(hk:k<5) (h:itU (uL a b c d) 4 k≠0):itU (uL a b c d) 4 ((uL a b c d).getD k 0)≠0:=by
 have m:∀{x},x<5→x∈List.range 5:=fun h=>List.mem_range.mpr h
 have:=List.all_eq_true.mp (List.all_eq_true.mp (List.all_eq_true.mp (List.all_eq_true.mp (List.all_eq_true.mp zoK a (m ha)) b (m hb)) c (m hc)) d (m hd)) k (m hk)
 simp only[Bool.or_eq_true,beq_iff_eq,bne_iff_ne] at this
 exact this.resolve_left h
theorem lt5{P:Nat→Prop}{k:Nat}(hk:k<5) (h0:P 0) (h1:P 1) (h2:P 2) (h3:P 3) (h4:P 4):P k:=
 (show ∀x∈[0,1,2,3,4],P x from List.forall_mem_cons.mpr ⟨h0,List.forall_mem_cons.mpr ⟨h1,List.forall_mem_cons.mpr ⟨h2,List.forall_mem_cons.mpr ⟨h3,List.forall_mem_cons.mpr ⟨h4,fun _ h=>absurd h List.not_mem_nil⟩⟩⟩⟩⟩) k (List.mem_range.mpr hk)
theorem zid{a b c d:Nat}(ha:a<5) (hb:b<5) (hc:c<5) (hd:d<5) (k:Nat):(uL a b c d).getD k 0<5:=by
 refine(Nat.lt_or_ge k 5).elim (fun h=>lt5 (P:=fun k=>(uL a b c d).getD k 0<5) h (Nat.succ_pos 4) ha hb hc hd) fun h=>?_
 rw[List.getD_eq_getElem?_getD,List.getElem?_eq_none (show(uL a b c d).length≤k from h)]
 exact Nat.succ_pos 4
theorem znA{a b c d:Nat}(ha:a<5) (hb:b<5) (hc:c<5) (hd:d<5):∀(m k:Nat),k<5→itU (uL a b c d) m k=0→itU (uL a b c d) 4 k=0:=by
 intro m
 induction m with
 | zero=>intro k hk h;have h:k=0:=h;subst h;exact zgn 4
 | succ m ih=>
  intro k hk h
  have h1:=ih _ (zid ha hb hc hd k) h
  exact Decidable.byContradiction fun q=>zlN ha hb hc hd hk q h1
theorem zga{a b c d:Nat}:okUp (uL a b c d)=true↔∀k,k<5→itU (uL a b c d) 4 k=0:=by
 unfold okUp
 rw[decide_eq_true_eq,List.filter_eq_nil_iff]
 have key:∀k,itU (uL a b c d) 4 k=(uL a b c d).getD ((uL a b c d).getD ((uL a b c d).getD ((uL a b c d).getD k 0) 0) 0) 0:=fun k=>rfl
 constructor
 ·intro h k hk
  have hm:(uL a b c d).getD k 0∈uL a b c d:=by
   exact lt5 (P:=fun k=>(uL a b c d).getD k 0∈uL a b c d) hk (by simp) (by simp) (by simp) (by simp) (by simp)
  have:=h _ hm
  rw[key]
  simpa using this
 ·intro h x hx
  have:∃k,k<5∧x=(uL a b c d).getD k 0:=by
   simp only[List.mem_cons,List.not_mem_nil,or_false] at hx
   rcases hx with rfl | rfl | rfl | rfl | rfl
   ·exact⟨0,by lia,rfl⟩
   ·exact⟨1,by lia,rfl⟩
   ·exact⟨2,by lia,rfl⟩
   ·exact⟨3,by lia,rfl⟩
   ·exact⟨4,by lia,rfl⟩
  obtain⟨k,hk,rfl⟩:=this
  have:=h k hk
  rw[key] at this
  simpa using this
end
section
open PySem
section
variable {K:Type} [DecidableEq K] {α:Type}
theorem QX(add:α→α→α) (acc:List (K×α)) (p:K×α):(zM add acc p).map (·.1)=if p.1∈acc.map (·.1) then acc.map (·.1) else acc.map (·.1)++[p.1]:=by
 have hput:∀v,(z5 acc p.1 v).map (·.1)=if p.1∈acc.map (·.1) then acc.map (·.1) else acc.map (·.1)++[p.1]:=by
  intro v
  have hany:(acc.any fun q=>decide (q.1=p.1))=true↔p.1∈acc.map (·.1):=by
   rw[List.any_eq_true,List.mem_map]
   exact⟨fun⟨q,hq,e⟩=>⟨q,hq,by simpa using e⟩,fun⟨q,hq,e⟩=>⟨q,hq,by simpa using e⟩⟩
  unfold z5
  by_cases h:p.1∈acc.map (·.1)
  ·rw[if_pos (hany.mpr h),if_pos h,List.map_map]
   refine List.map_congr_left fun q _=>?_
   show(if q.1=p.1 then (q.1,v) else q).1=q.1
   split<;>rfl
  ·rw[if_neg fun q=>h (hany.mp q),if_neg h];simp
 unfold zM
 split<;>exact hput _
theorem zbz{add:α→α→α}{acc:List (K×α)}{p:K×α}(h:(acc.map (·.1)).Nodup):((zM add acc p).map (·.1)).Nodup:=by
 rw[QX]
 split
 ·exact h
 ·rename_i q
  rw[List.nodup_append]
  exact⟨h,by simp,fun a ha b hb e=>by simp at hb;exact q (hb▸e▸ha)⟩
theorem zcR{K':Type} [DecidableEq K'] {κ:K→K'}{acc:List (K×α)}{t:K}(hκ:∀p∈acc,κ p.1=κ t→p.1=t):zX (acc.map fun p=>(κ p.1,p.2)) (κ t)=zX acc t:=by
 unfold zX
 induction acc with
 | nil=>rfl
 | cons a l ih=>
  rw[List.map_cons,List.find?_cons,List.find?_cons]
  by_cases e:a.1=t
  ·simp[e]
  ·have:¬κ a.1=κ t:=fun q=>e (hκ a List.mem_cons_self q)
   simp only[e,this,decide_false]
   exact ih fun p hp=>hκ p (List.mem_cons_of_mem _ hp)
theorem zcJ{K':Type} [DecidableEq K'] {κ:K→K'}{acc:List (K×α)}{t:K}{v:α}(hκ:∀p∈acc,κ p.1=κ t→p.1=t):z5 (acc.map fun p=>(κ p.1,p.2)) (κ t) v=(z5 acc t v).map fun p=>(κ p.1,p.2):=by
 unfold z5
 have e:((acc.map fun p=>(κ p.1,p.2)).any fun p=>decide (p.1=κ t))=acc.any fun p=>decide (p.1=t):=by
  rw[List.any_map]
  induction acc with
  | nil=>rfl
  | cons a l ih=>
   rw[List.any_cons,List.any_cons,ih fun p hp=>hκ p (List.mem_cons_of_mem _ hp)]
   congr 1
   exact decide_eq_decide.mpr ⟨fun q=>hκ a List.mem_cons_self q,fun q=>by show κ a.1=κ t;rw[q]⟩
 rw[e]
 split
 ·rw[List.map_map,List.map_map]
  refine List.map_congr_left fun p hp=>?_
  show(if κ p.1=κ t then (κ p.1,v) else (κ p.1,p.2))=(fun p:K×α=>(κ p.1,p.2)) (if p.1=t then (p.1,v) else p)
  by_cases e:p.1=t
  ·simp[e]
  ·have:¬κ p.1=κ t:=fun q=>e (hκ p hp q)
   simp[e,this]
 ·simp
theorem zhn{K':Type} [DecidableEq K'] {κ:K→K'}{add:α→α→α}{acc:List (K×α)}{t:K}{v:α}(hκ:∀p∈acc,κ p.1=κ t→p.1=t):zM add (acc.map fun p=>(κ p.1,p.2)) (κ t,v)=(zM add acc (t,v)).map fun p=>(κ p.1,p.2):=by
 unfold zM
 simp only[zcR hκ]
 cases zX acc t with
 | none=>exact zcJ hκ
 | some old=>exact zcJ hκ
end
noncomputable def ja(row:List ZG):List Row:=row.foldl (fun acc r=>zM qW acc (r.1,((1:Int),(r.2.2:Int)))) []
noncomputable def zfw(ks:List Nat) (l:List ZG):List Nat:=l.foldl (fun ks r=>if r.1∈ks then ks else ks++[r.1]) ks
noncomputable def zag(l:List ZG) (x:Nat):Int×Int:=((((l.map (·.1)).countP (fun t=>decide (t=x)):Nat):Int),(((l.filter fun c=>decide (c.1=x)).map fun c=>((c.2.2:Nat):Int)).sum))
theorem zh2{β:Type}{f:Nat→β}(ks:List Nat) (a:Nat):((ks.map fun x=>(x,f x)).any fun p=>decide (p.1=a))=decide (a∈ks):=by
 rw[List.any_map]
 refine Bool.eq_iff_iff.mpr (List.any_eq_true.trans (Iff.trans ?_ decide_eq_true_iff.symm))
 exact⟨fun h=>h.elim fun x h=>of_decide_eq_true h.2▸h.1,fun h=>⟨a,h,decide_eq_true rfl⟩⟩
theorem zhG{β:Type}{f g:Nat→β}(ks:List Nat) (a:Nat) (h:∀x,x≠a→f x=g x):z5 (ks.map fun x=>(x,f x)) a (g a)=(if a∈ks then ks else ks++[a]).map fun x=>(x,g x):=by
 unfold z5
 rw[zh2]
 by_cases e:a∈ks
 ·rw[if_pos (decide_eq_true e),if_pos e,List.map_map]
  refine List.map_congr_left fun x _=>?_
  show(if x=a then (x,g a) else (x,f x))=_
  by_cases q:x=a
  ·rw[if_pos q,q]
  ·rw[if_neg q,h x q]
 ·rw[if_neg fun q=>e (of_decide_eq_true q),if_neg e,List.map_append]
  exact congrArg (·++_) (List.map_congr_left fun x hx=>congrArg (Prod.mk x) (h x fun q=>e (q▸hx)))
theorem znJ{β:Type}{f:Nat→β}(ks:List Nat) (a:Nat):zX (ks.map fun x=>(x,f x)) a=if a∈ks then some (f a) else none:=by
 by_cases e:a∈ks
 ·rw[if_pos e]
  refine Option.map_eq_some_iff.mpr ⟨(a,f a),?_,rfl⟩
  rw[List.find?_map]
  refine Option.map_eq_some_iff.mpr ⟨a,?_,rfl⟩
  induction ks with
  | nil=>cases e
  | cons x l ih=>
   rw[List.find?_cons]
   by_cases q:x=a
   ·rw[show((fun p:Nat×β=>decide (p.1=a))∘fun x=>(x,f x)) x=true from decide_eq_true q,q]
   ·rw[show((fun p:Nat×β=>decide (p.1=a))∘fun x=>(x,f x)) x=false from decide_eq_false q];exact ih ((List.mem_cons.mp e).resolve_left fun z=>q z.symm)
 ·rw[if_neg e,jv,zh2];exact decide_eq_false e
theorem zaM(l:List ZG) (r:ZG) (x:Nat):zag (l++[r]) x=if r.1=x then qW (zag l x) ((1:Int),(r.2.2:Int)) else zag l x:=by
 unfold zag qW
 rw[List.map_append,List.countP_append,List.filter_append,List.map_append,List.sum_append]
 by_cases e:r.1=x
 ·rw[if_pos e]
  simp only[List.map_cons,List.map_nil,List.countP_singleton,List.filter_cons,e,decide_true,if_true,List.filter_nil,List.sum_cons,List.sum_nil]
  exact Prod.ext (Int.add_comm (_:Nat) 1) ((congrArg _ (Int.add_zero _)).trans (Int.add_comm _ _))
 ·rw[if_neg e]
  simp only[List.map_cons,List.map_nil,List.countP_singleton,List.filter_cons,e,decide_false,Bool.false_eq_true,if_false,List.filter_nil,List.sum_nil,Nat.add_zero,Int.add_zero]
theorem zm9(F:Nat→Int×Int) (l:List ZG) (ks:List Nat):l.foldl (fun acc r=>z5 acc r.1 (F r.1)) (ks.map fun x=>(x,F x))=(zfw ks l).map fun x=>(x,F x):=by
 unfold zfw
 induction l generalizing ks with
 | nil=>rfl
 | cons r l ih=>rw[List.foldl_cons,List.foldl_cons,zhG ks r.1 fun _ _=>rfl,ih]
theorem zjM(l:List ZG) (m:List ZG) (ks:List Nat) (h:∀x,x∉ks→zag m x=(0,0)):l.foldl (fun acc r=>zM qW acc (r.1,((1:Int),(r.2.2:Int)))) (ks.map fun x=>(x,zag m x))=(zfw ks l).map fun x=>(x,zag (m++l) x):=by
 unfold zfw
 induction l generalizing ks m with
 | nil=>rw[List.append_nil];rfl
 | cons r l ih=>
  have e:zM qW (ks.map fun x=>(x,zag m x)) (r.1,((1:Int),(r.2.2:Int)))=(if r.1∈ks then ks else ks++[r.1]).map fun x=>(x,zag (m++[r]) x):=by
   rw[←zhG ks r.1 fun x hx=>((zaM m r x).trans (if_neg fun q=>hx q.symm)).symm,zaM,if_pos rfl]
   unfold zM
   rw[znJ]
   by_cases q:r.1∈ks
   ·rw[if_pos q]
   ·rw[if_neg q,h _ q];rfl
  rw[List.foldl_cons,List.foldl_cons,e,ih (m++[r]),List.append_assoc];rfl
  intro x hx
  by_cases q:r.1∈ks
  ·rw[if_pos q] at hx
   rw[zaM,if_neg fun z:r.1=x=>hx (z▸q),h x hx]
  ·rw[if_neg q] at hx
   have hx:=fun z=>hx (List.mem_append.mpr z)
   rw[zaM,if_neg fun z=>hx (.inr (List.mem_singleton.mpr z.symm)),h x fun z=>hx (.inl z)]
theorem zjV(l:List ZG):QT l=ja l:=(zm9 (zag l) l []).trans (zjM l [] [] fun _ _=>rfl).symm
theorem zjN(row:List ZG):((ja row).map (·.1)).Nodup∧∀x∈(ja row).map (·.1),x∈row.map (·.1):=by
 unfold ja
 have key:∀(row:List ZG) (acc:List Row),(acc.map (·.1)).Nodup→((row.foldl (fun acc r=>zM qW acc (r.1,((1:Int),(r.2.2:Int)))) acc).map (·.1)).Nodup∧∀x∈(row.foldl (fun acc r=>zM qW acc (r.1,((1:Int),(r.2.2:Int)))) acc).map (·.1),x∈acc.map (·.1)∨x∈row.map (·.1):=by
  intro row
  induction row with
  | nil=>exact fun acc h=>⟨h,fun x hx=>.inl hx⟩
  | cons a l ih=>
   intro acc h
   refine zR (ih (zM qW acc (a.1,((1:Int),(a.2.2:Int)))) (zbz h)) fun h1 h2=>?_
   refine⟨h1,fun x hx=>?_⟩
   rcases h2 x hx with hx | hx
   ·rw[QX] at hx
    split at hx
    ·exact .inl hx
    ·rcases List.mem_append.mp hx with hx | hx
     ·exact .inl hx
     ·right;simp at hx;simp[hx]
   ·right;simp at hx ⊢;exact .inr hx
 refine zR (key row [] (by simp)) fun h1 h2=>?_
 exact⟨h1,fun x hx=>(h2 x hx).resolve_left (by simp)⟩
end
section
open PySem
structure Five (N:List Str):Prop where
 len:N.length=5
 nodup:N.Nodup
theorem Five.inj{N:List Str}(h:Five N) {i j:Nat}(hi:i<5) (hj:j<5) (e:N.getD i ""=N.getD j ""):i=j:=by
 have hl:=h.len
 rw[List.getD_eq_getElem?_getD,List.getD_eq_getElem?_getD,List.getElem?_eq_getElem (by lia),List.getElem?_eq_getElem (by lia)] at e
 exact(List.getElem_inj h.nodup).mp e
theorem Five.mem{N:List Str}(h:Five N) {x:Str}:x∈N↔∃i,i<5∧x=N.getD i "":=by
 have hl:=h.len
 constructor
 ·intro hx
  refine Exists.elim (List.getElem?_of_mem hx) fun i hi=>?_
  have:=(List.getElem?_eq_some_iff.mp hi).1
  exact⟨i,by lia,by rw[List.getD_eq_getElem?_getD,hi];rfl⟩
 ·rintro⟨i,hi,rfl⟩
  rw[List.getD_eq_getElem?_getD,List.getElem?_eq_getElem (by lia)]
  exact List.getElem_mem _
noncomputable abbrev lay{α:Type}(N:List Str) (g:Nat→α):List (Str×α):=(List.range 5).map fun k=>(N.getD k "",g k)
theorem zgh{α:Type}(N:List Str) (g:Nat→α):lay N g=(List.range 5 |>.map fun k=>(k,g k)).map fun p=>(N.getD p.1 "",p.2):=by rw[List.map_map];rfl
theorem za7{α:Type}{N:List Str}(h:Five N) (g:Nat→α):(lay N g).map (·.1)=N:=by
 rw[List.map_map]
 have hl:=h.len
 refine List.ext_getElem? fun i=>?_
 rw[List.getElem?_map]
 by_cases hi:i<5
 ·rw[List.getElem?_range hi,List.getElem?_eq_getElem (by lia)]
  show some (N.getD i "")=_
  rw[List.getD_eq_getElem?_getD,List.getElem?_eq_getElem (by lia)];rfl
 ·rw[List.getElem?_eq_none (by simpa using hi),List.getElem?_eq_none (by lia)];rfl
theorem zen{α:Type}{N:List Str}(h:Five N) (g:Nat→α) {k:Nat}(hk:k<5):zX (lay N g) (N.getD k "")=some (g k):=by
 rw[zgh]
 rw[zcR (κ:=fun i=>N.getD i "") (fun p hp e=>by
  refine zd (List.mem_map.mp hp) fun i hi q4_=>?_
  subst q4_
  exact h.inj (List.mem_range.mp hi) hk e)]
 match k,hk with
 | 0,_=>rfl
 | 1,_=>rfl
 | 2,_=>rfl
 | 3,_=>rfl
 | 4,_=>rfl
theorem znw{α:Type}{N:List Str}(h:Five N) (g:Nat→α) {k:Nat}(hk:k<5) (v:α):z5 (lay N g) (N.getD k "") v=lay N fun i=>if i=k then v else g i:=by
 rw[zgh,zgh]
 rw[zcJ (κ:=fun i=>N.getD i "") (fun p hp e=>by
  refine zd (List.mem_map.mp hp) fun i hi q5_=>?_
  subst q5_
  exact h.inj (List.mem_range.mp hi) hk e)]
 congr 1
 match k,hk with
 | 0,_=>rfl
 | 1,_=>rfl
 | 2,_=>rfl
 | 3,_=>rfl
 | 4,_=>rfl
theorem zem{β:Type}{N:List Str}(h:Five N) (g:Nat→List β) {k:Nat}(hk:k<5):zh (lay N g) (N.getD k "")=g k:=by
 unfold zh;rw[zen h g hk];rfl
theorem zcN{β:Type}{N:List Str}(h:Five N) (g:Nat→List β) {x:Str}(hx:x∉N):zh (lay N g) x=[]:=by
 unfold zh
 cases e:zX (lay N g) x with
 | none=>rfl
 | some v=>
  exfalso
  unfold zX at e
  refine zd (Option.map_eq_some_iff.mp e) fun q hq _=>?_
  have e1:q.1=x:=by simpa using List.find?_some hq
  have:=List.mem_map_of_mem (f:=(·.1)) (List.mem_of_find?_eq_some hq)
  rw[za7 h,e1] at this
  exact hx this
theorem jt{α:Type}{N:List Str}{f g:Nat→α}(h:∀k,k<5→f k=g k):lay N f=lay N g:=List.map_congr_left fun k hk=>by rw[h k (List.mem_range.mp hk)]
noncomputable abbrev q7(N:List Str) (l:List Row):List (Str×(Int×Int)):=l.map fun p=>(N.getD p.1 "",p.2)
theorem JD{N:List Str}(h:Five N) {l:List Row}(hn:(l.map (·.1)).Nodup) (h5:∀p∈l,p.1<5):((q7 N l).map (·.1)).Nodup:=by
 have e:(q7 N l).map (·.1)=(l.map (·.1)).map fun i=>N.getD i "":=by rw[List.map_map,List.map_map];rfl
 rw[e]
 refine ZC hn fun x hx y hy q=>?_
 refine zd (List.mem_map.mp hx) fun p hp q7_=>?_
 subst q7_
 refine zd (List.mem_map.mp hy) fun p' hp' q6_=>?_
 subst q6_
 exact h.inj (h5 p hp) (h5 p' hp') q
theorem zlk{N:List Str}(h:Five N) {g:Nat→List Row}(hg:∀k,((g k).map (·.1)).Nodup∧∀p∈g k,p.1<5) {r:ZG}(h1:r.1<5) (h2:r.2.1<5) :
  QY N (lay N fun k=>q7 N (g k)) r=lay N (fun k=>q7 N (if k=r.2.1 then zM qW (g k) (r.1,((1:Int),(r.2.2:Int))) else g k)):=by
 unfold QY
 rw[zen h _ h2,znw h _ h2]
 refine jt fun k hk=>?_
 by_cases e:k=r.2.1
 ·rw[if_pos e,if_pos e]
  show qq qW (q7 N (g r.2.1)) _=_
  rw[zbs (JD h (hg _).1 (hg _).2)]
  show zM qW ((g r.2.1).map fun p=>(N.getD p.1 "",p.2)) (N.getD r.1 "",_)=_
  rw[zhn (κ:=fun i=>N.getD i "") (fun p hp q=>h.inj ((hg _).2 p hp) h1 q),e]
 ·rw[if_neg e,if_neg e]
theorem zm6{g:Nat→List Row}(hg:∀k,((g k).map (·.1)).Nodup∧∀p∈g k,p.1<5) {r:ZG}(h1:r.1<5):∀k,(((if k=r.2.1 then zM qW (g k) (r.1,((1:Int),(r.2.2:Int))) else g k)).map (·.1)).Nodup∧∀p∈(if k=r.2.1 then zM qW (g k) (r.1,((1:Int),(r.2.2:Int))) else g k),p.1<5:=by
 intro k
 by_cases e:k=r.2.1
 ·rw[if_pos e]
  refine⟨zbz (hg k).1,fun p hp=>?_⟩
  have:=List.mem_map_of_mem (f:=(·.1)) hp
  rw[QX] at this
  split at this
  ·refine zd (List.mem_map.mp this) fun q hq e=>?_
   rw[←e];exact(hg k).2 q hq
  ·rcases List.mem_append.mp this with this | this
   ·refine zd (List.mem_map.mp this) fun q hq e=>?_
    rw[←e];exact(hg k).2 q hq
   ·simp at this;rw[this];exact h1
 ·rw[if_neg e];exact hg k
theorem zfQ{N:List Str}(h:Five N) {k:Nat}(hk:k<5):∀(row:List ZG) (g:Nat→List Row),(∀k,((g k).map (·.1)).Nodup∧∀p∈g k,p.1<5)→(∀r∈row,r.1<5∧r.2.1=k)→
  row.foldl (QY N) (lay N fun k=>q7 N (g k))=lay N fun i=>q7 N (if i=k then row.foldl (fun acc r=>zM qW acc (r.1,((1:Int),(r.2.2:Int)))) (g i) else g i)
 | [],g,_,_=>by
  have e:∀i,(if i=k then List.foldl (fun acc r=>zM qW acc (r.1,((1:Int),(r.2.2:Int)))) (g i) ([]:List ZG) else g i)=g i:=fun i=>by split<;>rfl
  rw[List.foldl_nil]
  exact jt fun i _=>by rw[e i]
 | r::row,g,hg,hr=>by
  obtain⟨h1,h2⟩:=hr r List.mem_cons_self
  rw[List.foldl_cons,zlk h hg h1 (by lia),zfQ h hk row _ (zm6 hg h1) fun r hr'=>hr r (List.mem_cons_of_mem _ hr')]
  refine jt fun i _=>?_
  by_cases e:i=k
  ·rw[if_pos e,if_pos e,if_pos (by lia)];rfl
  ·rw[if_neg e,if_neg e,if_neg (by lia)]
theorem zdi{a p k:Nat}(h1:1≤k) (hk:k<5):∀r∈zee a p k,r.1<5∧r.2.1=k:=by
 intro r hr
 unfold zee at hr
 simp only[List.mem_cons,List.not_mem_nil,or_false] at hr
 rcases hr with rfl | rfl | rfl
 ·exact⟨Nat.lt_of_lt_of_le (Nat.mod_lt _ (by lia)) (by lia),rfl⟩
 ·exact⟨Nat.mod_lt _ (by decide),rfl⟩
 ·exact⟨Nat.mod_lt _ (by decide),rfl⟩
theorem zhD{s:List Nat}{k:Nat}(h1:1≤k) (hk:k<5):((ja (qQ s k)).map (·.1)).Nodup∧∀p∈ja (qQ s k),p.1<5:=by
 refine zR (zjN (qQ s k)) fun h2 h3=>?_
 refine⟨h2,fun p hp=>?_⟩
 refine zd (List.mem_map.mp (h3 _ (List.mem_map_of_mem (f:=(·.1)) hp))) fun r hr e=>?_
 rw[←e]
 exact(zdi h1 hk r hr).1
theorem zdd{N:List Str}(h:Five N) (s:List Nat):∀i,i≤4→jB N (ZD s i)=lay N fun k=>q7 N (if 1≤k∧k≤i then ja (qQ s k) else [])
 | 0,_=>by
  show jB N []=_
  unfold jB
  show N.map (fun x=>(x,[]))=_
  have e:lay N (fun k=>q7 N (if 1≤k∧k≤0 then ja (qQ s k) else []))=lay N fun _=>([]:List (Str×(Int×Int))):=jt fun k _=>by rw[if_neg (by lia)];rfl
  rw[e]
  have:=za7 h fun _=>([]:List (Str×(Int×Int)))
  conv=>lhs;rw[←this]
  rw[List.map_map]
  exact List.map_congr_left fun _ _=>rfl
 | i+1,hi=>by
  have ih:=zdd h s i (by lia)
  unfold jB at ih ⊢
  rw[zaq,List.foldl_append,ih]
  have hg:∀k,(((if 1≤k∧k≤i then ja (qQ s k) else [])).map (·.1)).Nodup∧∀p∈(if 1≤k∧k≤i then ja (qQ s k) else []),p.1<5:=fun k=>by
   by_cases e:1≤k∧k≤i
   ·rw[if_pos e];exact zhD e.1 (by lia)
   ·rw[if_neg e];exact⟨by simp,by simp⟩
  rw[zfQ h (k:=i+1) (by lia) (qQ s (i+1)) _ hg (zdi (by lia) (by lia))]
  refine jt fun k hk=>?_
  by_cases e:k=i+1
  ·subst e
   rw[if_pos rfl,if_neg (by lia),if_pos (by lia)];rfl
  ·rw[if_neg e]
   by_cases e2:1≤k∧k≤i
   ·rw[if_pos e2,if_pos (by lia)]
   ·rw[if_neg e2,if_neg (by lia)]
theorem zce(s:List Nat) {k:Nat}(hk:k<5):zp s k=if 1≤k∧k≤4 then ja (qQ s k) else []:=by
 have key:∀k,QT (qQ s k)=ja (qQ s k):=fun k=>zjV _
 match k,hk with
 | 0,_=>rfl
 | 1,_=>exact key 1
 | 2,_=>exact key 2
 | 3,_=>exact key 3
 | 4,_=>exact key 4
theorem Zd(s:List Nat):Five (zb s):=⟨z7 (Z6 s),qG (j3 s)⟩
theorem Ju(s:List Nat):z1 s=lay (zb s) fun k=>q7 (zb s) (zp s k):=by
 unfold z1
 rw[zdd (Zd s) s 4 (Nat.le_refl _)]
 exact jt fun k hk=>by rw[zce s hk]
theorem QJ(s:List Nat) (k:Nat):((zp s k).map (·.1)).Nodup∧∀p∈zp s k,p.1<5:=by
 by_cases hk:k<5
 ·rw[zce s hk]
  by_cases e:1≤k∧k≤4
  ·rw[if_pos e];exact zhD e.1 (by omega)
  ·rw[if_neg e];exact⟨by simp,by simp⟩
 ·have:zp s k=[]:=by
   unfold zp
   have hl:(Zg s 4).length=5:=by simp[Zg]
   rw[List.getD_eq_getElem?_getD,List.getElem?_eq_none (by omega)];rfl
  rw[this];exact⟨by simp,by simp⟩
theorem zcx{l:List Row}(hn:(l.map (·.1)).Nodup) (h5:∀p∈l,p.1<5):l.length≤5:=by
 have:=Zr hn (m:=List.range 5) fun x hx=>by
  refine zd (List.mem_map.mp hx) fun p hp q8_=>?_
  subst q8_
  exact List.mem_range.mpr (h5 p hp)
 simpa using this
noncomputable abbrev jU(N:List Str) (l:List Row):List (Str×Int):=l.map fun p=>(N.getD p.1 "",p.2.2)
theorem jL(s:List Nat):Qf s=lay (zb s) fun k=>jU (zb s) (zp s k):=by
 have h:=Zd s
 unfold Qf qO
 have e:=za7 h fun k=>jU (zb s) (zp s k)
 conv=>lhs;rw[←e]
 unfold lay
 rw[List.map_map,List.map_map]
 refine List.map_congr_left fun k hk=>?_
 show(_,(zh (z1 s) ((zb s).getD k "")).map fun p=>(p.1,p.2.2))=_
 rw[Ju,zem h _ (List.mem_range.mp hk),List.map_map];rfl
theorem znt(s:List Nat) {k:Nat}(h1:1≤k) (hk:k<5):∃p∈zp s k,p.1<k:=by
 rw[zce s hk,if_pos ⟨h1,by lia⟩]
 unfold qQ zee
 generalize s.getD (k-1) 0=a
 generalize s.getD (k+3) 0=p
 have hm:a%k∈(ja [(a%k,k,p%40),(a/4%5,k,p/40%40),(a/20%5,k,p/1600)]).map (·.1):=by
  unfold ja
  simp only[List.foldl_cons,List.foldl_nil]
  have mono:∀(acc:List Row) (r:Nat×(Int×Int)) (x:Nat),x∈acc.map (·.1)→x∈(zM qW acc r).map (·.1):=fun acc r x hx=>by
   rw[QX];split
   ·exact hx
   ·exact List.mem_append_left _ hx
  refine mono _ _ _ (mono _ _ _ ?_)
  rw[QX];simp
 refine zd (List.mem_map.mp hm) fun q hq e=>?_
 exact⟨q,hq,by rw[e];exact Nat.mod_lt _ (by lia)⟩
theorem Jn(s:List Nat) {k:Nat}(hk:k<5):zh (Qf s) ((zb s).getD k "")=jU (zb s) (zp s k):=by rw[jL,zem (Zd s) _ hk]
theorem zfa(s:List Nat):PaidOk (zb s) (Qf s) []:=by
 have h:=Zd s
 have hrow:∀x,(∃k,k<5∧zh (Qf s) x=jU (zb s) (zp s k))∨zh (Qf s) x=[]:=fun x=>by
  by_cases hx:x∈zb s
  ·refine zd (h.mem.mp hx) fun k hk q11_=>?_
   subst q11_
   exact .inl ⟨k,hk,Jn s hk⟩
  ·exact .inr (by rw[jL,zcN h _ hx])
 have hkeys:∀k,(jU (zb s) (zp s k)).map (·.1)=(q7 (zb s) (zp s k)).map (·.1):=fun k=>by rw[List.map_map,List.map_map];rfl
 refine⟨h.nodup,by rw[jL,za7 h],fun x=>?_,fun x c hc=>?_,fun i x hi hx=>?_,by simp,by simp⟩
 ·rcases hrow x with⟨k,_,e⟩ | e
  ·rw[e,hkeys];exact JD h (QJ s k).1 (QJ s k).2
  ·rw[e];simp
 ·rcases hrow x with⟨k,_,e⟩ | e
  ·rw[e] at hc
   refine zd (List.mem_map.mp hc) fun q hq q10_=>?_
   subst q10_
   refine zd (List.mem_map.mp hq) fun p hp q9_=>?_
   subst q9_
   exact h.mem.mpr ⟨p.1,(QJ s k).2 p hp,rfl⟩
  ·rw[e] at hc;cases hc
 ·have hl:=h.len
  have hi5:=(List.getElem?_eq_some_iff.mp hx).1
  have ex:x=(zb s).getD i "":=by rw[List.getD_eq_getElem?_getD,hx];rfl
  refine zd (znt s (k:=i) (by lia) (by lia)) fun p hp hlt=>?_
  refine⟨p.1,(zb s).getD p.1 "",hlt,?_,?_⟩
  ·rw[List.getD_eq_getElem?_getD,List.getElem?_eq_getElem (by lia)];rfl
  ·rw[ex,Jn s (by lia),List.map_map]
   exact List.mem_map.mpr ⟨p,hp,rfl⟩
theorem znQ(s:List Nat):DrawOk s:=by
 have h:=Zd s
 have hrow:∀x,(∃k,k<5∧zh (z1 s) x=q7 (zb s) (zp s k))∨zh (z1 s) x=[]:=fun x=>by
  by_cases hx:x∈zb s
  ·refine zd (h.mem.mp hx) fun k hk q13_=>?_
   subst q13_
   exact .inl ⟨k,hk,by rw[Ju,zem h _ hk]⟩
  ·exact .inr (by rw[Ju,zcN h _ hx])
 refine⟨fun x hx=>?_,fun x=>?_,fun x=>?_,fun k=>⟨(QJ s k).1,zcx (QJ s k).1 (QJ s k).2,(QJ s k).2⟩,Ju s,jL s,zfa s⟩
 ·refine zd (h.mem.mp hx) fun k hk q12_=>?_
  subst q12_
  unfold zh
  rw[Ju,zen h _ hk];rfl
 ·rcases hrow x with⟨k,_,e⟩ | e
  ·rw[e];exact JD h (QJ s k).1 (QJ s k).2
  ·rw[e];simp
 ·rcases hrow x with⟨k,_,e⟩ | e
  ·rw[e,List.length_map];exact zcx (QJ s k).1 (QJ s k).2
  ·rw[e];simp
end
section
open PySem
theorem zgk:∀(l:List Str) (k:Nat),(∀x∈l,x.length≤k)→(Str.join zJ l).length≤l.length*(k+2)
 | [],k,_=>Nat.zero_le _
 | [a],k,h=>by
  have:=h a List.mem_cons_self
  show a.length≤1*(k+2)
  lia
 | a::b::l,k,h=>by
  have h1:=h a List.mem_cons_self
  have h2:=zgk (b::l) k fun x hx=>h x (List.mem_cons_of_mem _ hx)
  have h3:zJ.length=2:=by decide +kernel
  have e:(Str.join zJ (a::b::l)).length=a.length+zJ.length+(Str.join zJ (b::l)).length:=by
   show(a++zJ++Str.join zJ (b::l)).cps.size=_
   rw[Str.cps_append,Str.cps_append,Array.size_append,Array.size_append];rfl
  rw[e]
  simp only[List.length_cons] at h2 ⊢
  rw[Nat.succ_mul]
  lia
theorem zeV(s:List Nat) {x:Str}(hx:x∈zb s):∃i,i<32∧x=ZF i:=by
 have hb:=j3 s
 unfold zb za at hx
 obtain⟨k,hk,rfl⟩:=List.mem_map.mp hx
 have:=List.mem_range.mp hk
 exact⟨Z6 s+k,by lia,rfl⟩
theorem zls(row:List ZG):∀p∈ja row,0≤p.2.2:=by
 unfold ja
 have key:∀(row:List ZG) (acc:List Row),(∀p∈acc,0≤p.2.2)→∀p∈row.foldl (fun acc r=>zM qW acc (r.1,((1:Int),(r.2.2:Int)))) acc,0≤p.2.2:=by
  intro row
  induction row with
  | nil=>exact fun acc h=>h
  | cons a l ih=>
   intro acc h
   refine ih _ fun p hp=>?_
   have hput:∀v:Int×Int,0≤v.2→p∈z5 acc a.1 v→0≤p.2.2:=fun v hv hp=>by
    unfold z5 at hp
    split at hp
    ·obtain⟨q,hq,e⟩:=List.mem_map.mp hp
     split at e
     ·rw[←e];exact hv
     ·rw[←e];exact h q hq
    ·rcases List.mem_append.mp hp with hp | hp
     ·exact h p hp
     ·rw[List.mem_singleton.mp hp];exact hv
   unfold zM at hp
   simp only at hp
   cases e:zX acc a.1 with
   | none=>rw[e] at hp;exact hput _ (by show(0:Int)≤(a.2.2:Int);lia) hp
   | some old=>
    rw[e] at hp
    refine hput _ ?_ hp
    unfold zX at e
    obtain⟨q,hq,e'⟩:=Option.map_eq_some_iff.mp e
    have:=h q (List.mem_of_find?_eq_some hq)
    rw[e'] at this
    show(0:Int)≤(a.2.2:Int)+old.2
    lia
 exact key row [] (by simp)
theorem zjY(s:List Nat):∀y,∀p∈zh (Qf s) y,0≤p.2:=by
 intro y p hp
 by_cases hy:y∈zb s
 ·obtain⟨k,hk,rfl⟩:=(Zd s).mem.mp hy
  rw[Jn s hk] at hp
  obtain⟨q,hq,rfl⟩:=List.mem_map.mp hp
  rw[zce s hk] at hq
  by_cases e:1≤k∧k≤4
  ·rw[if_pos e] at hq;exact zls _ q hq
  ·rw[if_neg e] at hq;cases hq
 ·rw[jL,zcN (Zd s) _ hy] at hp;cases hp
structure Done (s:List Nat) (H:List Turn):Prop where
 ran:Ran (zb s) ((zb s).getD 0 "") (Qf s) (Ze s) H
 kept:KeptOk (zb s) ((zb s).getD 0 "") (Ze s).freed (Zx s)
theorem znR(s:List Nat):∃H,Done s H:=by
 have h:=Zd s
 have hl:=h.len
 have hr:(zb s)[0]?=some ((zb s).getD 0 ""):=by rw[List.getD_eq_getElem?_getD,List.getElem?_eq_getElem (by lia)];rfl
 obtain⟨H,R,ha⟩:=zlA (zfa s) (zjY s) hr (zjs s) h.len
 exact⟨H,R,znx h.nodup (List.mem_of_getElem? hr) R.ok.fnd (fun p hp=>(R.ok.fsub p hp).2) ha⟩
variable {s:List Nat}{H:List Turn}
theorem zbj{s:List Nat}{x:Str}:x∈(zb s).drop 1↔x∈zb s∧x≠(zb s).getD 0 "":=by
 have h:=Zd s
 obtain⟨a,l,e⟩:∃a l,zb s=a::l:=by
  cases e:zb s with
  | nil=>have:=h.len;rw[e] at this;cases this
  | cons a l=>exact⟨a,l,rfl⟩
 have hn:=h.nodup
 rw[e] at hn ⊢
 rw[List.nodup_cons] at hn
 simp only[List.drop_succ_cons,List.drop_zero,List.getD_cons_zero,List.mem_cons]
 constructor
 ·exact fun hx=>⟨.inr hx,fun q=>hn.1 (q▸hx)⟩
 ·rintro⟨q | q,hne⟩
  ·exact absurd q hne
  ·exact q
theorem Done.ends(D:Done s H):((Zx s).map (·.2)).Nodup∧∀x,x∈(Zx s).map (·.2)↔x∈(zb s).drop 1:=by
 obtain⟨h1,h2⟩:=D.kept.ends D.ran.ok.fnd fun p hp=>(D.ran.ok.fsub p hp).2
 exact⟨h1,fun x=>(h2 x).trans zbj.symm⟩
theorem Done.four(D:Done s H):(Zx s).length=4:=by
 have h:=Zd s
 obtain⟨a,l,e⟩:∃a l,zb s=a::l:=by
  cases e:zb s with
  | nil=>have:=h.len;rw[e] at this;cases this
  | cons a l=>exact⟨a,l,rfl⟩
 have hlen:=h.len
 have:=D.kept.len (rest:=l) D.ran.ok.fnd (fun p hp=>(D.ran.ok.fsub p hp).2) h.nodup (by rw[e];simp)
 rw[this]
 rw[e] at hlen
 simpa using hlen
theorem Done.split(D:Done s H) {h:Turn}(hh:h∈H):z0 (Txt.join zJ h.S)=h.S:=by
 have t:=D.ran.turn h hh
 refine zdg t.ne fun p hp=>?_
 obtain⟨i,hi,rfl⟩:=zeV s (t.sub.subset hp)
 exact zdN i hi
theorem Done.word(D:Done s H) {w:Str}(hw:w∈(Ze s).book.map (·.1)):∃h∈H,w=Txt.join zJ h.S∧z0 w=h.S:=by
 rw[D.ran.book] at hw
 obtain⟨h,hh,rfl⟩:=((JP H).2.1 w).mp hw
 exact⟨h,hh,rfl,D.split hh⟩
theorem Done.bnd(D:Done s H):((Ze s).book.map (·.1)).Nodup:=by rw[D.ran.book];exact(JP H).1
theorem Done.wlen(D:Done s H):∀w∈(Ze s).book.map (·.1),w.length≤1000∧(z0 w).length≤5:=by
 intro w hw
 obtain⟨h,hh,e1,e2⟩:=D.word hw
 have t:=D.ran.turn h hh
 have hl:h.S.length≤5:=by rw[←(Zd s).len];exact t.sub.length_le
 rw[e2]
 refine⟨?_,hl⟩
 rw[e1,show Txt.join zJ h.S=Str.join zJ h.S from StrLaws.glued_eq_join _ _]
 have:=zgk h.S 20 fun x hx=>by
  obtain⟨i,hi,rfl⟩:=zeV s (t.sub.subset hx)
  exact zcT i hi
 have h2:h.S.length*(20+2)≤5*(20+2):=Nat.mul_le_mul_right _ hl
 lia
theorem Done.wsub(D:Done s H):∀w∈(Ze s).book.map (·.1),∀x∈z0 w,x∈(zb s).drop 1:=by
 intro w hw x hx
 obtain⟨h,hh,e1,e2⟩:=D.word hw
 have t:=D.ran.turn h hh
 rw[e2] at hx
 exact zbj.mpr ⟨t.sub.subset hx,fun q=>t.root (q▸hx)⟩
theorem Done.total(D:Done s H):((Ze s).book.map (·.2)).sum=(H.map (·.price)).sum:=by
 have:=(JP H).2.2 fun _=>true
 rw[←D.ran.book] at this
 unfold QH at this
 rw[List.filter_eq_self.mpr fun _ _=>rfl] at this
 rw[this]
 congr 1
theorem Done.left(D:Done s H):(Ze s).left=(zb s).map fun x=>(x,(zh (Qf s) x).map fun p=>(p.1,p.2-(((Ze s).book.filter fun b=>decide (x∈z0 b.1)&&decide (p.1∉z0 b.1)).map (·.2)).sum)):=by
 have hk:=D.ran.ok.keys
 have hn:=D.ran.ok.nodup
 have e:(Ze s).left=((Ze s).left.map (·.1)).map fun x=>(x,zh (Ze s).left x):=by
  rw[List.map_map]
  conv=>lhs;rw[←List.map_id (Ze s).left]
  refine List.map_congr_left fun p hp=>?_
  show p=(p.1,zh (Ze s).left p.1)
  unfold zh
  rw[qT (by rw[hk];exact hn) hp];rfl
 rw[hk] at e
 rw[e]
 refine List.map_congr_left fun x hx=>?_
 rw[D.ran.row x]
 congr 1
 refine List.map_congr_left fun p hp=>?_
 congr 2
 have:=(JP H).2.2 fun w=>decide (x∈z0 w)&&decide (p.1∉z0 w)
 rw[←D.ran.book] at this
 unfold QH at this
 rw[this]
 unfold jG
 congr 1
 refine List.map_congr_left fun h hh=>?_
 rw[D.split hh]
 simp only[Bool.and_eq_true,decide_eq_true_eq]
end
section
open PySem
variable {s:List Nat}{H:List Turn}
noncomputable abbrev nm(s:List Nat) (k:Nat):Str:=(zb s).getD k ""
theorem zib{k t:Nat}(hk:k<5) (ht:t<5):wAt (Qf s) (nm s t) (nm s k)=QB (zp s k) t:=by
 unfold wAt
 rw[Jn s hk]
 have e:jU (zb s) (zp s k)=((zp s k).map fun p=>(p.1,p.2.2)).map fun p=>((zb s).getD p.1 "",p.2):=by rw[List.map_map];rfl
 rw[e,zcR (κ:=fun i=>(zb s).getD i "") (fun p hp q=>by
  refine zd (List.mem_map.mp hp) fun p' hp' q4_=>?_
  subst q4_
  exact(Zd s).inj ((QJ s k).2 p' hp') ht q)]
 unfold zX QB
 induction zp s k with
 | nil=>rfl
 | cons a l ih=>
  rw[List.map_cons,List.find?_cons,List.find?_cons]
  by_cases q:a.1=t
  ·simp[q]
  ·simp only[q,decide_false];exact ih
theorem zbV{k t:Nat}(hk:k<5) (ht:t<5):nm s t∈(zh (Qf s) (nm s k)).map (·.1)↔t∈(zp s k).map (·.1):=by
 rw[Jn s hk,List.map_map]
 constructor
 ·intro h
  refine zd (List.mem_map.mp h) fun p hp e=>?_
  have:=(Zd s).inj ((QJ s k).2 p hp) ht e
  exact this▸List.mem_map_of_mem (f:=(·.1)) hp
 ·intro h
  refine zd (List.mem_map.mp h) fun p hp q5_=>?_
  subst q5_
  exact List.mem_map.mpr ⟨p,hp,rfl⟩
theorem zhL{p1 p2 p3 p4:List Row}{u:List Nat}:u∈ups p1 p2 p3 p4↔∃a b c d,a∈p1.map (·.1)∧b∈p2.map (·.1)∧c∈p3.map (·.1)∧d∈p4.map (·.1)∧u=uL a b c d:=by
 unfold ups
 simp only[List.mem_flatMap,List.mem_singleton,List.mem_map]
 constructor
 ·rintro⟨a,ha,b,hb,c,hc,d,hd,rfl⟩
  exact⟨_,_,_,_,⟨a,ha,rfl⟩,⟨b,hb,rfl⟩,⟨c,hc,rfl⟩,⟨d,hd,rfl⟩,rfl⟩
 ·intro q6_
  refine zmy q6_ fun _ _ _ _ q7_ q8_ q9_ q10_ q11_=>?_
  obtain⟨a,ha,rfl⟩:=q7_
  obtain⟨b,hb,rfl⟩:=q8_
  obtain⟨c,hc,rfl⟩:=q9_
  obtain⟨d,hd,rfl⟩:=q10_
  subst q11_
  exact⟨a,ha,b,hb,c,hc,d,hd,rfl⟩
noncomputable abbrev Js(s:List Nat) (a b c d:Nat):List (Str×Str):=[(nm s a,nm s 1),(nm s b,nm s 2),(nm s c,nm s 3),(nm s d,nm s 4)]
theorem zdX{a b c d:Nat}(ha:a<5) (hb:b<5) (hc:c<5) (hd:d<5):jM (zp s 1) (zp s 2) (zp s 3) (zp s 4) (uL a b c d)=((Js s a b c d).map fun g=>wAt (Qf s) g.1 g.2).sum:=by
 unfold jM
 simp only[List.map_cons,List.map_nil]
 rw[zib (by decide) ha,zib (by decide) hb,zib (by decide) hc,zib (by decide) hd]
 rfl
theorem zdy{i j:Nat}(hi:i<5) (hj:j<5) (e:nm s i=nm s j):i=j:=(Zd s).inj hi hj e
theorem zaD{x:Str}:x∈zb s↔∃i,i<5∧x=nm s i:=(Zd s).mem
theorem ze9{a b c d:Nat}{g:Str×Str}:g∈Js s a b c d↔∃k,1≤k∧k<5∧g=(nm s ((uL a b c d).getD k 0),nm s k):=by
 simp only[List.mem_cons,List.not_mem_nil,or_false]
 constructor
 ·rintro(rfl | rfl | rfl | rfl)
  ·exact⟨1,by decide,by decide,rfl⟩
  ·exact⟨2,by decide,by decide,rfl⟩
  ·exact⟨3,by decide,by decide,rfl⟩
  ·exact⟨4,by decide,by decide,rfl⟩
 ·intro q13_
  refine qD q13_ fun k h1 h5 e=>?_
  match k,h1,h5 with
  | 1,_,_=>exact .inl e
  | 2,_,_=>exact .inr (.inl e)
  | 3,_,_=>exact .inr (.inr (.inl e))
  | 4,_,_=>exact .inr (.inr (.inr e))
theorem zhf{a b c d:Nat}:(Js s a b c d).Nodup:=by
 have h:((Js s a b c d).map (·.2)).Nodup:=by
  show([1,2,3,4].map fun k=>nm s k).Nodup
  refine ZC (by decide) fun x hx y hy e=>zdy ?_ ?_ e
  ·simp at hx;lia
  ·simp at hy;lia
 generalize Js s a b c d=l at h
 induction l with
 | nil=>exact List.nodup_nil
 | cons x l ih=>
  rw[List.map_cons,List.nodup_cons] at h
  rw[List.nodup_cons]
  exact⟨fun hm=>h.1 (List.mem_map_of_mem hm),ih h.2⟩
theorem Done.tree(D:Done s H):∃a b c d,a<5∧b<5∧c<5∧d<5∧a∈(zp s 1).map (·.1)∧b∈(zp s 2).map (·.1)∧c∈(zp s 3).map (·.1)∧d∈(zp s 4).map (·.1)∧∀g,g∈Js s a b c d↔g∈Zx s:=by
 have one:∀k,1≤k→k<5→∃t,t<5∧t∈(zp s k).map (·.1)∧(nm s t,nm s k)∈Zx s∧∀g∈Zx s,g.2=nm s k→g=(nm s t,nm s k):=by
  intro k h1 h5
  refine jK (D.kept.call (y:=nm s k) (zaD.mpr ⟨k,h5,rfl⟩) (fun q=>by have:=zdy (s:=s) (i:=0) (j:=k) (by decide) h5 q;lia)) fun g hg e2 _ hu=>?_
  have hf:=D.kept.sub.subset hg
  refine zd (zaD.mp (D.ran.ok.fsub g hf).1) fun t ht e1=>?_
  have eg:g=(nm s t,nm s k):=by rw[←e1,←e2]
  have hw:=(D.ran.w_free (c:=nm s t) (y:=nm s k) (eg▸hf)).2
  exact⟨t,ht,(zbV h5 ht).mp hw,eg▸hg,fun g' hg' e'=>(hu g' hg' e').trans eg⟩
 refine jK (one 1 (by decide) (by decide)) fun a ha ha1 ha2 ha3=>?_
 refine jK (one 2 (by decide) (by decide)) fun b hb hb1 hb2 hb3=>?_
 refine jK (one 3 (by decide) (by decide)) fun c hc hc1 hc2 hc3=>?_
 refine jK (one 4 (by decide) (by decide)) fun d hd hd1 hd2 hd3=>?_
 refine⟨a,b,c,d,ha,hb,hc,hd,ha1,hb1,hc1,hd1,fun g=>⟨fun hg=>?_,fun hg=>?_⟩⟩
 ·simp only[List.mem_cons,List.not_mem_nil,or_false] at hg
  rcases hg with rfl | rfl | rfl | rfl<;>assumption
 ·have h2:=(D.ends.2 g.2).mp (List.mem_map_of_mem (f:=(·.2)) hg)
  refine zR (zbj.mp h2) fun hm hne=>?_
  refine zd (zaD.mp hm) fun k hk e=>?_
  simp only[List.mem_cons,List.not_mem_nil,or_false]
  match k,hk with
  | 0,_=>exact absurd e hne
  | 1,_=>exact .inl (ha3 g hg e)
  | 2,_=>exact .inr (.inl (hb3 g hg e))
  | 3,_=>exact .inr (.inr (.inl (hc3 g hg e)))
  | 4,_=>exact .inr (.inr (.inr (hd3 g hg e)))
theorem Done.okUp(D:Done s H) {a b c d:Nat}(ha:a<5) (hb:b<5) (hc:c<5) (hd:d<5) (hm:∀g,g∈Js s a b c d↔g∈Zx s):Mine.okUp (uL a b c d)=true:=by
 refine zga.mpr fun k hk=>?_
 have hreach:=D.kept.all (nm s k) (zaD.mpr ⟨k,hk,rfl⟩)
 have key:∀x,Rch (Zx s) (nm s 0) x→∀k,k<5→x=nm s k→∃m,itU (uL a b c d) m k=0:=by
  intro x hx
  induction hx with
  | self=>intro k hk e;exact⟨0,(zdy (by decide) hk e).symm⟩
  | @step y z _ hz ih=>
   intro k hk e
   have hg:=(hm _).mpr (Qw.mp hz)
   refine qD (ze9.mp hg) fun j hj1 hj5 eg=>?_
   have e2:z=nm s j:=congrArg Prod.snd eg
   have e1:y=nm s ((uL a b c d).getD j 0):=congrArg Prod.fst eg
   have hjk:=zdy hj5 hk (e2.symm.trans e)
   subst hjk
   refine Exists.elim (ih _ (zid ha hb hc hd j) e1) fun m h=>?_
   exact⟨m+1,h⟩
 refine Exists.elim (key _ hreach k hk rfl) fun m h=>?_
 exact znA ha hb hc hd m k hk h
theorem zjA{a b c d:Nat}(ha:a<5) (hb:b<5) (hc:c<5) (hd:d<5) (hok:okUp (uL a b c d)=true) {S:List Str}(hne:S≠[]) (hs:∀y∈S,y∈zb s) (hr:nm s 0∉S):∃g∈Js s a b c d,Ent S g:=by
 refine Decidable.byContradiction fun q=>?_
 refine Exists.elim (List.exists_mem_of_ne_nil _ hne) fun y hy=>?_
 refine zd (zaD.mp (hs y hy)) fun k hk q14_=>?_
 subst q14_
 have step:∀k,k<5→nm s k∈S→nm s ((uL a b c d).getD k 0)∈S:=by
  intro k hk h
  by_cases h0:k=0
  ·subst h0;exact absurd h hr
  refine Decidable.byContradiction fun q'=>q ⟨_,ze9.mpr ⟨k,by lia,hk,rfl⟩,h,q'⟩
 have it:∀m k,k<5→nm s k∈S→nm s (itU (uL a b c d) m k)∈S:=by
  intro m
  induction m with
  | zero=>exact fun k _ h=>h
  | succ m ih=>exact fun k hk h=>ih _ (zid ha hb hc hd k) (step k hk h)
 have:=it 4 k hk hy
 rw[zga.mp hok k hk] at this
 exact hr this
theorem Done.least(D:Done s H):(ups (zp s 1) (zp s 2) (zp s 3) (zp s 4)).filter Mine.okUp≠[]∧zcj s=(H.map (·.price)).sum:=by
 refine zpt (D.tree) fun a b c d ha hb hc hd ha1 hb1 hc1 hd1 hm=>?_
 have hu:uL a b c d∈(ups (zp s 1) (zp s 2) (zp s 3) (zp s 4)).filter Mine.okUp:=List.mem_filter.mpr ⟨zhL.mpr ⟨a,b,c,d,ha1,hb1,hc1,hd1,rfl⟩,D.okUp ha hb hc hd hm⟩
 have hcost:jM (zp s 1) (zp s 2) (zp s 3) (zp s 4) (uL a b c d)=(H.map (·.price)).sum:=by
  rw[zdX ha hb hc hd]
  exact D.ran.cost D.kept zhf hm
 have hne:(ups (zp s 1) (zp s 2) (zp s 3) (zp s 4)).filter Mine.okUp≠[]:=fun q=>by rw[q] at hu;cases hu
 refine⟨hne,?_⟩
 unfold zcj zaE
 have h1:Qr (((ups (zp s 1) (zp s 2) (zp s 3) (zp s 4)).filter Mine.okUp).map (jM (zp s 1) (zp s 2) (zp s 3) (zp s 4)))≤(H.map (·.price)).sum:=hcost▸zhK (List.mem_map_of_mem hu)
 have h2:(H.map (·.price)).sum≤Qr (((ups (zp s 1) (zp s 2) (zp s 3) (zp s 4)).filter Mine.okUp).map (jM (zp s 1) (zp s 2) (zp s 3) (zp s 4))):=by
  refine zd (List.mem_map.mp (zgc (l:=((ups (zp s 1) (zp s 2) (zp s 3) (zp s 4)).filter Mine.okUp).map (jM (zp s 1) (zp s 2) (zp s 3) (zp s 4))) (by simpa using hne))) fun u hu e=>?_
  rw[←e]
  refine zR (List.mem_filter.mp hu) fun hu1 hu2=>?_
  refine zmy (zhL.mp hu1) fun a b c d ha1 hb1 hc1 hd1 q16_=>?_
  subst q16_
  have lt:∀{k x:Nat},x∈(zp s k).map (·.1)→x<5:=fun h=>by
   refine zd (List.mem_map.mp h) fun p hp q15_=>?_
   subst q15_
   exact(QJ s _).2 p hp
  rw[zdX (lt ha1) (lt hb1) (lt hc1) (lt hd1)]
  refine D.ran.cost_low (fun g hg=>?_) fun h hh=>?_
  ·simp only[List.mem_cons,List.not_mem_nil,or_false] at hg
   rcases hg with rfl | rfl | rfl | rfl
   ·exact(zbV (by decide) (lt ha1)).mpr ha1
   ·exact(zbV (by decide) (lt hb1)).mpr hb1
   ·exact(zbV (by decide) (lt hc1)).mpr hc1
   ·exact(zbV (by decide) (lt hd1)).mpr hd1
  ·have t:=D.ran.turn h hh
   exact zjA (lt ha1) (lt hb1) (lt hc1) (lt hd1) hu2 t.ne (fun y hy=>t.sub.subset hy) t.root
 lia
end
section
open PySem
noncomputable abbrev Ql:=Nat×Str×Str
noncomputable abbrev c0:Ql:=(0,"","")
noncomputable def JG(kept:zQ) (seed:Nat) (C:List Ql) (at_:Nat):List Ql:=
 C.take (at_+1)++((ZK kept (C.getD at_ c0).2.1).zip (ZQ seed at_ (ZK kept (C.getD at_ c0).2.1).length)).map (fun p=>(at_,p.1,(C.getD at_ c0).2.2++p.2))++C.drop (at_+1)
noncomputable def zV(kept:zQ) (seed:Nat) (root:Str):Nat→List Ql
 | 0=>[(0,root,"")]
 | k+1=>JG kept seed (zV kept seed root k) k
theorem zbb{α β:Type}(f:α→β) (l:List α) (i:Nat) (d:α):(l.map f).getD i (f d)=f (l.getD i d):=by
 rw[List.getD_eq_getElem?_getD,List.getD_eq_getElem?_getD,List.getElem?_map]
 cases l[i]?<;>rfl
theorem JH(kept:zQ) (seed:Nat) (root:Str):∀k,(zV kept seed root k).map (fun q=>(q.2.1,q.2.2))=qg kept seed root k
 | 0=>rfl
 | k+1=>by
  have ih:=JH kept seed root k
  show(JG kept seed (zV kept seed root k) k).map _=Q0 kept seed (qg kept seed root k) k
  rw[←ih]
  generalize zV kept seed root k=C
  unfold JG Q0
  have e:(C.map fun q:Ql=>(q.2.1,q.2.2)).getD k ("","")=((C.getD k c0).2.1,(C.getD k c0).2.2):=zbb (fun q:Ql=>(q.2.1,q.2.2)) C k c0
  rw[e,List.map_append,List.map_append,List.map_take,List.map_drop,List.map_map]
  rfl
noncomputable def zac(seed:Nat) (L:List (Nat×Str)) (at_ n:Nat):List (Nat×Str):=
 L.take (at_+1)++(List.range n).map (fun i=>(at_,(L.getD at_ (0,"")).2++JL seed at_ n i))++L.drop (at_+1)
noncomputable def jj(seed:Nat) (cnt:Nat→Nat):Nat→List (Nat×Str)
 | 0=>[(0,"")]
 | k+1=>zac seed (jj seed cnt k) k (cnt k)
noncomputable def qA(kept:zQ) (seed:Nat) (root:Str) (k:Nat):Nat:=(ZK kept ((zV kept seed root k).getD k c0).2.1).length
theorem zeK(kept:zQ) (seed:Nat) (root:Str):∀k,(zV kept seed root k).map (fun q=>(q.1,q.2.2))=jj seed (qA kept seed root) k
 | 0=>rfl
 | k+1=>by
  have ih:=zeK kept seed root k
  show(JG kept seed (zV kept seed root k) k).map _=zac seed (jj seed (qA kept seed root) k) k (qA kept seed root k)
  rw[←ih]
  unfold qA
  generalize zV kept seed root k=C
  unfold JG zac
  have e:((C.map fun q:Ql=>(q.1,q.2.2)).getD k (0,"")).2=(C.getD k c0).2.2:=by rw[show((0,""):Nat×Str)=(fun q:Ql=>(q.1,q.2.2)) c0 from rfl,zbb]
  rw[e,List.map_append,List.map_append,List.map_take,List.map_drop,List.map_map]
  congr 2
  generalize ZK kept (C.getD k c0).2.1=kids
  have hl:(ZQ seed k kids.length).length=kids.length:=by simp[ZQ]
  have e1:((kids.zip (ZQ seed k kids.length)).map ((fun q:Ql=>(q.1,q.2.2))∘fun p=>(k,p.1,(C.getD k c0).2.2++p.2)))=((kids.zip (ZQ seed k kids.length)).map Prod.snd).map fun x=>(k,(C.getD k c0).2.2++x):=by
   rw[List.map_map];rfl
  rw[e1,List.map_snd_zip (by lia)]
  unfold ZQ
  rw[List.map_map];rfl
theorem znI{α:Type}{A M:List α}{k:Nat}(hk:k<A.length) (j:Nat):(A.take (k+1)++M++A.drop (k+1))[j]?=if j≤k then A[j]? else if j<k+1+M.length then M[j-(k+1)]? else A[j-M.length]?:=by
 have hl:(A.take (k+1)).length=k+1:=by rw[List.length_take];lia
 by_cases h1:j≤k
 ·rw[if_pos h1,List.getElem?_append_left (by rw[List.length_append];lia),List.getElem?_append_left (by lia),List.getElem?_take,if_pos (by lia)]
 ·rw[if_neg h1]
  by_cases h2:j<k+1+M.length
  ·rw[if_pos h2,List.getElem?_append_left (by rw[List.length_append];lia),List.getElem?_append_right (by lia),hl]
  ·rw[if_neg h2,List.getElem?_append_right (by rw[List.length_append];lia),List.length_append,hl,List.getElem?_drop]
   congr 1;lia
structure TreeOk (N:List Str) (r:Str) (T:zQ):Prop where
 nd:N.Nodup
 len:N.length=5
 all:All T N r
 root:∀g∈T,g.2≠r
 uniq:∀g∈T,∀g'∈T,g.2=g'.2→g=g'
 nodup:T.Nodup
 sub:∀g∈T,g.2∈N
 rootN:r∈N
variable {N:List Str}{r:Str}{T:zQ}
theorem zgd{x z:Str}:z∈ZK T x↔(x,z)∈T:=Qw
theorem ziG(h:TreeOk N r T) (x:Str):(ZK T x).Nodup:=by
 unfold ZK
 refine ZC (h.nodup.filter _) fun a ha b hb e=>h.uniq a (List.mem_filter.mp ha).1 b (List.mem_filter.mp hb).1 e
structure CI (N:List Str) (r:Str) (T:zQ) (C:List Ql) (k:Nat):Prop where
 root:C[0]?=some ((0,r,("":Str)):Ql)
 nd:(C.map fun q=>q.2.1).Nodup
 sub:∀q∈C,q.2.1∈N
 par:∀j q,C[j]?=some q→1≤j→q.1<k∧q.1<j∧∃q',C[q.1]?=some q'∧(q'.2.1,q.2.1)∈T
 kids:∀j q,j<k→C[j]?=some q→∀z∈ZK T q.2.1,z∈C.map fun q=>q.2.1
theorem zbP{α β:Type}{f:α→β}{l:List α}(h:(l.map f).Nodup) {i j:Nat}{a b:α}(hi:l[i]?=some a) (hj:l[j]?=some b) (e:f a=f b):i=j:=by
 have h1:(l.map f)[i]?=some (f a):=by rw[List.getElem?_map,hi];rfl
 have h2:(l.map f)[j]?=some (f a):=by rw[List.getElem?_map,hj,e];rfl
 obtain⟨l1,e1⟩:=List.getElem?_eq_some_iff.mp h1
 obtain⟨l2,e2⟩:=List.getElem?_eq_some_iff.mp h2
 exact(List.getElem_inj h).mp (e1.trans e2.symm)
theorem zgF(h:TreeOk N r T) {C:List Ql}{k:Nat}(c:CI N r T C k) (hk:C.length≤k):5≤C.length∧∀x∈N,x∈C.map fun q=>q.2.1:=by
 have key:∀x,Rch T r x→x∈C.map fun q=>q.2.1:=by
  intro x hx
  induction hx with
  | self=>exact List.mem_map.mpr ⟨_,List.mem_of_getElem? c.root,rfl⟩
  | @step y z _ hz ih=>
   refine zd (List.mem_map.mp ih) fun q hq q2_=>?_
   subst q2_
   refine Exists.elim (List.getElem?_of_mem hq) fun j hj=>?_
   have:=(List.getElem?_eq_some_iff.mp hj).1
   exact c.kids j q (by lia) hj z hz
 have hin:∀x∈N,x∈C.map fun q=>q.2.1:=fun x hx=>key x (h.all x hx)
 have:=Zr h.nd hin
 rw[List.length_map,h.len] at this
 exact⟨this,hin⟩
theorem znU(h:TreeOk N r T) {C:List Ql}{k:Nat}{seed:Nat}(c:CI N r T C k) (hk:k<C.length):CI N r T (JG T seed C k) (k+1):=by
 obtain⟨x,hx⟩:∃x,C[k]?=some x:=⟨_,List.getElem?_eq_getElem hk⟩
 have hgd:C.getD k c0=x:=by rw[List.getD_eq_getElem?_getD,hx];rfl
 unfold JG
 rw[hgd]
 have hkn:=ziG h x.2.1
 have hkm:∀z,z∈ZK T x.2.1↔(x.2.1,z)∈T:=fun z=>zgd
 have hlen:(ZQ seed k (ZK T x.2.1).length).length=(ZK T x.2.1).length:=by simp[ZQ]
 generalize ZQ seed k (ZK T x.2.1).length=leads at hlen
 generalize ZK T x.2.1=kids at *
 have hMn:((kids.zip leads).map fun p=>((k,p.1,x.2.2++p.2):Ql)).map (fun q=>q.2.1)=kids:=by
  rw[List.map_map]
  show(kids.zip leads).map Prod.fst=kids
  exact List.map_fst_zip (by lia)
 have hMk:∀q∈(kids.zip leads).map fun p=>((k,p.1,x.2.2++p.2):Ql),q.1=k∧(x.2.1,q.2.1)∈T:=fun q hq=>by
  refine zd (List.mem_map.mp hq) fun p hp q6_=>?_
  subst q6_
  exact⟨rfl,(hkm _).mp (List.of_mem_zip hp).1⟩
 generalize (kids.zip leads).map (fun p=>((k,p.1,x.2.2++p.2):Ql))=M at *
 have hget:=znI (A:=C) (M:=M) hk
 have hnew:∀z∈kids,z∉C.map fun q=>q.2.1:=by
  intro z hz hm
  refine zd (List.mem_map.mp hm) fun q hq q5_=>?_
  subst q5_
  refine Exists.elim (List.getElem?_of_mem hq) fun j hj=>?_
  have hT:=(hkm _).mp hz
  by_cases hj0:j=0
  ·subst hj0
   rw[c.root] at hj;cases hj
   exact h.root _ hT rfl
  ·obtain⟨h1,h2,q',hq',hT'⟩:=c.par j q hj (by lia)
   have e:=h.uniq _ hT _ hT' rfl
   have e1:x.2.1=q'.2.1:=(Prod.mk.inj e).1
   have:=zbP c.nd hx hq' e1
   lia
 have v6:∀q,q∈C.take (k+1)++M++C.drop (k+1)↔q∈C∨q∈M:=by
  intro q
  have:q∈C↔q∈C.take (k+1)∨q∈C.drop (k+1):=by
   conv=>lhs;rw[←List.take_append_drop (k+1) C]
   rw[List.mem_append]
  rw[this]
  simp only[List.mem_append]
  constructor
  ·rintro((h | h) | h)
   ·exact .inl (.inl h)
   ·exact .inr h
   ·exact .inl (.inr h)
  ·rintro((h | h) | h)
   ·exact .inl (.inl h)
   ·exact .inr h
   ·exact .inl (.inr h)
 have hmemn:∀z,z∈(C.take (k+1)++M++C.drop (k+1)).map (fun q=>q.2.1)↔z∈C.map (fun q=>q.2.1)∨z∈kids:=by
  intro z
  rw[←hMn,List.mem_map,List.mem_map,List.mem_map]
  constructor
  ·intro q3_
   refine zd q3_ fun q hq q4_=>?_
   subst q4_
   rcases (v6 q).mp hq with hq | hq
   ·exact .inl ⟨q,hq,rfl⟩
   ·exact .inr ⟨q,hq,rfl⟩
  ·rintro(⟨q,hq,rfl⟩ | ⟨q,hq,rfl⟩)
   ·exact⟨q,(v6 q).mpr (.inl hq),rfl⟩
   ·exact⟨q,(v6 q).mpr (.inr hq),rfl⟩
 refine⟨?_,?_,fun q hq=>?_,fun j q hj h1=>?_,fun j q hj hq z hz=>?_⟩
 ·rw[hget,if_pos (Nat.zero_le _)];exact c.root
 ·rw[List.map_append,List.map_append,hMn]
  have hn:=c.nd
  have e:(C.map fun q=>q.2.1)=(C.take (k+1)).map (fun q=>q.2.1)++(C.drop (k+1)).map (fun q=>q.2.1):=by rw[←List.map_append,List.take_append_drop]
  rw[e] at hn hnew
  rw[List.nodup_append] at hn
  refine z9 hn fun n1 n2 n3=>?_
  rw[List.nodup_append]
  refine⟨?_,n2,?_⟩
  ·rw[List.nodup_append]
   exact⟨n1,hkn,fun a ha b hb e=>hnew b hb (e▸List.mem_append_left _ ha)⟩
  ·intro a ha b hb e
   rcases List.mem_append.mp ha with ha | ha
   ·exact n3 a ha b hb e
   ·exact hnew a ha (e▸List.mem_append_right _ hb)
 ·rcases (v6 q).mp hq with hq | hq
  ·exact c.sub q hq
  ·exact h.sub _ (hMk q hq).2
 ·rw[hget] at hj
  by_cases hjk:j≤k
  ·rw[if_pos hjk] at hj
   obtain⟨k1,k2,q',k3,k4⟩:=c.par j q hj h1
   exact⟨by lia,k2,q',by rw[hget,if_pos (by lia)];exact k3,k4⟩
  ·rw[if_neg hjk] at hj
   by_cases hjm:j<k+1+M.length
   ·rw[if_pos hjm] at hj
    refine zR (hMk q (List.mem_of_getElem? hj)) fun k1 k2=>?_
    exact⟨by lia,by lia,x,by rw[hget,if_pos (by lia),k1];exact hx,k2⟩
   ·rw[if_neg hjm] at hj
    obtain⟨k1,k2,q',k3,k4⟩:=c.par _ q hj (by lia)
    exact⟨by lia,by lia,q',by rw[hget,if_pos (by lia)];exact k3,k4⟩
 ·rw[hget,if_pos (by lia)] at hq
  rw[hmemn]
  by_cases hjk:j<k
  ·exact .inl (c.kids j q hjk hq z hz)
  ·have:j=k:=by lia
   subst this
   rw[hx] at hq;cases hq
   right
   exact(hkm z).mpr (zgd.mp hz)
theorem zd0(h:TreeOk N r T) (seed:Nat):∀k,k≤5→CI N r T (zV T seed r k) k∧∀j,j<k→j<(zV T seed r j).length
 | 0,_=>by
  refine⟨⟨rfl,by simp[zV],fun q hq=>?_,fun j q hj h1=>?_,fun j q hj=>absurd hj (Nat.not_lt_zero _)⟩,fun j hj=>absurd hj (Nat.not_lt_zero _)⟩
  ·rw[List.mem_singleton.mp hq];exact h.rootN
  ·have:=(List.getElem?_eq_some_iff.mp hj).1
   simp[zV] at this
   lia
 | k+1,hk=>by
  obtain⟨c,hs⟩:=zd0 h seed k (by lia)
  have hlt:k<(zV T seed r k).length:=by
   refine Decidable.byContradiction fun q=>?_
   have:=(zgF h c (by lia)).1
   lia
  refine⟨znU h c hlt,fun j hj=>?_⟩
  by_cases e:j=k
  ·subst e;exact hlt
  ·exact hs j (by lia)
theorem zes(h:TreeOk N r T) (seed:Nat):(zV T seed r 5).length=5∧(∀x∈N,x∈(zV T seed r 5).map fun q=>q.2.1)∧CI N r T (zV T seed r 5) 5:=by
 refine zR (zd0 h seed 5 (Nat.le_refl _)) fun c _=>?_
 have hle:=Zr c.nd (m:=N) fun x hx=>by
  refine zd (List.mem_map.mp hx) fun q hq q7_=>?_
  subst q7_
  exact c.sub q hq
 rw[List.length_map,h.len] at hle
 refine zR (zgF h c hle) fun h1 h2=>?_
 exact⟨by lia,h2,c⟩
end
section
open PySem
noncomputable def zif(L:List (Nat×Str)):Bool:=([1,2,3,4]:List Nat).all fun row=>(List.range row).all fun k=>!decide ((L.getD row (0,"")).1≤k)||(JK (zS ((L.getD k (0,"")).2++"x \t")) (zS ((L.getD row (0,"")).2++"x \t"))==decide (k=(L.getD row (0,"")).1))
noncomputable abbrev zoY(a b c d:Nat):Nat→Nat:=fun i=>([a,b,c,d]:List Nat).getD i 0
noncomputable def zfM(a b c d:Nat):Bool:=a+b+c+d==4&&decide (1≤a)&&decide (2≤a+b)&&decide (3≤a+b+c)
theorem ziA:((List.range 4).all fun seed=>(List.range 5).all fun a=>(List.range 5).all fun b=>(List.range 5).all fun c=>(List.range 5).all fun d=>!zfM a b c d||zif (jj seed (zoY a b c d) 5))=true:=by decide +kernel
end
section
open PySem
theorem zka(seed at_ n p:Nat):JL seed at_ n p=JL (seed%4) at_ n p:=by
 unfold JL
 rw[show(seed%4+at_)%4=(seed+at_)%4 by lia]
theorem zf0(seed:Nat) (cnt:Nat→Nat):∀k,jj seed cnt k=jj (seed%4) cnt k
 | 0=>rfl
 | k+1=>by
  show zac seed (jj seed cnt k) k (cnt k)=zac (seed%4) (jj (seed%4) cnt k) k (cnt k)
  rw[zf0 seed cnt k]
  unfold zac
  congr 2
  exact List.map_congr_left fun i _=>by rw[zka]
theorem zdh{seed:Nat}{f g:Nat→Nat}:∀k,(∀i,i<k→f i=g i)→jj seed f k=jj seed g k
 | 0,_=>rfl
 | k+1,h=>by
  show zac seed (jj seed f k) k (f k)=zac seed (jj seed g k) k (g k)
  rw[zdh k fun i hi=>h i (by lia),h k (by lia)]
variable {N:List Str}{r:Str}{T:zQ}
theorem Jm{seed k:Nat}(hk:k<(zV T seed r k).length):(zV T seed r (k+1)).length=(zV T seed r k).length+qA T seed r k:=by
 show(JG T seed (zV T seed r k) k).length=_
 unfold qA
 generalize zV T seed r k=C at *
 unfold JG
 have hlen:(ZQ seed k (ZK T (C.getD k c0).2.1).length).length=(ZK T (C.getD k c0).2.1).length:=by simp[ZQ]
 rw[List.length_append,List.length_append,List.length_map,List.length_zip,hlen,List.length_take,List.length_drop]
 lia
theorem zli(h:TreeOk N r T) (seed:Nat):zif (jj seed (qA T seed r) 5)=true:=by
 refine z9 (zes h seed) fun h5 _ _=>?_
 have hs:=(zd0 h seed 5 (Nat.le_refl _)).2
 have l0:(zV T seed r 0).length=1:=rfl
 have s1:=hs 1 (by decide)
 have s2:=hs 2 (by decide)
 have s3:=hs 3 (by decide)
 have s4:=hs 4 (by decide)
 have l1:(zV T seed r 1).length=(zV T seed r 0).length+qA T seed r 0:=Jm (hs 0 (by decide))
 have l2:(zV T seed r 2).length=(zV T seed r 1).length+qA T seed r 1:=Jm s1
 have l3:(zV T seed r 3).length=(zV T seed r 2).length+qA T seed r 2:=Jm s2
 have l4:(zV T seed r 4).length=(zV T seed r 3).length+qA T seed r 3:=Jm s3
 have l5:(zV T seed r 5).length=(zV T seed r 4).length+qA T seed r 4:=Jm s4
 rw[l0] at l1
 have e:jj seed (qA T seed r) 5=jj (seed%4) (zoY (qA T seed r 0) (qA T seed r 1) (qA T seed r 2) (qA T seed r 3)) 5:=by
  rw[zf0]
  refine zdh 5 fun i hi=>?_
  match i,hi with
  | 0,_=>rfl
  | 1,_=>rfl
  | 2,_=>rfl
  | 3,_=>rfl
  | 4,_=>show qA T seed r 4=0;lia
 rw[e]
 have m:∀{x n},x<n→x∈List.range n:=fun h=>List.mem_range.mpr h
 have:=List.all_eq_true.mp (List.all_eq_true.mp (List.all_eq_true.mp (List.all_eq_true.mp (List.all_eq_true.mp ziA (seed%4) (m (Nat.mod_lt _ (by decide)))) (qA T seed r 0) (m (by lia))) (qA T seed r 1) (m (by lia))) (qA T seed r 2) (m (by lia))) (qA T seed r 3) (m (by lia))
 rw[Bool.or_eq_true] at this
 refine this.resolve_left ?_
 have:zfM (qA T seed r 0) (qA T seed r 1) (qA T seed r 2) (qA T seed r 3)=true:=by
  unfold zfM
  simp only[Bool.and_eq_true,beq_iff_eq,decide_eq_true_eq]
  lia
 simp[this]
noncomputable def JC(T:zQ) (seed:Nat) (r:Str) (row:Nat):Nat:=((zV T seed r 5).getD row c0).1
theorem Jo(seed:Nat) (k:Nat):ZE (qg T seed r 5) k=((zV T seed r 5).getD k c0).2.1∧J3 (qg T seed r 5) k=((zV T seed r 5).getD k c0).2.2++"x \t":=by
 unfold ZE J3
 rw[←JH]
 have e:((zV T seed r 5).map fun q:Ql=>(q.2.1,q.2.2)).getD k ("","")=(((zV T seed r 5).getD k c0).2.1,((zV T seed r 5).getD k c0).2.2):=zbb (fun q:Ql=>(q.2.1,q.2.2)) _ k c0
 rw[e]
 exact⟨rfl,rfl⟩
theorem zhI(h:TreeOk N r T) (seed:Nat):PageOk T seed r (qg T seed r 5) (JC T seed r):=by
 refine z9 (zes h seed) fun h5 _ c=>?_
 have hs:=(zd0 h seed 5 (Nat.le_refl _)).2
 have get:∀k,k<5→(zV T seed r 5)[k]?=some ((zV T seed r 5).getD k c0):=fun k hk=>by
  rw[List.getD_eq_getElem?_getD,List.getElem?_eq_getElem (by lia)];rfl
 have par:∀row,1≤row→row<5→JC T seed r row<row∧(((zV T seed r 5).getD (JC T seed r row) c0).2.1,((zV T seed r 5).getD row c0).2.1)∈T:=fun row h1 hr=>by
  obtain⟨k1,k2,q',k3,k4⟩:=c.par row _ (get row hr) h1
  refine⟨k2,?_⟩
  have:q'=(zV T seed r 5).getD (JC T seed r row) c0:=by
   have:=get (JC T seed r row) k1
   have k3:(zV T seed r 5)[JC T seed r row]?=some q':=k3
   rw[this] at k3;cases k3;rfl
  rw[←this];exact k4
 refine⟨fun k hk=>?_,rfl,?_,fun row h1 hr=>(par row h1 hr).1,fun row h1 hr k hp hk=>?_,fun row h1 hr k hp hk=>?_⟩
 ·rw[←JH,List.length_map];exact hs k hk
 ·rw[←JH,List.length_map];exact h5
 ·have ht:=zli h seed
  rw[←zeK] at ht
  unfold zif at ht
  have hrow:row∈([1,2,3,4]:List Nat):=by simp;lia
  have ht:=List.all_eq_true.mp (List.all_eq_true.mp ht row hrow) k (List.mem_range.mpr hk)
  have e:∀j,((zV T seed r 5).map fun q:Ql=>(q.1,q.2.2)).getD j (0,"")=(((zV T seed r 5).getD j c0).1,((zV T seed r 5).getD j c0).2.2):=fun j=>zbb (fun q:Ql=>(q.1,q.2.2)) _ j c0
  rw[e,e] at ht
  simp only at ht
  rw[Bool.or_eq_true] at ht
  have hp':((zV T seed r 5).getD row c0).1≤k:=hp
  have ht:=ht.resolve_left (by simpa using hp')
  rw[(Jo seed k).2,(Jo seed row).2]
  exact beq_iff_eq.mp ht
 ·rw[(Jo seed k).1,(Jo seed row).1]
  refine zR (par row h1 hr) fun p1 p2=>?_
  refine decide_eq_decide.mpr ⟨fun hm=>?_,fun e=>e▸p2⟩
  have e:=h.uniq _ hm _ p2 rfl
  exact zbP c.nd (get k (by lia)) (get (JC T seed r row) (by lia)) (Prod.mk.inj e).1
theorem zlR{R:List (Str×Str)}{par:Nat→Nat}(hn:((List.range 4).map fun i=>ZE R (i+1)).Nodup):Zy R par 4=(List.range 4).map fun i=>(ZE R (i+1),ZE R (par (i+1))):=by
 unfold Zy
 have e:(List.range 4).foldl (fun h i=>z5 h (ZE R (i+1)) (ZE R (par (i+1)))) []=((List.range 4).map fun i=>(ZE R (i+1),ZE R (par (i+1)))).foldl (fun acc p=>z5 acc p.1 p.2) []:=by rw[List.foldl_map]
 rw[e,jE _ [] (by rw[List.nil_append,List.map_map];exact hn),List.nil_append]
theorem zkm(h:TreeOk N r T) {C:List Ql}{R:List (Str×Str)}{par:Nat→Nat}(hrows:∀k,ZE R k=(C.getD k c0).2.1) (h5:C.length=5) (hin:∀x∈N,x∈C.map fun q=>q.2.1) (ci:CI N r T C 5)
  (y0:∀row,1≤row→row<5→(ZE R (par row),ZE R row)∈T):((Zy R par 4).map (·.1)).Nodup∧∀x c,(x,c)∈Zy R par 4↔(c,x)∈T:=by
 have get:∀k,k<5→C[k]?=some (C.getD k c0):=fun k hk=>by
  rw[List.getD_eq_getElem?_getD,List.getElem?_eq_getElem (by lia)];rfl
 have hn:((List.range 4).map fun i=>ZE R (i+1)).Nodup:=ZC List.nodup_range fun i hi j hj e=>by
  have hi:=List.mem_range.mp hi
  have hj:=List.mem_range.mp hj
  have e:ZE R (i+1)=ZE R (j+1):=e
  rw[hrows,hrows] at e
  have:=zbP ci.nd (get (i+1) (by lia)) (get (j+1) (by lia)) e
  lia
 rw[zlR hn]
 refine⟨by rw[List.map_map];exact hn,fun x c=>⟨fun hm=>?_,fun hm=>?_⟩⟩
 ·refine zd (List.mem_map.mp hm) fun i hi e=>?_
  have hi:=List.mem_range.mp hi
  refine zR (Prod.mk.inj e) fun e1 e2=>?_
  rw[←e1,←e2]
  exact y0 (i+1) (by lia) (by lia)
 ·have hxN:=h.sub _ hm
  refine zd (List.mem_map.mp (hin x hxN)) fun q hq e=>?_
  refine Exists.elim (List.getElem?_of_mem hq) fun j hj=>?_
  have hj5:=(List.getElem?_eq_some_iff.mp hj).1
  have hj0:j≠0:=by
   rintro rfl
   rw[ci.root] at hj;cases hj
   exact h.root _ hm e.symm
  have en:ZE R j=x:=by
   rw[hrows j,List.getD_eq_getElem?_getD,hj];exact e
  have h2:=y0 j (by lia) (by lia)
  rw[en] at h2
  have e':=h.uniq _ hm _ h2 rfl
  refine List.mem_map.mpr ⟨j-1,List.mem_range.mpr (by lia),?_⟩
  rw[show j-1+1=j by lia,en]
  rw[(Prod.mk.inj e').1]
theorem zlQ(h:TreeOk N r T) (seed:Nat):((Zy (qg T seed r 5) (JC T seed r) 4).map (·.1)).Nodup∧∀x c,(x,c)∈Zy (qg T seed r 5) (JC T seed r) 4↔(c,x)∈T:=by
 refine z9 (zes h seed) fun h5 hin ci=>?_
 have ok:=zhI h seed
 refine zkm h (fun k=>(Jo seed k).1) h5 hin ci fun row h1 hr=>?_
 exact of_decide_eq_true ((ok.call row h1 hr (JC T seed r row) (Nat.le_refl _) (ok.lt row h1 hr)).trans (decide_eq_true rfl))
end
section
open PySem
variable {s:List Nat}{H:List Turn}
theorem Done.treeOk(D:Done s H):TreeOk (zb s) ((zb s).getD 0 "") (Zx s) where
 nd:=(Zd s).nodup
 len:=(Zd s).len
 all:=D.kept.all
 root g hg:=D.kept.root hg
 uniq g hg g' hg' e:=by
  refine jK (D.kept.call (y:=g.2) (D.ran.ok.fsub g (D.kept.sub.subset hg)).2 (fun q=>D.kept.root hg q.symm)) fun t ht _ _ hu=>?_
  rw[hu g hg rfl,hu g' hg' e.symm]
 nodup:=D.kept.nodup D.ran.ok.fnd
 sub g hg:=(D.ran.ok.fsub g (D.kept.sub.subset hg)).2
 rootN:=zaD.mpr ⟨0,by decide,rfl⟩
theorem ziN{α:Type} [DecidableEq α] {l:List α}{q:α→Bool}{x:α}(hn:l.Nodup) (hx:x∈l) (hq:q x=true) (hu:∀y∈l,q y=true→y=x):(l.filter q).length=1:=by
 have h1:=Zr (l:=l.filter q) (m:=[x]) (hn.filter _) fun y hy=>by
  refine zR (List.mem_filter.mp hy) fun h1 h2=>?_
  rw[hu y h1 h2];exact List.mem_cons_self
 have h2:0<(l.filter q).length:=List.length_pos_of_mem (List.mem_filter.mpr ⟨hx,hq⟩)
 simp at h1
 lia
theorem zik{l:List (Str×Str)}(h:(l.map (·.1)).Nodup):(l.map fun p=>(p.2,p.1)).Nodup:=by
 induction l with
 | nil=>exact List.nodup_nil
 | cons a l ih=>
  rw[List.map_cons,List.nodup_cons] at h ⊢
  refine⟨fun hm=>?_,ih h.2⟩
  refine zd (List.mem_map.mp hm) fun q hq e=>?_
  refine zR (Prod.mk.inj e) fun _ e2=>?_
  exact h.1 (e2▸List.mem_map_of_mem (f:=(·.1)) hq)
theorem Done.endOk(D:Done s H):EndOk s (qg (Zx s) (Jl s) ((zb s).getD 0 "") 5) (JC (Zx s) (Jl s) ((zb s).getD 0 "")):=by
 have hpage:=zhI D.treeOk (Jl s)
 refine zR (zlQ D.treeOk (Jl s)) fun hnd v6=>?_
 generalize qg (Zx s) (Jl s) ((zb s).getD 0 "") 5=R at *
 generalize JC (Zx s) (Jl s) ((zb s).getD 0 "")=par at *
 have hget:∀x c,(c,x)∈Zx s→zX (Zy R par 4) x=some c:=fun x c h=>qT hnd ((v6 x c).mpr h)
 refine⟨D.four,D.ends.1,fun x hx=>(D.ends.2 x).mp hx,hpage,hnd,fun x=>?_,D.least.1,?_,?_,D.bnd,D.wlen,D.wsub,fun w hw=>?_,D.left⟩
 ·rw[←D.ends.2 x]
  constructor
  ·intro h
   refine zd (List.mem_map.mp h) fun p hp q6_=>?_
   subst q6_
   exact List.mem_map.mpr ⟨(p.2,p.1),(v6 _ _).mp hp,rfl⟩
  ·intro h
   refine zd (List.mem_map.mp h) fun g hg q5_=>?_
   subst q5_
   exact List.mem_map.mpr ⟨(g.2,g.1),(v6 _ _).mpr hg,rfl⟩
 ·rw[D.total,D.least.2]
 ·rw[D.least.2]
  have:=D.ran.cost D.kept (E:=(Zy R par 4).map fun p=>(p.2,p.1)) (zik hnd) fun g=>by
   rw[List.mem_map]
   constructor
   ·intro q3_
    refine zd q3_ fun p hp q4_=>?_
    subst q4_
    exact(v6 _ _).mp hp
   ·intro hg
    exact⟨(g.2,g.1),(v6 _ _).mpr hg,rfl⟩
  rw[←this,List.map_map]
  rfl
 ·refine qD (D.word hw) fun h hh e1 e2=>?_
  have t:=D.ran.turn h hh
  rw[e2]
  refine qD (t.one D.kept) fun g hg he hu=>?_
  refine ziN (x:=g.2) (t.sub.nodup (Zd s).nodup) he.1 ?_ fun y hy hq=>?_
  ·rw[hget g.2 g.1 hg]
   exact decide_eq_true he.2
  ·have hq:=of_decide_eq_true hq
   have hy1:y∈(Zx s).map (·.2):=(D.ends.2 y).mpr (zbj.mpr ⟨t.sub.subset hy,fun q=>t.root (q▸hy)⟩)
   refine zd (List.mem_map.mp hy1) fun g' hg' q2_=>?_
   subst q2_
   rw[hget g'.2 g'.1 hg'] at hq
   rw[hu g' hg' ⟨hy,hq⟩]
theorem plain_all(s:List Nat):DrawOk s∧∃R par,EndOk s R par:=by
 refine Exists.elim (znR s) fun H D=>?_
 exact⟨znQ s,_,_,D.endOk⟩
end
section
open PySem PySem.W
noncomputable def zkZ:Stmt→Arguments
 | .FunctionDef _ a ..=>a
 | _=>default
noncomputable def fnO(st:Stmt) (q md:Str) (t:Tok) (c:Addr):Obj:={cls:=.type "function",data:=.func {name:=zbR st,qualname:=q,params:=zkZ st,body:=.stmts (zu st),scope:=zo st,globals:=3,closure:=[],defaults:=.none,kwdefaults:=.none,pyModule:=.str md t,code:=.ref c}}
noncomputable def kvO(P:Params) (k:Str) (t:Tok) (v:Value):DictEntry:={hash:=PyData.keyHash P k,key:=.str k t,val:=v}
noncomputable def KK(P:Params):Frag:=[
 (2,{cls:=Value.none,data:=Data.dict #[]}),
 (3,{cls:=Value.type "dict",data:=Data.dict #[kvO P "__name__" 165 (Value.str "law_xc0029_01" 412),kvO P "__doc__" 166 (Value.none),kvO P "__package__" 167 (Value.none),kvO P "__loader__" 168 (Value.builtin "__main__.__loader__#opaque"),kvO P "__spec__" 169 (Value.none),kvO P "__annotations__" 170 (Value.ref 6),kvO P "__builtins__" 171 (Value.ref 4),kvO P "__file__" 173 (Value.str "/claim/cut.py" 172),kvO P "__cached__" 174 (Value.none),kvO P "_wall" 193 (Value.ref 21),kvO P "TupleComp" 237 (Value.ref 45),kvO P "add_callers" 248 (Value.ref 56),kvO P "count_calls" 257 (Value.ref 63),kvO P "COMPILER_FLAG_NAMES" 290 (Value.ref 64),kvO P "pretty_flags" 300 (Value.ref 71),kvO P "_parse_varint" 309 (Value.ref 78),kvO P "Whitespace" 411 (Value.ref 140),kvO P "_law_read" 419 (Value.ref 149),kvO P "_law_flag" 427 (Value.ref 156),kvO P "_law_tables" 433 (Value.ref 161),kvO P "_law_closed" 439 (Value.ref 166),kvO P "_law_first" 454 (Value.ref 173),kvO P "_law_paid" 460 (Value.ref 178),kvO P "_law_kept" 466 (Value.ref 183),kvO P "_law_heads" 472 (Value.ref 188),kvO P "_law_least" 478 (Value.ref 193),kvO P "law" 484 (Value.ref 198)] 27}),
 (34,{cls:=Value.type "code",data:=Data.fields #[Value.str "__init__" 208,Value.str "TupleComp.__init__" 209,Value.str "/claim/cut.py" 210,Value.int 7 0,Value.int 2 0,Value.int 0 0,Value.int 0 0,Value.int 3 0,Value.ref 29,Value.bool true,Value.int 181 0,Value.ref 30,Value.none,Value.ref 31,Value.ref 32,Value.ref 33,Value.int 213 0,Value.int 7 0,Value.str "/claim/cut.py" 214]}),
 (35,fnO (ZH (ze 2) 0) "TupleComp.__init__" "cpy313.pstats" 194 34),
 (41,{cls:=Value.type "code",data:=Data.fields #[Value.str "compare" 216,Value.str "TupleComp.compare" 217,Value.str "/claim/cut.py" 218,Value.int 10 0,Value.int 3 0,Value.int 0 0,Value.int 0 0,Value.int 3 0,Value.ref 36,Value.bool true,Value.int 181 0,Value.ref 37,Value.none,Value.ref 38,Value.ref 39,Value.ref 40,Value.int 226 0,Value.int 10 0,Value.str "/claim/cut.py" 227]}),
 (42,fnO (ZH (ze 2) 1) "TupleComp.compare" "cpy313.pstats" 194 41),
 (44,{cls:=Value.type "dict",data:=Data.dict #[kvO P "__module__" 203 (Value.str "cpy313.pstats" 194),kvO P "__firstlineno__" 207 (Value.int 5 206),kvO P "__init__" 215 (Value.ref 35),kvO P "compare" 228 (Value.ref 42),kvO P "__static_attributes__" 230 (Value.ref 43),kvO P "__dict__" 232 (Value.ref 46),kvO P "__weakref__" 234 (Value.ref 47),kvO P "__doc__" 235 (Value.none)] 4}),
 (45,{cls:=Value.type "type",data:=Data.cls {name:=Str.ofString "TupleComp",bases:=[Value.type "object"],mro:=[Value.ref 45,Value.type "object"],ns:=44,qualname:=Str.ofString "TupleComp" },slots:=#[none,none,some (Value.str "TupleComp" 196),some (Value.str "TupleComp" 204),some (Value.builtin "object.__new__"),some (Value.bool true)]}),
 (46,{cls:=Value.type "getset_descriptor",data:=Data.fields #[Value.str "__dict__" 231,Value.ref 45,Value.builtin "function.__dict__",Value.builtin "function.__dict__#set"]}),
 (47,{cls:=Value.type "getset_descriptor",data:=Data.fields #[Value.str "__weakref__" 233,Value.ref 45,Value.builtin "ExceptionGroup.__weakref__",Value.none]}),
 (55,{cls:=Value.type "code",data:=Data.fields #[Value.str "add_callers" 238,Value.str "add_callers" 239,Value.str "/claim/cut.py" 240,Value.int 19 0,Value.int 2 0,Value.int 0 0,Value.int 0 0,Value.int 3 0,Value.ref 50,Value.bool true,Value.int 181 0,Value.ref 51,Value.none,Value.ref 52,Value.ref 53,Value.ref 54,Value.int 246 0,Value.int 19 0,Value.str "/claim/cut.py" 247]}),
 (56,fnO (ze 3) "add_callers" "cpy313.pstats" 194 55),
 (62,{cls:=Value.type "code",data:=Data.fields #[Value.str "count_calls" 249,Value.str "count_calls" 250,Value.str "/claim/cut.py" 251,Value.int 32 0,Value.int 1 0,Value.int 0 0,Value.int 0 0,Value.int 3 0,Value.ref 57,Value.bool true,Value.int 181 0,Value.ref 58,Value.none,Value.ref 59,Value.ref 60,Value.ref 61,Value.int 255 0,Value.int 32 0,Value.str "/claim/cut.py" 256]}),
 (63,fnO (ze 4) "count_calls" "cpy313.pstats" 194 62),
 (64,{cls:=Value.type "dict",data:=Data.dict #[{hash:=1,key:=Value.int 1 260,val:=Value.str "OPTIMIZED" 261},{hash:=2,key:=Value.int 2 262,val:=Value.str "NEWLOCALS" 263},{hash:=4,key:=Value.int 4 264,val:=Value.str "VARARGS" 265},{hash:=8,key:=Value.int 8 266,val:=Value.str "VARKEYWORDS" 267},{hash:=16,key:=Value.int 16 268,val:=Value.str "NESTED" 269},{hash:=32,key:=Value.int 32 270,val:=Value.str "GENERATOR" 271},{hash:=64,key:=Value.int 64 272,val:=Value.str "NOFREE" 273},{hash:=128,key:=Value.int 128 274,val:=Value.str "COROUTINE" 275},{hash:=256,key:=Value.int 256 276,val:=Value.str "ITERABLE_COROUTINE" 277},{hash:=512,key:=Value.int 512 278,val:=Value.str "ASYNC_GENERATOR" 279}] 10}),
 (70,{cls:=Value.type "code",data:=Data.fields #[Value.str "pretty_flags" 291,Value.str "pretty_flags" 292,Value.str "/claim/cut.py" 293,Value.int 39 0,Value.int 1 0,Value.int 0 0,Value.int 0 0,Value.int 3 0,Value.ref 65,Value.bool true,Value.int 181 0,Value.ref 66,Value.none,Value.ref 67,Value.ref 68,Value.ref 69,Value.int 298 0,Value.int 39 0,Value.str "/claim/cut.py" 299]}),
 (71,fnO (ze 7) "pretty_flags" "cpy313.dis" 258 70),
 (77,{cls:=Value.type "code",data:=Data.fields #[Value.str "_parse_varint" 301,Value.str "_parse_varint" 302,Value.str "/claim/cut.py" 303,Value.int 51 0,Value.int 1 0,Value.int 0 0,Value.int 0 0,Value.int 3 0,Value.ref 72,Value.bool true,Value.int 181 0,Value.ref 73,Value.none,Value.ref 74,Value.ref 75,Value.ref 76,Value.int 307 0,Value.int 51 0,Value.str "/claim/cut.py" 308]}),
 (78,fnO (ze 8) "_parse_varint" "cpy313.dis" 258 77),
 (94,{cls:=Value.type "code",data:=Data.fields #[Value.str "__init__" 329,Value.str "Whitespace.__init__" 330,Value.str "/claim/cut.py" 331,Value.int 63 0,Value.int 2 0,Value.int 0 0,Value.int 0 0,Value.int 3 0,Value.ref 89,Value.bool true,Value.int 181 0,Value.ref 90,Value.none,Value.ref 91,Value.ref 92,Value.ref 93,Value.int 341 0,Value.int 63 0,Value.str "/claim/cut.py" 342]}),
 (95,fnO (ZH (ze 10) 1) "Whitespace.__init__" "cpy313.tabnanny" 310 94),
 (101,{cls:=Value.type "code",data:=Data.fields #[Value.str "longest_run_of_spaces" 344,Value.str "Whitespace.longest_run_of_spaces" 345,Value.str "/claim/cut.py" 346,Value.int 86 0,Value.int 1 0,Value.int 0 0,Value.int 0 0,Value.int 3 0,Value.ref 96,Value.bool true,Value.int 181 0,Value.ref 97,Value.none,Value.ref 98,Value.ref 99,Value.ref 100,Value.int 350 0,Value.int 86 0,Value.str "/claim/cut.py" 351]}),
 (102,fnO (ZH (ze 10) 2) "Whitespace.longest_run_of_spaces" "cpy313.tabnanny" 310 101),
 (108,{cls:=Value.type "code",data:=Data.fields #[Value.str "indent_level" 353,Value.str "Whitespace.indent_level" 354,Value.str "/claim/cut.py" 355,Value.int 90 0,Value.int 2 0,Value.int 0 0,Value.int 0 0,Value.int 3 0,Value.ref 103,Value.bool true,Value.int 181 0,Value.ref 104,Value.none,Value.ref 105,Value.ref 106,Value.ref 107,Value.int 362 0,Value.int 90 0,Value.str "/claim/cut.py" 363]}),
 (109,fnO (ZH (ze 10) 3) "Whitespace.indent_level" "cpy313.tabnanny" 310 108),
 (129,{cls:=Value.type "code",data:=Data.fields #[Value.str "less" 381,Value.str "Whitespace.less" 382,Value.str "/claim/cut.py" 383,Value.int 103 0,Value.int 2 0,Value.int 0 0,Value.int 0 0,Value.int 3 0,Value.ref 124,Value.bool true,Value.int 181 0,Value.ref 125,Value.none,Value.ref 126,Value.ref 127,Value.ref 128,Value.int 388 0,Value.int 103 0,Value.str "/claim/cut.py" 389]}),
 (130,fnO (ZH (ze 10) 6) "Whitespace.less" "cpy313.tabnanny" 310 129),
 (139,{cls:=Value.type "dict",data:=Data.dict #[kvO P "__module__" 319 (Value.str "cpy313.tabnanny" 310),kvO P "__firstlineno__" 323 (Value.int 60 322),kvO P "S" 327 (Value.str " " 325),kvO P "T" 328 (Value.str "\t" 326),kvO P "__init__" 343 (Value.ref 95),kvO P "longest_run_of_spaces" 352 (Value.ref 102),kvO P "indent_level" 364 (Value.ref 109),kvO P "equal" 372 (Value.ref 116),kvO P "not_equal_witness" 380 (Value.ref 123),kvO P "less" 390 (Value.ref 130),kvO P "not_less_witness" 398 (Value.ref 137),kvO P "__static_attributes__" 404 (Value.ref 138),kvO P "__dict__" 406 (Value.ref 141),kvO P "__weakref__" 408 (Value.ref 142),kvO P "__doc__" 409 (Value.none)] 4}),
 (140,{cls:=Value.type "type",data:=Data.cls {name:=Str.ofString "Whitespace",bases:=[Value.type "object"],mro:=[Value.ref 140,Value.type "object"],ns:=139,qualname:=Str.ofString "Whitespace" },slots:=#[none,none,some (Value.str "Whitespace" 312),some (Value.str "Whitespace" 320),some (Value.builtin "object.__new__"),some (Value.bool true)]}),
 (141,{cls:=Value.type "getset_descriptor",data:=Data.fields #[Value.str "__dict__" 405,Value.ref 140,Value.builtin "function.__dict__",Value.builtin "function.__dict__#set"]}),
 (142,{cls:=Value.type "getset_descriptor",data:=Data.fields #[Value.str "__weakref__" 407,Value.ref 140,Value.builtin "ExceptionGroup.__weakref__",Value.none]}),
 (148,{cls:=Value.type "code",data:=Data.fields #[Value.str "_law_read" 414,Value.str "_law_read" 415,Value.str "/claim/cut.py" 416,Value.int 117 0,Value.int 2 0,Value.int 0 0,Value.int 0 0,Value.int 3 0,Value.ref 145,Value.bool true,Value.int 181 0,Value.ref 146,Value.none,Value.none,Value.none,Value.ref 147,Value.int 417 0,Value.int 117 0,Value.str "/claim/cut.py" 418]}),
 (149,fnO (ze 12) "_law_read" "law_xc0029_01" 412 148),
 (155,{cls:=Value.type "code",data:=Data.fields #[Value.str "_law_flag" 420,Value.str "_law_flag" 421,Value.str "/claim/cut.py" 422,Value.int 129 0,Value.int 1 0,Value.int 0 0,Value.int 0 0,Value.int 3 0,Value.ref 150,Value.bool true,Value.int 181 0,Value.ref 151,Value.none,Value.ref 152,Value.ref 153,Value.ref 154,Value.int 425 0,Value.int 129 0,Value.str "/claim/cut.py" 426]}),
 (156,fnO (ze 13) "_law_flag" "law_xc0029_01" 412 155),
 (160,{cls:=Value.type "code",data:=Data.fields #[Value.str "_law_tables" 428,Value.str "_law_tables" 429,Value.str "/claim/cut.py" 430,Value.int 132 0,Value.int 2 0,Value.int 0 0,Value.int 0 0,Value.int 3 0,Value.ref 157,Value.bool true,Value.int 181 0,Value.ref 158,Value.none,Value.none,Value.none,Value.ref 159,Value.int 431 0,Value.int 132 0,Value.str "/claim/cut.py" 432]}),
 (161,fnO (ze 14) "_law_tables" "law_xc0029_01" 412 160),
 (165,{cls:=Value.type "code",data:=Data.fields #[Value.str "_law_closed" 434,Value.str "_law_closed" 435,Value.str "/claim/cut.py" 436,Value.int 138 0,Value.int 2 0,Value.int 0 0,Value.int 0 0,Value.int 3 0,Value.ref 162,Value.bool true,Value.int 181 0,Value.ref 163,Value.none,Value.none,Value.none,Value.ref 164,Value.int 437 0,Value.int 138 0,Value.str "/claim/cut.py" 438]}),
 (166,fnO (ze 15) "_law_closed" "law_xc0029_01" 412 165),
 (172,{cls:=Value.type "code",data:=Data.fields #[Value.str "_law_first" 440,Value.str "_law_first" 441,Value.str "/claim/cut.py" 442,Value.int 144 0,Value.int 3 0,Value.int 0 0,Value.int 0 0,Value.int 3 0,Value.ref 167,Value.bool true,Value.int 181 0,Value.ref 168,Value.none,Value.ref 169,Value.ref 170,Value.ref 171,Value.int 452 0,Value.int 144 0,Value.str "/claim/cut.py" 453]}),
 (173,fnO (ze 16) "_law_first" "law_xc0029_01" 412 172),
 (177,{cls:=Value.type "code",data:=Data.fields #[Value.str "_law_paid" 455,Value.str "_law_paid" 456,Value.str "/claim/cut.py" 457,Value.int 151 0,Value.int 5 0,Value.int 0 0,Value.int 0 0,Value.int 3 0,Value.ref 174,Value.bool true,Value.int 181 0,Value.ref 175,Value.none,Value.none,Value.none,Value.ref 176,Value.int 458 0,Value.int 151 0,Value.str "/claim/cut.py" 459]}),
 (178,fnO (ze 17) "_law_paid" "law_xc0029_01" 412 177),
 (182,{cls:=Value.type "code",data:=Data.fields #[Value.str "_law_kept" 461,Value.str "_law_kept" 462,Value.str "/claim/cut.py" 463,Value.int 169 0,Value.int 2 0,Value.int 0 0,Value.int 0 0,Value.int 3 0,Value.ref 179,Value.bool true,Value.int 181 0,Value.ref 180,Value.none,Value.none,Value.none,Value.ref 181,Value.int 464 0,Value.int 169 0,Value.str "/claim/cut.py" 465]}),
 (183,fnO (ze 18) "_law_kept" "law_xc0029_01" 412 182),
 (187,{cls:=Value.type "code",data:=Data.fields #[Value.str "_law_heads" 467,Value.str "_law_heads" 468,Value.str "/claim/cut.py" 469,Value.int 176 0,Value.int 4 0,Value.int 0 0,Value.int 0 0,Value.int 3 0,Value.ref 184,Value.bool true,Value.int 181 0,Value.ref 185,Value.none,Value.none,Value.none,Value.ref 186,Value.int 470 0,Value.int 176 0,Value.str "/claim/cut.py" 471]}),
 (188,fnO (ze 19) "_law_heads" "law_xc0029_01" 412 187),
 (192,{cls:=Value.type "code",data:=Data.fields #[Value.str "_law_least" 473,Value.str "_law_least" 474,Value.str "/claim/cut.py" 475,Value.int 191 0,Value.int 1 0,Value.int 0 0,Value.int 0 0,Value.int 3 0,Value.ref 189,Value.bool true,Value.int 181 0,Value.ref 190,Value.none,Value.none,Value.none,Value.ref 191,Value.int 476 0,Value.int 191 0,Value.str "/claim/cut.py" 477]}),
 (193,fnO (ze 20) "_law_least" "law_xc0029_01" 412 192),
 (197,{cls:=Value.type "code",data:=Data.fields #[Value.str "law" 479,Value.str "law" 480,Value.str "/claim/cut.py" 481,Value.int 194 0,Value.int 1 0,Value.int 0 0,Value.int 0 0,Value.int 3 0,Value.ref 194,Value.bool true,Value.int 181 0,Value.ref 195,Value.none,Value.none,Value.none,Value.ref 196,Value.int 482 0,Value.int 194 0,Value.str "/claim/cut.py" 483]}),
 (198,fnO (ze 21) "law" "law_xc0029_01" 412 197)]
noncomputable abbrev asK:List Addr:=[2,3,34,35,41,42,44,45,46,47,55,56,62,63,64,70,71,77,78,94,95,101,102,108,109,129,130,139,140,141,142,148,149,155,156,160,161,165,166,172,173,177,178,182,183,187,188,192,193,197,198]
noncomputable abbrev rwX:RowW:=PySem.Challenge.rw_xc0029_01.row.toRowW
noncomputable abbrev prX:Program:=PySem.Challenge.rw_xc0029_01.row.toRowW.prog
noncomputable def vwX:Program:=PySem.W.view prX [0,2,3,4,6,7,8,10,12,13,14,15,16,17,18,19,20,21]
noncomputable abbrev loX:List Str:=["COMPILER_FLAG_NAMES","Whitespace"]
noncomputable abbrev hkX:=kHook KK asK (fun _=>by kernel_rfl)
set_option maxHeartbeats 8000000 in
theorem zoI:LeftO prX vwX loX (fun s=>xlAt vwX [] s&&recOk rwX.records s) (Hook.obs hkX) (Hook.val hkX) 2842:=by
 refine LeftO.of_split "special-get-raises" ?_
 intro w
 kernel_rfl
end
section
open PySem PySem.W
theorem zot:PySem.Challenge.rw_xc0029_01.wellSaid=true:=by kernel_rfl
noncomputable abbrev zoX:DefRec:={name:="law",params:=zkZ (ze 21),body:=zu (ze 21),scope:=zo (ze 21),pos:=⟨194,0,219,21⟩}
theorem hd2(walk:WalkO vwX loX (XL vwX []) (hkX.says) rwX zoX [] fun f vs=>PySem.call f vs):PySem.Challenge.rw_xc0029_01.Holds:=by
 refine holds_law zot fun said=>?_
 refine holds_open (q:=vwX) (loose:=loX) (Xt:=fun s=>xlAt vwX [] s&&recOk rwX.records s) (XP:=XL vwX []) (Yf:=Hook.obs hkX) (Ya:=Hook.val hkX) (YP:=Hook.says hkX) (N:=2842) (d:=zoX) (kwd:=[]) zoI (fun w s e=>Hook.of _ w s e) (fun w h h' y k=>Hook.keeps _ w h h' y k)
  (fun s e=>xl_of s (Bool.and_eq_true_iff.mp e).1) (fun mg h h' x k=>XL.keeps mg h h' x k) (by kernel_rfl) (by kernel_rfl) (by kernel_rfl) (fun s e=>recFacts_of (Bool.and_eq_true_iff.mp e).2) (by kernel_rfl) said (by kernel_rfl) ⟨rfl,rfl,rfl,rfl,rfl,by kernel_rfl⟩ ⟨[WData.list []],by kernel_rfl,by kernel_rfl⟩ walk
end
section
open PySem PySem.W
noncomputable def z3(P:Params) (a:Addr):Obj:=((KK P).lookup a).getD {cls:=.none,data:=.plain}
noncomputable def ZR(o:Obj):FuncData:=match o.data with
 | .func fd=>fd
 | _=>default
noncomputable def QI:Value→Addr
 | .ref c=>c
 | _=>0
noncomputable def zea(o:Obj):Array Value:=match o.data with
 | .fields vs=>vs
 | _=>#[]
noncomputable def zmm:Option Value→Tok
 | some (.str _ t)=>t
 | _=>0
structure FnIn (P:Params) (a:Addr) (st:Stmt):Prop where
 look:(KK P).lookup a=some (z3 P a)
 func:(z3 P a).data=.func (ZR (z3 P a))
 body:(ZR (z3 P a)).body=.stmts (zu st)
 scope:(ZR (z3 P a)).scope=zo st
 clo:(ZR (z3 P a)).closure=[]
 glo:(ZR (z3 P a)).globals=mainGlobals
 blt:(ZR (z3 P a)).builtins=builtinsNs
 code:(ZR (z3 P a)).code=.ref (QI (ZR (z3 P a)).code)
 lookc:(KK P).lookup (QI (ZR (z3 P a)).code)=some (z3 P (QI (ZR (z3 P a)).code))
 fields:(z3 P (QI (ZR (z3 P a)).code)).data=.fields (zea (z3 P (QI (ZR (z3 P a)).code)))
 one:(zea (z3 P (QI (ZR (z3 P a)).code)))[1]?=some (.str (ZR (z3 P a)).qualname (zmm (zea (z3 P (QI (ZR (z3 P a)).code)))[1]?))
 bind:∀u5:List Value,u5.length=(ZB st).length→bindArgs (ZR (z3 P a)) ⟨u5,[]⟩=pure ((ZB st).zip u5)
theorem Zz{P:Params}{a:Addr}{st:Stmt}(h1:(KK P).lookup a=some (z3 P a):=by kernel_rfl) (h2:(z3 P a).data=.func (ZR (z3 P a)):=by kernel_rfl) (h3:(ZR (z3 P a)).body=.stmts (zu st):=by kernel_rfl)
  (h4:(ZR (z3 P a)).scope=zo st:=by kernel_rfl) (h5:(ZR (z3 P a)).closure=[]:=by kernel_rfl) (h6:(ZR (z3 P a)).globals=mainGlobals:=by kernel_rfl) (h7:(ZR (z3 P a)).builtins=builtinsNs:=by kernel_rfl)
  (h8:(ZR (z3 P a)).code=.ref (QI (ZR (z3 P a)).code):=by kernel_rfl) (h9:(KK P).lookup (QI (ZR (z3 P a)).code)=some (z3 P (QI (ZR (z3 P a)).code)):=by kernel_rfl)
  (h10:(z3 P (QI (ZR (z3 P a)).code)).data=.fields (zea (z3 P (QI (ZR (z3 P a)).code))):=by kernel_rfl) (h11:(zea (z3 P (QI (ZR (z3 P a)).code)))[1]?=some (.str (ZR (z3 P a)).qualname (zmm (zea (z3 P (QI (ZR (z3 P a)).code)))[1]?)):=by kernel_rfl)
  (h12:∀u5:List Value,u5.length=(ZB st).length→bindArgs (ZR (z3 P a)) ⟨u5,[]⟩=pure ((ZB st).zip u5)):FnIn P a st:=⟨h1,h2,h3,h4,h5,h6,h7,h8,h9,h10,h11,h12⟩
theorem zdD{l:List Value}{n:Nat}(h:l.length=n+1):∃a t,l=a::t∧t.length=n:=by
 cases l with
 | nil=>exact absurd h.symm (Nat.succ_ne_zero _)
 | cons a t=>exact⟨a,t,rfl,Nat.succ.inj h⟩
theorem zbU{l:List Value}(h:l.length=1):∃a,l=[a]:=(zdD h).imp fun a x=>x.elim fun t x=>x.1.trans (congrArg _ (List.length_eq_zero_iff.mp x.2))
theorem zal{l:List Value}(h:l.length=2):∃a b,l=[a,b]:=(zdD h).imp fun a x=>x.elim fun t x=>(zbU x.2).imp fun b e=>x.1.trans (congrArg _ e)
theorem zlK{l:List Value}(h:l.length=3):∃a b c,l=[a,b,c]:=(zdD h).imp fun a x=>x.elim fun t x=>(zal x.2).imp fun b e=>e.imp fun c e=>x.1.trans (congrArg _ e)
theorem zoH{l:List Value}(h:l.length=4):∃a b c d,l=[a,b,c,d]:=(zdD h).imp fun a x=>x.elim fun t x=>(zlK x.2).imp fun b e=>e.imp fun c e=>e.imp fun d e=>x.1.trans (congrArg _ e)
theorem zpD{l:List Value}(h:l.length=5):∃a b c d e,l=[a,b,c,d,e]:=(zdD h).imp fun a x=>x.elim fun t x=>(zoH x.2).imp fun b e=>e.imp fun c e=>e.imp fun d e=>e.imp fun f e=>x.1.trans (congrArg _ e)
variable {P:Params}
theorem fi3:FnIn P 56 (ze 3):=Zz (h12:=fun u5 h=>by
 refine Zu (zal h) fun a b q1_=>?_
 subst q1_
 kernel_rfl)
theorem fi4:FnIn P 63 (ze 4):=Zz (h12:=fun u5 h=>by
 refine Exists.elim (zbU h) fun a q2_=>?_
 subst q2_
 kernel_rfl)
theorem fi7:FnIn P 71 (ze 7):=Zz (h12:=fun u5 h=>by
 refine Exists.elim (zbU h) fun a q3_=>?_
 subst q3_
 kernel_rfl)
theorem fi8:FnIn P 78 (ze 8):=Zz (h12:=fun u5 h=>by
 refine Exists.elim (zbU h) fun a q4_=>?_
 subst q4_
 kernel_rfl)
theorem zpP:FnIn P 149 (ze 12):=Zz (h12:=fun u5 h=>by
 refine Zu (zal h) fun a b q5_=>?_
 subst q5_
 kernel_rfl)
theorem zpO:FnIn P 156 (ze 13):=Zz (h12:=fun u5 h=>by
 refine Exists.elim (zbU h) fun a q6_=>?_
 subst q6_
 kernel_rfl)
theorem zpN:FnIn P 161 (ze 14):=Zz (h12:=fun u5 h=>by
 refine Zu (zal h) fun a b q7_=>?_
 subst q7_
 kernel_rfl)
theorem zpM:FnIn P 166 (ze 15):=Zz (h12:=fun u5 h=>by
 refine Zu (zal h) fun a b q8_=>?_
 subst q8_
 kernel_rfl)
theorem zpL:FnIn P 173 (ze 16):=Zz (h12:=fun u5 h=>by
 refine zmB (zlK h) fun a b c q9_=>?_
 subst q9_
 kernel_rfl)
theorem zpK:FnIn P 178 (ze 17):=Zz (h12:=fun u5 h=>by
 refine zps (zpD h) fun a b c d e q10_=>?_
 subst q10_
 kernel_rfl)
theorem zpJ:FnIn P 183 (ze 18):=Zz (h12:=fun u5 h=>by
 refine Zu (zal h) fun a b q11_=>?_
 subst q11_
 kernel_rfl)
theorem zpI:FnIn P 188 (ze 19):=Zz (h12:=fun u5 h=>by
 refine zpv (zoH h) fun a b c d q12_=>?_
 subst q12_
 kernel_rfl)
theorem zpH:FnIn P 193 (ze 20):=Zz (h12:=fun u5 h=>by
 refine Exists.elim (zbU h) fun a q13_=>?_
 subst q13_
 kernel_rfl)
theorem zpG:FnIn P 198 (ze 21):=Zz (h12:=fun u5 h=>by
 refine Exists.elim (zbU h) fun a q14_=>?_
 subst q14_
 kernel_rfl)
theorem zpp:FnIn P 35 (ZH (ze 2) 0):=Zz (h12:=fun u5 h=>by
 refine Zu (zal h) fun a b q15_=>?_
 subst q15_
 kernel_rfl)
theorem zpo:FnIn P 42 (ZH (ze 2) 1):=Zz (h12:=fun u5 h=>by
 refine zmB (zlK h) fun a b c q16_=>?_
 subst q16_
 kernel_rfl)
theorem zoQ:FnIn P 95 (ZH (ze 10) 1):=Zz (h12:=fun u5 h=>by
 refine Zu (zal h) fun a b q17_=>?_
 subst q17_
 kernel_rfl)
theorem zoP:FnIn P 102 (ZH (ze 10) 2):=Zz (h12:=fun u5 h=>by
 refine Exists.elim (zbU h) fun a q18_=>?_
 subst q18_
 kernel_rfl)
theorem zoO:FnIn P 109 (ZH (ze 10) 3):=Zz (h12:=fun u5 h=>by
 refine Zu (zal h) fun a b q19_=>?_
 subst q19_
 kernel_rfl)
theorem zoN:FnIn P 130 (ZH (ze 10) 6):=Zz (h12:=fun u5 h=>by
 refine Zu (zal h) fun a b q20_=>?_
 subst q20_
 kernel_rfl)
end
section
open PySem PySem.W
noncomputable def zmt(o:Obj):Bool:=match o.data with
 | .fields vs=>vs.size != 0
 | _=>true
theorem ziE{K:Frag}{a:Addr}{o:Obj}(h:K.lookup a=some o):∃p∈K,p.2=o:=by
 induction K with
 | nil=>cases h
 | cons p K ih=>
  obtain⟨b,x⟩:=p
  rw[List.lookup_cons] at h
  split at h
  ·cases h;exact⟨_,List.mem_cons_self,rfl⟩
  ·refine zd (ih h) fun q hq e=>?_
   exact⟨q,List.mem_cons_of_mem _ hq,e⟩
theorem zoF(P:Params) {a:Addr}{o:Obj}(h:(KK P).lookup a=some o):zmt o=true:=by
 refine zd (ziE h) fun p hp q1_=>?_
 subst q1_
 have:((KK P).all fun p=>zmt p.2)=true:=by kernel_rfl
 exact List.all_eq_true.mp this p hp
theorem znl{h:Heap}{a:Addr}{m:Str→Option Value}{o:Obj}{es:Array DictEntry}{ep:Nat}(hn:h.Ns a m) (e:h.get? a=some o) (d:o.data=.dict es ep) (x:Str):m x=nsFind es x:=by
 refine zbg hn fun o' es' ep' h1 h2 _ h3=>?_
 rw[e] at h1;cases h1
 rw[d] at h2;cases h2
 exact(h3 x).symm
noncomputable def zgA(o:Obj):Array DictEntry:=match o.data with
 | .dict es _=>es
 | _=>#[]
noncomputable def zoU(o:Obj):Nat:=match o.data with
 | .dict _ ep=>ep
 | _=>0
structure Start (w:World) (h₀:Heap) (mg mb:Str→Option Value) (c X:Addr):Prop where
 K:(KK w.params).In h₀
 g:h₀.Ns mainGlobals mg
 b:h₀.Ns builtinsNs mb
 nolim:h₀.NoLimit
 boot:∀x:Str,x≠"__name__"→mb x=bootBuiltins x
 bmain:∃bm ob,mg "__builtins__"=some (.ref bm)∧bm≠builtinsNs∧h₀.get? bm=some ob∧ob.cls=.type "module"∧ob.dict=some builtinsNs∧ob.data=.plain
 code:h₀.IsCode c X #[]
 tab:h₀.TableAt c X #[]
 adds:∃a o fd,mg "add_callers"=some (.ref a)∧h₀.get? a=some o∧o.data=.func fd∧fd.code=.ref c
variable {w:World}{h₀:Heap}{mg mb:Str→Option Value}{c X:Addr}
noncomputable def Start.G(S:Start w h₀ mg mb c X):Gx where
 prog:=PySem.Challenge.rw_xc0029_01.row.prog
 w:=w
 cX:=c
 X:=X
 h₀:=h₀
 mg:=mg
 mb:=mb
 gns:=S.g
 bns:=S.b
 nolim:=S.nolim
 ps₀:=#[]
 hX:=⟨#[],S.code,S.tab,#[],rfl⟩
 boot:=S.boot
 bmain:=S.bmain
theorem Start.glob(S:Start w h₀ mg mb c X) (x:Str):mg x=nsFind (zgA (z3 w.params 3)) x:=
 znl (es:=zgA (z3 w.params 3)) (ep:=zoU (z3 w.params 3)) S.g (S.K 3 (z3 w.params 3) (by kernel_rfl)) (by kernel_rfl) x
theorem Start.base(S:Start w h₀ mg mb c X) (a:Addr) (o:Obj) (h:(KK w.params).lookup a=some o):h₀.get? a=some o∧a≠X:=by
 refine⟨S.K a o h,?_⟩
 rintro rfl
 have:=S.K a o h
 rw[S.tab.2] at this;cases this
 have:=zoF w.params h
 cases this
theorem FnIn.ok{a:Addr}{st:Stmt}(f:FnIn w.params a st) (S:Start w h₀ mg mb c X):FnOk S.G a (zo st) (ZB st) (zu st) where
 ne:=(S.base _ _ f.look).2
 ex:=⟨_,_,(S.base _ _ f.look).1,f.func,f.body,f.scope,f.clo,f.glo,f.blt,fun h hk=>⟨_,_,_,_,f.code,hk _ _ (S.base _ _ f.lookc).1 (S.base _ _ f.lookc).2,f.fields,f.one⟩,f.bind⟩
noncomputable def faN:Nat→Addr:=fun i=>([(3,56),(4,63),(7,71),(8,78),(12,149),(13,156),(14,161),(15,166),(16,173),(17,178),(18,183),(19,188),(20,193),(21,198)].lookup i).getD 0
noncomputable def mTN:Nat→Addr:=fun j=>if j=0 then 35 else 42
noncomputable def mWN:Nat→Addr:=fun j=>if j=1 then 95 else if j=2 then 102 else if j=3 then 109 else 130
theorem Start.fn(S:Start w h₀ mg mb c X) {i:Nat}(f:FnIn w.params (faN i) (ze i)) (hg:nsFind (zgA (z3 w.params 3)) (zbR (ze i))=some (.ref (faN i))):Fn S.G i (faN i):=
 ⟨(S.glob _).trans hg,f.ok S⟩
theorem Start.fns(S:Start w h₀ mg mb c X):∀i∈JZ,Fn S.G i (faN i):=by
 intro i hi
 simp only[JZ,List.mem_cons,List.not_mem_nil,or_false] at hi
 rcases hi with rfl | rfl | rfl | rfl | rfl | rfl | rfl | rfl | rfl | rfl | rfl | rfl | rfl
 ·exact S.fn fi3 (by kernel_rfl)
 ·exact S.fn fi4 (by kernel_rfl)
 ·exact S.fn fi7 (by kernel_rfl)
 ·exact S.fn fi8 (by kernel_rfl)
 ·exact S.fn zpP (by kernel_rfl)
 ·exact S.fn zpO (by kernel_rfl)
 ·exact S.fn zpN (by kernel_rfl)
 ·exact S.fn zpM (by kernel_rfl)
 ·exact S.fn zpL (by kernel_rfl)
 ·exact S.fn zpK (by kernel_rfl)
 ·exact S.fn zpJ (by kernel_rfl)
 ·exact S.fn zpI (by kernel_rfl)
 ·exact S.fn zpH (by kernel_rfl)
theorem Start.clsT(S:Start w h₀ mg mb c X):Cls S.G (KK w.params) 2 45 [0,1] ["comp_select_list"] mTN where
 kls:=⟨S.base,by kernel_rfl,by kernel_rfl,by kernel_rfl,by kernel_rfl,by kernel_rfl,by kernel_rfl⟩
 glob:=(S.glob _).trans (by kernel_rfl)
 find j hj:=by
  simp only[List.mem_cons,List.not_mem_nil,or_false] at hj
  rcases hj with rfl | rfl<;>kernel_rfl
 typ j hj:=by
  simp only[List.mem_cons,List.not_mem_nil,or_false] at hj
  rcases hj with rfl | rfl<;>kernel_rfl
 fn j hj:=by
  simp only[List.mem_cons,List.not_mem_nil,or_false] at hj
  rcases hj with rfl | rfl
  ·exact zpp.ok S
  ·exact zpo.ok S
 attr x hx:=by
  simp only[List.mem_cons,List.not_mem_nil,or_false] at hx
  rcases hx with rfl<;>kernel_rfl
theorem Start.clsW(S:Start w h₀ mg mb c X):Cls S.G (KK w.params) 10 140 [1,2,3,6] ["raw","n","nt","norm","is_simple"] mWN where
 kls:=⟨S.base,by kernel_rfl,by kernel_rfl,by kernel_rfl,by kernel_rfl,by kernel_rfl,by kernel_rfl⟩
 glob:=(S.glob _).trans (by kernel_rfl)
 find j hj:=by
  simp only[List.mem_cons,List.not_mem_nil,or_false] at hj
  rcases hj with rfl | rfl | rfl | rfl<;>kernel_rfl
 typ j hj:=by
  simp only[List.mem_cons,List.not_mem_nil,or_false] at hj
  rcases hj with rfl | rfl | rfl | rfl<;>kernel_rfl
 fn j hj:=by
  simp only[List.mem_cons,List.not_mem_nil,or_false] at hj
  rcases hj with rfl | rfl | rfl | rfl
  ·exact zoQ.ok S
  ·exact zoP.ok S
  ·exact zoO.ok S
  ·exact zoN.ok S
 attr x hx:=by
  simp only[List.mem_cons,List.not_mem_nil,or_false] at hx
  rcases hx with rfl | rfl | rfl | rfl | rfl<;>kernel_rfl
noncomputable def znL:List (Int×Value):=[(1,.str "OPTIMIZED" 261),(2,.str "NEWLOCALS" 263),(4,.str "VARARGS" 265),(8,.str "VARKEYWORDS" 267),(16,.str "NESTED" 269),(32,.str "GENERATOR" 271),(64,.str "NOFREE" 273),(128,.str "COROUTINE" 275),(256,.str "ITERABLE_COROUTINE" 277),(512,.str "ASYNC_GENERATOR" 279)]
theorem Start.flags(S:Start w h₀ mg mb c X):GlobD S.G "COMPILER_FLAG_NAMES" (.dicI (j1.map fun p=>(p.1,.str p.2))) where
 ex:=by
  refine⟨.ref 64,(S.glob _).trans (by kernel_rfl),fun F hF=>?_⟩
  have hl:(KK w.params).lookup 64=some (z3 w.params 64):=by kernel_rfl
  have hb:=S.base _ _ hl
  refine .dicI (kvs:=znL) (hF _ _ hb.1 hb.2) (by decide) ⟨zgA (z3 w.params 64),zoU (z3 w.params 64),⟨by kernel_rfl,by kernel_rfl,by kernel_rfl⟩,by kernel_rfl,?_,?_,by decide⟩ rfl ?_
  ·intro e he
   rw[show zgA (z3 w.params 64)=#[⟨1,.int 1 260,.str "OPTIMIZED" 261⟩,⟨2,.int 2 262,.str "NEWLOCALS" 263⟩,⟨4,.int 4 264,.str "VARARGS" 265⟩,⟨8,.int 8 266,.str "VARKEYWORDS" 267⟩,⟨16,.int 16 268,.str "NESTED" 269⟩,⟨32,.int 32 270,.str "GENERATOR" 271⟩,⟨64,.int 64 272,.str "NOFREE" 273⟩,⟨128,.int 128 274,.str "COROUTINE" 275⟩,⟨256,.int 256 276,.str "ITERABLE_COROUTINE" 277⟩,⟨512,.int 512 278,.str "ASYNC_GENERATOR" 279⟩] from by kernel_rfl] at he
   simp only[List.mem_cons,List.not_mem_nil,or_false,List.mem_toArray] at he
   rcases he with rfl | rfl | rfl | rfl | rfl | rfl | rfl | rfl | rfl | rfl
   ·exact⟨1,rfl,by kernel_rfl⟩
   ·exact⟨2,rfl,by kernel_rfl⟩
   ·exact⟨4,rfl,by kernel_rfl⟩
   ·exact⟨8,rfl,by kernel_rfl⟩
   ·exact⟨16,rfl,by kernel_rfl⟩
   ·exact⟨32,rfl,by kernel_rfl⟩
   ·exact⟨64,rfl,by kernel_rfl⟩
   ·exact⟨128,rfl,by kernel_rfl⟩
   ·exact⟨256,rfl,by kernel_rfl⟩
   ·exact⟨512,rfl,by kernel_rfl⟩
  ·exact .cons (by kernel_rfl) (by kernel_rfl) (.cons (by kernel_rfl) (by kernel_rfl) (.cons (by kernel_rfl) (by kernel_rfl) (.cons (by kernel_rfl) (by kernel_rfl) (.cons (by kernel_rfl) (by kernel_rfl) (.cons (by kernel_rfl) (by kernel_rfl) (.cons (by kernel_rfl) (by kernel_rfl) (.cons (by kernel_rfl) (by kernel_rfl) (.cons (by kernel_rfl) (by kernel_rfl) (.cons (by kernel_rfl) (by kernel_rfl) .nil)))))))))
  ·exact .cons (.str _ _) (.cons (.str _ _) (.cons (.str _ _) (.cons (.str _ _) (.cons (.str _ _) (.cons (.str _ _) (.cons (.str _ _) (.cons (.str _ _) (.cons (.str _ _) (.cons (.str _ _) .nil)))))))))
theorem Start.top(S:Start w h₀ mg mb c X):Nonempty (Top S.G):=⟨{
 fa:=faN
 fn:=S.fns
 code3:=fun o fd h1 h2=>by
  refine zbg (S.adds) fun a o' fd' k1 k2 k3 k4=>?_
  have k1':mg "add_callers"=some (.ref 56):=(S.glob _).trans (by kernel_rfl)
  rw[k1] at k1';cases k1'
  have h1':h₀.get? 56=some o:=h1
  rw[k2] at h1';cases h1'
  rw[k3] at h2;cases h2
  exact k4
 K:=KK w.params
 cT:=45
 mT:=mTN
 clsT:=S.clsT
 cW:=140
 mW:=mWN
 clsW:=S.clsW
 rdW:=by kernel_rfl
 sW:=⟨325,by kernel_rfl⟩
 tW:=⟨326,by kernel_rfl⟩
 flags:=S.flags
 blt:=fun x hx=>(S.glob x).trans (by
  simp only[List.mem_cons,List.not_mem_nil,or_false] at hx
  rcases hx with rfl | rfl | rfl | rfl | rfl | rfl | rfl | rfl | rfl | rfl | rfl | rfl | rfl | rfl | rfl | rfl | rfl | rfl<;>kernel_rfl)}⟩
end
section
open PySem PySem.W
variable {w:World}{mg mb:Str→Option Value}{c X:Addr}
theorem Start.start{s:Shared}(S:Start w s.heap mg mb c X) (hg:s.gens=#[]):Base S.G (fun a=>if a=X then none else s.heap.get? a) [] s where
 fin a o e:=by
  by_cases h:a=X
  ·simp[h] at e
  ·simpa [h] using e
 base a o e h:=by
  have h:a≠X:=h
  have e:s.heap.get? a=some o:=e
  simpa [h] using e
 xF:=by
  show(if X=X then none else _)=none
  simp
 code:=⟨#[],S.code,S.tab,#[],rfl⟩
 bare x hx:=by rw[hg] at hx;simp at hx
 own p hp:=by cases hp
 nodup:=List.nodup_nil
theorem zjr{P:Params}{h:Heap}{w:World}{F:FZ}{prog:Program}{l:List Int}:∀{vs:List Value},WellAll P h vs (l.map .int)→Vs prog w F vs (l.map .int):=by
 induction l with
 | nil=>intro vs x;cases x;exact .nil
 | cons i l ih=>
  intro vs x
  cases x with
  | cons y z=>cases y;exact .cons (.int _ _) (ih z)
theorem zm5{u2:List Int}(hl:u2.length≤100) (k:Nat):(ZJ u2).getD k 0≤2000000000000:=by
 rw[List.getD_eq_getElem?_getD]
 cases e:(ZJ u2)[k]? with
 | none=>simp
 | some x=>
  have hx:=List.mem_of_getElem? e
  unfold ZJ at hx
  refine zd (List.mem_map.mp hx) fun p hp q1_=>?_
  subst q1_
  have h1:=zhy hl p.2
  have h2:p.1∈zbN:=by
   rw[List.mem_zipIdx_iff_getElem?] at hp
   exact List.mem_of_getElem? hp
  have h3:∀y∈zbN,y≤1000000:=by decide
  have:=h3 _ h2
  show p.1+zaS u2 p.2≤_
  omega
theorem zoD{G:Gx}{s s':Shared}(hk:∀b o,b≠G.X→s.heap.get? b=some o→s'.heap.get? b=some o) (h0:s.heap.TableAt G.cX G.X G.ps₀) (hx:∃ps,XC s'.heap G.cX G.X G.ps₀ ps):OldK s.heap s'.heap:=by
 obtain⟨ps,_,ht,more,rfl⟩:=hx
 have key:∀b o,b=G.X→s.heap.get? b=some o→o={cls:=.none,data:=.fields G.ps₀}:=fun b o e h=>by
  subst e;rw[h0.2] at h;cases h;rfl
 refine⟨fun b o e=>?_,fun b o e=>?_⟩
 ·by_cases hb:b=G.X
  ·have:=key b o hb e
   subst this hb
   exact .inr (.inl ⟨h0.isCodeTable,rfl,_,more,rfl,ht.2⟩)
  ·exact .inl (hk b o hb e)
 ·by_cases hb:b=G.X
  ·subst hb;exact⟨_,ht.2⟩
  ·exact⟨o,hk b o hb e⟩
theorem zlL{s:Shared}(S:Start w s.heap mg mb c X) (hg:s.gens=#[]) {a:Addr}{u2:List Int}{vs:List Value}(ha:s.heap.get? a=some {cls:=.type "list",data:=.seq vs.toArray})
  (hw:WellAll w.params s.heap vs (u2.map .int)) (hl:u2.length≤63) (dr:DrawOk (ZJ u2)) {R:List (Str×Str)}{par:Nat→Nat}(ok:EndOk (ZJ u2) R par) (Q E:Value→Shared→Prop)
  (hQ:∀s',OldK s.heap s'.heap→s'.os=s.os→(∀x∈s'.gens,x.bare=true)→Q (.bool true) s') :
  wpAny (model PySem.Challenge.rw_xc0029_01.row.prog w) callerA (call (.ref 198) [.ref a]) Q E s:=by
 obtain⟨T⟩:=S.top
 have hA:AOk (5+1) callerA:=⟨rfl,by decide +kernel,by decide +kernel⟩
 have hax:a≠X:=by
  rintro rfl
  have:=S.tab.2
  rw[ha] at this;cases this
 have hv:Vs S.G.prog S.G.w (fun a=>if a=X then none else s.heap.get? a) [.ref a] [zao u2]:=.cons (.lst (by simpa [hax] using ha) rfl (zjr (by simpa using hw))) .nil
 refine zfH (zpG.ok S) (by decide +kernel) hA (S.start hg) hv (by kernel_rfl) fun env s₁ hE u7 hfw hL st g H hA'=>?_
 have hz:((ZB (ze 21)).zip [zao u2]:Rho)=([("script",zao u2)]:Rho):=by kernel_rfl
 rw[hz] at H
 have hlt:∀r∈ZD (ZJ u2) 4,r.1<5∧r.2.1<5∧r.2.2<64^6:=zgG (zm5 (by omega))
 have h2:(Ze (ZJ u2)).notes≤150:=by
  have h1:(Ze (ZJ u2)).notes≤7*((zb (ZJ u2)).length+1):=(jF (names:=zb (ZJ u2)) (way:=q9 (ZJ u2)) (left:=Qf (ZJ u2)) 7).1
  have h3:(zb (ZJ u2)).length=5:=z7 (Z6 (ZJ u2))
  omega
 have W:XA S.G (callerA.deeper env) env (zu (ze 21)) [("script",zao u2)] [] (ZU fun d' _=>d'=.bool true):=
  zmS T hE (n:=0) hA' rfl u7 (by omega) (zfu hA' (zoh T hE dr hlt fun an=>zpf T hE dr (zph T hE (zeD u2) dr ok (by omega))))
 refine W.out _ s₁ _ _ H fun out fl F' s' hP gs u3=>?_
 have hfw0:∀b∈fw env [],s.heap.get? b=none:=fun b hb=>(hfw b hb).elim id fun h=>by cases h
 have hk:∀b o,b≠S.G.X→s.heap.get? b=some o→s'.heap.get? b=some o:=fun b o hx e=>by
  have e1:=g.keep b o hx (by simp) e
  exact gs.keep b o hx (fun hm=>by rw[hfw0 b hm] at e;cases e) e1
 have key:OldK s.heap s'.heap:=zoD hk S.tab (gs.code H.code)
 have hos:s'.os=s.os:=gs.os.trans g.os
 have hbare:zas s'.gens:=gs.gens H.bare
 obtain⟨d,ρ',hd,H',hv'⟩:=zcn hP u3
 obtain rfl:d=.bool true:=hd
 show Q (zhV fl) s'
 rw[hv'.inv]
 exact hQ s' key hos hbare
end
section
open PySem PySem.W PyProof.Rows
theorem zmi:∃d∈recsOf vwX,d.name="add_callers":=by
 have h:((recsOf vwX).any fun d=>d.name=="add_callers")=true:=by decide +kernel
 refine zd (List.any_eq_true.mp h) fun d h1 h2=>?_
 exact⟨d,h1,beq_iff_eq.mp h2⟩
set_option maxHeartbeats 8000000 in
theorem holds_of(plain:∀u2:List Int,u2.length≤63→DrawOk (ZJ u2)∧∃R par,EndOk (ZJ u2) R par):PySem.Challenge.rw_xc0029_01.Holds:=by
 refine hd2 ?_
 k_fill
 intro w s₀ s₁ mg mb G Y fa o pm cd doc dV kV ho hd hcd hD hmg hg args u5 as y9 hlay hrd hwl hlo
 have KX:=kIn_of Y
 refine Ground.open G ?_
 intro T B D TE TW
 try (refine guard_noD D (by decide +kernel) ?_;clear D)
 clear hD
 refine zd zmi fun d hd1 hd2=>?_
 refine zpr (T.tab d hd1) fun a' o' fd' c P g1 g2 g3 g4 g5 g6=>?_
 rw[hd2] at g1
 have S:Start w s₁.heap mg mb c P:=⟨KX,T.g,T.b,T.nolimit,T.builtins,T.bmain,g5,g6,⟨a',o',fd',g1,g2,g3,g4⟩⟩
 have hfa:mg "law"=some (.ref 198):=(S.glob _).trans (by kernel_rfl)
 wrow_args y9 hlay hrd hwl hlo
 rename_i u2 _ _ _ _ _ _ _ l vs' _ _ _ w1 _ _ _ hlen _
 have hmg':mg "law"=some (.ref fa):=hmg
 rw[hfa] at hmg'
 cases hmg'
 have hl:u2.length≤63:=by omega
 obtain⟨dr,R,par,ok⟩:=plain u2 hl
 cases w1 with
 | list h1 h2=>
  rw[ofPys_eq,List.map_map] at h2
  refine zlL S hg h1 h2 hl dr ok _ _ fun s' hK hos hb=>?_
  exact⟨.inl ⟨.bool true,.bool true,[],rfl,fun _=>rfl,.bool true,by kernel_rfl,fun _=>⟨List.nodup_nil,fun a ha=>by cases ha⟩⟩,hK,hos,hb⟩
end
end Mine
theorem PySem.Challenge.cw_xc0029_01_holds : PySem.Challenge.rw_xc0029_01.Holds := by
 exact Mine.holds_of fun _ _=>Mine.plain_all _
