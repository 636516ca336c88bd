import PyProof.Rows.All
import Wide.All
import OpenK.AllK
import Wide.FinOn
import Lean
import PySem.Challenge.RW_me0007_11
set_option Elab.async false
set_option maxRecDepth 100000
set_option maxHeartbeats 0
set_option linter.all false
set_option genInjectivity false
set_option genSizeOfSpec false
set_option genSizeOf false
set_option bootstrap.genMatcherCode false
set_option tactic.hygienic false
set_option backward.match.sparseCases false
open PySem PySem.W PyProof.Rows PySem.Calls
namespace Mine
abbrev BA:=Value->Shared->Prop
abbrev BB:=Str->Option Value
abbrev BD:=List (Addr×Obj)
abbrev Bn:=@List.mem_append_left
abbrev Bo:=@List.mem_append_right
abbrev Bp:=@Nat.eq_of_beq_eq_true
abbrev Br:=@List.append_assoc
abbrev Bs:=@Nat.le_of_ble_eq_true
abbrev Bu:=@Int.emod_eq_of_lt
abbrev Bv:=@List.size_toArray
abbrev By:=@List.mem_append
abbrev Bz:=@List.length_append
abbrev Ca:=@Nat.ne_of_lt
abbrev Ce:=@Int.le_refl
abbrev Cf:=@Int.lt_of_lt_of_le
abbrev Cg:=@Nat.le_refl
abbrev Ch:=@Int.add_zero
abbrev Ci:=@List.not_mem_nil
abbrev Cj:=@List.mem_map_of_mem
abbrev Ck:=@Bool.and_eq_true
abbrev Cm:=@List.length_map
abbrev Cn:=@List.append_nil
abbrev Cp:=@List.getD_eq_getElem?_getD
abbrev Cq:=@Bool.not_eq_true'
abbrev Cr:=@List.length_reverse
abbrev Cs:=@List.mem_cons
abbrev Ct:=@Int.add_assoc
abbrev Cu:=@List.length_cons
abbrev Cv:=@List.reverse_cons
abbrev Cw:=@List.append_inj
abbrev Cy:=@List.getElem?_append_right
abbrev Cz:=@List.getElem?_append_left
abbrev Da:=@List.map_append
abbrev Db:=@List.lookup_cons
abbrev Dc:=@Nat.le_trans
abbrev Dd:=@Bool.and_false
abbrev De:=@Nat.beq_refl
abbrev Df:=@List.mem_of_getElem?
abbrev Dg:=@Nat.blt
abbrev Dh:=@List.map_cons
abbrev Di:=@Option.some.inj
abbrev Dj:=@Nat.lt_succ_self
abbrev Dk:=@Int.lt_trans
abbrev Dl:=@Int.toNat_natCast
abbrev Do:=@Nat.lt_irrefl
abbrev Dp:=@Int.le_trans
abbrev Dq:=@Int.emod_nonneg
abbrev Dr:=@List.getElem?_toArray
abbrev Ds:=@Nat.ble_eq_true_of_le
abbrev Dt:=@Int.natCast_nonneg
abbrev Du:=@Bool.false_eq_true
abbrev Dv:=@Int.add_comm
abbrev Dw:=@List.nodup_nil
abbrev Dx:=@Int.add_nonneg
abbrev Dy:=@Nat.le_of_not_lt
abbrev Dz:=@Int.lt_of_le_of_lt
abbrev Eb:=@List.getElem?_eq_none
abbrev Ec:=@List.getElem?_map
abbrev Ed:=@List.all_cons
variable {qual:Str}
variable {C D I L f fI g:Addr}
variable {T6 np T2 pos px q q' spos tp zp:Pos}
variable {cl:List (Str×Addr)}
variable {args S4 rest:List Expr}
variable {sc scope:Scope}
variable {α β:Type}
variable {ad near pc pc' sd vv:Int}
variable {cids ids:List Nat}
variable {lp:Option Int}
variable {d' dp i j line n' off t' tk x y z:Nat}
variable {led post pre:BD}
variable {s s' B9:Shared}
variable {ca:List Value->Args}
variable {T1:Sem Value}
variable {tl':List Obj}
variable {fp ρ:List Addr}
variable {Q:BA}
variable {h h' B3:Heap}
variable {elt iter slice target value:Expr}
variable {cd cdv pm wa wv:Value}
variable {outer:List Env}
variable {ws ys:List Value}
variable {P2:Nat->Value->Value->Prop}
variable {fd:FuncData}
variable {env env':Env}
variable {expr:Bool}
variable {stk:List (Code×Pos)}
variable {P0 P1:Prop}
variable {params:Arguments}
theorem byc{p:Prop}(h:¬p->False):p:=Classical.byContradiction h
section
variable {AX:Sort _}{BX:Sort _}{CX:Sort _}{DX:Sort _}{EX:Sort _}{FX:Sort _}{IX:Sort _}{JX:Sort _}{LX:Sort _}{g:Prop}
theorem zd(h:P0/\P1)(k:P0->P1->g):g:=k h.1 h.2
theorem jn{P2:Prop}(h:P0/\P1/\P2)(k:P0->P1->P2->g):g:=zd h.2 (k h.1)
theorem yC{P2 P3:Prop}(h:P0/\P1/\P2/\P3)(k:P0->P1->P2->P3->g):g:=jn h.2 (k h.1)
theorem zV{P0:AX->Prop}(h:∃a,P0 a)(k:∀a,P0 a->g):g:=h.elim fun a h=>k a h
theorem eJ{P0:AX->Prop}(a:AX)(h0:P0 a):∃a,P0 a:=⟨a,h0⟩
theorem zc{P0 P1:AX->Prop}(h:∃a,P0 a/\P1 a)(k:∀a,P0 a->P1 a->g):g:=h.elim fun a h=>zd h (k a)
theorem zA{P0 P1:AX->Prop}(a:AX)(h0:P0 a)(h1:P1 a):∃a,P0 a/\P1 a:=⟨a,h0,h1⟩
theorem yb{P0 P1 P2:AX->Prop}(h:∃a,P0 a/\P1 a/\P2 a)(k:∀a,P0 a->P1 a->P2 a->g):g:=h.elim fun a h=>jn h (k a)
theorem yh{P0 P1 P2:AX->Prop}(a:AX)(h0:P0 a)(h1:P1 a)(h2:P2 a):∃a,P0 a/\P1 a/\P2 a:=⟨a,h0,h1,h2⟩
theorem yo{P0 P1 P2 P3:AX->Prop}(h:∃a,P0 a/\P1 a/\P2 a/\P3 a)(k:∀a,P0 a->P1 a->P2 a->P3 a->g):g:=h.elim fun a h=>yC h (k a)
theorem qB{P0 P1 P2 P3:AX->Prop}(a:AX)(h0:P0 a)(h1:P1 a)(h2:P2 a)(h3:P3 a):∃a,P0 a/\P1 a/\P2 a/\P3 a:=⟨a,h0,h1,h2,h3⟩
theorem JK{P0:AX->BX->Prop}(h:∃a b,P0 a b)(k:∀a b,P0 a b->g):g:=h.elim fun a h=>zV h (k a)
theorem Kc{P0:AX->BX->Prop}(a:AX)(b:BX)(h0:P0 a b):∃a b,P0 a b:=⟨a,eJ b h0⟩
theorem jj{P0 P1:AX->BX->Prop}(h:∃a b,P0 a b/\P1 a b)(k:∀a b,P0 a b->P1 a b->g):g:=h.elim fun a h=>zc h (k a)
theorem yA{P0 P1:AX->BX->Prop}(a:AX)(b:BX)(h0:P0 a b)(h1:P1 a b):∃a b,P0 a b/\P1 a b:=⟨a,zA b h0 h1⟩
theorem zv{P0 P1 P2:AX->BX->Prop}(h:∃a b,P0 a b/\P1 a b/\P2 a b)(k:∀a b,P0 a b->P1 a b->P2 a b->g):g:=h.elim fun a h=>yb h (k a)
theorem jx{P0 P1 P2:AX->BX->Prop}(a:AX)(b:BX)(h0:P0 a b)(h1:P1 a b)(h2:P2 a b):∃a b,P0 a b/\P1 a b/\P2 a b:=⟨a,yh b h0 h1 h2⟩
theorem q7{P0 P1 P2 P3:AX->BX->Prop}(h:∃a b,P0 a b/\P1 a b/\P2 a b/\P3 a b)(k:∀a b,P0 a b->P1 a b->P2 a b->P3 a b->g):g:=h.elim fun a h=>yo h (k a)
theorem qo{P0 P1 P2 P3:AX->BX->Prop}(a:AX)(b:BX)(h0:P0 a b)(h1:P1 a b)(h2:P2 a b)(h3:P3 a b):∃a b,P0 a b/\P1 a b/\P2 a b/\P3 a b:=⟨a,qB b h0 h1 h2 h3⟩
theorem zh{P0:AX->BX->CX->Prop}(h:∃a b c,P0 a b c)(k:∀a b c,P0 a b c->g):g:=h.elim fun a h=>JK h (k a)
theorem zk{P0:AX->BX->CX->Prop}(a:AX)(b:BX)(c:CX)(h0:P0 a b c):∃a b c,P0 a b c:=⟨a,Kc b c h0⟩
theorem jf{P0 P1:AX->BX->CX->Prop}(h:∃a b c,P0 a b c/\P1 a b c)(k:∀a b c,P0 a b c->P1 a b c->g):g:=h.elim fun a h=>jj h (k a)
theorem QK{P0 P1:AX->BX->CX->Prop}(a:AX)(b:BX)(c:CX)(h0:P0 a b c)(h1:P1 a b c):∃a b c,P0 a b c/\P1 a b c:=⟨a,yA b c h0 h1⟩
theorem qJ{P0 P1 P2:AX->BX->CX->Prop}(h:∃a b c,P0 a b c/\P1 a b c/\P2 a b c)(k:∀a b c,P0 a b c->P1 a b c->P2 a b c->g):g:=h.elim fun a h=>zv h (k a)
theorem y3{P0 P1 P2:AX->BX->CX->Prop}(a:AX)(b:BX)(c:CX)(h0:P0 a b c)(h1:P1 a b c)(h2:P2 a b c):∃a b c,P0 a b c/\P1 a b c/\P2 a b c:=⟨a,jx b c h0 h1 h2⟩
theorem Jq{P0 P1 P2 P3:AX->BX->CX->Prop}(h:∃a b c,P0 a b c/\P1 a b c/\P2 a b c/\P3 a b c)(k:∀a b c,P0 a b c->P1 a b c->P2 a b c->P3 a b c->g):g:=h.elim fun a h=>q7 h (k a)
theorem yM{P0 P1 P2 P3:AX->BX->CX->Prop}(a:AX)(b:BX)(c:CX)(h0:P0 a b c)(h1:P1 a b c)(h2:P2 a b c)(h3:P3 a b c):∃a b c,P0 a b c/\P1 a b c/\P2 a b c/\P3 a b c:=⟨a,qo b c h0 h1 h2 h3⟩
end
theorem yd{e b c:Int}(h:e<=b)(d:decide (b<=c)=true):e<=c:=Dp h (of_decide_eq_true d)
theorem zn{e b c:Int}(h:e<=b)(d:decide (b<c)=true):e<c:=Dz h (of_decide_eq_true d)
theorem zi{e b c:Int}(h:b<=e)(d:decide (c<=b)=true):c<=e:=Dp (of_decide_eq_true d) h
theorem AT{e b c:Int}(h:b<=e)(d:decide (c<b)=true):c<e:=Cf (of_decide_eq_true d) h
theorem yD{e b c:Nat}(h:e<=b)(d:decide (b<=c)=true):e<=c:=Dc h (of_decide_eq_true d)
theorem nP{e b c:Nat}(h:e<=b)(d:decide (b<c)=true):e<c:=Nat.lt_of_le_of_lt h (of_decide_eq_true d)
theorem wm{e b c:Nat}(h:b<=e)(d:decide (c<=b)=true):c<=e:=Dc (of_decide_eq_true d) h
theorem wn{e b c:Nat}(h:b<=e)(d:decide (c<b)=true):c<e:=Nat.lt_of_lt_of_le (of_decide_eq_true d) h
theorem gt{a b c d:Int}(h:a<=b)(g:d<=c):a-c<=b-d:=Int.sub_le_sub h g
theorem qL{a:Int}{k c:Nat}(h:a+OfNat.ofNat k<=OfNat.ofNat c):a<=OfNat.ofNat c-OfNat.ofNat k:=Int.le_sub_right_of_add_le h
theorem zz{a:Int}{c:Nat}(h:a<OfNat.ofNat c):a<=OfNat.ofNat c-1:=Int.le_sub_one_of_lt h
theorem wk{a k:Int}(h:decide (0<k)=true):a%k<=k-1:=Int.le_sub_one_of_lt (Int.emod_lt_of_pos _ (of_decide_eq_true h))
theorem AU{a k:Int}(h:decide (k≠0)=true):0<=a%k:=Dq _ (of_decide_eq_true h)
theorem sU{a k:Int}(g:0<=a)(h:decide (0<=k)=true):0<=a/k:=Int.ediv_nonneg g (of_decide_eq_true h)
theorem Vs{n k:Nat}(h:n<=k):(n:Int)<=(k:Int):=Int.ofNat_le.mpr h
theorem q9{n k:Nat}(h:n<k):(n:Int)<=(k:Int)-1:=Int.le_sub_one_of_lt (Int.ofNat_lt.mpr h)
theorem lV{n k:Nat}(h:n<k):n<=k-1:=Nat.le_sub_one_of_lt h
theorem sX{x a b:Int}(h:decide (a<=b)=true):x+a<=x+b:=Int.add_le_add_left (of_decide_eq_true h) x
theorem sW{x a b:Int}(h:decide (a≠b)=true):x+a≠x+b:=fun e=>of_decide_eq_true h (Int.add_left_cancel e)
theorem ZF{x b:Int}(h:decide (b≠0)=true):x≠x+b:=by have:=of_decide_eq_true h;omega
theorem lU{a b c d:Int}(h:a<=b)(g:c<=d)(k:decide (b<c)=true):a≠d:=fun e=>absurd (Dz h (Cf (of_decide_eq_true k) g)) (e▸Int.lt_irrefl _)
theorem Vt{a b c d:Int}(h:b<=a)(g:d<=c)(k:decide (c<b)=true):a≠d:=fun e=>lU g h k e.symm
theorem zm{x a:Int}{n:Nat}(h:x<=a):x+OfNat.ofNat n<=a+OfNat.ofNat n:=Int.add_le_add_right h _
theorem zt{x a:Int}{n:Nat}(h:x<=a):OfNat.ofNat n+x<=OfNat.ofNat n+a:=Int.add_le_add_left h _
theorem ZG{x a:Int}{n:Nat}(h:x<=a):x-OfNat.ofNat n<=a-OfNat.ofNat n:=Int.sub_le_sub_right h _
theorem zN{x a y b:Int}(h:x<=a)(g:y<=b):x+y<=a+b:=Int.add_le_add h g
theorem YK{x a:Int}{n:Nat}(h:x<=a):OfNat.ofNat n*x<=OfNat.ofNat n*a:=Int.mul_le_mul_of_nonneg_left h (Dt n)
theorem sV{a b:Nat}(h:x<=a)(g:y<=b):x+y<=a+b:=Nat.add_le_add h g
theorem qK{n:Nat}:0<=(n:Int):=Dt n
theorem zS{a:Int}{c:Nat}(h:a<=OfNat.ofNat c):a<=OfNat.ofNat c:=h
theorem zf{a:Int}{c:Nat}(h:OfNat.ofNat c<=a):OfNat.ofNat c<=a:=h
section
inductive PV where
 | none
 | bool (b:Bool)
 | int (i:Int)
 | str (s:Str)
 | top (a:Addr)
 | ref (i:Nat)
 | tup (vs:List PV)
 | il (xs:List Int)
 | ls (vs:List PV)
 | bound (self:PV) (f:Addr)
inductive PO where
 | il (xs:List Int)
 | ls (vs:List PV)
 | cell (v:Option PV)
 | gone
 | inst (fs:List (Nat×PV))
 | tab (a:Addr)
structure PS where
 loc:List (Nat×PV)
 hp:List PO
noncomputable def lk{α:Type}(k:Nat):List (Nat×α)->Option α
 | []=>none
 | (j,v)::r=>cond (Nat.beq k j) (some v) (lk k r)
noncomputable def st{α:Type}(k:Nat)(v:α):List (Nat×α)->List (Nat×α)
 | []=>[(k,v)]
 | (j,u)::r=>cond (Nat.beq k j) ((j,v)::r) ((j,u)::st k v r)
theorem z7{a b:Nat}(h:a≠b):Nat.beq a b=false:=by
 cases q:Nat.beq a b with
 | false=>rfl
 | true=>exact absurd (Bp q) h
theorem Yx{α:Type}{k j:Nat}{v:α}:∀{l:List (Nat×α)},lk j (st k v l)=if j=k then some v else lk j l
 | []=>by
  show(cond (Nat.beq j k) (some v) none:Option α)=_
  by_cases h:j=k
  ·rw[if_pos h,h,De];rfl
  ·rw[if_neg h,z7 h];rfl
 | (i,u)::r=>by
  have ih:=Yx (k:=k) (j:=j) (v:=v) (l:=r);show lk j (cond (Nat.beq k i) ((i,v)::r) ((i,u)::st k v r))=if j=k then some v else cond (Nat.beq j i) (some u) (lk j r)
  by_cases h:k=i
  ·subst h
   rw[De];show cond (Nat.beq j k) (some v) (lk j r)=_
   by_cases h2:j=k
   ·rw[if_pos h2,h2,De];rfl
   ·rw[if_neg h2,z7 h2];rfl
  ·rw[z7 h]
   show cond (Nat.beq j i) (some u) (lk j (st k v r))=_;rw[ih]
   by_cases h2:j=i
   ·have hk:¬ j=k:=fun e=>h (e.symm.trans h2)
    rw[if_neg hk,if_neg hk]
   ·rw[z7 h2];rfl
noncomputable def stC{α:Type}(k:Nat)(v:α):List (Nat×α)->(List (Nat×α)->Prop)->Prop
 | [],c=>c [(k,v)]
 | (j,u)::r,c=>cond (Nat.beq k j) (c ((j,v)::r)) (stC k v r fun r'=>c ((j,u)::r'))
theorem Ue{α:Type}{k:Nat}{v:α}:∀{l:List (Nat×α)} {c:List (Nat×α)->Prop},stC k v l c↔c (st k v l)
 | [],_=>Iff.rfl
 | (j,u)::r,c=>by
  show cond (Nat.beq k j) (c ((j,v)::r)) (stC k v r fun r'=>c ((j,u)::r'))↔c (cond (Nat.beq k j) ((j,v)::r) ((j,u)::st k v r))
  cases Nat.beq k j with
  | true=>exact Iff.rfl
  | false=>exact Ue (l:=r) (c:=fun r'=>c ((j,u)::r'))
noncomputable def tq{α:Type}(o:α):List α->Nat->(List α->Prop)->Prop
 | [],_,c=>c []
 | _::r,0,c=>c (o::r)
 | a::r,i+1,c=>tq o r i fun r'=>c (a::r')
theorem YO{α:Type}{o:α}:∀{l:List α} {i:Nat} {c:List α->Prop},tq o l i c↔c (l.set i o)
 | [],_,_=>Iff.rfl
 | _::_,0,_=>Iff.rfl
 | a::r,i+1,c=>YO (l:=r) (i:=i) (c:=fun r'=>c (a::r'))
noncomputable def PS.slC:PS->Nat->PV->(PS->Prop)->Prop
 | ⟨l,h⟩,x,v,c=>stC x v l fun l'=>c ⟨l',h⟩
noncomputable def PS.siC:PS->Nat->PO->(PS->Prop)->Prop
 | ⟨l,h⟩,i,o,c=>tq o h i fun h'=>c ⟨l,h'⟩
noncomputable def PS.sl(O:PS)(x:Nat)(v:PV):PS:=⟨st x v O.loc,O.hp⟩
noncomputable def PS.sh(O:PS)(hp:List PO):PS:=⟨O.loc,hp⟩
noncomputable def PS.si(O:PS)(i:Nat)(o:PO):PS:=⟨O.loc,O.hp.set i o⟩
theorem zJ{O:PS}{v:PV}{c:PS->Prop}:O.slC x v c↔c (O.sl x v):=Ue (l:=O.loc) (c:=fun l'=>c ⟨l',O.hp⟩)
theorem j6{O:PS}{o:PO}{c:PS->Prop}:O.siC i o c↔c (O.si i o):=YO (l:=O.hp) (c:=fun h'=>c ⟨O.loc,h'⟩)
noncomputable abbrev qx(items:List Value)(n:Nat):Obj:={ cls:=.type "tuple",data:=.seq items.toArray n }
mutual
noncomputable def VR(ρ:List Addr)(frz:BD):PV->Value->Prop
 | .none,w=>w=.none
 | .bool b,w=>w=.bool b
 | .int i,w=>∃t,w=.int i t
 | .str s,w=>∃t,w=.str s t
 | .top a,w=>w=.ref a
 | .ref i,w=>∃a,ρ[i]?=some a/\w=.ref a
 | .tup vs,w=>∃a items n,w=.ref a/\(a,qx items n)∈frz/\VRs ρ frz vs items
 | .il xs,w=>∃a items n,w=.ref a/\(a,listOf items.toArray n)∈frz/\IntsAre items xs
 | .ls vs,w=>∃a items n,w=.ref a/\(a,listOf items.toArray n)∈frz/\VRs ρ frz vs items
 | .bound v f,w=>∃a sv,w=.ref a/\(a,methodObj (.ref f) sv)∈frz/\VR ρ frz v sv
noncomputable def VRs(ρ:List Addr)(frz:BD):List PV->List Value->Prop
 | [],ws=>ws = []
 | v::vs,ws=>∃w r,ws=w::r/\VR ρ frz v w/\VRs ρ frz vs r
end
section
variable {ρ':List Addr}{frz frz':BD}
mutual
theorem VR.mono(hρ:∀(i:Nat) (a:Addr),ρ[i]?=some a->ρ'[i]?=some a)(hf:∀p∈frz,p∈frz'):∀(v:PV) {w:Value},VR ρ frz v w->VR ρ' frz' v w
 | .none,_,h=>h
 | .bool _,_,h=>h
 | .int _,_,h=>h
 | .str _,_,h=>h
 | .top _,_,h=>h
 | .ref i,_,h=>by obtain⟨a,e,r⟩:=h;show Exists _;exact⟨a,hρ i a e,r⟩
 | .tup vs,_,h=>by obtain⟨a,it,n,e,q,r⟩:=h;show Exists _;exact⟨a,it,n,e,hf _ q,VRs.mono hρ hf vs r⟩
 | .il xs,_,h=>by obtain⟨a,it,n,e,q,r⟩:=h;show Exists _;exact⟨a,it,n,e,hf _ q,r⟩
 | .ls vs,_,h=>by obtain⟨a,it,n,e,q,r⟩:=h;show Exists _;exact⟨a,it,n,e,hf _ q,VRs.mono hρ hf vs r⟩
 | .bound v f,_,h=>by obtain⟨a,sv,e,q,r⟩:=h;show Exists _;exact⟨a,sv,e,hf _ q,VR.mono hρ hf v r⟩
theorem VRs.mono(hρ:∀(i:Nat) (a:Addr),ρ[i]?=some a->ρ'[i]?=some a)(hf:∀p∈frz,p∈frz'):∀(vs:List PV) {ws:List Value},VRs ρ frz vs ws->VRs ρ' frz' vs ws
 | [],_,h=>h
 | v::vs,_,h=>by obtain⟨w,r,e,a,b⟩:=h;show Exists _;exact⟨w,r,e,VR.mono hρ hf v a,VRs.mono hρ hf vs b⟩
end
theorem VRs.length:∀{vs:List PV} {ws:List Value},VRs ρ frz vs ws->ws.length=vs.length
 | [],_,h=>by cases h;rfl
 | v::vs,_,h=>by refine zv h fun w r Cd Z b=>?_;subst Cd;exact congrArg (· + 1) (VRs.length b)
theorem VRs.cons_inv{v:PV}{vs:List PV}(h:VRs ρ frz (v::vs) ws):∃w r,ws=w::r/\VR ρ frz v w/\VRs ρ frz vs r:=h
theorem VRs.cons{v:PV}{vs:List PV}{w:Value}(h:VR ρ frz v w)(t:VRs ρ frz vs ws):VRs ρ frz (v::vs) (w::ws):=by show Exists _;exact(jx w ws rfl h t)
theorem VRs.nil:VRs ρ frz [] []:=rfl
theorem VRs.append:∀{vs:List PV} {ws:List Value} {vs':List PV} {ws':List Value},VRs ρ frz vs ws->VRs ρ frz vs' ws'->VRs ρ frz (vs++vs') (ws++ws')
 | [],_,_,_,h,h'=>by cases h;exact h'
 | v::vs,_,_,_,h,h'=>by refine zv h.cons_inv fun w r Cd a b=>?_;subst Cd;exact VRs.cons a (VRs.append b h')
theorem VRs.split:∀{vs:List PV} {vs':List PV} {ws:List Value},VRs ρ frz (vs++vs') ws->∃a b,ws=a++b/\VRs ρ frz vs a/\VRs ρ frz vs' b
 | [],_,ws,h=>(jx ([]) ws rfl VRs.nil h)
 | v::vs,_,_,h=>by refine zv (VRs.cons_inv h) fun w r Dm a b=>?_;subst Dm;refine zv (VRs.split b) fun x y Cd c d=>?_;subst Cd;exact(jx (w::x) y rfl (VRs.cons a c) d)
theorem VRs.get:∀{vs:List PV} {ws:List Value} {i:Nat} {v:PV},VRs ρ frz vs ws->vs[i]?=some v->∃w,ws[i]?=some w/\VR ρ frz v w
 | [],_,_,_,_,e=>nomatch e
 | u::vs,_,0,v,h,e=>by refine zv h.cons_inv fun w r Dm a b=>?_;subst Dm;cases e;exact(zA w rfl a)
 | u::vs,_,i+1,v,h,e=>by refine zv h.cons_inv fun w r Cd a b=>?_;subst Cd;exact VRs.get (i:=i) b e
theorem VR.handed{v:PV}{w:Value}(h:VR ρ frz v w):handedIn w=true:=by
 cases v<;>first | (cases h;rfl) | (obtain⟨t,rfl⟩:=h;rfl) | (obtain⟨a,_,rfl⟩:=h;rfl) | (obtain⟨a,_,_,rfl,_⟩:=h;rfl) | (refine jj h fun a Z Cd Z=>?_;subst Cd;rfl)
mutual
noncomputable def bdd(n:Nat):PV->Prop
 | .ref i=>i<n
 | .tup vs=>JN n vs
 | .ls vs=>JN n vs
 | .bound v _=>bdd n v
 | _=>True
noncomputable def JN(n:Nat):List PV->Prop
 | []=>True
 | v::vs=>bdd n v/\JN n vs
end
mutual
theorem VR.bdd:∀(v:PV) {w:Value},VR ρ frz v w->Mine.bdd ρ.length v
 | .none,_,h=>trivial
 | .bool _,_,h=>trivial
 | .int _,_,h=>trivial
 | .str _,_,h=>trivial
 | .top _,_,h=>trivial
 | .ref i,_,h=>by obtain⟨a,e,_⟩:=h;exact(List.getElem?_eq_some_iff.mp e).1
 | .tup vs,_,h=>by obtain⟨_,_,_,_,_,r⟩:=h;exact VRs.bdd vs r
 | .ls vs,_,h=>by obtain⟨_,_,_,_,_,r⟩:=h;exact VRs.bdd vs r
 | .il _,_,h=>trivial
 | .bound v f,_,h=>by obtain⟨_,_,_,_,r⟩:=h;exact VR.bdd v r
theorem VRs.bdd:∀(vs:List PV) {ws:List Value},VRs ρ frz vs ws->Mine.JN ρ.length vs
 | [],_,h=>trivial
 | v::vs,_,h=>by obtain⟨_,_,_,a,b⟩:=h;exact⟨VR.bdd v a,VRs.bdd vs b⟩
end
mutual
theorem VR.cut{n:Nat}:∀(v:PV) {w:Value},VR ρ frz v w->Mine.bdd n v->VR (ρ.take n) frz v w
 | .none,_,h,_=>h
 | .bool _,_,h,_=>h
 | .int _,_,h,_=>h
 | .str _,_,h,_=>h
 | .top _,_,h,_=>h
 | .ref i,_,h,b=>by obtain⟨a,e,r⟩:=h;show Exists _;exact⟨a,by rw[List.getElem?_take,if_pos (show i<n from b)];exact e,r⟩
 | .tup vs,_,h,b=>by obtain⟨a,it,m,e,q,r⟩:=h;show Exists _;exact⟨a,it,m,e,q,VRs.cut vs r b⟩
 | .ls vs,_,h,b=>by obtain⟨a,it,m,e,q,r⟩:=h;show Exists _;exact⟨a,it,m,e,q,VRs.cut vs r b⟩
 | .il xs,_,h,_=>h
 | .bound v f,_,h,b=>by obtain⟨a,sv,e,q,r⟩:=h;show Exists _;exact⟨a,sv,e,q,VR.cut v r b⟩
theorem VRs.cut{n:Nat}:∀(vs:List PV) {ws:List Value},VRs ρ frz vs ws->Mine.JN n vs->VRs (ρ.take n) frz vs ws
 | [],_,h,_=>h
 | v::vs,_,h,b=>by obtain⟨w,r,e,x,y⟩:=h;show Exists _;exact⟨w,r,e,VR.cut v x b.1,VRs.cut vs y b.2⟩
end
end
noncomputable def FR(nm:Nat->Str)(ρ:List Addr)(frz:BD):List (Nat×PV)->List DictEntry->Prop
 | [],es=>es = []
 | (k,v)::fs,es=>∃e r t,es=e::r/\e.key=.str (nm k) t/\VR ρ frz v e.val/\FR nm ρ frz fs r
section
variable {nm:Nat->Str}{ρ':List Addr}{frz frz':BD}
theorem FR.mono(hρ:∀(i:Nat) (a:Addr),ρ[i]?=some a->ρ'[i]?=some a)(hf:∀p∈frz,p∈frz'):∀{fs:List (Nat×PV)} {es:List DictEntry},FR nm ρ frz fs es->FR nm ρ' frz' fs es
 | [],_,h=>h
 | (k,v)::fs,_,h=>by
  refine byc fun Ea=>?_
  refine Jq h fun e r t e1 e2 e3 e4=>?_
  refine Ea ?_;show Exists _;exact(yM e r t e1 e2 (VR.mono hρ hf v e3) (FR.mono hρ hf e4))
theorem FR.length:∀{fs:List (Nat×PV)} {es:List DictEntry},FR nm ρ frz fs es->es.length=fs.length
 | [],_,h=>by cases h;rfl
 | (k,v)::fs,_,h=>by refine Jq h fun e r t Cd Z Z e4=>?_;subst Cd;exact congrArg (· + 1) (FR.length e4)
theorem FR.noRef:∀{fs:List (Nat×PV)} {es:List DictEntry},FR nm ρ frz fs es->es.any (·.refKey)=false
 | [],_,h=>by cases h;rfl
 | (k,v)::fs,_,h=>by
  refine Jq h fun e r t Cd e2 Z e4=>?_;subst Cd
  rw[List.any_cons,FR.noRef e4,Bool.or_false];unfold DictEntry.refKey;rw[e2]
theorem Qm(a b:Str)(t:Tok):(Value.str a t).isStr b=decide (a=b):=by
 show(a==b)=decide (a=b)
 by_cases h:a=b
 ·subst h;simp
 ·simp[h]
theorem eG{k:Nat}{e:DictEntry}{r:List DictEntry}{t:Tok}(e2:e.key=.str (nm k) t):getL (nm k) (e::r)=some (some e.val):=by
 unfold getL;rw[List.find?_cons,e2,Qm,decide_eq_true rfl]
theorem bI{k:Nat}{e:DictEntry}{r:List DictEntry}{t:Tok}(e2:e.key=.str (nm j) t)(ne:nm j≠nm k)(hr:(e::r).any (·.refKey)=false)(hr':r.any (·.refKey)=false):getL (nm k) (e::r)=getL (nm k) r:=by
 unfold getL;rw[List.find?_cons,e2,Qm,decide_eq_false ne,hr,hr']
theorem FR.get(inj:∀i j,nm i=nm j->i=j){k:Nat}:∀{fs:List (Nat×PV)} {es:List DictEntry},FR nm ρ frz fs es ->
  (∀v,lk k fs=some v->∃w,getL (nm k) es=some (some w)/\VR ρ frz v w)/\(lk k fs=none->getL (nm k) es=some none)
 | [],_,h=>by
  cases h
  exact⟨fun v e=>(nomatch e),fun Z=>rfl⟩
 | (j,u)::fs,es,h=>by
  have hr:=FR.noRef h;refine Jq h fun e r t Cd e2 e3 e4=>?_;subst Cd
  show(∀v,cond (Nat.beq k j) (some u) (lk k fs)=some v->_)/\(cond (Nat.beq k j) (some u) (lk k fs)=none->_)
  by_cases q:k=j
  ·subst q
   rw[De,eG e2]
   exact⟨fun v ev=>by cases ev;exact(zA _ rfl e3),fun ev=>nomatch ev⟩
  ·rw[z7 q,bI e2 (fun x=>q (inj _ _ x).symm) hr (FR.noRef e4)]
   exact FR.get inj (k:=k) e4
theorem FR.put(inj:∀i j,nm i=nm j->i=j){k:Nat}{v:PV}{w:Value}(hv:VR ρ frz v w)(hsh:Int)(t:Tok):∀{fs:List (Nat×PV)} {es:List DictEntry},FR nm ρ frz fs es ->
  FR nm ρ frz (st k v fs) (putL (nm k) hsh (.str (nm k) t) w es)
 | [],_,h=>by
  cases h
  show Exists _;exact(yM _ _ t rfl rfl hv rfl)
 | (j,u)::fs,es,h=>by
  refine Jq h fun e r t' Cd e2 e3 e4=>?_;subst Cd
  show FR nm ρ frz (cond (Nat.beq k j) ((j,v)::fs) ((j,u)::st k v fs)) (if e.key.isStr (nm k)=true then _ else _)
  rw[e2,Qm]
  by_cases q:k=j
  ·subst q
   rw[De,decide_eq_true rfl];show Exists _;exact(yM _ _ t' rfl (e2▸rfl) hv e4)
  ·rw[z7 q,decide_eq_false (fun x=>q (inj _ _ x).symm)]
   show Exists _;exact(yM _ _ t' rfl e2 e3 (FR.put inj hv hsh t e4))
end
theorem VX{α:Type}{k:Nat}{v:α}:∀{l:List (Nat×α)},(st k v l).length<=l.length+1
 | []=>Cg _
 | (j,u)::r=>by
  show(cond (Nat.beq k j) ((j,v)::r) ((j,u)::st k v r)).length<=_
  cases Nat.beq k j with
  | true=>exact Nat.le_succ _
  | false=>exact Nat.succ_le_succ VX
end
variable {tab:Addr->List PV}
variable {bv hv lv u:PV}
variable {O:PS}
variable {hp:List PO}
variable {Wa:PS->(List PV->PS->Prop)->Prop}
variable {arg:PV->Option (List Int)}
variable {acc:List PV}
structure Cx where
 C:Addr
 nm:Nat->Str
 inj:∀i j,nm i=nm j->i=j
 ps:BD
 ks:BD
 cl:List (Nat×Addr)
 lm:Nat×Nat×Str
structure Pn where
 ps:BD
 ks:BD
 cl:List (Nat×Addr)
noncomputable def Cx.pn(X:Cx):Pn:=⟨X.ps,X.ks,X.cl⟩
noncomputable def Cx.pin(X:Cx)(p:Pn):Cx:={ X with ps:=p.ps,ks:=p.ks,cl:=p.cl }
noncomputable abbrev Pl:=BD×BD
noncomputable def Cx.pil(X:Cx)(p:Pl):Cx:={ X with ps:=p.1,ks:=p.2 }
noncomputable def CR(ρ:List Addr)(frz:BD):Option PV->Option Value->Prop
 | none,w=>w=none
 | some v,w=>∃u,w=some u/\VR ρ frz v u
def cJ(lm:Nat×Nat×Str)(frz:BD)(ps:Array Value):Prop:=ps = #[] ∨ ∃c oc vs t,ps = #[rawInt lm.1,rawInt lm.2.1,.ref c]/\(c,oc)∈frz/\oc.data=.fields vs/\vs[1]?=some (.str lm.2.2 t)
theorem cJ.mono{lm:Nat×Nat×Str}{frz frz':BD}{ps:Array Value}(hf:∀p∈frz,p∈frz'):cJ lm frz ps->cJ lm frz' ps:=fun z=>z.imp id fun z=>zh z fun c oc vs z=>yb z fun t h m r=>zk c oc vs (yh t h (hf _ m) r)
inductive OR(X:Cx)(ρ:List Addr)(frz:BD):PO->Addr->List (Addr×Obj)->Prop
 | il {xs items n a}:IntsAre items xs->OR X ρ frz (.il xs) a [(a,listOf items.toArray n)]
 | ls {xs items n a}:VRs ρ frz xs items->OR X ρ frz (.ls xs) a [(a,listOf items.toArray n)]
 | cell {v w a o}:o.data=.cell w->CR ρ frz v w->OR X ρ frz (.cell v) a [(a,o)]
 | gone {a}:OR X ρ frz .gone a []
 | inst {fs es n a d}:FR X.nm ρ frz fs es->OR X ρ frz (.inst fs) a [(a,instObj X.C d),(d,dictOf es n)]
 | tab {ps a}:cJ X.lm frz ps->OR X ρ frz (.tab a) a [(a,tabObj ps)]
inductive HR(X:Cx)(ρ:List Addr)(frz:BD):List PO->List Addr->List (Addr×Obj)->Prop
 | nil:HR X ρ frz [] [] []
 | cons {o a p os as l}:OR X ρ frz o a p->HR X ρ frz os as l->HR X ρ frz (o::os) (a::as) (p++l)
section
variable {X:Cx}{ρ':List Addr}{frz frz':BD}
theorem CR.mono(hρ:∀(i:Nat) (a:Addr),ρ[i]?=some a->ρ'[i]?=some a)(hf:∀p∈frz,p∈frz'):∀{v:Option PV} {w:Option Value},CR ρ frz v w->CR ρ' frz' v w
 | none,_,h=>h
 | some v,_,h=>by refine zc h fun u e r=>?_;exact(zA u e (r.mono hρ hf))
section
variable {os:List PO}{as:List Addr}{l:BD}{a:Addr}
theorem HR.il{xs:List Int}{items:List Value}{n:Nat}(h:IntsAre items xs)(t:HR X ρ frz os as l):HR X ρ frz (.il xs::os) (a::as) ((a,listOf items.toArray n)::l):=.cons (.il h) t
theorem HR.ls{xs:List PV}{items:List Value}{n:Nat}(h:VRs ρ frz xs items)(t:HR X ρ frz os as l):HR X ρ frz (.ls xs::os) (a::as) ((a,listOf items.toArray n)::l):=.cons (.ls h) t
theorem HR.cell{v:Option PV}{w:Option Value}{o:Obj}(d:o.data=.cell w)(h:CR ρ frz v w)(t:HR X ρ frz os as l):HR X ρ frz (.cell v::os) (a::as) ((a,o)::l):=.cons (.cell d h) t
theorem HR.gone(t:HR X ρ frz os as l):HR X ρ frz (.gone::os) (a::as) l:=.cons .gone t
theorem HR.inst{fs:List (Nat×PV)}{es:List DictEntry}{n:Nat}{d:Addr}(h:FR X.nm ρ frz fs es)(t:HR X ρ frz os as l):HR X ρ frz (.inst fs::os) (a::as) ((a,instObj X.C d)::(d,dictOf es n)::l):=.cons (.inst h) t
end
theorem OR.mono(hρ:∀(i:Nat) (a:Addr),ρ[i]?=some a->ρ'[i]?=some a)(hf:∀p∈frz,p∈frz'){o:PO}{a:Addr}{p:BD}(h:OR X ρ frz o a p):OR X ρ' frz' o a p:=by
 induction h with
 | il i=>exact .il i
 | ls i=>exact .ls (i.mono hρ hf)
 | cell d i=>exact .cell d (i.mono hρ hf)
 | gone=>exact .gone
 | inst i=>exact .inst (i.mono hρ hf)
 | tab i=>exact .tab (i.mono hf)
theorem OR.pin{ps:Pn}{o:PO}{a:Addr}{p:BD}(h:OR X ρ frz o a p):OR (X.pin ps) ρ frz o a p:=by
 induction h with
 | il i=>exact .il i
 | ls i=>exact .ls i
 | cell d i=>exact .cell d i
 | gone=>exact .gone
 | inst i=>exact .inst i
 | tab i=>exact .tab i
theorem HR.mono(hρ:∀(i:Nat) (a:Addr),ρ[i]?=some a->ρ'[i]?=some a)(hf:∀p∈frz,p∈frz'){os:List PO}{as:List Addr}{l:BD}(h:HR X ρ frz os as l):HR X ρ' frz' os as l:=by
 induction h with
 | nil=>exact .nil
 | cons o _ ih=>exact .cons (o.mono hρ hf) ih
theorem HR.pin{ps:Pn}{os:List PO}{as:List Addr}{l:BD}(h:HR X ρ frz os as l):HR (X.pin ps) ρ frz os as l:=by
 induction h with
 | nil=>exact .nil
 | cons o _ ih=>exact .cons o.pin ih
theorem HR.pil{ps:Pl}{os:List PO}{as:List Addr}{l:BD}(h:HR X ρ frz os as l):HR (X.pil ps) ρ frz os as l:=HR.pin (ps:=⟨ps.1,ps.2,X.cl⟩) h
theorem HR.unpil{ps:Pl}{os:List PO}{as:List Addr}{l:BD}(h:HR (X.pil ps) ρ frz os as l):HR X ρ frz os as l:=HR.pin (X:=X.pil ps) (ps:=X.pn) h
theorem HR.unpin{ps:Pn}{os:List PO}{as:List Addr}{l:BD}(h:HR (X.pin ps) ρ frz os as l):HR X ρ frz os as l:=HR.pin (X:=X.pin ps) (ps:=X.pn) h
theorem HR.len{os:List PO}{as:List Addr}{l:BD}(h:HR X ρ frz os as l):as.length=os.length:=by
 induction h with
 | nil=>rfl
 | cons _ _ ih=>exact congrArg (· + 1) ih
theorem HR.app{os:List PO}{as:List Addr}{l:BD}(h:HR X ρ frz os as l){os':List PO}{as':List Addr}{l':BD}(h':HR X ρ frz os' as' l'):HR X ρ frz (os++os') (as++as') (l++l'):=by
 induction h with
 | nil=>exact h'
 | cons o _ ih=>rw[Br];exact .cons o ih
theorem HR.unapp:∀{os os':List PO} {as:List Addr} {l:BD},HR X ρ frz (os++os') as l->∃P4 P5 P6 P7,as=P4++P5/\l=P6++P7/\HR X ρ frz os P4 P6/\HR X ρ frz os' P5 P7
 | [],os',as,l,h=>(zk ([]) as ([]) (qB l rfl rfl .nil h))
 | o::os,os',_,_,h=>by
  cases h with
  | cons i t =>
   refine byc fun Ea=>?_
   refine zh (HR.unapp t) fun a1 a2 l1 Ee=>yo Ee fun l2 e1 e2 x y=>?_
   refine Ea ?_;exact(zk (_::a1) a2 (_++l1) (qB l2 (by rw[e1];rfl) (by rw[e2,Br]) (.cons i x) y))
theorem HR.at{os:List PO}{as:List Addr}{l:BD}(h:HR X ρ frz os as l):∀{i:Nat} {o:PO},os[i]?=some o ->
  ∃a pre mid post,as[i]?=some a/\l=pre++mid++post/\OR X ρ frz o a mid /\ ∀(o':PO) (T9:BD),OR X ρ frz o' a T9->HR X ρ frz (os.set i o') as (pre++T9++post):=by
 induction h with
 | nil=>intro i o e;cases e
 | cons x t ih =>
  intro i o e
  induction i with
  | zero =>
   cases e
   exact(zk _ ([]) _ (qB _ rfl rfl x (fun o' m' h'=>.cons h' t)))
  | succ i =>
   refine byc fun Ea=>?_
   refine zh (ih e) fun a pre mid Ee=>yo Ee fun post e1 e2 e3 e4=>?_
   refine Ea ?_;exact(zk a (_++pre) mid (qB post e1 (by rw[e2,Br,Br,Br]) e3 (fun o' m' h'=>by rw[Br,Br,<- Br pre];exact .cons x (e4 o' m' h'))))
theorem l1(p q:List α)(x:α):p ++ [x]++q=p++x::q:=by rw[Br];rfl
theorem l2(p q:List α)(x y:α):p ++ [x,y]++q=p++x::y::q:=by rw[Br];rfl
theorem HR.at_il{os:List PO}{as:List Addr}{l:BD}(h:HR X ρ frz os as l){xs:List Int}(e:os[i]?=some (.il xs)):
  ∃a items n pre post,as[i]?=some a/\l=pre++(a,listOf items.toArray n)::post/\IntsAre items xs /\
   (∀(xs':List Int) (S9:List Value) (n':Nat),IntsAre S9 xs'->HR X ρ frz (os.set i (.il xs')) as (pre++(a,listOf S9.toArray n')::post)):=by
 refine byc fun Ea=>?_
 refine zh (h.at e) fun a pre mid Ee=>yo Ee fun post e1 e2 e3 e4=>?_
 refine Ea ?_
 cases e3 with
 | il hi=>exact(zk a _ _ (qo pre post e1 (e2.trans (l1 _ _ _)) hi (fun xs' it' n' h'=>l1 pre post _▸e4 (.il xs') _ (.il h'))))
theorem HR.at_ls{os:List PO}{as:List Addr}{l:BD}(h:HR X ρ frz os as l){xs:List PV}(e:os[i]?=some (.ls xs)):
  ∃a items n pre post,as[i]?=some a/\l=pre++(a,listOf items.toArray n)::post/\VRs ρ frz xs items /\
   (∀(xs':List PV) (S9:List Value) (n':Nat),VRs ρ frz xs' S9->HR X ρ frz (os.set i (.ls xs')) as (pre++(a,listOf S9.toArray n')::post)):=by
 refine byc fun Ea=>?_
 refine zh (h.at e) fun a pre mid Ee=>yo Ee fun post e1 e2 e3 e4=>?_
 refine Ea ?_
 cases e3 with
 | ls hi=>exact(zk a _ _ (qo pre post e1 (e2.trans (l1 _ _ _)) hi (fun xs' it' n' h'=>l1 pre post _▸e4 (.ls xs') _ (.ls h'))))
theorem HR.at_cell{os:List PO}{as:List Addr}{l:BD}(h:HR X ρ frz os as l){v:Option PV}(e:os[i]?=some (.cell v)):
  ∃a o w pre post,as[i]?=some a/\l=pre++(a,o)::post/\o.data=.cell w/\CR ρ frz v w /\
   (∀(v':Option PV) (w':Option Value) (o':Obj),o'.data=.cell w'->CR ρ frz v' w'->HR X ρ frz (os.set i (.cell v')) as (pre++(a,o')::post)):=by
 refine byc fun Ea=>?_
 refine zh (h.at e) fun a pre mid Ee=>yo Ee fun post e1 e2 e3 e4=>?_
 refine Ea ?_
 cases e3 with
 | cell hd hi=>exact(zk a _ _ (qo pre post e1 (e2.trans (l1 _ _ _)) hd ⟨hi,fun v' w' o' hd' h'=>l1 pre post _▸e4 (.cell v') _ (.cell hd' h')⟩))
theorem HR.at_inst{os:List PO}{as:List Addr}{l:BD}(h:HR X ρ frz os as l){fs:List (Nat×PV)}(e:os[i]?=some (.inst fs)):
  ∃a d es n pre post,as[i]?=some a/\l=pre++(a,instObj X.C d)::(d,dictOf es n)::post/\FR X.nm ρ frz fs es /\
   ∀(fs':List (Nat×PV)) (es':List DictEntry) (n':Nat),FR X.nm ρ frz fs' es'->HR X ρ frz (os.set i (.inst fs')) as (pre++(a,instObj X.C d)::(d,dictOf es' n')::post):=by
 refine byc fun Ea=>?_
 refine zh (h.at e) fun a pre mid Ee=>yo Ee fun post e1 e2 e3 e4=>?_
 refine Ea ?_
 cases e3 with
 | inst hi=>exact(zk a _ _ (yM _ pre post e1 (e2.trans (l2 _ _ _ _)) hi (fun fs' es' n' h'=>l2 pre post _ _▸e4 (.inst fs') _ (.inst h'))))
end
structure RW(X:Cx)(B3:Heap)(L:Addr)(h:Heap)(m:BB)(O:PS)(vs:List PV)(ws:List Value)(ρ:List Addr)(led frz:BD):Prop where
 hr:HR X ρ frz O.hp ρ led
 all:News B3 L h ((led++frz)++X.ps)
 nd:(led.map (·.1)).Nodup
 off:∀p∈frz,∀q∈led,p.1≠q.1
 offp:∀p∈X.ps,∀q∈led++frz,p.1≠q.1
 kept:(∀p∈X.ks,p∈frz) /\ ∀p∈X.cl,ρ[p.1]?=some p.2
 loc:∀k v,lk k O.loc=some v->∃w,m (X.nm k)=some w/\VR ρ frz v w
 stk:VRs ρ frz vs ws
def RL(X:Cx)(B3:Heap)(L:Addr)(h:Heap)(m:BB)(O:PS)(vs:List PV)(ws:List Value):Prop:=∃ρ led frz,RW X B3 L h m O vs ws ρ led frz
theorem RW.news{X:Cx}{m:BB}{vs:List PV}{frz:BD}(q:RW X B3 L h m O vs ws ρ led frz):News B3 L h (led++frz):=
 fun p hp=>q.all p (Bn _ hp)
theorem X4{a:Addr}(i:Nat)(b:Addr)(h:ρ[i]?=some b):(ρ ++ [a])[i]?=some b:=by
 rw[Cz]
 ·exact h
 ·exact(List.getElem?_eq_some_iff.mp h).1
section
variable {X:Cx}{m:BB}{vs:List PV}
theorem RL.pop{v:PV}{w:Value}(r:RL X B3 L h m O (v::vs) (w::ws)):RL X B3 L h m O vs ws:=by
 refine byc fun Ea=>?_
 refine zh r fun ρ led frz q=>?_
 refine zv q.stk.cons_inv fun w' r' e a b=>?_
 refine Ea ?_
 cases e
 exact(zk ρ led frz ⟨q.hr,q.all,q.nd,q.off,q.offp,q.kept,q.loc,b⟩)
theorem RL.push{v:PV}{w:Value}(r:RL X B3 L h m O vs ws)(hv:∀ρ frz,VR ρ frz v w):RL X B3 L h m O (v::vs) (w::ws):=by
 refine zh r fun ρ led frz q=>?_
 exact(zk ρ led frz ⟨q.hr,q.all,q.nd,q.off,q.offp,q.kept,q.loc,VRs.cons (hv ρ frz) q.stk⟩)
theorem RL.stack{vs':List PV}{ws':List Value}(r:RL X B3 L h m O vs ws)(hv:∀ρ frz,VRs ρ frz vs ws->VRs ρ frz vs' ws'):RL X B3 L h m O vs' ws':=by
 refine zh r fun ρ led frz q=>?_
 exact(zk ρ led frz ⟨q.hr,q.all,q.nd,q.off,q.offp,q.kept,q.loc,hv ρ frz q.stk⟩)
theorem RL.local{k:Nat}{v:PV}(r:RL X B3 L h m O vs ws)(e:lk k O.loc=some v):∃w,m (X.nm k)=some w/\RL X B3 L h m O (v::vs) (w::ws):=by
 refine byc fun Ea=>?_
 refine zh r fun ρ led frz q=>?_
 refine zc (q.loc k v e) fun w a b=>?_
 refine Ea ?_;exact(zA w a ⟨ρ,led,frz,q.hr,q.all,q.nd,q.off,q.offp,q.kept,q.loc,VRs.cons b q.stk⟩)
theorem RL.store{k:Nat}{v:PV}{w:Value}(r:RL X B3 L h m O (v::vs) (w::ws)):RL X B3 L h (fun y=>if y=X.nm k then some w else m y) { O with loc:=st k v O.loc } vs ws:=by
 refine byc fun Ea=>?_
 refine zh r fun ρ led frz q=>?_
 refine zv q.stk.cons_inv fun w' r' e a b=>?_
 refine Ea ?_
 cases e
 refine(zk ρ led frz ⟨q.hr,q.all,q.nd,q.off,q.offp,q.kept,fun j u e=>?_,b⟩)
 simp only[Yx] at e
 by_cases hj:j=k
 ·subst hj
  simp at e;subst e;exact(zA w (by simp) a)
 ·simp only[hj,if_false] at e
  refine byc fun Ef=>?_
  refine zc (q.loc j u e) fun w' c d=>?_
  have:X.nm j≠X.nm k:=fun x=>hj (X.inj _ _ x)
  refine Ef ?_;exact(zA w' (by simp[this,c]) d)
theorem Xn{x:α}{a b c:List α}{p:α}(h:p∈(a++(x::b))++c):p∈x::((a++b)++c):=by
 simp only[By,Cs] at h ⊢
 rcases h with (h | h | h) | h
 ·exact .inr (.inl (.inl h))
 ·exact .inl h
 ·exact .inr (.inl (.inr h))
 ·exact .inr (.inr h)
theorem RW.freeze{frz:BD}(q:RW X B3 L h m O vs ws ρ led frz){o:Obj}{a:Addr}(N:News B3 L h' ((a,o)::((led++frz)++X.ps)))(hlt:∀p∈(led++frz)++X.ps,p.1≠a):
  RW X B3 L h' m O vs ws ρ led ((a,o)::frz):=by
 have up:∀p∈frz,p∈(a,o)::frz:=fun p hp=>.tail _ hp
 refine⟨q.hr.mono (fun Z Z e=>e) up,fun p hp=>N p (Xn hp),q.nd,?_,?_,⟨fun p hp=>up p (q.kept.1 p hp),q.kept.2⟩,fun k v e=>?_,q.stk.mono (fun Z Z e=>e) up⟩
 ·intro p hp y hy
  cases hp with
  | head=>exact fun e=>hlt y (Bn _ (Bn _ hy)) e.symm
  | tail _ hp=>exact q.off p hp y hy
 ·intro p hp y hy
  simp only[By,Cs] at hy
  rcases hy with hy | rfl | hy
  ·exact q.offp p hp y (Bn _ hy)
  ·exact fun e=>hlt p (Bo _ hp) e
  ·exact q.offp p hp y (Bo _ hy)
 ·refine zc (q.loc k v e) fun w c d=>?_
  exact(zA w c (d.mono (fun Z Z e=>e) up))
theorem RW.own{frz:BD}(q:RW X B3 L h m O vs ws ρ led frz){o:Obj}{a:Addr}{po:PO}(N:News B3 L h' ((a,o)::((led++frz)++X.ps)))(hlt:∀p∈(led++frz)++X.ps,p.1≠a)
  (ho:HR X (ρ ++ [a]) frz [po] [a] [(a,o)]):RW X B3 L h' m ⟨O.loc,O.hp ++ [po]⟩ vs ws (ρ ++ [a]) (led ++ [(a,o)]) frz:=by
 have up:∀(i:Nat) (b:Addr),ρ[i]?=some b->(ρ ++ [a])[i]?=some b:=fun i b e=>X4 i b e
 refine⟨(q.hr.mono up (fun Z e=>e)).app ho,fun p hp=>N p ?_,?_,?_,?_,⟨q.kept.1,fun p hp=>up _ _ (q.kept.2 p hp)⟩,fun k v e=>?_,q.stk.mono up (fun Z e=>e)⟩
 ·simp only[By,Cs,Ci,or_false] at hp ⊢
  rcases hp with ((h | h) | h) | h
  ·exact .inr (.inl (.inl h))
  ·exact .inl h
  ·exact .inr (.inl (.inr h))
  ·exact .inr (.inr h)
 ·rw[Da,List.nodup_append]
  refine⟨q.nd,by simp,fun b hb c hc e=>?_⟩
  simp only[Dh,List.map_nil,List.mem_singleton] at hc;refine zc (List.mem_map.mp hb) fun p hp Cd=>?_;subst Cd
  subst hc;exact hlt p (Bn _ (Bn _ hp)) e
 ·intro p hp y hy
  rcases List.mem_append.mp hy with hy | hy
  ·exact q.off p hp y hy
  ·rw[List.mem_singleton.mp hy]
   exact fun e=>hlt p (Bn _ (Bo _ hp)) e
 ·intro p hp y hy
  simp only[By,Cs,Ci,or_false] at hy
  rcases hy with (hy | rfl) | hy
  ·exact q.offp p hp y (Bn _ hy)
  ·exact fun e=>hlt p (Bo _ hp) e
  ·exact q.offp p hp y (Bo _ hy)
 ·refine zc (q.loc k v e) fun w c d=>?_
  exact(zA w c (d.mono up (fun Z e=>e)))
noncomputable def pt:PO->Option PV
 | .il xs=>some (.il xs)
 | .ls us=>some (.ls us)
 | _=>none
theorem OR.frz{ρ:List Addr}{frz:BD}{o:PO}{a:Addr}{mid:BD}{v:PV}(h:OR X ρ frz o a mid)(e:pt o=some v):∃b,mid = [(a,b)]/\VR ρ ((a,b)::frz) v (.ref a):=by
 cases h with
 | il hi=>cases e;exact(zA _ rfl (by show Exists _;exact(y3 a _ _ rfl (.head _) hi)))
 | ls hi=>cases e;exact(zA _ rfl (by show Exists _;exact(y3 a _ _ rfl (.head _) (VRs.mono (fun Z Z e=>e) (fun p hp=>.tail _ hp) _ hi))))
 | _=>cases e
theorem RW.thing{frz:BD}(q:RW X B3 L h m O vs ws ρ led frz){o:PO}{v:PV}(e:O.hp[j]?=some o)(ev:pt o=some v):
  ∃a b pre post,ρ[j]?=some a/\VR ρ ((a,b)::frz) v (.ref a)/\RW X B3 L h m ⟨O.loc,O.hp.set j .gone⟩ vs ws ρ (pre++post) ((a,b)::frz):=by
 refine byc fun Ea=>?_
 refine zh (q.hr.at e) fun a pre mid Ee=>yo Ee fun post e1 e2 e3 e4=>?_
 refine Ea ?_;refine zc (e3.frz ev) fun b Cd hv=>?_;subst Cd
 subst e2;have up:∀p∈frz,p∈(a,b)::frz:=fun p hp=>.tail _ hp
 have h':=(e4 .gone [] .gone).mono (frz':=(a,b)::frz) (ρ':=ρ) (fun Z Z e=>e) up
 have nd:=q.nd;simp only[Br,Da,Dh,List.map_nil,List.singleton_append] at nd;have nd2:=(List.nodup_append.mp nd);have nd3:=List.nodup_cons.mp nd2.2.1;refine(zk a b pre (yh post e1 hv ⟨by simpa using h',fun p hp=>q.all p ?_,?_,?_,?_,⟨fun p hp=>up p (q.kept.1 p hp),q.kept.2⟩,fun k v e=>?_,q.stk.mono (fun Z Z e=>e) up⟩))
 ·simp only[By,Cs,Ci,or_false] at hp ⊢
  rcases hp with ((h | h) | h | h) | h
  ·exact .inl (.inl (.inl (.inl h)))
  ·exact .inl (.inl (.inr h))
  ·exact .inl (.inl (.inl (.inr h)))
  ·exact .inl (.inr h)
  ·exact .inr h
 ·rw[Da,List.nodup_append]
  exact⟨nd2.1,nd3.2,fun x hx y hy=>nd2.2.2 x hx y (.tail _ hy)⟩
 ·intro p hp y hy
  cases hp with
  | head =>
   rcases List.mem_append.mp hy with hy | hy
   ·exact fun e=>nd2.2.2 _ (Cj hy) a (.head _) e.symm
   ·exact fun e=>nd3.1 (show a∈List.map (·.1) post by rw[show a=y.1 from e];exact Cj hy)
  | tail _ hp =>
   refine q.off p hp y ?_;simp only[By] at hy ⊢
   rcases hy with hy | hy
   ·exact .inl (.inl hy)
   ·exact .inr hy
 ·intro p hp y hy
  refine q.offp p hp y ?_;simp only[By,Cs,Ci,or_false] at hy ⊢
  rcases hy with (h | h) | h | h
  ·exact .inl (.inl (.inl h))
  ·exact .inl (.inr h)
  ·exact .inl (.inl (.inr h))
  ·exact .inr h
 ·refine zc (q.loc k v e) fun w c d=>?_
  exact(zA w c (d.mono (fun Z Z e=>e) up))
end
noncomputable abbrev KE:=PV->PS->Prop
variable {We Wi Wl Wo Wr:PS->KE->Prop}
variable {Wv:PV->PS->KE->Prop}
@[irreducible] noncomputable def jK(x y:Int):Int:=x+y
@[irreducible] noncomputable def Qg(x y:Int):Int:=x-y
@[irreducible] noncomputable def ky(x y:Int):Int:=x*y
@[irreducible] noncomputable def bJ(x y:Int):Int:=x.fdiv y
@[irreducible] noncomputable def bK(x y:Int):Int:=x.fmod y
@[irreducible] noncomputable def zx(x y:Int):Int:=Builtin.bitAnd x y
@[irreducible] noncomputable def iOr(x y:Int):Int:=Builtin.bitOr x y
@[irreducible] noncomputable def jR(x y:Int):Int:=Builtin.bitXor x y
@[irreducible] noncomputable def Qf(x y:Int):Int:=x*2 ^ y.toNat
@[irreducible] noncomputable def bL(x y:Int):Int:=x.fdiv (2 ^ y.toNat)
@[irreducible] noncomputable def kz(x y:Int):Int:=x ^ y.toNat
@[irreducible] noncomputable def X9(x:Int):Int:=-x
@[irreducible] noncomputable def yg(x:Int):Int:=Builtin.bitNot x
section
variable (x y:Int)
theorem zy:jK x y=x+y:=by unfold jK;rfl
theorem jQ:Qg x y=x-y:=by unfold Qg;rfl
theorem WI:ky x y=x*y:=by unfold ky;rfl
theorem Q8:bJ x y=x.fdiv y:=by unfold bJ;rfl
theorem Q9:bK x y=x.fmod y:=by unfold bK;rfl
theorem jk:zx x y=Builtin.bitAnd x y:=by unfold zx;rfl
theorem yI:iOr x y=Builtin.bitOr x y:=by unfold iOr;rfl
theorem qn:jR x y=Builtin.bitXor x y:=by unfold jR;rfl
theorem yu:Qf x y=x*2 ^ y.toNat:=by unfold Qf;rfl
theorem Ua:bL x y=x.fdiv (2 ^ y.toNat):=by unfold bL;rfl
theorem WK:kz x y=x ^ y.toNat:=by unfold kz;rfl
theorem WJ:X9 x = -x:=by unfold X9;rfl
theorem qm:yg x=Builtin.bitNot x:=by unfold yg;rfl
end
noncomputable def isZ:Int->Bool
 | .ofNat 0=>true
 | _=>false
noncomputable def small:Int->Bool
 | .ofNat n=>Nat.ble n 1000000
 | .negSucc _=>false
theorem U0{y:Int}(h:isZ y=false):y≠0:=fun e=>by subst e;cases h
theorem j3{y:Int}(h:small y=true):0<=y/\y<=1000000:=by
 induction y with
 | ofNat n=>have:=Bs h;exact⟨Dt n,by show(n:Int)<=1000000;exact yd (Vs this) rfl⟩
 | negSucc n=>cases h
def kE(op:Operator)(x y:Int)(k:Int->Prop):Prop:=match op with
 | .Add=>k (jK x y)
 | .Sub=>k (Qg x y)
 | .Mult=>IntMulOk x y/\k (ky x y)
 | .FloorDiv=>cond (isZ y) False (Builtin.divisionGoesByPylong x y=false/\k (bJ x y))
 | .Mod=>cond (isZ y) False (k (bK x y))
 | .BitAnd=>k (zx x y)
 | .BitOr=>k (iOr x y)
 | .BitXor=>k (jR x y)
 | .LShift=>cond (small y) (x.natAbs<2 ^ 64/\k (Qf x y)) False
 | .RShift=>cond (small y) (k (bL x y)) False
 | .Pow=>cond (small y) (x.natAbs<2 ^ 64/\k (kz x y)) False
 | _=>False
noncomputable def ux(op:CmpOp)(x y:Int):Option Bool:=match op with
 | .Eq=>some (x==y)
 | .NotEq=>some (x !=y)
 | .Lt=>some (decide (x<y))
 | .LtE=>some (decide (x<=y))
 | .Gt=>some (decide (x>y))
 | .GtE=>some (decide (x>=y))
 | _=>none
def zr(s s':Shared):Prop:=s'.gens=s.gens/\s'.drawn=s.drawn/\s'.os=s.os
theorem zr.refl(s:Shared):zr s s:=⟨rfl,rfl,rfl⟩
theorem zr.trans{a b c:Shared}(x:zr a b)(y:zr b c):zr a c:=⟨y.1.trans x.1,y.2.1.trans x.2.1,y.2.2.trans x.2.2⟩
structure SR(m:BB)(s:Shared)(m':BB)(s':Shared):Prop where
 rest:zr s s'
 eq:m'=m
theorem SR.refl(m:BB)(s:Shared):SR m s m s:=⟨zr.refl s,rfl⟩
theorem SR.trans{C3 C6 E5:BB}{a b c:Shared}(x:SR C3 a C6 b)(y:SR C6 b E5 c):SR C3 a E5 c:=⟨x.rest.trans y.rest,y.eq.trans x.eq⟩
theorem SR.of{m:BB}{a b:Shared}(x:zr a b):SR m a m b:=⟨x,rfl⟩
theorem SR.mk'{m:BB}{t:Nat}:SR m s m { s with heap:=h,toks:=t }:=⟨⟨rfl,rfl,rfl⟩,rfl⟩
instance {m m':BB} {s s':Shared}:CoeOut (SR m s m' s') (zr s s'):=⟨SR.rest⟩
theorem zr.mk'{t:Nat}:zr s { s with heap:=h,toks:=t }:=⟨rfl,rfl,rfl⟩
section
variable {prog:Program}{w:World}{A:Around}{E:BA}{x y:Int}{t u:Tok}
theorem jH{c:Bool}{P:Prop}(h:cond c False P):c=false/\P:=by
 induction c with
 | false=>exact⟨rfl,h⟩
 | true=>exact False.elim h
theorem zW{c:Bool}{P:Prop}(h:cond c P False):c=true/\P:=by
 induction c with
 | true=>exact⟨rfl,h⟩
 | false=>exact False.elim h
theorem ip{op:Operator}{k:Int->Prop}(h:kE op x y k)(hq:∀z t' n,k z->Q (.int z t') { s with toks:=n }):wpAny (model prog w) A (binaryOp op (.int x t) (.int y u)) Q E s:=by
 have hq:∀{z' z:Int},z'=z->k z'->∀{t' n},Q (.int z t') { s with toks:=n }:=fun e h Z Z=>e▸hq _ _ _ h
 induction op with
 | Add=>exact add_int (hq (zy x y) h)
 | Sub=>exact PySem.P.sub_int (hq (jQ x y) h)
 | Mult=>exact PySem.P.mul_int (hq (WI x y) h.2) h.1
 | Mod=>exact mod_int (U0 (jH h).1) (hq (Q9 x y) (jH h).2)
 | Pow=>exact pow_int_small (j3 (zW h).1).1 (j3 (zW h).1).2 (zW h).2.1 (hq (WK x y) (zW h).2.2)
 | LShift=>exact lshift_int_small (j3 (zW h).1).1 (j3 (zW h).1).2 (zW h).2.1 (hq (yu x y) (zW h).2.2)
 | RShift=>exact rshift_int (j3 (zW h).1).1 (hq (Ua x y) (zW h).2)
 | BitOr=>exact or_int (hq (yI x y) h)
 | BitXor=>exact xor_int (hq (qn x y) h)
 | BitAnd=>exact and_int (hq (jk x y) h)
 | FloorDiv=>exact floordiv_int (U0 (jH h).1) (hq (Q8 x y) (jH h).2.2) (Or.inl (jH h).2.1)
 | _=>exact False.elim h
theorem kC{op:Operator}{k:Int->Prop}(h:kE op x y k)(hq:∀z t' n,k z->Q (.int z t') { s with toks:=n }):wpAny (model prog w) A (inplaceOp op (.int x t) (.int y u)) Q E s:=by
 have hq:∀{z' z:Int},z'=z->k z'->∀{t' n},Q (.int z t') { s with toks:=n }:=fun e h Z Z=>e▸hq _ _ _ h
 induction op with
 | Add=>exact iadd_int (hq (zy x y) h)
 | Sub=>exact PySem.P.isub_int (hq (jQ x y) h)
 | Mult=>exact imul_int (hq (WI x y) h.2) h.1
 | Mod=>exact imod_int (U0 (jH h).1) (hq (Q9 x y) (jH h).2)
 | Pow=>exact ipow_int_small (j3 (zW h).1).1 (j3 (zW h).1).2 (zW h).2.1 (hq (WK x y) (zW h).2.2)
 | LShift=>exact ilshift_int_small (j3 (zW h).1).1 (j3 (zW h).1).2 (zW h).2.1 (hq (yu x y) (zW h).2.2)
 | RShift=>exact irshift_int (j3 (zW h).1).1 (hq (Ua x y) (zW h).2)
 | BitOr=>exact ior_int (hq (yI x y) h)
 | BitXor=>exact ixor_int (hq (qn x y) h)
 | BitAnd=>exact iand_int (hq (jk x y) h)
 | FloorDiv=>exact ifloordiv_int (U0 (jH h).1) (hq (Q8 x y) (jH h).2.2) (Or.inl (jH h).2.1)
 | _=>exact False.elim h
theorem iB{op:CmpOp}{b:Bool}(h:ux op x y=some b)(hq:Q (.bool b) s):wpAny (model prog w) A (compareOp op (.int x t) (.int y u)) Q E s:=by
 induction op with
 | Eq=>cases h;exact PySem.P.eq_int hq
 | NotEq=>cases h;exact PySem.P.ne_int hq
 | Lt=>cases h;exact PySem.P.lt_int hq
 | LtE=>cases h;exact PySem.P.le_int hq
 | Gt=>cases h;exact PySem.P.gt_int hq
 | GtE=>cases h;exact PySem.P.ge_int hq
 | _=>cases h
end
def opt(x:Option α)(k:α->Prop):Prop:=match x with | some a=>k a | none=>False
noncomputable def Ql(x:Option α):Bool:=match x with | none=>true | some _=>false
def y4(a:PV)(k:Int->Prop):Prop:=match a with | .int x=>k x | _=>False
def ZI(a:PV)(k:Nat->Prop):Prop:=match a with | .ref j=>k j | _=>False
noncomputable def ilP(o:Option PO):Option (List Int):=match o with | some (.il xs)=>some xs | _=>none
def ilO(o:Option PO)(k:List Int->Prop):Prop:=opt (ilP o) k
def VG(o:Option PO)(k:List (Nat×PV)->Prop):Prop:=match o with | some (.inst fs)=>k fs | _=>False
def di(o:Option PO)(k:Option PV->Prop):Prop:=match o with | some (.cell v)=>k v | _=>False
def ilC(a:PV)(O:PS)(k:Nat->List Int->Prop):Prop:=ZI a fun j=>ilO O.hp[j]? (k j)
def VF(a:PV)(O:PS)(k:Nat->List (Nat×PV)->Prop):Prop:=ZI a fun j=>VG O.hp[j]? (k j)
def eqW(op:CmpOp)(c:Bool)(k:Bool->Prop):Prop:=match op with | .Eq=>k c | .NotEq=>k (!c) | _=>False
theorem Zg{op:CmpOp}{c:Bool}{k:Bool->Prop}(h:eqW op c k):(op=.Eq/\k c)∨(op=.NotEq/\k (!c)):=by
 induction op with
 | Eq=>exact .inl ⟨rfl,h⟩
 | NotEq=>exact .inr ⟨rfl,h⟩
 | _=>exact False.elim h
def isW(op:CmpOp)(c:Bool)(k:Bool->Prop):Prop:=match op with | .Is=>k c | .IsNot=>cond c (k false) (k true) | _=>False
theorem pM{op:CmpOp}{c:Bool}{k:Bool->Prop}(h:isW op c k):(op=.Is/\k c)∨(op=.IsNot/\k (!c)):=by
 induction op with
 | Is=>exact .inl ⟨rfl,h⟩
 | IsNot=>exact .inr ⟨rfl,by induction c<;>exact h⟩
 | _=>exact False.elim h
theorem nM{x y:Option α}{v:α}(h:x.or y=some v):x=some v∨y=some v:=by
 induction x with
 | some a=>exact .inl h
 | none=>exact .inr h
theorem zG{x:Option α}{k:α->Prop}(h:opt x k):∃a,x=some a/\k a:=by
 induction x with
 | some a=>exact⟨a,rfl,h⟩
 | none=>exact False.elim h
theorem kF{x:Option α}(h:Ql x=true):x=none:=by
 induction x with
 | none=>rfl
 | some a=>cases h
theorem fU{x:Option α}{P:Prop}(h:cond (Ql x) P False):x=none/\P:=⟨kF (zW h).1,(zW h).2⟩
section
variable {a:PV}{o:Option PO}
theorem jl{k:Int->Prop}(h:y4 a k):∃x,a=.int x/\k x:=by cases a<;>first | exact⟨_,rfl,h⟩ | exact False.elim h
theorem JB{k:Nat->Prop}(h:ZI a k):∃x,a=.ref x/\k x:=by cases a<;>first | exact⟨_,rfl,h⟩ | exact False.elim h
theorem eK{xs:List Int}(h:ilP o=some xs):o=some (.il xs):=by
 induction o with
 | none=>cases h
 | some p=>cases p<;>cases h;rfl
theorem pI{k:List Int->Prop}(h:ilO o k):∃xs,o=some (.il xs)/\k xs:=by
 refine zc (zG h) fun xs e h=>?_
 exact(zA xs (eK e) h)
theorem eL{k:List (Nat×PV)->Prop}(h:VG o k):∃xs,o=some (.inst xs)/\k xs:=by
 induction o with
 | none=>exact False.elim h
 | some p=>induction p<;>first | exact⟨_,rfl,h⟩ | exact False.elim h
theorem Wp{k:Option PV->Prop}(h:di o k):∃xs,o=some (.cell xs)/\k xs:=by
 induction o with
 | none=>exact False.elim h
 | some p=>induction p<;>first | exact⟨_,rfl,h⟩ | exact False.elim h
theorem pH{k:Nat->List Int->Prop}(h:ilC a O k):∃j xs,a=.ref j/\O.hp[j]?=some (.il xs)/\k j xs:=by
 refine byc fun Ea=>?_
 refine zc (JB h) fun j e h=>?_
 refine zc (pI h) fun xs e' h=>?_
 refine Ea ?_;exact(jx j xs e e' h)
theorem Jj{k:Nat->List (Nat×PV)->Prop}(h:VF a O k):∃j xs,a=.ref j/\O.hp[j]?=some (.inst xs)/\k j xs:=by
 refine byc fun Ea=>?_
 refine zc (JB h) fun j e h=>?_
 refine zc (eL h) fun xs e' h=>?_
 refine Ea ?_;exact(jx j xs e e' h)
end
structure Gam where
 X:Cx
 prog:Program
 w:World
 K:Frag
 p:Program
 loose:List Str
 mean:ExcName->Option Value
 mg:Str->Option Value
 mb:Str->Option Value
 base:Heap
variable {G:Gam}
noncomputable def Gam.pin(G:Gam)(ps:Pn):Gam:={ G with X:=G.X.pin ps }
noncomputable def Gam.pil(G:Gam)(ps:Pl):Gam:={ G with X:=G.X.pil ps }
structure Act(G:Gam)(outer:List Env)(B3:Heap)(env:Env)(A:Around)(d:Nat):Prop where
 B:∃I9,Below I9 G.base outer B3
 Kin:G.K.In B3
 T:Top G.p G.loose G.mean G.mg G.mb B3
 fr:A.frames=some (env::outer)
 hd:A.handled=none
 dep:A.depth+d<recursionLimit
 un:A.units+8*d<cLine
structure EnvG(env:Env):Prop where
 glo:env.globals=mainGlobals
 blt:env.builtins=builtinsNs
 kind:env.scope.kind=.function
structure EnvF(env:Env)(L:Addr):Prop extends EnvG env where
 loc:env.locals=L
theorem iI{name:Str}{a:Addr}(hk:scope.kind=.function):EnvF (envOf name scope L a cd) L:=⟨⟨rfl,rfl,hk⟩,rfl⟩
theorem UC{name:Str}{a:Addr}(hk:scope.kind=.function):EnvF (envOfC name scope L a cd) L:=⟨⟨rfl,rfl,hk⟩,rfl⟩
section
variable {M:Model}{A:Around}{E:BA}{m mg mb:BB}{x:Str}{v:Value}
theorem vt(V:EnvF env L)(F:Fr B3 L s.heap m)(hv:m x=some v)(h:Q v s)(hl:env.kindOf x=some .local):wpAny M A (loadName env x) Q E s:=by
 obtain rfl:=V.loc;exact wpAny_loadName_local V.kind hl F.ns hv h
theorem ldE(V:EnvF env L)(F:Fr B3 L s.heap m)(hv:m x=some v)(h:Q v s)(hl:env.kindOf x=some .local)(hd:(x==("__debug__" : Str))=false):wpAny M A (eval (.Name x pos) env) Q E s:=wpAny_Name (vt V F hv h hl) hd
theorem stE{news:BD}{Q:Unit->Shared->Prop}(V:EnvF env L)(F:Fr B3 L s.heap m)(N:News B3 L s.heap news)(h:∀h',Fr B3 L h' (fun y=>if y=x then some v else m y)->News B3 L h' news->Q () { s with heap:=h',toks:=s.toks+1 })(hl:env.kindOf x=some .local):
  wpAny M A (storeName env x v) Q E s:=by
 obtain rfl:=V.loc;exact wpAny_storeName_local hl F.ns (fun h' hn hs=>h h' (F.set hn hs) (N.set hs)) (by rw[V.kind];rfl)
theorem xZ(V:EnvG env)(F:Fr B3 L s.heap m)(hg:B3.Ns mainGlobals mg)(hb:mg x=some v)(h:Q v s)(hx:env.kindOf x=some .globalImplicit)(hd:(x==("__debug__" : Str))=false):wpAny M A (eval (.Name x pos) env) Q E s:=
 Calls.Name_function_global V.kind hx (Calls.loadGlobal_global (env:=env) (by rw[V.glo];exact hg.keeps F.keep) hb h) hd
theorem xM(V:EnvG env)(F:Fr B3 L s.heap m)(hg:B3.Ns mainGlobals mg)(hmiss:mg x=none)(hb:B3.Ns builtinsNs mb)(hv:mb x=some v)(h:Q v s)(hx:env.kindOf x=some .globalImplicit)(hd:(x==("__debug__" : Str))=false):wpAny M A (eval (.Name x pos) env) Q E s:=
 Calls.Name_function_global V.kind hx (Calls.loadGlobal_builtin (env:=env) (by rw[V.glo];exact hg.keeps F.keep) hmiss (by rw[V.blt];exact hb.keeps F.keep) hv h) hd
end
abbrev yy(G:Gam)(B3:Heap)(L:Addr)(m:BB)(s:Shared)(vs:List PV)(ws:List Value)(k:KE)(Q:BA):Prop:=
 ∀v σ' m' w' s',k v σ'->SR m s m' s'->Fr B3 L s'.heap m'->RL G.X B3 L s'.heap m' σ' (v::vs) (w'::ws)->Q w' s'
def ES(G:Gam)(A:Around)(B3:Heap)(L:Addr)(t:Sem Value)(W:PS->KE->Prop):Prop:=
 ∀⦃O:PS⦄ ⦃k:KE⦄ ⦃m:BB⦄ ⦃s:Shared⦄ ⦃vs:List PV⦄ ⦃ws:List Value⦄,W O k->Fr B3 L s.heap m->RL G.X B3 L s.heap m O vs ws ->
  ∀⦃Q:BA⦄ ⦃E:BA⦄,yy G B3 L m s vs ws k Q->wpAny (model G.prog G.w) A t Q E s
def O1(G:Gam)(A:Around)(B3:Heap)(L:Addr)(f:Value->Sem Value)(W:PV->PS->KE->Prop):Prop:=
 ∀⦃O:PS⦄ ⦃k:KE⦄ ⦃m:BB⦄ ⦃s:Shared⦄ ⦃vs:List PV⦄ ⦃ws:List Value⦄ ⦃a:PV⦄ ⦃wa:Value⦄,W a O k->Fr B3 L s.heap m->RL G.X B3 L s.heap m O (a::vs) (wa::ws) ->
  ∀⦃Q:BA⦄ ⦃E:BA⦄,yy G B3 L m s vs ws k Q->wpAny (model G.prog G.w) A (f wa) Q E s
def O2(G:Gam)(A:Around)(B3:Heap)(L:Addr)(f:Value->Value->Sem Value)(W:PV->PV->PS->KE->Prop):Prop:=
 ∀⦃O:PS⦄ ⦃k:KE⦄ ⦃m:BB⦄ ⦃s:Shared⦄ ⦃vs:List PV⦄ ⦃ws:List Value⦄ ⦃a b:PV⦄ ⦃wa wb:Value⦄,W a b O k->Fr B3 L s.heap m->RL G.X B3 L s.heap m O (b::a::vs) (wb::wa::ws) ->
  ∀⦃Q:BA⦄ ⦃E:BA⦄,yy G B3 L m s vs ws k Q->wpAny (model G.prog G.w) A (f wa wb) Q E s
section
variable {A:Around}{m:BB}{vs:List PV}{E:BA}
theorem RL.top1{v:PV}{w:Value}(r:RL G.X B3 L h m O (v::vs) (w::ws)):∃ρ led frz,RW G.X B3 L h m O (v::vs) (w::ws) ρ led frz/\VR ρ frz v w:=by
 refine byc fun Ea=>?_
 refine zh r fun ρ led frz q=>?_
 refine zv q.stk.cons_inv fun Z Z e a Z=>?_
 refine Ea ?_
 cases e
 exact(QK ρ led frz q a)
theorem RL.int{i:Int}{w:Value}(r:RL G.X B3 L h m O (.int i::vs) (w::ws)):∃t,w=.int i t:=by
 refine jf r.top1 fun Z Z Z Z a=>?_
 exact a
theorem RL.bool{b:Bool}{w:Value}(r:RL G.X B3 L h m O (.bool b::vs) (w::ws)):w=.bool b:=by
 refine jf r.top1 fun Z Z Z Z a=>?_
 exact a
theorem RL.none{w:Value}(r:RL G.X B3 L h m O (.none::vs) (w::ws)):w=.none:=by
 refine jf r.top1 fun Z Z Z Z a=>?_
 exact a
theorem RL.str{x:Str}{w:Value}(r:RL G.X B3 L h m O (.str x::vs) (w::ws)):∃t,w=.str x t:=by
 refine jf r.top1 fun Z Z Z Z a=>?_
 exact a
theorem RL.top{a:Addr}{w:Value}(r:RL G.X B3 L h m O (.top a::vs) (w::ws)):w=.ref a:=by
 refine jf r.top1 fun Z Z Z Z a=>?_
 exact a
theorem yy.push{k:KE}(hq:yy G B3 L m s vs ws k Q){v:PV}{w:Value}{n:Nat}(F:Fr B3 L s.heap m)(R:RL G.X B3 L s.heap m O vs ws)(hv:∀ρ frz,VR ρ frz v w)(hk:k v O):Q w { s with toks:=n }:=
 hq v O m w _ hk SR.mk' F (R.push hv)
theorem jz(i:Int)(t:Tok)(ρ:List Addr)(frz:BD):VR ρ frz (.int i) (.int i t):=by show Exists _;exact⟨t,rfl⟩
theorem Uh(b:Bool)(ρ:List Addr)(frz:BD):VR ρ frz (.bool b) (.bool b):=rfl
theorem K0(ρ:List Addr)(frz:BD):VR ρ frz .none .none:=rfl
theorem t4(x:Str)(t:Tok)(ρ:List Addr)(frz:BD):VR ρ frz (.str x) (.str x t):=by show Exists _;exact⟨t,rfl⟩
theorem ZT(a:Addr)(ρ:List Addr)(frz:BD):VR ρ frz (.top a) (.ref a):=rfl
theorem WA{i:Int}{kd:Nat}:ES G A B3 L (eval (.Constant (.int i) kd pos) env) (fun O k=>k (.int i) O):=by
 intro O k m s vs ws h F R Q E hq;exact wpAny_Constant_int (hq.push F R (jz i _) h)
theorem aa{kd:Nat}:ES G A B3 L (eval (.Constant .none kd pos) env) (fun O k=>k .none O):=by
 intro O k m s vs ws h F R Q E hq;exact wpAny_pure (hq .none O m .none s h (SR.refl _ _) F (R.push K0))
theorem Z8{b:Bool}{kd:Nat}:ES G A B3 L (eval (.Constant (.bool b) kd pos) env) (fun O k=>k (.bool b) O):=by
 intro O k m s vs ws h F R Q E hq;exact wpAny_pure (hq _ O m _ s h (SR.refl _ _) F (R.push (Uh b)))
theorem oV{x:Str}{kd:Nat}:ES G A B3 L (eval (.Constant (.str x) kd pos) env) (fun O k=>k (.str x) O):=by
 intro O k m s vs ws h F R Q E hq;exact fun Z Z Z=>hq.push (n:=s.toks+1) F R (t4 x s.toks) h
def jS(x:Nat)(O:PS)(k:KE):Prop:=opt (lk x O.loc) fun v=>k v O
theorem WB(V:EnvF env L)(hl:env.kindOf (G.X.nm x)=some .local)(hd:(G.X.nm x==("__debug__" : Str))=false):
  ES G A B3 L (eval (.Name (G.X.nm x) pos) env) (jS x):=by
 intro O k m s vs ws h F R Q E hq;refine byc fun Ea=>?_
 refine zc (zG h) fun v e h=>?_
 refine zc (R.local e) fun w hm R'=>?_
 refine Ea ?_;exact ldE V F hm (hq v O m w s h (SR.refl _ _) F R') hl hd
theorem oX{b:Addr}{d:Nat}(D:Act G outer B3 env' A d)(V:EnvG env)
  (hx:env.kindOf (G.X.nm x)=some .globalImplicit) (hd:(G.X.nm x==("__debug__" : Str))=false) (e:nsIn G.K mainGlobals (G.X.nm x)=some (some (.ref b))) :
  ES G A B3 L (eval (.Name (G.X.nm x) pos) env) (fun O k=>k (.top b) O):=by
 intro O k m s vs ws h F R Q E hq;exact xZ V F (topRead_of D.T).g (mg_of D.Kin (topRead_of D.T).g e) (hq _ O m _ s h (SR.refl _ _) F (R.push (ZT b))) hx hd
theorem JS{l r:Expr}{op:Operator}{Wo:PV->PV->PS->KE->Prop}(hl:ES G A B3 L (eval l env) Wl)(hr:ES G A B3 L (eval r env) Wr)(ho:O2 G A B3 L (binaryOp op) Wo):
  ES G A B3 L (eval (.BinOp l op r pos) env) (fun O k=>Wl O fun a B4=>Wr B4 fun b B6=>Wo a b B6 k):=by
 intro O k m s vs ws h F R Q E hq;exact wpAny_BinOp (hl h F R fun a B4 C3 wa B7 B5 B8 C2 C1=>hr B5 C2 C1 fun b B6 C6 wb B9 C5 C4 C9 D0=>ho C5 C9 D0 fun v C7 E5 wv D8 D1 D7 D9 D6=>hq v C7 E5 wv D8 D1 ((B8.trans C4).trans D7) D9 D6)
theorem nj{e:Expr}{op:UnaryOp}{W:PS->KE->Prop}{Wo:PV->PS->KE->Prop}(he:ES G A B3 L (eval e env) W)(ho:O1 G A B3 L (unaryOp op) Wo):
  ES G A B3 L (eval (.UnaryOp op e pos) env) (fun O k=>W O fun a B4=>Wo a B4 k):=by
 intro O k m s vs ws h F R Q E hq;exact wpAny_UnaryOp (he h F R fun a B4 C3 wa B7 B5 B8 C2 C1=>ho B5 C2 C1 fun v C7 E5 wv D8 D1 D7 D9 D6=>hq v C7 E5 wv D8 D1 (B8.trans D7) D9 D6)
theorem oO{l r:Expr}{op:CmpOp}{Wo:PV->PV->PS->KE->Prop}(hl:ES G A B3 L (eval l env) Wl)(hr:ES G A B3 L (eval r env) Wr)(ho:O2 G A B3 L (compareOp op) Wo)(hm:behindInMarks op r=false):
  ES G A B3 L (eval (.Compare l [op] [r] pos) env) (fun O k=>Wl O fun a B4=>Wr B4 fun b B6=>Wo a b B6 k):=by
 intro O k m s vs ws h F R Q E hq;exact wpAny_Compare1 (hl h F R fun a B4 C3 wa B7 B5 B8 C2 C1=>hr B5 C2 C1 fun b B6 C6 wb B9 C5 C4 C9 D0=>ho C5 C9 D0 fun v C7 E5 wv D8 D1 D7 D9 D6=>hq v C7 E5 wv D8 D1 ((B8.trans C4).trans D7) D9 D6) hm
def unW(op:UnaryOp)(a:PV)(O:PS)(k:KE):Prop:=y4 a fun x=>match op with
 | .USub=>k (.int (X9 x)) O
 | .Invert=>k (.int (yg x)) O
 | _=>False
theorem vX{op:UnaryOp}:O1 G A B3 L (unaryOp op) (unW op):=by
 intro O k m s vs ws a wa h F R Q E hq;refine zc (jl h) fun x Dm h=>?_;subst Dm
 refine zV R.int fun t Cd=>?_;subst Cd
 induction op with
 | USub=>exact PyProof.Rows.neg_int (hq.push F R.pop (jz _ _) (WJ x▸h))
 | Invert=>exact invert_int (hq.push F R.pop (jz _ _) (qm x▸h))
 | _=>exact False.elim h
structure AttrOk(G:Gam)(x:Nat):Prop where
 pg:plainGet G.K G.X.C (G.X.nm x)=true
 hd:hasDictIn G.K G.X.C=true
 fi:findIn G.K (.ref G.X.C) (G.X.nm x)=some none
 sa:findIn G.K (.ref G.X.C) "__setattr__" = some (some (.builtin "object.__setattr__"))
 po:plainOver G.K G.X.C=true
 tk:takerIn G.K G.X.C (G.X.nm x)=some none
structure InstF(G:Gam)(B3:Heap)(L:Addr)(h:Heap)(m:BB)(O:PS)(vs:List PV)(ws:List Value)(i:Nat)(fs:List (Nat×PV))(x dx:Addr)(es:List DictEntry)(n:Nat)(ρ:List Addr)(pre post frz:BD):Prop where
 rw:RW G.X B3 L h m O vs ws ρ (pre++(x,instObj G.X.C dx)::(dx,dictOf es n)::post) frz
 fr:FR G.X.nm ρ frz fs es
 put:∀(fs':List (Nat×PV)) (es':List DictEntry) (n':Nat),FR G.X.nm ρ frz fs' es'->HR G.X ρ frz (O.hp.set i (.inst fs')) ρ (pre++(x,instObj G.X.C dx)::(dx,dictOf es' n')::post)
 at_:InstAt h x (instObj G.X.C dx) G.X.C (some (dictOf es n))
 idx:ρ[i]?=some x
theorem RL.inst{fs:List (Nat×PV)}(R:RL G.X B3 L h m O vs ws)(e:O.hp[i]?=some (.inst fs)):∃x dx es n ρ pre post frz,InstF G B3 L h m O vs ws i fs x dx es n ρ pre post frz:=by
 refine byc fun Ea=>?_
 refine zh R fun ρ led frz q=>?_
 refine zh (q.hr.at_inst e) fun a d es Ee=>Jq Ee fun n pre post e1 e2 e3 e4=>?_
 refine Ea ?_;subst e2;exact(zk a d es (zk n ρ pre (Kc post frz ⟨q,e3,e4,InstAt.of_news q.news (by simp) (by simp),e1⟩)))
theorem RL.instTop{fs:List (Nat×PV)}{w:Value}(R:RL G.X B3 L h m O (.ref i::vs) (w::ws))(e:O.hp[i]?=some (.inst fs)):∃x dx es n ρ pre post frz,InstF G B3 L h m O (.ref i::vs) (w::ws) i fs x dx es n ρ pre post frz/\w=.ref x:=by
 refine zh (R.inst e) fun x dx es Ee=>zh Ee fun n ρ pre Ee=>JK Ee fun post frz I=>?_
 refine(zk x dx es (zk n ρ pre (yA post frz I ?_)));refine zv I.rw.stk.cons_inv fun Z Z e' a Z=>?_
 cases e'
 refine zc a fun b hb Cd=>?_;subst Cd
 rw[I.idx] at hb
 cases hb;rfl
def QC(x:Nat)(a:PV)(O:PS)(k:KE):Prop:=VF a O fun Z fs=>opt (lk x fs) fun v=>k v O
theorem Xr{d:Nat}(D:Act G outer B3 env A d)(ok:AttrOk G x):O1 G A B3 L (fun o=>getAttr o (G.X.nm x) expr) (QC x):=by
 intro O k m s vs ws a wa h F R Q E hq;obtain⟨i,fs,rfl,e,h⟩:=Jj h;refine byc fun Ea=>?_
 obtain⟨v,ev,h⟩:=zG h;refine Ea ?_;obtain⟨x',dx,es,n,ρ,pre,post,frz,I,rfl⟩:=R.instTop e;refine byc fun Ef=>?_
 obtain⟨w',gw,hw⟩:=(I.fr.get G.X.inj).1 v ev;obtain⟨_,_,e',_,tl⟩:=I.rw.stk.cons_inv;refine Ef ?_
 cases e'
 exact get_own F D.Kin I.at_ ok.pg ok.hd ok.fi rfl gw hw.handed (hq v O m w' _ h SR.mk' F (zk ρ _ frz ⟨I.rw.hr,I.rw.all,I.rw.nd,I.rw.off,I.rw.offp,I.rw.kept,I.rw.loc,VRs.cons hw tl⟩))
structure ConstOk(G:Gam)(x:Nat)(v:PV)(c:Value):Prop where
 pg:plainGet G.K G.X.C (G.X.nm x)=true
 hd:hasDictIn G.K G.X.C=true
 fi:findIn G.K (.ref G.X.C) (G.X.nm x)=some (some c)
 ng:specialIn G.K c "__get__" = some none
 hh:handedIn c=true
 cp:copiedNames.contains (G.X.nm x)=false
 vr:∀ρ frz,VR ρ frz v c
def Uw(x:Nat)(v:PV)(a:PV)(O:PS)(k:KE):Prop:=VF a O fun Z fs=>cond (Ql (lk x fs)) (k v O) False
theorem Xs{v:PV}{c:Value}{d:Nat}(D:Act G outer B3 env A d)(ok:ConstOk G x v c):O1 G A B3 L (fun o=>getAttr o (G.X.nm x) expr) (Uw x v):=by
 intro O k m s vs ws a wa h F R Q E hq;obtain⟨i,fs,rfl,e,h⟩:=Jj h;obtain⟨ev,h⟩:=fU h;obtain⟨x',dx,es,n,ρ,pre,post,frz,I,rfl⟩:=R.instTop e;have gw:=(I.fr.get G.X.inj).2 ev;exact get_cls F D.Kin I.at_ ok.pg ok.hd ok.fi ok.ng ok.hh ok.cp gw (hq v O m c _ h SR.mk' F (R.pop.push ok.vr))
structure MethOk(G:Gam)(x:Nat)(f:Addr):Prop where
 pg:plainGet G.K G.X.C (G.X.nm x)=true
 hd:hasDictIn G.K G.X.C=true
 fi:findIn G.K (.ref G.X.C) (G.X.nm x)=some (some (.ref f))
 fn:isFn G.K (.ref f)=true
 gf:specialIn G.K (.ref f) "__get__" = some (some (.builtin "function.__get__"))
 tk:takesIn G.K (.ref f)=some false
 cp:copiedNames.contains (G.X.nm x)=false
 ki:keepIn G.K (.ref f)=true
 fk:fnIn G.K f=true
def c5(x:Nat)(f:Addr)(a:PV)(O:PS)(k:KE):Prop:=VF a O fun i fs=>cond (Ql (lk x fs)) (k (.bound (.ref i) f) O) False
theorem ly{d:Nat}(D:Act G outer B3 env A d)(ok:MethOk G x f):O1 G A B3 L (fun o=>getAttr o (G.X.nm x) expr) (c5 x f):=by
 intro O k m s vs ws a wa h F R Q E hq;obtain⟨i,fs,rfl,e,h⟩:=Jj h;obtain⟨ev,h⟩:=fU h;obtain⟨x',dx,es,n,ρ,pre,post,frz,I,rfl⟩:=R.instTop e;have gw:=(I.fr.get G.X.inj).2 ev;refine kbm_bound F D.Kin I.rw.all I.at_ ok.pg ok.hd ok.fi ok.fn ok.gf ok.tk ok.cp gw fun q h' F' N' lt=>?_
 have W:=I.rw.freeze N' (fun p hp=>Ca (lt p hp))
 obtain⟨_,_,e',hv,tl⟩:=W.stk.cons_inv
 cases e'
 refine hq (.bound (.ref i) f) O m (.ref q) _ h SR.mk' F' (zk ρ _ _ ⟨W.hr,W.all,W.nd,W.off,W.offp,W.kept,W.loc,VRs.cons ?_ tl⟩);show Exists _;exact(jx q (.ref x') rfl (.head _) ⟨x',I.idx,rfl⟩)
theorem Q5{id:Str}{W:PS->KE->Prop}{Wo:PV->PS->KE->Prop}(he:ES G A B3 L (eval (.Name id T2) env) W)(ho:O1 G A B3 L (fun o=>getAttr o (G.X.nm x) true) Wo):
  ES G A B3 L (eval (.Attribute (.Name id T2) (G.X.nm x) pos) env) (fun O k=>W O fun a B4=>Wo a B4 k):=by
 intro O k m s vs ws h F R Q E hq;exact Attribute_Name_ (he h F R fun a B4 C3 wa B7 B5 B8 C2 C1=>ho B5 C2 C1 fun v C7 E5 wv D8 D1 D7 D9 D6=>hq v C7 E5 wv D8 D1 (B8.trans D7) D9 D6)
end
theorem bl{d:Addr}{o o':Obj}:∀{pre post:BD},(∀p∈pre,p.1≠d)->(∀p∈post,p.1≠d)->Upd d o o' (pre++(d,o)::post) (pre++(d,o')::post)
 | [],_,_,h2=>.head h2
 | p::pre,_,h1,h2=>.tail (h1 p (.head _)) (bl (fun q hq=>h1 q (.tail _ hq)) h2)
theorem Qq{α:Type}{a:α}:∀{pre post:List α},(pre++a::post).Nodup->(∀p∈pre,p≠a) /\ ∀p∈post,p≠a
 | [],post,h=>⟨fun Z hp=>(nomatch hp),fun p hp e=>(List.nodup_cons.mp h).1 (e▸hp)⟩
 | b::pre,post,h=>by
  have h':=List.nodup_cons.mp (show(b::(pre++a::post)).Nodup from h)
  obtain⟨x,y⟩:=Qq h'.2
  refine⟨fun p hp=>?_,y⟩
  cases hp with
  | head=>exact fun e=>h'.1 (e▸by simp)
  | tail _ hp=>exact x p hp
theorem RW.swap{X:Cx}{m:BB}{vs:List PV}{led' frz:BD}(q:RW X B3 L h m O vs ws ρ led frz)(e:led'.map (·.1)=led.map (·.1)){hp':List PO}
  (hr:HR X ρ frz hp' ρ led') (N:News B3 L h' ((led'++frz)++X.ps)):RW X B3 L h' m ⟨O.loc,hp'⟩ vs ws ρ led' frz:=by
 have key:∀y∈led',∃z∈led,z.1=y.1:=fun y hy=>by
  have:y.1∈led.map (·.1):=e▸Cj hy
  refine zc (List.mem_map.mp this) fun z hz e=>?_
  exact(zA z hz e)
 refine⟨hr,N,e▸q.nd,fun p hp y hy=>?_,fun p hp y hy=>?_,q.kept,q.loc,q.stk⟩
 ·refine zc (key y hy) fun z hz e=>?_
  rw[<- e];exact q.off p hp z hz
 ·rcases List.mem_append.mp hy with hy | hy
  ·refine zc (key y hy) fun z hz e=>?_
   rw[<- e];exact q.offp p hp z (Bn _ hz)
  ·exact q.offp p hp y (Bo _ hy)
theorem RW.upd{X:Cx}{m:BB}{vs:List PV}{frz:BD}{d:Addr}{o:Obj}(q:RW X B3 L h m O vs ws ρ (pre++(d,o)::post) frz)(o':Obj):
  Upd d o o' (((pre++(d,o)::post)++frz)++X.ps) (((pre++(d,o')::post)++frz)++X.ps):=by
 have nd:=q.nd;rw[Da,Dh] at nd;obtain⟨n1,n2⟩:=Qq nd
 have:=bl (o:=o) (o':=o') (d:=d) (pre:=pre) (post:=post++(frz++X.ps))
  (fun p hp=>n1 p.1 (Cj hp))
  (fun p hp=>by
   rcases List.mem_append.mp hp with h1 | h1
   ·exact n2 p.1 (Cj h1)
   ·rcases List.mem_append.mp h1 with h1 | h1
    ·exact q.off p h1 (d,o) (by simp)
    ·exact q.offp p h1 (d,o) (Bn _ (by simp)))
 simpa using this
inductive PF where
 | next
 | brk
 | ret (v:PV)
noncomputable abbrev KF:=PF->PS->Prop
section
variable {A:Around}{m:BB}{vs:List PV}{E:BA}
structure FCont(G:Gam)(B3:Heap)(L:Addr)(s:Shared)(vs:List PV)(ws:List Value)(k:KF)(Q:Flow->Shared->Prop):Prop where
 next:∀σ' m' s',k .next σ'->zr s s'->Fr B3 L s'.heap m'->RL G.X B3 L s'.heap m' σ' vs ws->Q .next s'
 brk:∀σ' m' s',k .brk σ'->zr s s'->Fr B3 L s'.heap m'->RL G.X B3 L s'.heap m' σ' vs ws->Q .brk s'
 ret:∀v w' σ' m' s',k (.ret v) σ'->zr s s'->Fr B3 L s'.heap m'->RL G.X B3 L s'.heap m' σ' (v::vs) (w'::ws)->Q (.ret w') s'
def SS(G:Gam)(A:Around)(B3:Heap)(L:Addr)(t:Sem Flow)(W:PS->KF->Prop):Prop:=
 ∀⦃O:PS⦄ ⦃k:KF⦄ ⦃m:BB⦄ ⦃s:Shared⦄ ⦃vs:List PV⦄ ⦃ws:List Value⦄,W O k->Fr B3 L s.heap m->RL G.X B3 L s.heap m O vs ws ->
  ∀⦃Q:Flow->Shared->Prop⦄ ⦃E:BA⦄,FCont G B3 L s vs ws k Q->wpAny (model G.prog G.w) A t Q E s
theorem FCont.after{k:KF}{Q:Flow->Shared->Prop}(c:FCont G B3 L s vs ws k Q)(r:zr s s'):FCont G B3 L s' vs ws k Q:=
 ⟨fun a b d e f=>c.next a b d e (r.trans f),fun a b d e f=>c.brk a b d e (r.trans f),fun a b d e x y f=>c.ret a b d e x y (r.trans f)⟩
def YR(x:Nat)(a v:PV)(O:PS)(k:PS->Prop):Prop:=VF a O fun i fs=>cond (Nat.ble fs.length 900) (stC x v fs fun fs'=>O.siC i (.inst fs') k) False
theorem f6{a v:PV}{k:PS->Prop}{d:Nat}{Q:Unit->Shared->Prop}(D:Act G outer B3 env A d)(ok:AttrOk G x)(h:YR x a v O k)(F:Fr B3 L s.heap m)
  (R:RL G.X B3 L s.heap m O (a::v::vs) (wa::wv::ws)) (hq:∀σ' s',k σ'->zr s s'->Fr B3 L s'.heap m->RL G.X B3 L s'.heap m σ' (a::v::vs) (wa::wv::ws)->Q () s') :
  wpAny (model G.prog G.w) A (setAttr wa (G.X.nm x) wv) Q E s:=by
 obtain⟨i,fs,rfl,e,h⟩:=Jj h;obtain⟨hb,h⟩:=zW h;replace h:=j6.mp (Ue.mp h);have hlen:=Bs hb;obtain⟨x',dx,es,n,ρ,pre,post,frz,I,rfl⟩:=R.instTop e;refine byc fun Ea=>?_
 obtain⟨_,_,e1,_,tl⟩:=I.rw.stk.cons_inv;refine Ea ?_
 cases e1
 refine byc fun Ef=>?_
 obtain⟨_,_,e2,hv,_⟩:=tl.cons_inv;refine Ef ?_
 cases e2
 have hfr:=FR.put (k:=x) (v:=v) G.X.inj hv (PyData.keyHash G.w.params (G.X.nm x)) (s.toks+1) I.fr;have e0:pre++(x',instObj G.X.C dx)::(dx,dictOf es n)::post=(pre ++ [(x',instObj G.X.C dx)])++(dx,dictOf es n)::post:=by simp
 have W:=I.rw;rw[e0] at W;refine set_dict F D.Kin W.all I.at_ rfl ok.sa ok.po ok.tk ok.hd ?_ rfl (W.upd _) ?_ fun h' F' N'=>hq _ _ h zr.mk' F' (zk ρ _ frz (W.swap (by simp) ?_ N'))
 ·obtain⟨g1,g2⟩:=I.fr.get (k:=x) G.X.inj
  cases q:lk x fs with
  | none=>rw[g2 q];rfl
  | some u=>obtain⟨w',gw,_⟩:=g1 u q;rw[gw];rfl
 ·have:=hfr.length
  have:=VX (k:=x) (v:=v) (l:=fs)
  lia
 ·have:=I.put _ _ (putN (G.X.nm x) es n) hfr
  simpa using this
noncomputable def KI:Expr->Bool
 | .Slice ..=>false
 | _=>true
theorem KZ(hs:KI slice=true)(o i:Value):subscripted slice false o i=operate [o,i] (getItem o i):=by
 cases slice<;>first | rfl | cases hs
structure ListF(G:Gam)(B3:Heap)(L:Addr)(h:Heap)(m:BB)(O:PS)(vs:List PV)(ws:List Value)(i:Nat)(xs:List Int)(x:Addr)(items:List Value)(n:Nat)(ρ:List Addr)(pre post frz:BD):Prop where
 rw:RW G.X B3 L h m O vs ws ρ (pre++(x,listOf items.toArray n)::post) frz
 vals:IntsAre items xs
 put:∀(xs':List Int) (S9:List Value) (n':Nat),IntsAre S9 xs'->HR G.X ρ frz (O.hp.set i (.il xs')) ρ (pre++(x,listOf S9.toArray n')::post)
 idx:ρ[i]?=some x
theorem RL.list{xs:List Int}(R:RL G.X B3 L h m O vs ws)(e:O.hp[i]?=some (.il xs)):∃x items n ρ pre post frz,ListF G B3 L h m O vs ws i xs x items n ρ pre post frz:=by
 refine byc fun Ea=>?_
 refine zh R fun ρ led frz q=>?_
 refine zh (q.hr.at_il e) fun a items n Ee=>q7 Ee fun pre post e1 e2 e3 e4=>?_
 refine Ea ?_;subst e2;exact(zk a items n (zk ρ pre post (eJ frz ⟨q,e3,e4,e1⟩)))
theorem RW.ref{frz:BD}{x:Addr}{w:Value}(r:RW G.X B3 L h m O (.ref i::vs) (w::ws) ρ led frz)(e:ρ[i]?=some x):w=.ref x:=by
 refine zv r.stk.cons_inv fun Z Z e' a Z=>?_
 cases e'
 refine zc a fun b hb Cd=>?_;subst Cd
 rw[e] at hb
 cases hb;rfl
theorem aJ(p q:List α)(x:α):x∈p++x::q:=Bo _ (.head _)
noncomputable def Jb(O:PS):PV->Option (List Int)
 | .il xs=>some xs
 | .ref j=>ilP O.hp[j]?
 | _=>none
theorem jF{x:Addr}{items:List Value}{n:Nat}{l:BD}(N:News B3 L h l)(hm:(x,listOf items.toArray n)∈l):h.IsList x items.toArray:=⟨_,(N _ hm).1,rfl,n,rfl⟩
structure IntsF(G:Gam)(B3:Heap)(L:Addr)(h:Heap)(m:BB)(O:PS)(vs:List PV)(ws:List Value)(xs:List Int)(x:Addr)(items:List Value)(n:Nat)(ρ:List Addr)(led frz:BD):Prop where
 rw:RW G.X B3 L h m O vs ws ρ led frz
 mem:(x,listOf items.toArray n)∈led++frz
 vals:IntsAre items xs
theorem RL.ints{a:PV}{xs:List Int}(R:RL G.X B3 L h m O (a::vs) (wa::ws))(e:Jb O a=some xs):∃x items n ρ led frz,IntsF G B3 L h m O (a::vs) (wa::ws) xs x items n ρ led frz/\wa=.ref x:=by
 cases a with
 | il ys =>
  cases e
  refine byc fun Ea=>?_
  refine jf R.top1 fun ρ led frz q hv=>?_
  refine Ea ?_;refine qJ hv fun b items n Cd hm hi=>?_;subst Cd
  exact(zk b items n (QK ρ led frz ⟨q,Bo _ hm,hi⟩ rfl))
 | ref j =>
  refine byc fun Ef=>?_
  refine zh (R.list (eK e)) fun y items n Ee=>zh Ee fun ρ pre post Ee=>zV Ee fun frz I=>?_
  refine Ef ?_;obtain rfl:=I.rw.ref I.idx;exact(zk y items n (QK ρ _ frz ⟨I.rw,Bn _ (aJ _ _ _),I.vals⟩ rfl))
 | _=>cases e
theorem IntsF.isList{xs:List Int}{x:Addr}{items:List Value}{n:Nat}{frz:BD}(I:IntsF G B3 L h m O vs ws xs x items n ρ led frz):h.IsList x items.toArray:=jF I.rw.news I.mem
theorem IntsF.at_{xs:List Int}{x:Addr}{items:List Value}{n:Nat}{frz:BD}(I:IntsF G B3 L h m O vs ws xs x items n ρ led frz):h.get? x=some (listOf items.toArray n):=(I.rw.news _ I.mem).1
theorem RW.pop{v:PV}{w:Value}{frz:BD}(q:RW G.X B3 L h m O (v::vs) (w::ws) ρ led frz):RW G.X B3 L h m O vs ws ρ led frz:=by
 refine byc fun Ea=>?_
 refine zv q.stk.cons_inv fun Z Z e Z b=>?_
 refine Ea ?_
 cases e
 exact⟨q.hr,q.all,q.nd,q.off,q.offp,q.kept,q.loc,b⟩
def xe(tab:Addr->List PV)(a i:PV)(O:PS)(k:KE):Prop:=y4 i fun x=>match a with
 | .tup us=>(0<=x/\x<2 ^ 63)/\opt us[x.toNat]? fun v=>k v O
 | .ls us=>(0<=x/\x<2 ^ 63)/\opt us[x.toNat]? fun v=>k v O
 | .top b=>(0<=x/\x<2 ^ 63)/\opt (tab b)[x.toNat]? fun v=>k v O
 | a=>opt (Jb O a) fun xs=>(0<=x/\x<xs.length/\x<2 ^ 63)/\k (.int (xs.getD x.toNat 0)) O
def Z0(G:Gam)(tab:Addr->List PV):Prop:=∀b,tab b ≠ []->∃(l:List Value) (n:Nat),(G.K.lookup b=some (listOf l.toArray n)∨G.K.lookup b=some (qx l n)) /\ ∀ρ frz,VRs ρ frz (tab b) l
theorem gD{x:Int}{n:Nat}(h0:0<=x)(h:x.toNat<n):seqIndex? x n=some x.toNat:=by
 have hlt:x<(n:Int):=by lia
 unfold seqIndex?;simp[show ¬ x<0 by lia,h0,hlt]
theorem vU{d:Nat}(D:Act G outer B3 env A d)(ht:Z0 G tab)(hs:KI slice=true):O2 G A B3 L (subscriptTail value slice) (xe tab):=by
 intro O k m s vs ws a i wa wi h F R Q E hq;have hsl:=KZ hs;refine zc (jl h) fun x eZ7 h=>?_;subst eZ7
 refine zV R.int fun t Eg=>?_;subst Eg
 have R1:=R.pop
 cases ea:Jb O a with
 | some xs =>
  have h:opt (Jb O a) fun xs=>(0<=x/\x<xs.length/\x<2 ^ 63)/\k (.int (xs.getD x.toNat 0)) O:=by cases a<;>first | exact h | cases ea
  refine byc fun Ea=>?_
  refine yb (zG h) fun ys ey Eh h=>?_;obtain⟨h0,h1,h2⟩:=Eh
  refine Ea ?_;refine zh (R1.ints ey) fun y items n Ee=>jf Ee fun ρ led frz I Ej=>?_;subst Ej
  exact ksa_sub (n:=n) I.rw.news I.mem I.vals h0 h1 h2 (fun t=>hq _ O m _ s h (SR.refl _ _) F (R1.pop.push (jz _ t))) (hsl _ _)
 | none =>
  cases a with
  | top b =>
   obtain rfl:=R1.top;refine byc fun Ef=>?_
   refine zd h fun Ek h=>?_;obtain⟨h0,h1⟩:=Ek
   refine zc (zG h) fun v ev h=>?_
   have hne:tab b ≠ []:=fun e=>by rw[e] at ev;cases ev
   refine jj (ht b hne) fun l n e1 e2=>?_
   refine zc ((e2 [] []).get ev) fun w' gw Z=>?_
   refine Ef ?_;have fin:Q w' s:=hq v O m w' s h (SR.refl _ _) F (R1.pop.push fun ρ frz=>by
    refine byc fun El=>?_
    refine zc ((e2 ρ frz).get ev) fun w'' gw' hv=>?_
    refine El ?_;rw[gw] at gw';cases gw';exact hv)
   rcases e1 with e1 | e1
   ·exact topList_K F D.Kin e1 h0 h1 gw fin (hsl _ _)
   ·exact item_tupleT (l:=l) (j:=x.toNat) (kun_topT F D.Kin e1) (Dp (by decide) h0) h1 (gD h0 (List.getElem?_eq_some_iff.mp gw).1) gw fin (hsl _ _)
  | tup us =>
   refine byc fun Em=>?_
   refine zd h fun Dm h=>?_;obtain⟨h0,h1⟩:=Dm
   refine zc (zG h) fun v ev h=>?_
   refine jf R1.top1 fun ρ led frz q hv=>?_
   refine Em ?_;obtain⟨b,items,n,rfl,hm,hv⟩:=hv;refine byc fun hN5=>?_
   obtain⟨w',gw,hw⟩:=hv.get ev;have q1:=q.pop;refine hN5 ?_;exact item_tupleT (l:=items) (j:=x.toNat) (yh _ ((q.news _ (Bo _ hm)).1) rfl ⟨n,rfl⟩) (Dp (by decide) h0) h1 (gD h0 (List.getElem?_eq_some_iff.mp gw).1) gw (hq v O m w' s h (SR.refl _ _) F (zk ρ led frz ⟨q1.hr,q1.all,q1.nd,q1.off,q1.offp,q1.kept,q1.loc,VRs.cons hw q1.stk⟩)) (hsl _ _)
  | ls us =>
   refine byc fun hN6=>?_
   refine zd h fun Cd h=>?_;obtain⟨h0,h1⟩:=Cd
   refine zc (zG h) fun v ev h=>?_
   refine jf R1.top1 fun ρ led frz q hv=>?_
   refine hN6 ?_;obtain⟨b,items,n,rfl,hm,hv⟩:=hv;refine byc fun hN7=>?_
   obtain⟨w',gw,hw⟩:=hv.get ev;have q1:=q.pop;refine hN7 ?_;have hl:s.heap.IsList b items.toArray:=(yh _ ((q.news _ (Bo _ hm)).1) rfl ⟨n,rfl⟩);exact tail_any hl.typeIs slot_list_getitem.lookup (wpAny_getItem_list hl (Dp (by decide) h0) h1 (x:=w') (by simpa using gw) (hq v O m w' s h (SR.refl _ _) F (zk ρ led frz ⟨q1.hr,q1.all,q1.nd,q1.off,q1.offp,q1.kept,q1.loc,VRs.cons hw q1.stk⟩))) (hsl _ _)
  | il ys=>cases ea
  | ref j =>
   refine byc fun hN8=>?_
   refine zc (zG (x:=ilP O.hp[j]?) h) fun ys ey Z=>?_
   refine hN8 ?_
   cases ey.symm.trans (show ilP O.hp[j]?=none from ea)
  | _=>exact False.elim h
theorem oW{Wo:PV->PV->PS->KE->Prop}(hl:ES G A B3 L (eval value env) Wl)(hr:ES G A B3 L (eval slice env) Wr)(ho:O2 G A B3 L (subscriptTail value slice) Wo):
  ES G A B3 L (eval (.Subscript value slice pos) env) (fun O k=>Wl O fun a B4=>Wr B4 fun b B6=>Wo a b B6 k):=by
 intro O k m s vs ws h F R Q E hq;exact Subscript_ (hl h F R fun a B4 C3 wa B7 B5 B8 C2 C1=>hr B5 C2 C1 fun b B6 C6 wb B9 C5 C4 C9 D0=>ho C5 C9 D0 fun v C7 E5 wv D8 D1 D7 D9 D6=>hq v C7 E5 wv D8 D1 ((B8.trans C4).trans D7) D9 D6)
def sQ(o:Option PO)(x:Int)(v:PV)(k:PO->Prop):Prop:=match o with
 | some (.il xs)=>y4 v fun y=>(0<=x/\x<xs.length/\x<2 ^ 63)/\k (.il (xs.set x.toNat y))
 | some (.ls us)=>(0<=x/\x<us.length/\x<2 ^ 63)/\k (.ls (us.set x.toNat v))
 | _=>False
theorem VRs.set{ρ:List Addr}{frz:BD}{v:PV}{w:Value}(hv:VR ρ frz v w):∀{us:List PV} {xs:List Value} (i:Nat),VRs ρ frz us xs->VRs ρ frz (us.set i v) (xs.set i w)
 | [],_,_,h=>by cases h;exact VRs.nil
 | u::us,_,0,h=>by refine zv h.cons_inv fun a r Dm x y=>?_;subst Dm;exact VRs.cons hv y
 | u::us,_,i+1,h=>by refine zv h.cons_inv fun a r Cd x y=>?_;subst Cd;exact VRs.cons x (VRs.set hv i y)
theorem lR{o:Option PO}{x:Int}{v:PV}{k:PO->Prop}(h:sQ o x v k):∃p o',o=some p/\k o'/\0<=x/\x<2 ^ 63 /\ ∀{X:Cx} {ρ:List Addr} {frz mid:BD} {a:Addr} {w:Value},OR X ρ frz p a mid->VR ρ frz v w ->
  ∃(items:List Value) (c:Nat),mid = [(a,listOf items.toArray c)]/\x.toNat<items.length/\OR X ρ frz o' a [(a,listOf (items.set x.toNat w).toArray c)]:=by
 induction o with
 | none=>exact False.elim h
 | some p =>
  induction p with
  | il xs =>
   obtain⟨y,rfl,⟨h0,h1,h2⟩,h⟩:=jl h;refine(qo _ _ rfl h h0 ⟨h2,fun r hv=>?_⟩)
   cases r with
   | il hi=>obtain⟨t,rfl⟩:=hv;exact(jx _ _ rfl (by rw[hi.length];lia) (.il (ints_set hi _)))
  | ls us =>
   obtain⟨⟨h0,h1,h2⟩,h⟩:=h;refine(qo _ _ rfl h h0 ⟨h2,fun r hv=>?_⟩)
   cases r with
   | ls hi=>exact(jx _ _ rfl (by rw[hi.length];lia) (.ls (hi.set hv _)))
  | _=>exact False.elim h
def gq(a i v:PV)(O:PS)(k:PS->Prop):Prop:=ZI a fun j=>y4 i fun x=>sQ O.hp[j]? x v fun o'=>O.siC j o' k
theorem nK{a i v:PV}{wi:Value}{k:PS->Prop}{Q:Unit->Shared->Prop}(h:gq a i v O k)(F:Fr B3 L s.heap m)
  (R:RL G.X B3 L s.heap m O (i::a::v::vs) (wi::wa::wv::ws)) (hq:∀σ' s',k σ'->zr s s'->Fr B3 L s'.heap m->RL G.X B3 L s'.heap m σ' vs ws->Q () s') :
  wpAny (model G.prog G.w) A (setItem wa wi wv) Q E s:=by
 refine zc (JB h) fun j Ej g=>?_;subst Ej
 refine zc (jl g) fun x Ek g1=>?_;subst Ek
 clear h g;refine zV R.int fun t Dm=>?_;subst Dm
 refine byc fun Ea=>?_
 refine q7 (lR g1) fun p o' e h h0 Ee=>zd Ee fun h2 r=>?_
 refine Ea ?_;clear g1;replace h:=j6.mp h;refine byc fun Ef=>?_
 refine zh R.pop fun ρ led frz q=>?_
 refine zh (q.hr.at e) fun b pre mid Ee=>yo Ee fun post e1 e2 e3 e4=>?_
 refine Ef ?_;obtain rfl:=q.ref e1;have q1:=q.pop;refine byc fun El=>?_
 refine zv q1.stk.cons_inv fun Z Z ee hv Z=>?_
 refine El ?_
 cases ee
 refine zv (r e3 hv) fun items c Cd hl e5=>?_;subst Cd
 rw[l1] at e2;subst e2;have q2:=q1.pop;refine byc fun Em=>?_
 refine q7 ((q2.upd (listOf (items.set x.toNat wv).toArray c)).split) fun Z Z e6 e7 a b'=>?_
 have z:=q2.all _ (Bn _ (Bn _ (aJ pre post _)));refine Em ?_;refine ki_setAt z.1 h0 h2 (by rw[Bv];lia) (hq _ _ h (zr.mk' (t:=s.toks)) (F.change (Heap.SameBut.update ..) z.2.1 z.2.2) (zk ρ _ frz (q2.swap (led':=pre++(b,listOf (items.set x.toNat wv).toArray c)::post) (by simp) (by have:=e4 _ _ e5;rw[l1] at this;exact this) ?_)))
 have N:=q2.all;rw[e6] at N;rw[e7];refine ki_turn _ N a b' ?_ (by simp)
 apply Array.toList_inj.mp
 simp
end
variable {Wb:PS->KF->Prop}
noncomputable abbrev Hd:=Addr->List PV->List PO->(PV->List PO->Prop)->Prop
variable {H Hb:Hd}
def HdS(G:Gam)(d:Nat)(H:Hd):Prop:=
 ∀(ps:Pn) {f:Addr} {args:List PV} {O:PS} {k:PV->List PO->Prop},H f args O.hp k ->
  ∀{outer:List Env} {B3:Heap} {env:Env} {L:Addr} {A:Around} {m:BB} {s:Shared} {vs:List PV} {ws aws:List Value},
   Act G outer B3 env A d->env.frame=some L->env.scope.kind=.function->Fr B3 L s.heap m->RL (G.X.pin ps) B3 L s.heap m O (args.reverse++vs) (aws.reverse++ws)->aws.length=args.length ->
   ∀{R:Result->Shared->Prop},(∀v hp' w' s',k v hp'->zr s s'->Fr B3 L s'.heap m->RL (G.X.pin ps) B3 L s'.heap m { O with hp:=hp' } (v::vs) (w'::ws)->R (.ok (.ret w')) s') ->
    codeAny (model G.prog G.w) A (.call (.ref f) ⟨aws,[]⟩) R s
section
variable {A:Around}{m:BB}{vs:List PV}{E:BA}
theorem Act.le{d:Nat}(D:Act G outer B3 env A d)(h:d'<=d):Act G outer B3 env A d':=
 ⟨D.B,D.Kin,D.T,D.fr,D.hd,by have:=D.dep;lia,by have:=D.un;lia⟩
theorem U4{α:Type}{k:Nat}{v:α}:∀{l:List (Nat×α)},lk k l=some v->k∈l.map (·.1)
 | [],e=>by simp[lk] at e
 | (j,u)::r,e=>by
  by_cases h:k=j
  ·simp[h]
  ·simp only[lk,z7 h,cond_false] at e
   simp[U4 e]
theorem XU{X:Cx}{loc:List (Nat×PV)}{m:BB}{ρ:List Addr}{frz:BD}:
  ∀(l:List Nat),(∀k∈l,∀v,lk k loc=some v->∃w,m (X.nm k)=some w/\VR ρ frz v w) ->
   ∃us xs,VRs ρ frz us xs /\ ∀ρ' frz',VRs ρ' frz' us xs->∀k∈l,∀v,lk k loc=some v->∃w,m (X.nm k)=some w/\VR ρ' frz' v w
 | [],_=>(yA ([]) ([]) VRs.nil (fun Z Z Z k hk=>(nomatch hk)))
 | j::l,h=>by
  refine jj (XU l fun k hk=>h k (.tail _ hk)) fun us xs h1 h2=>?_
  cases e:lk j loc with
  | none =>
   refine(yA us xs h1 (fun ρ' frz' hv k hk v ev=>?_))
   cases hk with
   | head=>rw[e] at ev;cases ev
   | tail _ hk=>exact h2 ρ' frz' hv k hk v ev
  | some u =>
   refine zc (h j (.head _) u e) fun w hw hv=>?_
   refine(yA (u::us) (w::xs) (VRs.cons hv h1) (fun ρ' frz' hv k hk v ev=>?_))
   refine zv hv.cons_inv fun Z Z e' a b=>?_
   cases e'
   cases hk with
   | head=>rw[e] at ev;cases ev;exact(zA w hw a)
   | tail _ hk=>exact h2 ρ' frz' b k hk v ev
theorem qY{X:Cx}{ρ:List Addr}{frz:BD}:∀{ids:List Nat} {args:List PV} {aws:List Value},ids.Nodup->VRs ρ frz args aws ->
  (∀k,k∉ids->((ids.map X.nm).zip aws).reverse.lookup (X.nm k)=none) /\ ∀k v,lk k (ids.zip args)=some v->∃w,((ids.map X.nm).zip aws).reverse.lookup (X.nm k)=some w/\VR ρ frz v w
 | [],_,_,_,_=>⟨fun Z Z=>rfl,fun k v e=>by simp[lk] at e⟩
 | i::ids,[],_,_,h=>by
  simp only[VRs] at h;subst h
  exact⟨fun Z Z=>rfl,fun k v e=>by simp[lk] at e⟩
 | i::ids,a::args,_,nd,h=>by
  refine zv h.cons_inv fun w r Cd hv tl=>?_;subst Cd
  refine zd (List.nodup_cons.mp nd) fun n1 n2=>?_
  refine zd (qY (X:=X) n2 tl) fun ih1 ih2=>?_
  have key:∀k,(((i::ids).map X.nm).zip (w::r)).reverse.lookup (X.nm k)=(((ids.map X.nm).zip r).reverse.lookup (X.nm k)).or (if k=i then some w else none):=by
   intro k;simp only[Dh,List.zip_cons_cons,Cv,List.lookup_append,Db,List.lookup_nil]
   by_cases q:k=i
   ·subst q;simp
   ·have:X.nm k≠X.nm i:=fun x=>q (X.inj _ _ x)
    have hb:(X.nm k==X.nm i)=false:=beq_eq_false_iff_ne.mpr this;simp[hb,q]
  refine⟨fun k hk=>?_,fun k v e=>?_⟩
  ·rw[key,ih1 k (fun x=>hk (.tail _ x))]
   have:k≠i:=fun x=>hk (x▸.head _)
   simp[this]
  ·rw[key]
   by_cases q:k=i
   ·subst q
    simp[lk,De] at e;subst e;rw[ih1 k n1];exact(zA w (by simp) hv)
   ·simp only[List.zip_cons_cons,lk,z7 q,cond_false] at e
    refine zc (ih2 k v e) fun w' e1 e2=>?_
    exact(zA w' (by rw[e1];rfl) e2)
noncomputable abbrev Q0:List Value->Args:=fun aws=>⟨aws,[]⟩
structure FnOk(G:Gam)(ca:List Value->Args)(f:Addr)(ids:List Nat)(qual:Str)(body:List Stmt)(scope:Scope)(cdv:Value):Prop where
 data:∃name params dV kV doc pm an ct oc od osl,G.K.lookup f=some ⟨oc,od,.func (fnOf name qual params body scope dV kV doc pm an cdv ct),osl⟩ /\
  ∀(s:Shared) (aws:List Value),G.K.In s.heap->aws.length=ids.length->BindsTo s (fnOf name qual params body scope dV kV doc pm an cdv ct) (ca aws) ((ids.map G.X.nm).zip aws)
 code:codeIn G.K cdv qual=true
 nd:ids.Nodup
 locs:∀k∈ids,scope.names.lookup (G.X.nm k)=some .local
 cell:∀x∈scope.names,x.2≠.cell
 co:scope.isCoroutine=false
 gen:scope.isGenerator=false
 kind:scope.kind=.function
def jc(ids:List Nat)(W:PS->KF->Prop)(args:List PV)(hp:List PO)(k:PV->List PO->Prop):Prop:=
 args.length=ids.length/\W ⟨ids.zip args,hp⟩ fun f O=>match f with
  | .ret v=>k v O.hp
  | .next=>k .none O.hp
  | .brk=>False
theorem eF{d:Nat}{body:List Stmt}{W:PS->KF->Prop}(ok:FnOk G ca f ids qual body scope cdv)
  (hb:∀{outer:List Env} {B3:Heap} {L:Addr} {A:Around},Act G outer B3 (envOf qual scope L f cdv) A d->SS G A B3 L (execs body (envOf qual scope L f cdv)) W)
  {args:List PV} {k:PV->List PO->Prop} (hw:jc ids W args O.hp k) {aws:List Value}
  (D:Act G outer B3 env A (d+1)) (hf:env.frame=some L) (hke:env.scope.kind=.function) (F:Fr B3 L s.heap m) (R:RL G.X B3 L s.heap m O (args.reverse++vs) (aws.reverse++ws)) (hlen:aws.length=args.length)
  {Q:Result->Shared->Prop} (hq:∀v hp' w' s',k v hp'->zr s s'->Fr B3 L s'.heap m->RL G.X B3 L s'.heap m { O with hp:=hp' } (v::vs) (w'::ws)->Q (.ok (.ret w')) s') :
  codeAny (model G.prog G.w) A (.call (.ref f) (ca aws)) Q s:=by
 refine byc fun Ea=>?_
 refine zV D.B fun I9 B=>?_
 obtain⟨name,params,dV,kV,doc,pm,an,ct,oc,od,osl,ho,S5⟩:=ok.data;refine zd hw fun hargs hw=>?_
 refine zh R fun ρ led frz q=>?_
 refine jj (XU (O.loc.map (·.1)) fun k Z v e=>q.loc k v e) fun us xs c1 c2=>?_
 refine zv q.stk.split fun x1 x2 e12 s1 s2=>?_
 refine Ea ?_;have el:x1=aws.reverse/\x2=ws:=by
  have l1:=s1.length;simp only[Cr] at l1;exact Cw e12.symm (by rw[l1,Cr,hlen])
 refine zd el fun Ej hx2=>?_;subst Ej
 obtain rfl:=hx2.symm;have sa:VRs ρ frz args aws:=by
  have rev:∀{a:List PV} {b:List Value},VRs ρ frz a b->VRs ρ frz a.reverse b.reverse:=by
   intro a
   induction a with
   | nil=>intro b hb;cases hb;exact VRs.nil
   | cons v a ih =>
    intro b hb;refine zv hb.cons_inv fun w r Ek hv tl=>?_;subst Ek
    simp only[Cv];exact(ih tl).append (VRs.cons hv VRs.nil)
  have:=rev s1
  simpa using this
 refine code_def B F D.Kin q.all D.T D.fr hf hke ho ok.code (by have:=D.dep;lia) (S5 s aws (D.Kin.keeps F.keep) (hlen.trans hargs)) (fun y hy=>?_) (fun g L' B5 FG F' N' B' K' T'=>?_) ok.co ok.gen ok.kind ok.cell
 ·obtain⟨a,b⟩:=y
  refine byc fun Ef=>?_
  refine zc (List.mem_map.mp (List.of_mem_zip hy).1) fun i hi e=>?_
  refine Ef ?_;show scope.names.lookup a=some .local;rw[<- e];exact ok.locs i hi
 ·have D':Act G (env::outer) g (envOf qual scope L' f cdv) (A.deeper (envOf qual scope L' f cdv)) d:=
   ⟨⟨A,B'⟩,K',T',by show A.frames.map _=_;rw[D.fr];rfl,D.hd,by have:=D.dep;show A.depth+1+d<_;lia,by have:=D.un;show A.units+3+8*d<_;lia⟩
  have R':RL G.X g L' B5 (fun y=>((ids.map G.X.nm).zip aws).reverse.lookup y) ⟨ids.zip args,O.hp⟩ (us++vs) (xs++ws):=
   (zk ρ led frz ⟨q.hr,N',q.nd,q.off,q.offp,q.kept,fun k v e=>(qY (X:=G.X) ok.nd sa).2 k v e,c1.append s2⟩)
  have leave:∀v w' σ' m' s',k v σ'.hp->zr { s with heap:=B5,toks:=s.toks+((ids.map G.X.nm).zip aws).length } s'->Fr g L' s'.heap m'->RL G.X g L' s'.heap m' σ' (v::(us++vs)) (w'::(xs++ws))->LeaveK B3 L m g Q w' s':=by
   intro v w' σ' m' s' hk hr F'' R'';refine byc fun El=>?_
   refine zh R'' fun ρ' led' frz' q'=>?_
   refine El ?_;refine leaveK_ F'' q'.all fun F3 N3=>hq v σ'.hp w' s' hk ⟨hr.1,hr.2.1,hr.2.2⟩ F3 ?_
   refine byc fun Em=>?_
   refine zv q'.stk.cons_inv fun Z Z e' hv tl=>?_
   refine Em ?_
   cases e'
   refine byc fun hN5=>?_
   refine zv tl.split fun y1 y2 ey t1 t2=>?_
   have:=Cw ey.symm (by rw[t1.length,c1.length])
   refine hN5 ?_;refine zd this fun Cd Dm=>?_;subst Cd;subst Dm
   exact(zk ρ' led' frz' ⟨q'.hr,N3,q'.nd,q'.off,q'.offp,q'.kept,fun k v e=>c2 ρ' frz' t1 k (U4 e) v e,VRs.cons hv t2⟩)
  refine hb D' hw F' R' ⟨fun σ' m' s' hk hr F'' R''=>?_,fun σ' m' s' hk hr F'' R''=>hk.elim,fun v w' σ' m' s' hk hr F'' R''=>?_⟩
  ·exact leave .none .none σ' m' s' hk hr F'' (R''.push K0)
  ·exact leave v w' σ' m' s' hk hr F'' R''
noncomputable def Hd.ext(H:Hd)(f:Addr)(S:List PV->List PO->(PV->List PO->Prop)->Prop):Hd:=fun g args hp k=>cond (Nat.beq g f) (S args hp k) (H g args hp k)
theorem FnOk.pin{body:List Stmt}(ok:FnOk G ca f ids qual body scope cdv)(ps:Pn):FnOk (G.pin ps) ca f ids qual body scope cdv:=⟨ok.data,ok.code,ok.nd,ok.locs,ok.cell,ok.co,ok.gen,ok.kind⟩
theorem Act.pin{d:Nat}(D:Act G outer B3 env A d)(ps:Pn):Act (G.pin ps) outer B3 env A d:=⟨D.B,D.Kin,D.T,D.fr,D.hd,D.dep,D.un⟩
theorem Act.unpin{d:Nat}{ps:Pn}(D:Act (G.pin ps) outer B3 env A d):Act G outer B3 env A d:=⟨D.B,D.Kin,D.T,D.fr,D.hd,D.dep,D.un⟩
theorem HdS.ext{d:Nat}{body:List Stmt}{W:PS->KF->Prop}{S:List PV->List PO->(PV->List PO->Prop)->Prop}(hH:HdS G (d+1) H)(ok:FnOk G Q0 f ids qual body scope cdv)
  (hb:∀(ps:Pn) {outer:List Env} {B3:Heap} {L:Addr} {A:Around},Act (G.pin ps) outer B3 (envOf qual scope L f cdv) A d->SS (G.pin ps) A B3 L (execs body (envOf qual scope L f cdv)) W)
  (hS:∀args hp k,S args hp k->jc ids W args hp k):HdS G (d+1) (H.ext f S):=by
 intro ps g args O k h;unfold Hd.ext at h
 cases e:Nat.beq g f with
 | false=>rw[e] at h;exact hH ps h
 | true =>
  rw[e] at h;obtain rfl:=Bp e;intro outer B3 env L A m s vs ws aws D hf hke F R hl Q hq;exact eF (G:=G.pin ps) (ok.pin ps) (hb ps) (hS _ _ _ h) (D.pin ps) hf hke F R hl hq
noncomputable def FR.bdd(n:Nat):List (Nat×PV)->Prop
 | []=>True
 | (_,v)::r=>Mine.bdd n v/\FR.bdd n r
noncomputable def POs.bdd(n:Nat):List PO->Prop
 | []=>True
 | .inst fs::r=>FR.bdd n fs/\POs.bdd n r
 | .ls vs::r=>Mine.JN n vs/\POs.bdd n r
 | .cell (some v)::r=>Mine.bdd n v/\POs.bdd n r
 | _::r=>POs.bdd n r
theorem FR.bdd_of{nm:Nat->Str}{ρ:List Addr}{frz:BD}:∀{fs:List (Nat×PV)} {es:List DictEntry},FR nm ρ frz fs es->FR.bdd ρ.length fs
 | [],_,_=>trivial
 | (k,v)::fs,_,h=>by refine Jq h fun e r t Z Z e3 e4=>?_;exact⟨e3.bdd,FR.bdd_of e4⟩
theorem FR.cut{nm:Nat->Str}{ρ:List Addr}{frz:BD}{n:Nat}:∀{fs:List (Nat×PV)} {es:List DictEntry},FR nm ρ frz fs es->FR.bdd n fs->FR nm (ρ.take n) frz fs es
 | [],_,h,_=>h
 | (k,v)::fs,_,h,b=>by
  refine byc fun Ea=>?_
  refine Jq h fun e r t e1 e2 e3 e4=>?_
  refine Ea ?_;exact(yM e r t e1 e2 (e3.cut v b.1) (FR.cut e4 b.2))
set_option tactic.hygienic true in
theorem HR.bdd_of{X:Cx}{frz:BD}{os:List PO}{as:List Addr}{l:BD}(h:HR X ρ frz os as l):POs.bdd ρ.length os:=by
 induction h with
 | nil=>trivial
 | cons x _ ih =>
  cases x with
  | il _=>exact ih
  | ls i=>exact⟨i.bdd,ih⟩
  | cell hd i =>
   rename_i v w _
   cases v with
   | none=>exact ih
   | some v=>refine zc i fun u Z e=>?_;exact⟨e.bdd,ih⟩
  | gone=>exact ih
  | inst i=>exact⟨i.bdd_of,ih⟩
  | tab _=>exact ih
set_option tactic.hygienic true in
theorem HR.cut{X:Cx}{frz:BD}{n:Nat}{os:List PO}{as:List Addr}{l:BD}(h:HR X ρ frz os as l):POs.bdd n os->HR X (ρ.take n) frz os as l:=by
 induction h with
 | nil=>intro _;exact .nil
 | cons x _ ih =>
  intro b
  cases x with
  | il i=>exact .il i (ih b)
  | ls i=>exact .ls (VRs.cut _ i b.1) (ih b.2)
  | cell hd i =>
   rename_i v w _
   cases v with
   | none=>exact .cell hd i (ih b)
   | some v=>refine zc i fun u e1 e=>?_;exact .cell hd (zA u e1 (e.cut v b.1)) (ih b.2)
  | gone=>exact .gone (ih b)
  | inst i=>exact .inst (i.cut b.1) (ih b.2)
  | tab i=>exact HR.cons (.tab i) (ih b)
noncomputable def Hd.cut(H:Hd)(f:Addr)(S:List PV->List PO->(PV->List PO->Prop)->Prop):Hd:=fun g args hp k=>cond (Nat.beq g f) (S args hp k) (H g args hp k)
def uB(n:Nat)(k:PV->List PO->Prop):PV->List PO->Prop:=fun v hp'=>∃H9 gs,hp'=H9++gs/\H9.length=n/\POs.bdd n H9/\bdd n v/\k v H9
theorem HdS.cut{d:Nat}{S S':List PV->List PO->(PV->List PO->Prop)->Prop}(hH:HdS G d (H.ext f S))(hS:∀args hp k,POs.bdd hp.length hp->JN hp.length args->S' args hp k->S args hp (uB hp.length k)):HdS G d (H.cut f S'):=by
 intro ps g args O k h;unfold Hd.cut at h
 cases e:Nat.beq g f with
 | false =>
  rw[e] at h;intro outer B3 env L A m s vs ws aws D hf hke F R hl Q hq;exact hH ps (f:=g) (by unfold Hd.ext;rw[e];exact h) D hf hke F R hl hq
 | true =>
  rw[e] at h;intro outer B3 env L A m s vs ws aws D hf hke F R hl Q hq;refine byc fun Ea=>?_
  refine zh R fun ρ led frz q=>?_
  have hb0:=q.hr.bdd_of;have len0:=q.hr.len;refine jj (XU (X:=G.X.pin ps) (O.loc.map (·.1)) fun k Z v e=>q.loc k v e) fun us xs c1 c2=>?_
  have b1:=c1.bdd;refine zv q.stk.split fun y1 y2 ey s1 s2=>?_
  refine Ea ?_;have el:y1=aws.reverse/\y2=ws:=by
   have l1:=s1.length;simp only[Cr] at l1;exact Cw ey.symm (by rw[l1,Cr,hl])
  refine zd el fun Cd Dm=>?_;subst Cd;subst Dm
  have b2:=s2.bdd;have b3:=s1.bdd;rw[len0] at hb0 b1 b2 b3;have b3':JN O.hp.length args:=by
   have rev:∀(a b:List PV),JN O.hp.length a->JN O.hp.length b->JN O.hp.length (a.reverse++b):=by
    intro a
    induction a with
    | nil=>intro b _ hb;exact hb
    | cons x a ih=>intro b ha hb;simp only[JN] at ha;rw[Cv,Br];exact ih _ ha.2 (by simp only[List.singleton_append,JN];exact⟨ha.1,hb⟩)
   simpa using rev args.reverse [] b3 (by simp only[JN])
  have R':RL (G.X.pin ps) B3 L s.heap m O (args.reverse++(us++vs)) (aws.reverse++(xs++y2)):=(zk ρ led frz ⟨q.hr,q.all,q.nd,q.off,q.offp,q.kept,q.loc,s1.append (c1.append s2)⟩);refine hH ps (f:=g) (k:=uB O.hp.length k) (by unfold Hd.ext;rw[e];exact hS _ _ _ hb0 b3' h) D hf hke F R' hl fun v hp' w' s' hk hr F' R''=>?_
  obtain⟨H9,gs,rfl,hlen,hb1,hbv,hk⟩:=hk;refine byc fun Ef=>?_
  obtain⟨ρ',led',frz',q'⟩:=R'';refine Ef ?_;obtain⟨a1,a2,l1,l2,e1,rfl,x,y⟩:=HR.unapp q'.hr;refine byc fun El=>?_
  obtain⟨_,_,ee,hv,tl⟩:=q'.stk.cons_inv;refine El ?_
  cases ee
  refine byc fun Em=>?_
  obtain⟨z1,z2,ez,t1,t2⟩:=tl.split;refine Em ?_;obtain⟨rfl,rfl⟩:=Cw ez.symm (by rw[t1.length,c1.length])
  have hx:a1=ρ'.take O.hp.length:=by rw[e1,List.take_left' (x.len.trans hlen)]
  have t1':=VRs.cut us t1 b1;have sub:∀p,p∈l1->p∈l1++l2:=fun p hp=>Bn _ hp
  refine hq v H9 w' s' hk hr F' ⟨ρ'.take O.hp.length,l1,frz',?_,fun p hp=>q'.all p ?_,?_,fun p hp z hz=>q'.off p hp z (sub z hz),fun p hp z hz=>q'.offp p hp z ?_,⟨q'.kept.1,fun p hp=>?_⟩,fun j u eu=>?_,VRs.cons (VR.cut v hv hbv) (VRs.cut vs t2 b2)⟩
  ·have:=x.cut (n:=O.hp.length) hb1
   rw[hx] at this;exact this
  ·simp only[By] at hp ⊢
   rcases hp with (h | h) | h
   ·exact .inl (.inl (.inl h))
   ·exact .inl (.inr h)
   ·exact .inr h
  ·have:=q'.nd
   rw[Da,List.nodup_append] at this;exact this.1
  ·simp only[By] at hz ⊢
   rcases hz with h | h
   ·exact .inl (.inl h)
   ·exact .inr h
  ·have h1:=(List.getElem?_eq_some_iff.mp (q.kept.2 p hp)).1
   rw[len0] at h1;rw[List.getElem?_take,if_pos h1];exact q'.kept.2 p hp
  ·exact c2 _ frz' t1' j (U4 eu) u eu
theorem HdS.le{d:Nat}(h:HdS G d H)(hd:d<=d'):HdS G d' H:=by
 intro ps f args O k hk outer B3 env L A m s vs ws aws D;exact h ps hk (D.le hd)
end
noncomputable def zT:Expr->Bool
 | .Starred ..=>false
 | _=>true
noncomputable def yS:Expr->Bool
 | .ListComp ..=>false
 | .SetComp ..=>false
 | .DictComp ..=>false
 | _=>true
noncomputable def Xq:Expr->Bool
 | .Attribute ..=>false
 | _=>true
theorem z8{e:Expr}(h:zT e=true):starEach (e::rest) env=(false,eval e env)::starEach rest env:=by
 cases e<;>first | rfl | cases h
theorem yX{pos:Pos}{env:Env}:∀{es:List Expr},es.all zT=true->(backTo pos (starEach es env)).all (!·.1)=true/\(backTo pos (starEach es env)).any (·.1)=false
 | [],_=>⟨rfl,rfl⟩
 | e::es,h=>by
  simp only[Ed,Ck] at h;obtain⟨a,b⟩:=yX (pos:=pos) (env:=env) h.2;rw[z8 h.1]
  show((!false)&&(backTo pos (starEach es env)).all (!·.1))=true/\(false||(backTo pos (starEach es env)).any (·.1))=false
  rw[a,b];exact⟨rfl,rfl⟩
theorem jP{t:Option Expr}(h:yS value=true):swapsWith value t line env=pure false:=by
 cases value<;>first | rfl | cases h
section
variable {A:Around}{m:BB}{vs:List PV}{E:BA}
def EL(G:Gam)(A:Around)(B3:Heap)(L:Addr)(env:Env)(pos:Pos)(es:List Expr)(W:PS->(List PV->PS->Prop)->Prop):Prop:=
 ∀⦃O:PS⦄ ⦃k:List PV->PS->Prop⦄ ⦃m:BB⦄ ⦃s:Shared⦄ ⦃vs:List PV⦄ ⦃ws:List Value⦄,W O k->Fr B3 L s.heap m->RL G.X B3 L s.heap m O vs ws ->
  ∀⦃Q:List Value->Shared->Prop⦄ ⦃E:BA⦄,
   (∀us σ' m' xs s',k us σ'->SR m s m' s'->Fr B3 L s'.heap m'->RL G.X B3 L s'.heap m' σ' (us.reverse++vs) (xs.reverse++ws)->xs.length=us.length->Q xs s')->wpAny (model G.prog G.w) A (spliced (backTo pos (starEach es env))) Q E s
theorem Wy:EL G A B3 L env pos [] (fun O k=>k [] O):=by
 intro O k m s vs ws h F R Q E hq;exact args_nil (hq [] O m [] s h (SR.refl _ _) F R rfl)
theorem Q4{e:Expr}{es:List Expr}{Ws:PS->(List PV->PS->Prop)->Prop}(he:ES G A B3 L (eval e env) We)(hs:EL G A B3 L env pos es Ws)(hn:zT e=true):
  EL G A B3 L env pos (e::es) (fun O k=>We O fun v B4=>Ws B4 fun us B6=>k (v::us) B6):=by
 intro O k m s vs ws h F R Q E hq;refine args_cons (he h F R fun v B4 C3 wv B7 B5 B8 C2 C1=>hs B5 C2 C1 fun us B6 C6 xs B9 C5 C4 C9 D0 hl=>hq (v::us) B6 C6 (wv::xs) B9 C5 (B8.trans C4) C9 ?_ (by simp[hl])) (z8 hn)
 simpa using D0
theorem UI{id name:Str}(hl:T6.endLine=pos.line)(hn:args.length<30)(hst:args.all zT=true):eval (.Call (.Attribute (.Name id T2) name T6) args [] pos) env=(do
   let ov <- eval (.Name id T2) env
   standAt T6.atName
   let(f,first) <- holding [ov] (getMethod ov name (do return (<- importBound (.Name id T2) env).getD true))
   callWith pos f first (backTo pos (starEach args env)) []):=by
 have e1:methodCallForm (args.length+([]:List Keyword).length) (backTo pos (starEach args env)) (backToKw pos (keywordEach [] env))=true:=by
  unfold methodCallForm;rw[(yX hst).1]
  show(true&&true&&decide (args.length+0+0<30))=true
  simp[hn]
 show(do
  let ov <- eval (.Name id T2) env
  standAt T6.atName
  methodCall (.Name id T2) name T6 pos env ov (args.length+([]:List Keyword).length) (backTo pos (starEach args env)) (backToKw pos (keywordEach [] env)))=_
 congr 1
 funext ov
 congr 1
 funext _
 unfold methodCall;rw[e1];unfold calleeOf methodCallPos;simp only[if_true,hl,beq_self_eq_true,Bool.or_true];rfl
theorem Y4{d:Nat}(D:Act G outer B3 env A d)(F:Fr B3 L h m):G.K.In h:=D.Kin.keeps F.keep
def XQ(H:Hd)(f:Addr)(first:List PV)(Wa:PS->(List PV->PS->Prop)->Prop)(O:PS)(k:KE):Prop:=
 Wa O fun us B4=>H f (first++us) B4.hp fun v hp'=>k v (B4.sh hp')
theorem QE{d:Nat}{first:List PV}{firstw:List Value}{k:KE}
  (hH:HdS G d H) (D:Act G outer B3 env A d) (hf:env.frame=some L) (hke:env.scope.kind=.function) (hk:keepIn G.K (.ref f)=true) (ha:EL G A B3 L env pos args Wa) (hst:args.all zT=true)
  (h:XQ H f first Wa O k) (F:Fr B3 L s.heap m) (R:RL G.X B3 L s.heap m O (first.reverse++vs) (firstw.reverse++ws)) (hl:firstw.length=first.length)
  (hq:yy G B3 L m s vs ws k Q):wpAny (model G.prog G.w) A (callWith pos (.ref f) firstw (backTo pos (starEach args env)) []) Q E s:=by
 have go:wpAny (model G.prog G.w) A (spliced (backTo pos (starEach args env))) (fun xs B7=>G.K.In B7.heap/\wpAny (model G.prog G.w) A (call (.ref f) (firstw++xs)) Q E B7) E s:=by
  refine ha h F R fun us B4 C3 xs B7 B5 B8 C2 C1 hl₁=>⟨Y4 D C2,wpAny_call ?_⟩
  refine hH G.X.pn B5 D hf hke C2 (aws:=firstw++xs) (vs:=vs) (ws:=ws) (by show RL G.X B3 L B7.heap C3 B4 ((first++us).reverse++vs) ((firstw++xs).reverse++ws);simpa using C1) (by simp[hl,hl₁]) fun v hp' w' s' hk' r' F' R'=>?_
  exact hq v _ C3 w' s' hk' (B8.trans (.of r')) F' R'
 induction args with
 | nil =>
  refine callWith_K0 (Y4 D F) hk ?_
  have:=go
  exact fun Γ p hΓ=>by
   have z:=this Γ p hΓ;exact z.2 Γ p hΓ
 | cons e es =>
  simp only[Ed,Ck] at hst;exact callWith_K D.Kin hk go (z8 hst.1) (yX hst.2).2
def U6(H:Hd)(x:Nat)(f:Addr)(Wa:PS->(List PV->PS->Prop)->Prop)(a:PV)(O:PS)(k:KE):Prop:=VF a O fun i fs=>cond (Ql (lk x fs)) (XQ H f [.ref i] Wa O k) False
theorem UD{d:Nat}{id:Str}
  (hH:HdS G d H) (D:Act G outer B3 env A d) (hf:env.frame=some L) (hke:env.scope.kind=.function) (ok:MethOk G x f) (ho:ES G A B3 L (eval (.Name id T2) env) Wo) (ha:EL G A B3 L env pos args Wa)
  (hl:T6.endLine=pos.line) (hn:args.length<30) (hst:args.all zT=true) :
  ES G A B3 L (eval (.Call (.Attribute (.Name id T2) (G.X.nm x) T6) args [] pos) env) (fun O k=>Wo O fun a B4=>U6 H x f Wa a B4 k):=by
 intro O k m s vs ws h F R Q E hq;refine MethodCall_ (ho h F R fun a B4 C3 wa B7 B5 B8 C2 C1=>?_) (UI hl hn hst)
 obtain⟨i,fs,rfl,e,B5⟩:=Jj B5;obtain⟨ev,B5⟩:=fU B5;obtain⟨x',dx,es,n,ρ,pre,post,frz,I,rfl⟩:=C1.instTop e;have gw:=(I.fr.get G.X.inj).2 ev;refine method_inst C2 D.Kin I.at_ ok.pg ok.fi ok.fn gw ?_;exact QE (first:=[.ref i]) (firstw:=[.ref x']) hH D hf hke ok.ki ha hst B5 C2 (by simpa using C1) rfl fun v C7 E5 wv D8 D1 D7 D9 D6=>hq v C7 E5 wv D8 D1 (B8.trans D7) D9 D6
def FnT(G:Gam)(fnT:Addr->Bool):Prop:=∀f,fnT f=true->keepIn G.K (.ref f)=true/\fnIn G.K f=true
def Za(H:Hd)(fnT:Addr->Bool)(Wa:PS->(List PV->PS->Prop)->Prop)(none:Bool)(a:PV)(O:PS)(k:KE):Prop:=match a with
 | .top f=>fnT f=true/\XQ H f [] Wa O k
 | .bound v f=>(fnT f=true/\none=true)/\H f [v] O.hp fun v hp'=>k v (O.sh hp')
 | _=>False
theorem RL.drop2{v:PV}{w x:Value}(r:RL G.X B3 L h m O (v::u::vs) (w::x::ws)):RL G.X B3 L h m O (v::vs) (w::ws):=by
 refine r.stack fun ρ frz q=>?_
 refine zv q.cons_inv fun Z Z e a b=>?_
 cases e
 refine zv b.cons_inv fun Z Z e Z c=>?_
 cases e
 exact VRs.cons a c
theorem UH{func:Expr}(h:Xq func=true):eval (.Call func args [] pos) env=(do callWith pos (<- eval func env) [] (backTo pos (starEach args env)) (backToKw pos (keywordEach [] env))):=by
 cases func<;>first | rfl | cases h
set_option tactic.hygienic true in
theorem dM{ne:Bool}{d:Nat}{fnT:Addr->Bool}{func:Expr}
  (hH:HdS G d H) (D:Act G outer B3 env A d) (hf:env.frame=some L) (hke:env.scope.kind=.function) (hT:FnT G fnT) (ho:ES G A B3 L (eval func env) Wo) (ha:EL G A B3 L env pos args Wa) (hst:args.all zT=true) (hna:Xq func=true) (hne:ne=args.isEmpty) :
  ES G A B3 L (eval (.Call func args [] pos) env) (fun O k=>Wo O fun a B4=>Za H fnT Wa ne a B4 k):=by
 subst hne;intro O k m s vs ws h F R Q E hq;refine Call_ (ho h F R fun a B4 C3 wa B7 B5 B8 C2 C1=>?_) (UH hna)
 cases a<;>first | exact False.elim B5 | (delta Za at B5;try dsimp only at B5)
 ·rename_i f
  obtain rfl:=C1.top;exact QE (first:=[]) (firstw:=[]) hH D hf hke (hT f B5.1).1 ha hst B5.2 C2 C1 rfl fun v C7 E5 wv D8 D1 D7 D9 D6=>hq v C7 E5 wv D8 D1 (B8.trans D7) D9 D6.drop2
 ·rename_i u f
  obtain⟨⟨h2,h3⟩,B5⟩:=B5;obtain rfl:args = []:=by cases args with | nil=>rfl | cons=>cases h3
  obtain⟨ρ,led,frz,q,hv⟩:=C1.top1;obtain⟨b,sv,rfl,hm,hv⟩:=hv;obtain⟨_,_,e',_,tl⟩:=q.stk.cons_inv
  cases e'
  have hN:=q.news _ (Bo _ hm);refine callWith_M0 (g:=f) (self:=sv) ⟨hN.1,Y4 D C2⟩ (hT f h2).2 (call_meth q.news (Bo _ hm) ?_);refine hH G.X.pn B5 D hf hke C2 (aws:=[sv]) (vs:=vs) (ws:=ws) (zk ρ led frz ⟨q.hr,q.all,q.nd,q.off,q.offp,q.kept,q.loc,VRs.cons hv tl⟩) rfl fun v hp' w' s' hk' r' F' R'=>?_
  exact hq v _ C3 w' s' hk' (B8.trans (.of r')) F' R'
end
noncomputable abbrev KB:=Bool->PS->Prop
section
variable {A:Around}{m:BB}{vs:List PV}{E:BA}
abbrev mZ(G:Gam)(B3:Heap)(L:Addr)(m:BB)(s:Shared)(vs:List PV)(ws:List Value)(k:KB)(Q:Bool->Shared->Prop):Prop:=
 ∀b σ' m' s',k b σ'->SR m s m' s'->Fr B3 L s'.heap m'->RL G.X B3 L s'.heap m' σ' vs ws->Q b s'
def TS(G:Gam)(A:Around)(B3:Heap)(L:Addr)(t:Sem Bool)(W:PS->KB->Prop):Prop:=
 ∀⦃O:PS⦄ ⦃k:KB⦄ ⦃m:BB⦄ ⦃s:Shared⦄ ⦃vs:List PV⦄ ⦃ws:List Value⦄,W O k->Fr B3 L s.heap m->RL G.X B3 L s.heap m O vs ws ->
  ∀⦃Q:Bool->Shared->Prop⦄ ⦃E:BA⦄,mZ G B3 L m s vs ws k Q->wpAny (model G.prog G.w) A t Q E s
def ju(a:PV)(O:PS)(k:KB):Prop:=match a with
 | .int x=>k (x !=0) O
 | .bool b=>k b O
 | .none=>k false O
 | .il xs=>xs.length<=2 ^ 24/\k (!xs.isEmpty) O
 | _=>False
set_option tactic.hygienic true in
theorem KJ{a:PV}{k:KB}{Q:Bool->Shared->Prop}(h:ju a O k)(F:Fr B3 L s.heap m)(R:RL G.X B3 L s.heap m O (a::vs) (wa::ws))(hq:mZ G B3 L m s vs ws k Q):
  wpAny (model G.prog G.w) A (truthy wa) Q E s:=by
 cases a<;>first | exact False.elim h | (delta ju at h;try dsimp only at h)
 ·obtain rfl:=R.none;exact truthy_none (hq _ O m s h (SR.refl _ _) F R.pop)
 ·obtain rfl:=R.bool;exact wpAny_truthy_bool (hq _ O m s h (SR.refl _ _) F R.pop)
 ·refine zV R.int fun t Dm=>?_;subst Dm;exact PySem.P.truthy_int (hq _ O m s h (SR.refl _ _) F R.pop)
 ·rename_i xs
  refine zh (R.ints (xs:=xs) rfl) fun x items n Ee=>jf Ee fun ρ led frz I Cd=>?_;subst Cd
  have hs:items.toArray.size=xs.length:=by rw[Bv,I.vals.length]
  have hz:(!items.toArray.isEmpty) = !xs.isEmpty:=by rw[Array.isEmpty,hs];induction xs<;>rfl
  exact wpAny_truthy_list I.isList (by rw[hs];lia) (hz▸hq _ O m _ h.2 (SR.mk' (h:=s.heap)) F R.pop)
noncomputable def VS:Expr->Bool
 | .UnaryOp .Not _ _=>false
 | .BoolOp ..=>false
 | .IfExp ..=>false
 | .Compare ..=>false
 | _=>true
set_option tactic.hygienic true in
theorem Xj{e:Expr}(h:VS e=true):isTrue e env T1=(do let v <- T1;standAt e.pos;holding [v] (truthy v)):=by
 cases e<;>try rfl
 all_goals first | cases h | (rename_i op _ _;induction op<;>first | rfl | cases h)
theorem qf{e:Expr}{W:PS->KE->Prop}(he:ES G A B3 L (eval e env) W)(hp:VS e=true):TS G A B3 L (isTrue e env (eval e env)) (fun O k=>W O fun a B4=>ju a B4 k):=by
 intro O k m s vs ws h F R Q E hq;exact isTrue_plain (he h F R fun a B4 C3 wa B7 B5 B8 C2 C1=>KJ B5 C2 C1 fun b B6 C6 B9 C5 C4 C9 D0=>hq b B6 C6 B9 C5 (B8.trans C4) C9 D0) (Xj hp)
theorem tU{l r:Expr}{op:CmpOp}{Wo:PV->PV->PS->KE->Prop}(hl:ES G A B3 L (eval l env) Wl)(hr:ES G A B3 L (eval r env) Wr)(ho:O2 G A B3 L (compareOp op) Wo)(hm:behindInMarks op r=false):
  TS G A B3 L (isTrue (.Compare l [op] [r] pos) env T1) (fun O k=>Wl O fun a B4=>Wr B4 fun b B6=>Wo a b B6 fun c C7=>ju c C7 k):=by
 intro O k m s vs ws h F R Q E hq;exact wpAny_isTrue_Compare1 (hl h F R fun a B4 C3 wa B7 B5 B8 C2 C1=>hr B5 C2 C1 fun b B6 C6 wb B9 C5 C4 C9 D0=>ho C5 C9 D0 fun v C7 E5 wv D8 D1 D7 D9 D6 =>
  KJ D1 D9 D6 fun c E4 G3 F6 F5 G4 G1 G0=>hq c E4 G3 F6 F5 (((B8.trans C4).trans D7).trans G4) G1 G0) hm
theorem tT{x:Expr}{W W':PS->KB->Prop}(hx:TS G A B3 L (isTrue x env (eval x env)) W)(hr:TS G A B3 L (isTrue (.BoolOp .And rest pos) env T1) W'):
  TS G A B3 L (isTrue (.BoolOp .And (x::rest) pos) env T1) (fun O k=>W O fun b B4=>cond b (W' B4 k) (k false B4)):=by
 intro O k m s vs ws h F R Q E hq;refine isTrue_and (hx h F R fun b B4 C3 B7 B5 B8 C2 C1=>?_)
 induction b with
 | false=>exact hq _ B4 C3 B7 B5 B8 C2 C1
 | true=>exact hr B5 C2 C1 fun c B6 C6 B9 C5 C4 C9 D0=>hq c B6 C6 B9 C5 (B8.trans C4) C9 D0
theorem xp{x:Expr}{W W':PS->KB->Prop}(hx:TS G A B3 L (isTrue x env (eval x env)) W)(hr:TS G A B3 L (isTrue (.BoolOp .Or rest pos) env T1) W'):
  TS G A B3 L (isTrue (.BoolOp .Or (x::rest) pos) env T1) (fun O k=>W O fun b B4=>cond b (k true B4) (W' B4 k)):=by
 intro O k m s vs ws h F R Q E hq;refine isTrue_or (hx h F R fun b B4 C3 B7 B5 B8 C2 C1=>?_)
 induction b with
 | true=>exact hq _ B4 C3 B7 B5 B8 C2 C1
 | false=>exact hr B5 C2 C1 fun c B6 C6 B9 C5 C4 C9 D0=>hq c B6 C6 B9 C5 (B8.trans C4) C9 D0
theorem mL:TS G A B3 L (isTrue (.BoolOp .And [] pos) env T1) (fun O k=>k true O):=by
 intro O k m s vs ws h F R Q E hq;exact isTrue_and_nil (hq _ O m s h (SR.refl _ _) F R)
theorem tV:TS G A B3 L (isTrue (.BoolOp .Or [] pos) env T1) (fun O k=>k false O):=by
 intro O k m s vs ws h F R Q E hq;exact isTrue_or_nil (hq _ O m s h (SR.refl _ _) F R)
theorem oP{t a b:Expr}{Wt:PS->KB->Prop}{Wa Wb:PS->KE->Prop}(ht:TS G A B3 L (isTrue t env (eval t env)) Wt)(ha:ES G A B3 L (eval a env) Wa)(hb:ES G A B3 L (eval b env) Wb):
  ES G A B3 L (eval (.IfExp t a b pos) env) (fun O k=>Wt O fun c B4=>cond c (Wa B4 k) (Wb B4 k)):=by
 intro O k m s vs ws h F R Q E hq;refine IfExp_ (ht h F R fun c B4 C3 B7 B5 B8 C2 C1=>?_)
 induction c with
 | true=>exact ha B5 C2 C1 fun v B6 C6 F0 B9 C5 C4 C9 D0=>hq v B6 C6 F0 B9 C5 (B8.trans C4) C9 D0
 | false=>exact hb B5 C2 C1 fun v B6 C6 F0 B9 C5 C4 C9 D0=>hq v B6 C6 F0 B9 C5 (B8.trans C4) C9 D0
noncomputable def av:PV->Option Bool
 | .none=>some true
 | .int _=>some false
 | .ref _=>some false
 | .bound _ _=>some false
 | _=>none
def iA(op:CmpOp)(a b:PV)(O:PS)(k:KE):Prop:=match b with
 | .int y=>y4 a fun x=>opt (ux op x y) fun c=>k (.bool c) O
 | .none=>opt (av a) fun c=>isW op c fun c=>k (.bool c) O
 | .str _=>y4 a fun Z=>eqW op false fun c=>k (.bool c) O
 | _=>False
theorem RL.isNone{a:PV}{w:Value}{c:Bool}(r:RL G.X B3 L h m O (a::vs) (w::ws))(e:av a=some c):plainIs w .none=true/\(w==.none)=c:=by
 refine jf r.top1 fun Z Z Z Z q=>?_
 cases a with
 | none=>cases e;cases q;exact⟨rfl,beq_self_eq_true _⟩
 | int _=>cases e;refine zV q fun x Ek=>?_;subst Ek;exact⟨rfl,beq_eq_false_iff_ne.mpr (fun e=>nomatch e)⟩
 | ref _=>cases e;refine zc q fun x Z Dm=>?_;subst Dm;exact⟨rfl,beq_eq_false_iff_ne.mpr (fun e=>nomatch e)⟩
 | bound _ _=>cases e;refine jj q fun x Z Cd Z=>?_;subst Cd;exact⟨rfl,beq_eq_false_iff_ne.mpr (fun e=>nomatch e)⟩
 | _=>cases e
theorem f4{op:CmpOp}:O2 G A B3 L (compareOp op) (iA op):=by
 intro O k m s vs ws a b wa wb h F R Q E hq;have R1:=R.pop;have fin:∀c,k (.bool c) O->Q (.bool c) s:=fun c hc=>hq _ O m _ s hc (SR.refl _ _) F (R1.pop.push (Uh c))
 cases b with
 | int y =>
  refine zc (jl h) fun x Eg g=>?_;subst Eg
  refine zc (zG g) fun c ec h=>?_
  refine zV R.int fun t Eh=>?_;subst Eh
  refine zV R1.int fun u Ej=>?_;subst Ej
  exact iB ec (fin _ h)
 | none =>
  obtain rfl:=R.none;refine zc (zG h) fun c ec g=>?_
  refine zd (R1.isNone ec) fun p q=>?_
  subst q
  rcases pM g with ⟨rfl,g1⟩ | ⟨rfl,g1⟩
  ·exact wpAny_is_plain p (fin _ g1)
  ·exact wpAny_isNot_plain p (fin _ g1)
 | str y =>
  refine zc (jl h) fun x Ek g=>?_;subst Ek
  refine zV R.str fun t Dm=>?_;subst Dm
  refine zV R1.int fun u Cd=>?_;subst Cd
  rcases Zg g with ⟨rfl,g1⟩ | ⟨rfl,g1⟩
  ·exact EqMixed.eq_int_str (fin _ g1)
  ·exact EqMixed.ne_int_str (fin _ g1)
 | _=>exact False.elim h
def JO(op:Operator)(a b:PV)(O:PS)(k:KE):Prop:=y4 a fun x=>y4 b fun y=>kE op x y fun z=>k (.int z) O
theorem RL.two{a b:PV}{wb:Value}{k:Int->Int->Prop}(R:RL G.X B3 L h m O (b::a::vs) (wb::wa::ws))(g:y4 a fun x=>y4 b fun y=>k x y):∃x y t u,(a=.int x/\wa=.int x t)/\(b=.int y/\wb=.int y u)/\k x y:=by
 refine zc (jl g) fun x Ej g1=>?_;subst Ej
 refine zc (jl g1) fun y Ek g2=>?_;subst Ek
 refine zV R.int fun t Dm=>?_;subst Dm
 refine zV R.pop.int fun u Cd=>?_;subst Cd
 exact(zk x y u (yh t ⟨rfl,rfl⟩ ⟨rfl,rfl⟩ g2))
theorem Vd{op:Operator}:O2 G A B3 L (binaryOp op) (JO op):=by
 intro O k m s vs ws a b wa wb h F R Q E hq;refine zh (R.two h) fun x y t Ee=>yb Ee fun u Cd Dm g=>?_;obtain⟨rfl,rfl⟩:=Cd;obtain⟨rfl,rfl⟩:=Dm
 exact ip g fun z t' n hz=>hq.push F R.pop.pop (jz z t') hz
theorem nI{op:Operator}:O2 G A B3 L (inplaceOp op) (JO op):=by
 intro O k m s vs ws a b wa wb h F R Q E hq;refine zh (R.two h) fun x y t Ee=>yb Ee fun u Cd Dm g=>?_;obtain⟨rfl,rfl⟩:=Cd;obtain⟨rfl,rfl⟩:=Dm
 exact kC g fun z t' n hz=>hq.push F R.pop.pop (jz z t') hz
theorem gF:SS G A B3 L (execs [] env) (fun O k=>k .next O):=by
 intro O k m s vs ws h F R Q E hq;exact wpAny_execs_nil (hq.next O m s h (zr.refl _) F R)
def tn(W W':PS->KF->Prop)(O:PS)(k:KF):Prop:=W O fun f B4=>match f with
 | .next=>W' B4 k
 | .brk=>k .brk B4
 | .ret v=>k (.ret v) B4
theorem aZ{st:Stmt}{rest:List Stmt}{W W':PS->KF->Prop}(h1:SS G A B3 L (exec st env) W)(h2:SS G A B3 L (execs rest env) W'):SS G A B3 L (execs (st::rest) env) (tn W W'):=by
 intro O k m s vs ws h F R Q E hq;refine wpAny_execs_cons (h1 h F R ⟨fun σ' m' s' hk r F' R'=>?_,fun σ' m' s' hk r F' R'=>?_,fun v w' σ' m' s' hk r F' R'=>?_⟩)
 ·exact h2 hk F' R' (hq.after r)
 ·exact hq.brk σ' m' s' hk r F' R'
 ·exact hq.ret v w' σ' m' s' hk r F' R'
theorem mr:SS G A B3 L (exec (.Pass pos) env) (fun O k=>k .next O):=by
 intro O k m s vs ws h F R Q E hq;exact wpAny_Pass (hq.next O m s h (zr.refl _) F R)
theorem gE:SS G A B3 L (exec (.Break pos) env) (fun O k=>k .brk O):=by
 intro O k m s vs ws h F R Q E hq;show wpAny (model G.prog G.w) A (do standAt pos;pure .brk) Q E s
 exact wpAny_bind (wpAny_standAt (wpAny_pure (hq.brk O m s h (zr.refl _) F R)))
theorem gG{e:Expr}{W:PS->KE->Prop}(he:ES G A B3 L (eval e env) W):SS G A B3 L (exec (.Return (some e) pos) env) (fun O k=>W O fun v B4=>k (.ret v) B4):=by
 intro O k m s vs ws h F R Q E hq;exact wpAny_Return_some (he h F R fun v B4 C3 E7 B7 B5 B8 C2 C1=>hq.ret v E7 B4 C3 B7 B5 B8 C2 C1)
theorem mn{e:Expr}{W:PS->KE->Prop}(he:ES G A B3 L (eval e env) W)(hi:interactive env=false)(hc:yS e=true):SS G A B3 L (exec (.Expr e pos) env) (fun O k=>W O fun Z B4=>k .next B4):=by
 intro O k m s vs ws h F R Q E hq;exact wpAny_Expr_any (he h F R fun v B4 C3 E7 B7 B5 B8 C2 C1=>hq.next B4 C3 B7 B5 B8 C2 C1.pop) hi (jP hc)
theorem w5{t:Expr}{a b:List Stmt}{Wt:PS->KB->Prop}{Wa:PS->KF->Prop}(ht:TS G A B3 L (isTrue t env (eval t env)) Wt)(ha:SS G A B3 L (execs a env) Wa)(hb:SS G A B3 L (execs b env) Wb):
  SS G A B3 L (exec (.If t a b pos) env) (fun O k=>Wt O fun c B4=>cond c (Wa B4 k) (Wb B4 k)):=by
 intro O k m s vs ws h F R Q E hq;refine wpAny_If (ht h F R fun c B4 C3 B7 B5 B8 C2 C1=>?_)
 induction c with
 | true=>exact ha B5 C2 C1 (hq.after B8)
 | false=>exact hb B5 C2 C1 (hq.after B8)
theorem mq{e:Expr}{W:PS->KE->Prop}(V:EnvF env L)(hl:env.kindOf (G.X.nm x)=some .local)(he:ES G A B3 L (eval e env) W)(hc:yS e=true):
  SS G A B3 L (exec (.Assign [.Name (G.X.nm x) T2] e pos) env) (fun O k=>W O fun v B4=>B4.slC x v (k .next)):=by
 intro O k m s vs ws h F R Q E hq;refine wpAny_Assign_Name (he h F R fun v B4 C3 E7 B7 B5 B8 C2 C1=>?_) (jP hc)
 refine zh C1 fun ρ led frz q=>?_
 refine stE V C2 q.all (fun h' F' N'=>?_) hl
 refine hq.next _ _ _ (zJ.mp B5) (B8.rest.trans zr.mk') F' (RL.store (k:=x) (v:=v) (w:=E7) (zk ρ led frz ⟨q.hr,N',q.nd,q.off,q.offp,q.kept,q.loc,q.stk⟩))
theorem ml{o e:Expr}{d:Nat}(D:Act G outer B3 env A d)(ok:AttrOk G x)(ho:ES G A B3 L (eval o env) Wo)(he:ES G A B3 L (eval e env) We)(hc:yS e=true):
  SS G A B3 L (exec (.Assign [.Attribute o (G.X.nm x) T6] e pos) env) (fun O k=>We O fun v B4=>Wo B4 fun a B6=>YR x a v B6 fun C7=>k .next C7):=by
 intro O k m s vs ws h F R Q E hq;exact plainObj_wpAny_Assign_Attribute (he h F R fun v B4 C3 E7 B7 B5 B8 C2 C1=>ho B5 C2 C1 fun a B6 C6 F0 B9 C5 C4 C9 D0=>f6 D ok C5 C9 D0 fun C7 D8 D1 D7 D9 D6=>hq.next C7 C6 D8 D1 ((B8.trans C4).rest.trans D7) D9 D6.pop.pop) (jP hc)
theorem ZO{o e:Expr}{op:Operator}{d:Nat}(D:Act G outer B3 env A d)(ok:AttrOk G x)(ho:ES G A B3 L (eval o env) Wo)(he:ES G A B3 L (eval e env) We):
  SS G A B3 L (exec (.AugAssign (.Attribute o (G.X.nm x) T6) op e pos) env) (fun O k=>Wo O fun a B4=>QC x a B4 fun old B6=>We B6 fun v C7=>JO op old v C7 fun new E4=>YR x a new E4 fun E9=>k .next E9):=by
 intro O k m s vs ws h F R Q E hq;refine wpAny_AugAssign_AttributeAny (ho h F R fun a B4 C3 E7 B7 B5 B8 C2 C1=>?_)
 have R1:RL G.X B3 L B7.heap C3 B4 (a::a::vs) (E7::E7::ws):=C1.stack fun ρ frz q=>by
  refine zv q.cons_inv fun Z Z e x Z=>?_
  cases e
  exact VRs.cons x q
 refine Xr D ok B5 C2 R1 fun old B6 C6 F0 B9 C5 C4 C9 D0=>he C5 C9 D0 fun v C7 E5 L9 D8 D1 D7 D9 D6=>nI D1 D9 D6 fun new E4 G3 w₄ F6 F5 G4 G1 G0=>?_
 have R5:RL G.X B3 L F6.heap G3 E4 (a::new::vs) (E7::w₄::ws):=G0.stack fun ρ frz q=>by
  refine zv q.cons_inv fun Z Z e x t=>?_
  cases e
  refine zv t.cons_inv fun Z Z e y t=>?_
  cases e
  exact VRs.cons y (VRs.cons x t)
 exact f6 D ok F5 G1 R5 fun E9 P8 I0 M9 N1 N5=>hq.next E9 G3 P8 I0 ((((B8.trans C4).trans D7).trans G4).rest.trans M9) N1 N5.pop.pop
theorem ZP{e:Expr}{op:Operator}{W:PS->KE->Prop}(V:EnvF env L)(hl:env.kindOf (G.X.nm x)=some .local)(he:ES G A B3 L (eval e env) W):
  SS G A B3 L (exec (.AugAssign (.Name (G.X.nm x) T2) op e pos) env) (fun O k=>jS x O fun old B4=>W B4 fun v B6=>JO op old v B6 fun new C7=>C7.slC x new (k .next)):=by
 intro O k m s vs ws h F R Q E hq;unfold jS at h
 cases el:lk x O.loc with
 | none=>rw[el] at h;exact h.elim
 | some v0 =>
  rw[el] at h;refine byc fun Ea=>?_
  refine zc (R.local el) fun w0 hm R'=>?_
  refine Ea ?_;refine wpAny_AugAssign_Name (vt V F hm (he h F R' fun v B6 C6 F0 B9 C5 C4 C9 D0=>nI C5 C9 D0 fun new C7 E5 L9 D8 D1 D7 D9 D6=>?_) hl)
  refine byc fun Ef=>?_
  refine zh D6 fun ρ led frz q=>?_
  refine Ef ?_;refine stE V D9 q.all (fun h' F' N'=>?_) hl
  exact hq.next _ _ _ (zJ.mp D1) ((C4.trans D7).rest.trans zr.mk') F' (RL.store (k:=x) (v:=new) (w:=L9) (zk ρ led frz ⟨q.hr,N',q.nd,q.off,q.offp,q.kept,q.loc,q.stk⟩))
theorem tD{o i e:Expr}(ho:ES G A B3 L (eval o env) Wo)(hi:ES G A B3 L (eval i env) Wi)(he:ES G A B3 L (eval e env) We)(hc:yS e=true)(hns:KI i=true):
  SS G A B3 L (exec (.Assign [.Subscript o i spos] e pos) env) (fun O k=>We O fun v B4=>Wo B4 fun a B6=>Wi B6 fun j C7=>gq a j v C7 fun E4=>k .next E4):=by
 intro O k m s vs ws h F R Q E hq;refine wpAny_Assign_stores (he h F R fun v B4 C3 E7 B7 B5 B8 C2 C1=>?_) (show swapsWith e (some (.Subscript o i spos)) pos.line env=pure false from jP hc) ?_
 ·show wpAny (model G.prog G.w) A (assign (.Subscript o i spos) env E7) _ _ B7
  rw[arm_assign_Subscript];refine wpAny_bind (wpAny_holding (ho B5 C2 C1 fun a B6 C6 F0 B9 C5 C4 C9 D0=>wpAny_bind (wpAny_holding (hi C5 C9 D0 fun j C7 E5 L9 D8 D1 D7 D9 D6=>wpAny_bind (wpAny_standAt (wpAny_bind (wpAny_holding (nK D1 D9 D6 fun E4 F6 F5 G4 G1 G0=>?_))))))))
  exact wpAny_release (hq.next E4 E5 F6 F5 (((B8.trans C4).trans D7).rest.trans G4) G1 G0)
 ·rfl
end
noncomputable def cO{α:Type}(o:α):List α->(List α->Prop)->Prop
 | [],c=>c [o]
 | a::r,c=>cO o r fun r'=>c (a::r')
theorem qz{α:Type}{o:α}:∀{l:List α} {c:List α->Prop},cO o l c↔c (l ++ [o])
 | [],_=>Iff.rfl
 | a::r,c=>qz (l:=r) (c:=fun r'=>c (a::r'))
def Xp(mt:Bool)(xs:List Int)(O:PS)(k:KE):Prop:=match O with
 | ⟨l,h⟩=>cond mt (cO (.il xs) h fun h'=>k (.ref h.length) ⟨l,h'⟩) (k (.il xs) ⟨l,h⟩)
section
variable {A:Around}{m:BB}{vs:List PV}{E:BA}
theorem U9{mt:Bool}{xs:List Int}{items:List Value}{n:Nat}{k:KE}{frz:BD}(q:RW G.X B3 L s.heap m O vs ws ρ led frz)(F':Fr B3 L h' m)
  (N':News B3 L h' ((D,listOf items.toArray n)::((led++frz)++G.X.ps))) (lt:∀p∈(led++frz)++G.X.ps,p.1≠D) (hi:IntsAre items xs) (h:Xp mt xs O k) (hq:yy G B3 L m s vs ws k Q):Q (.ref D) { s with heap:=h',toks:=tk }:=by
 obtain⟨l,hp⟩:=O;unfold Xp at h
 induction mt with
 | true =>
  simp only[cond_true] at h;replace h:=qz.mp h;have W:=q.own (po:=.il xs) N' lt (.il hi .nil);have len:ρ.length=hp.length:=q.hr.len;refine hq _ _ m _ _ h SR.mk' F' (zk _ _ _ ⟨W.hr,W.all,W.nd,W.off,W.offp,W.kept,W.loc,VRs.cons ?_ W.stk⟩);show Exists _;exact(zA D (by rw[Cy (Nat.le_of_eq len),len];simp) rfl)
 | false =>
  simp only[cond_false] at h;have W:=q.freeze N' lt;refine hq _ _ m _ _ h SR.mk' F' (zk _ _ _ ⟨W.hr,W.all,W.nd,W.off,W.offp,W.kept,W.loc,VRs.cons ?_ W.stk⟩);show Exists _;exact(y3 D items n rfl (.head _) hi)
theorem VN{us:List PV}{xs:List Value}{k:KE}{frz:BD}(q:RW G.X B3 L s.heap m O vs ws ρ led frz)(hu:VRs ρ frz us xs)(F':Fr B3 L h' m)
  (N':News B3 L h' ((D,qx xs 0)::((led++frz)++G.X.ps))) (lt:∀p∈(led++frz)++G.X.ps,p.1≠D) (h:k (.tup us) O) (hq:yy G B3 L m s vs ws k Q):Q (.ref D) { s with heap:=h',toks:=tk }:=by
 have W:=q.freeze N' lt;refine hq _ _ m _ _ h SR.mk' F' (zk _ _ _ ⟨W.hr,W.all,W.nd,W.off,W.offp,W.kept,W.loc,VRs.cons ?_ W.stk⟩);show Exists _;exact(y3 D xs 0 rfl (.head _) (hu.mono (fun Z Z e=>e) (fun p hp=>.tail _ hp)))
theorem U8{us:List PV}{xs:List Value}{n:Nat}{k:KE}{frz:BD}(q:RW G.X B3 L s.heap m O vs ws ρ led frz)(hu:VRs ρ frz us xs)(F':Fr B3 L h' m)
  (N':News B3 L h' ((D,listOf xs.toArray n)::((led++frz)++G.X.ps))) (lt:∀p∈(led++frz)++G.X.ps,p.1≠D) (h:k (.ls us) O) (hq:yy G B3 L m s vs ws k Q):Q (.ref D) { s with heap:=h',toks:=tk }:=by
 have W:=q.freeze N' lt;refine hq _ _ m _ _ h SR.mk' F' (zk _ _ _ ⟨W.hr,W.all,W.nd,W.off,W.offp,W.kept,W.loc,VRs.cons ?_ W.stk⟩);show Exists _;exact(y3 D xs n rfl (.head _) (hu.mono (fun Z Z e=>e) (fun p hp=>.tail _ hp)))
noncomputable def jy:List PV->Option (List Int)
 | []=>some []
 | .int i::r=>(jy r).map (i :: ·)
 | _=>none
theorem y5{ρ:List Addr}{frz:BD}:∀{us:List PV} {xs:List Value} {l:List Int},jy us=some l->VRs ρ frz us xs->IntsAre xs l
 | [],_,_,e,h=>by cases e;cases h;exact IntsAre.nil
 | u::us,xs,l,e,h=>by
  refine zv h.cons_inv fun w r Ek hv tl=>?_;subst Ek
  cases u with
  | int i =>
   refine zc (Option.map_eq_some_iff.mp (show(jy us).map (i :: ·)=some l from e)) fun l' e' Dm=>?_;subst Dm
   refine zV hv fun t Cd=>?_;subst Cd
   exact .cons _ _ (y5 e' tl)
  | _=>cases e
def U7(mt:Bool)(us:List PV)(O:PS)(k:KE):Prop:=match jy us with
 | some xs=>Xp mt xs O k
 | none=>cond mt False (k (.ls us) O)
def q6(mt:Bool)(us:List PV)(O:PS)(k:KE):Prop:=cond (Nat.ble us.length 1000) (U7 mt us O k) False
theorem aL{mt:Bool}{us:List PV}{xs:List Value}{n:Nat}{k:KE}{frz:BD}(q:RW G.X B3 L s.heap m O vs ws ρ led frz)(hu:VRs ρ frz us xs)(F':Fr B3 L h' m)
  (N':News B3 L h' ((D,listOf xs.toArray n)::((led++frz)++G.X.ps))) (lt:∀p∈(led++frz)++G.X.ps,p.1≠D) (h:U7 mt us O k) (hq:yy G B3 L m s vs ws k Q):Q (.ref D) { s with heap:=h',toks:=tk }:=by
 unfold U7 at h
 cases e:jy us with
 | some l=>rw[e] at h;exact U9 q F' N' lt (y5 e hu) h hq
 | none=>rw[e] at h;exact U8 q hu F' N' lt (jH h).2 hq
theorem Qw{us:List PV}{xs:List Value}{frz:BD}(q:RW G.X B3 L h m O (us.reverse++vs) (xs.reverse++ws) ρ led frz)(hl:xs.length=us.length):VRs ρ frz us xs/\RW G.X B3 L h m O vs ws ρ led frz:=by
 refine zv q.stk.split fun x1 x2 e12 s1 s2=>?_
 have el:x1=xs.reverse/\x2=ws:=by
  have l1:=s1.length;simp only[Cr] at l1;exact Cw e12.symm (by rw[l1,Cr,hl])
 refine zd el fun Dm Ek=>?_;subst Dm;subst Ek
 refine⟨?_,q.hr,q.all,q.nd,q.off,q.offp,q.kept,q.loc,s2⟩
 have rev:∀{a:List PV} {b:List Value},VRs ρ frz a b->VRs ρ frz a.reverse b.reverse:=by
  intro a
  induction a with
  | nil=>intro b hb;cases hb;exact VRs.nil
  | cons v a ih =>
   intro b hb;refine zv hb.cons_inv fun w r Cd hv tl=>?_;subst Cd
   simp only[Cv];exact(ih tl).append (VRs.cons hv VRs.nil)
 have:=rev s1
 simpa using this
theorem iP{mt:Bool}{Ws:PS->(List PV->PS->Prop)->Prop}(he:EL G A B3 L env pos S4 Ws):ES G A B3 L (eval (.List S4 pos) env) (fun O k=>Ws O fun us B4=>q6 mt us B4 k):=by
 intro O k m s vs ws h F R Q E hq;refine List_ (he h F R fun us B4 C3 xs B7 B5 B8 C2 C1 hl=>?_)
 refine byc fun Ea=>?_
 refine zh C1 fun ρ led frz q=>?_
 refine zd (Qw q hl) fun hu q=>?_
 have hq':yy G B3 L C3 B7 vs ws k Q:=fun v σ' m' w' s' a b c d=>hq v σ' m' w' s' a (B8.trans b) c d
 refine zd (zW B5) fun hb B5=>?_
 have hlen:=Bs hb;refine Ea ?_;exact newList_K C2 q.all (fun D h' F' N' lt=>aL q hu F' N' (fun p hp=>Ca (lt p hp)) B5 hq') (by rw[hl];unfold sizeLine;exact yD hlen rfl)
def xq(us:List PV)(O:PS)(k:KE):Prop:=cond (Nat.ble us.length 1000) (k (.tup us) O) False
theorem oY{kd:Nat}{Ws:PS->(List PV->PS->Prop)->Prop}(he:EL G A B3 L env pos S4 Ws):ES G A B3 L (eval (.Tuple S4 kd pos) env) (fun O k=>Ws O fun us B4=>xq us B4 k):=by
 intro O k m s vs ws h F R Q E hq;refine Tuple_ (he h F R fun us B4 C3 xs B7 B5 B8 C2 C1 hl=>?_)
 refine byc fun Ea=>?_
 refine zh C1 fun ρ led frz q=>?_
 refine zd (Qw q hl) fun hu q=>?_
 have hq':yy G B3 L C3 B7 vs ws k Q:=fun v σ' m' w' s' a b c d=>hq v σ' m' w' s' a (B8.trans b) c d
 refine zd (zW B5) fun hb B5=>?_
 have hlen:=Bs hb;refine Ea ?_;exact kup_newTuple C2 q.all (fun D h' F' N' lt=>VN q hu F' N' (fun p hp=>Ca (lt p hp)) B5 hq') (by rw[hl];unfold sizeLine;exact yD hlen rfl)
end
theorem IntsAre.app{a b:List Value}{x y:List Int}(h:IntsAre a x)(h':IntsAre b y):IntsAre (a++b) (x++y):=by
 induction h with
 | nil=>exact h'
 | cons n t _ ih=>exact .cons n t ih
noncomputable def jO{α:Type}:Nat->List α->List α
 | 0,_=>[]
 | n+1,l=>l++jO n l
theorem VU{a:List Value}{x:List Int}(h:IntsAre a x):∀n,IntsAre (jO n a) (jO n x)
 | 0=>.nil
 | n+1=>IntsAre.app h (VU h n)
theorem JH(a:Array Value):∀(n:Nat) (acc:Array Value),(List.foldl (fun x1 x2=>x1++x2) acc (List.replicate n a)).toList=acc.toList++jO n a.toList
 | 0,acc=>by simp[jO]
 | n+1,acc=>by rw[List.replicate_succ,List.foldl_cons,JH a n,Array.toList_append,jO,Br]
theorem YL{α:Type}:∀n,jO n ([]:List α) = []
 | 0=>rfl
 | n+1=>YL n
section
variable {A:Around}{m:BB}{vs:List PV}{E:BA}
theorem V9{frz:BD}(q:RW G.X B3 L s.heap m O vs ws ρ led frz):∀p∈(led++frz)++G.X.ps,p.1<s.heap.objs.size:=fun p hp=>Heap.lt_size (q.all p hp).1
def ny(mt:Bool)(a b:PV)(O:PS)(k:KE):Prop:=y4 b fun i=>opt (Jb O a) fun xs=>match i with
 | .ofNat n=>(xs.length*n<=2 ^ 24/\(n:Int)<2 ^ 63)/\Xp mt (jO n xs) O k
 | _=>False
theorem rY{mt:Bool}:O2 G A B3 L (binaryOp .Mult) (ny mt):=by
 intro O k m s vs ws a b wa wb h F R Q E hq;refine zc (jl h) fun i Ej g=>?_;subst Ej
 clear h;refine zc (zG g) fun xs e h=>?_
 clear g
 induction i with
 | negSucc _=>exact False.elim h
 | ofNat n =>
 refine zd h fun Ek h=>?_;obtain⟨h1,h2⟩:=Ek
 refine zV R.int fun t Dm=>?_;subst Dm
 have R1:=R.pop;refine zh (R1.ints e) fun x items c Ee=>jf Ee fun ρ led frz I Cd=>?_;subst Cd
 have hlen:=I.vals.length;refine mul_list F I.rw.all I.at_ (by show -(2 ^ 63:Int)<=(n:Int);lia) h2 (by show items.toArray.size*n<=2 ^ 24;rw[Bv,hlen];exact h1) fun h' F' N'=>?_
 have e2:(List.foldl (fun x1 x2=>x1++x2) #[] (List.replicate (if items.toArray.isEmpty=true then 0 else (Int.ofNat n).toNat) items.toArray))=(jO n items).toArray:=by
  apply Array.toList_inj.mp
  rw[JH]
  show[]++jO (if items.toArray.isEmpty=true then 0 else n) items=jO n items
  induction items with
  | nil=>simp[jO,YL]
  | cons=>simp
 rw[e2] at N';exact U9 (tk:=s.toks) (n:=0) I.rw.pop F' N' (fun p hp=>Ca (V9 I.rw p hp)) (VU I.vals n) h hq
def nu(mt:Bool)(a b:PV)(O:PS)(k:KE):Prop:=opt (Jb O a) fun xs=>opt (Jb O b) fun ys=>(xs.length+ys.length<=2 ^ 24)/\Xp mt (xs++ys) O k
theorem rW{mt:Bool}:O2 G A B3 L (binaryOp .Add) (nu mt):=by
 intro O k m s vs ws a b wa wb h F R Q E hq;refine zc (zG h) fun xs ex h=>?_
 refine zc (zG h) fun ys ey h=>?_
 refine zh (R.ints ey) fun y items2 c2 Ee=>jf Ee fun ρ2 led2 frz2 I2 Dm=>?_;subst Dm
 have hl2:=I2.isList;refine zh (R.pop.ints ex) fun x items c Ee=>jf Ee fun ρ led frz I Cd=>?_;subst Cd
 have fc:=I.vals.length;have fe:=I2.vals.length;refine add_lists F I.rw.all I.isList hl2 (fun h' F' N'=>?_) (by rw[fc,fe];exact h.1)
 exact U9 (tk:=s.toks) (n:=0) I.rw.pop F' N' (fun p hp=>Ca (V9 I.rw p hp)) (IntsAre.app I.vals I2.vals) h.2 hq
def vy(op:CmpOp)(a b:PV)(O:PS)(k:KE):Prop:=opt (Jb O a) fun xs=>opt (Jb O b) fun ys=>eqW op (decide (xs=ys)) fun c=>k (.bool c) O
theorem vT{op:CmpOp}(hu:A.units+64<cLine):O2 G A B3 L (compareOp op) (vy op):=by
 intro O k m s vs ws a b wa wb h F R Q E hq;refine zc (zG h) fun xs ex h=>?_
 refine zc (zG h) fun ys ey h=>?_
 refine zh (R.ints ey) fun y items2 c2 Ee=>jf Ee fun ρ2 led2 frz2 I2 Dm=>?_;subst Dm
 have hl2:=I2.isList;refine zh (R.pop.ints ex) fun x items c Ee=>jf Ee fun ρ led frz I Cd=>?_;subst Cd
 have fin:∀c,k (.bool c) O->Q (.bool c) s:=fun c hc=>hq _ O m _ s hc (SR.refl _ _) F (R.pop.pop.push (Uh c))
 rcases Zg h with ⟨rfl,g1⟩ | ⟨rfl,g1⟩
 ·exact eq_intsK I.isList I.vals hl2 I2.vals hu (fin _ g1)
 ·exact ne_intsK I.isList I.vals hl2 I2.vals hu (fin _ g1)
noncomputable def nC:PV->Option Nat
 | .ls us=>some us.length
 | _=>none
def vx(a:PV)(O:PS)(k:KE):Prop:=opt (((Jb O a).map List.length).or (nC a)) fun n=>n<=16384/\k (.int n) O
theorem RL.len{a:PV}{n:Nat}(R:RL G.X B3 L h m O (a::vs) (wa::ws))(e:((Jb O a).map List.length).or (nC a)=some n):∃x items,wa=.ref x/\h.IsList x items/\items.size=n:=by
 rcases nM e with e | e
 ·refine zc (Option.map_eq_some_iff.mp e) fun xs e1 Ek=>?_;subst Ek
  refine zh (R.ints e1) fun x items c Ee=>jf Ee fun ρ led frz I Dm=>?_;subst Dm
  exact(jx x _ rfl I.isList I.vals.length)
 ·cases a with
  | ls us =>
   cases e
   refine jf R.top1 fun ρ led frz q hv=>?_
   refine qJ hv fun b items n Cd hm hi=>?_;subst Cd
   exact(jx b _ rfl (jF q.news (Bo _ hm)) hi.length)
  | _=>cases e
theorem vS{a:PV}{k:KE}(h:vx a O k)(F:Fr B3 L s.heap m)(R:RL G.X B3 L s.heap m O (a::vs) (wa::ws))(hq:yy G B3 L m s vs ws k Q):wpAny (model G.prog G.w) A (call (.builtin "len") [wa]) Q E s:=by
 refine yb (zG h) fun n e h1 h=>?_
 refine zv (R.len e) fun x items Cd il hl=>?_;subst Cd
 exact kun_lenL il (k:=(n:Int)) (by rw[hl]) (yd (Vs h1) rfl) (hq.push F R.pop (jz _ _) h)
def xf(a:PV)(O:PS)(k:KE):Prop:=opt (Jb O a) fun xs=>k (.int xs.sum) O
theorem vV{a:PV}{k:KE}(hh:A.handled=none)(h:xf a O k)(F:Fr B3 L s.heap m)(R:RL G.X B3 L s.heap m O (a::vs) (wa::ws))(hq:yy G B3 L m s vs ws k Q):wpAny (model G.prog G.w) A (call (.builtin "sum") [wa]) Q E s:=by
 refine zc (zG h) fun xs e h=>?_
 refine zh (R.ints e) fun x items c Ee=>jf Ee fun ρ led frz I Cd=>?_;subst Cd
 refine sumK hh F I.rw.all I.isList I.vals fun h' tk t' F' N'=>hq _ O m _ _ h SR.mk' F' ?_
 have q:=I.rw.pop;exact RL.push (zk ρ led frz ⟨q.hr,N',q.nd,q.off,q.offp,q.kept,q.loc,q.stk⟩) (jz _ _)
def dmW(a b:PV)(O:PS)(k:KE):Prop:=y4 a fun x=>y4 b fun y=>cond (isZ y) False (Builtin.divisionGoesByPylong x y=false/\k (.tup [.int (bJ x y),.int (bK x y)]) O)
theorem AP{a b:PV}{wb:Value}{k:KE}(h:dmW a b O k)(F:Fr B3 L s.heap m)(R:RL G.X B3 L s.heap m O (b::a::vs) (wb::wa::ws))(hq:yy G B3 L m s vs ws k Q):
  wpAny (model G.prog G.w) A (call (.builtin "divmod") [wa,wb]) Q E s:=by
 refine zh (R.two h) fun x y t Ee=>yb Ee fun u Cd Dm g=>?_;obtain⟨rfl,rfl⟩:=Cd;obtain⟨rfl,rfl⟩:=Dm
 clear h;refine byc fun Ea=>?_
 refine zh R.pop.pop fun ρ led frz q=>?_
 refine jn (jH g) fun hz h1 h=>?_
 refine Ea ?_;rw[Q8,Q9] at h;refine divmod_N F q.all (U0 hz) (fun h' F' N'=>?_) (.inl h1)
 exact VN (s:=s) (tk:=s.toks+1+1) (us:=[.int (x.fdiv y),.int (x.fmod y)]) (xs:=[.int (x.fdiv y) s.toks,.int (x.fmod y) (s.toks+1)]) q (VRs.cons (jz _ _ _ _) (VRs.cons (jz _ _ _ _) VRs.nil)) F' N' (fun p hp=>Ca (V9 q p hp)) h hq
end
section
variable {prog:Program}{w:World}{A:Around}{E:BA}{b:Addr}{m:BB}{news news':BD}
end
section
variable {A:Around}{m:BB}{vs:List PV}{E:BA}
theorem gR{X:Cx}{its its':Array Value}{n:Nat}(f:Array Value->Array Value)(N:News B3 L h (pre++(D,listOf its n)::post))(a:∀p∈pre,p.1≠D)(c:∀p∈post,p.1≠D)(he:f its=its'):
  ∃n',News B3 L (h.update D (Obj.mapSeq f)) (pre++(D,listOf its' n')::post):=by
 by_cases hs:its'.size=its.size
 ·exact⟨n,kl_turn0 f N a c he hs⟩
 ·exact⟨n+1,kl_turn f N a c he hs⟩
theorem kZ{frz:BD}{d:Addr}{o:Obj}(q:RW G.X B3 L h m O vs ws ρ (pre++(d,o)::post) frz):(∀p∈pre,p.1≠d) /\ ∀p∈(post++frz)++G.X.ps,p.1≠d:=by
 have nd:=q.nd;rw[Da,Dh] at nd;obtain⟨n1,n2⟩:=Qq nd
 refine⟨fun p hp=>n1 p.1 (Cj hp),fun p hp=>?_⟩
 rcases List.mem_append.mp hp with h1 | h1
 ·rcases List.mem_append.mp h1 with h1 | h1
  ·exact n2 p.1 (Cj h1)
  ·exact q.off p h1 (d,o) (by simp)
 ·exact q.offp p h1 (d,o) (Bn _ (by simp))
noncomputable def eM(v:PV):Option Int:=match v with | .int i=>some i | _=>none
theorem kD{v:PV}{i:Int}(e:eM v=some i):v=.int i:=by
 cases v with
 | int j=>cases e;rfl
 | _=>cases e
def cP(xs:List Int)(v:PV)(k:Nat->PO->Prop):Prop:=match eM v with
 | some i=>k xs.length (.il (xs ++ [i]))
 | none=>cond xs.isEmpty (k 0 (.ls [v])) False
theorem hY{xs:List Int}{v:PV}{k:Nat->PO->Prop}(h:cP xs v k):(∃i,v=.int i/\k xs.length (.il (xs ++ [i])))∨(xs = []/\k 0 (.ls [v])):=by
 unfold cP at h
 cases e:eM v with
 | some i=>rw[e] at h;exact .inl ⟨i,kD e,h⟩
 | none =>
  rw[e] at h
  induction xs with
  | nil=>exact .inr ⟨rfl,h⟩
  | cons=>exact False.elim h
def ia(o:Option PO)(v:PV)(k:Nat->PO->Prop):Prop:=match o with
 | some (.il xs)=>cP xs v k
 | some (.ls us)=>k us.length (.ls (us ++ [v]))
 | _=>False
theorem ic{o:Option PO}{v:PV}{k:Nat->PO->Prop}(h:ia o v k):∃p n o',o=some p/\k n o' /\ ∀{X:Cx} {ρ:List Addr} {frz mid:BD} {a:Addr} {w:Value},OR X ρ frz p a mid->VR ρ frz v w ->
  ∃(items:List Value) (c:Nat),mid = [(a,listOf items.toArray c)]/\items.length=n /\ ∀c',OR X ρ frz o' a [(a,listOf (items ++ [w]).toArray c')]:=by
 induction o with
 | none=>exact False.elim h
 | some p =>
  induction p with
  | il xs =>
   have hx:=hY h;clear h
   rcases hx with ⟨i,rfl,h⟩ | ⟨rfl,h⟩
   ·refine(y3 _ _ _ rfl h (fun r hv=>?_))
    cases r with
    | il hi=>refine zV hv fun t Cd=>?_;subst Cd;exact(jx _ _ rfl hi.length (fun Z=>.il (IntsAre.app hi (.cons i t .nil))))
   ·refine(y3 _ _ _ rfl h (fun r hv=>?_))
    cases r with
    | il hi=>cases hi;exact(jx _ _ rfl rfl (fun Z=>.ls (VRs.cons hv VRs.nil)))
  | ls us =>
   refine(y3 _ _ _ rfl h (fun r hv=>?_))
   cases r with
   | ls hi=>exact(jx _ _ rfl hi.length (fun Z=>.ls (hi.append (VRs.cons hv VRs.nil))))
  | _=>exact False.elim h
def Wg(a v:PV)(O:PS)(k:PS->Prop):Prop:=ZI a fun j=>ia O.hp[j]? v fun n o'=>n<2 ^ 24/\O.siC j o' k
theorem f3{a v:PV}{k:PS->Prop}(h:Wg a v O k)(F:Fr B3 L s.heap m)(R:RL G.X B3 L s.heap m O (v::a::vs) (wv::wa::ws))
  (hq:∀σ' s',k σ'->zr s s'->Fr B3 L s'.heap m->RL G.X B3 L s'.heap m σ' vs ws->Q .none s'):wpAny (model G.prog G.w) A (call (.builtin "list.append") [wa,wv]) Q E s:=by
 refine zc (JB h) fun j Ek g=>?_;subst Ek
 clear h;refine byc fun Ea=>?_
 refine qJ (ic g) fun p n o' e Dm r=>?_;obtain⟨h1,h⟩:=Dm
 refine Ea ?_;clear g;replace h:=j6.mp h;refine byc fun Ef=>?_
 refine zh R fun ρ led frz q=>?_
 refine zh (q.hr.at e) fun x pre mid Ee=>yo Ee fun post e1 e2 e3 e4=>?_
 refine zv q.stk.cons_inv fun Z Z ee hv tl=>?_
 refine Ef ?_
 cases ee
 refine zv (r e3 hv) fun items c Cd hl e5=>?_;subst Cd
 rw[l1] at e2;subst e2;have q1:=q.pop;obtain rfl:=q1.ref e1;have hp:(items.toArray.push wv)=(items ++ [wv]).toArray:=List.push_toArray ..;have U:=q1.upd (listOf (items ++ [wv]).toArray (c+1));rw[<- hp] at U;refine append_K F q1.all U (fun h' F' N'=>hq _ _ h zr.mk' F' ?_) (by rw[Bv,hl];unfold sizeLine;exact yD (lV h1) rfl)
 rw[hp] at N';have E:=e4 _ _ (e5 (c+1));rw[l1] at E;exact(zk ρ _ frz ((q1.swap (by rw[Da,Da];rfl) E N').pop))
end
noncomputable abbrev KS:=PS->Prop
section
variable {M:Model}{A:Around}{E:BA}
theorem QB{o i:Expr}{v:Value}{Q:Unit->Shared->Prop}(h:wpAny M A (eval o env) (fun ov B9=>wpAny M A (eval i env) (fun iv D8=>wpAny M A (setItem ov iv v) Q E D8) E B9) E s):wpAny M A (assign (.Subscript o i pos) env v) Q E s:=by
 rw[arm_assign_Subscript];exact wpAny_bind (wpAny_holding (wpAny_mono h (fun ov B9 C5=>wpAny_bind (wpAny_holding (wpAny_mono C5 (fun iv D8 D1=>wpAny_bind (wpAny_standAt (wpAny_bind (wpAny_holding (wpAny_mono D1 (fun Z F6 F5=>wpAny_release F5) fun Z Z e=>e))))) fun Z Z e=>e))) fun Z Z e=>e))
theorem Ur(o:Expr)(attr:Str)(pos:Pos)(v:Value):assign (.Attribute o attr pos) env v=(do
  let ov <- holding [v] (eval o env)
  standAt pos.atName
  holding [v,ov] (setAttr ov attr v)
  release [v,ov] []):=by first | rfl | (unfold assign;rfl) | simp only[assign]
theorem K3{o:Expr}{attr:Str}{v:Value}{Q:Unit->Shared->Prop}(h:wpAny M A (eval o env) (fun ov B9=>wpAny M A (setAttr ov attr v) Q E B9) E s):wpAny M A (assign (.Attribute o attr pos) env v) Q E s:=fun Γ p hΓ=>by
 simp only[Ur,Sem.wp_bind',Sem.wp_holding,Sem.wp_cmd_standAt,Sem.wp_release,Sem.wp_pure'];exact Sem.wp_mono M Γ _ (fun ov p₂ B9 C5=>C5 Γ _ hΓ) (fun Z Z Z h'=>h') _ _ (h Γ _ hΓ)
end
section
variable {A:Around}{m:BB}{vs:List PV}{E:BA}
def AS(G:Gam)(A:Around)(B3:Heap)(L:Addr)(t:Value->Sem Unit)(W:PV->PS->KS->Prop):Prop:=
 ∀⦃v:PV⦄ ⦃w:Value⦄ ⦃O:PS⦄ ⦃k:KS⦄ ⦃m:BB⦄ ⦃s:Shared⦄ ⦃vs:List PV⦄ ⦃ws:List Value⦄,W v O k->Fr B3 L s.heap m->RL G.X B3 L s.heap m O (v::vs) (w::ws) ->
  ∀⦃Q:Unit->Shared->Prop⦄ ⦃E:BA⦄,(∀σ' m' s',k σ'->zr s s'->Fr B3 L s'.heap m'->RL G.X B3 L s'.heap m' σ' vs ws->Q () s')->wpAny (model G.prog G.w) A (t w) Q E s
theorem ij(V:EnvF env L)(hl:env.kindOf (G.X.nm x)=some .local):
  AS G A B3 L (assign (.Name (G.X.nm x) pos) env) (fun v O k=>O.slC x v k):=by
 intro v w O k m s vs ws h F R Q E hq;refine zh R fun ρ led frz q=>?_
 refine assign_Name (stE V F q.all (fun h' F' N'=>?_) hl)
 exact hq _ _ _ (zJ.mp h) zr.mk' F' (RL.store (k:=x) (v:=v) (w:=w) (zk ρ led frz ⟨q.hr,N',q.nd,q.off,q.offp,q.kept,q.loc,q.stk⟩))
theorem oa{o i:Expr}(ho:ES G A B3 L (eval o env) Wo)(hi:ES G A B3 L (eval i env) Wi):AS G A B3 L (assign (.Subscript o i pos) env) (fun v O k=>Wo O fun a B4=>Wi B4 fun i B6=>gq a i v B6 k):=by
 intro v w O k m s vs ws h F R Q E hq;exact QB (ho h F R fun a B4 C3 E7 B7 B5 B8 C2 C1=>hi B5 C2 C1 fun i B6 C6 F0 B9 C5 C4 C9 D0=>nK C5 C9 D0 fun C7 D8 D1 D7 D9 D6=>hq C7 C6 D8 D1 ((B8.trans C4).rest.trans D7) D9 D6)
theorem ig{o:Expr}{d:Nat}(D:Act G outer B3 env A d)(ok:AttrOk G x)(ho:ES G A B3 L (eval o env) Wo):AS G A B3 L (assign (.Attribute o (G.X.nm x) pos) env) (fun v O k=>Wo O fun a B4=>YR x a v B4 k):=by
 intro v w O k m s vs ws h F R Q E hq;exact K3 (ho h F R fun a B4 C3 E7 B7 B5 B8 C2 C1=>f6 D ok B5 C2 C1 fun B6 B9 C5 C4 C9 D0=>hq B6 C3 B9 C5 (B8.rest.trans C4) C9 D0.pop.pop)
noncomputable def UB:List (PV->PS->KS->Prop)->List PV->PS->KS->Prop
 | [],[],O,k=>k O
 | W::Ws,v::vs,O,k=>W v O fun B4=>UB Ws vs B4 k
 | _,_,_,_=>False
inductive ASs(G:Gam)(A:Around)(B3:Heap)(L:Addr):List (Value->Sem Unit)->List (PV->PS->KS->Prop)->Prop
 | nil:ASs G A B3 L [] []
 | cons {t ts W Ws}:AS G A B3 L t W->ASs G A B3 L ts Ws->ASs G A B3 L (t::ts) (W::Ws)
theorem Ww{ts:List (Value->Sem Unit)}{Ws:List (PV->PS->KS->Prop)}(H:ASs G A B3 L ts Ws):∀{us:List PV} {xs:List Value} {O:PS} {k:KS} {m:BB} {s:Shared} {vs:List PV} {ws:List Value},UB Ws us O k->Fr B3 L s.heap m->RL G.X B3 L s.heap m O (us++vs) (xs++ws)->xs.length=us.length ->
  ∀{Q:Unit->Shared->Prop} {E:BA},(∀σ' m' s',k σ'->zr s s'->Fr B3 L s'.heap m'->RL G.X B3 L s'.heap m' σ' vs ws->Q () s')->wpAny (model G.prog G.w) A (assignInOrder ts xs) Q E s:=by
 induction H with
 | nil =>
  intro us xs O k m s vs ws h F R hl Q E hq
  induction us with
  | cons=>exact False.elim h
  | nil =>
   induction xs with
   | cons=>exact nomatch hl
   | nil=>exact assignInOrder_nil (hq O m s h (zr.refl _) F R)
 | cons hT hTs ih =>
  intro us xs O k m s vs ws h F R hl Q E hq
  induction us with
  | nil=>exact False.elim h
  | cons u us =>
   induction xs with
   | nil=>exact nomatch hl
   | cons x xs =>
    refine assignInOrder_cons (hT h F (vs:=us++vs) (ws:=xs++ws) R fun B4 C3 B7 B5 B8 C2 C1=>ih B5 C2 C1 (Nat.succ.inj hl) fun B6 C6 B9 C5 C4 C9 D0=>hq B6 C6 B9 C5 (B8.trans C4) C9 D0)
noncomputable def jI(O:PS):PV->Option (List PV)
 | .tup us=>some us
 | .ls us=>some us
 | .il xs=>some (xs.map .int)
 | _=>none
noncomputable def yr:PV->Bool
 | .tup _=>true
 | _=>false
theorem eN{frz:BD}{items:List Value}{xs:List Int}(h:IntsAre items xs):VRs ρ frz (xs.map .int) items:=by
 induction h with
 | nil=>exact VRs.nil
 | cons n t _ ih=>exact VRs.cons (jz n t _ _) ih
theorem VR.seq{frz:BD}{v:PV}{w:Value}{items:List PV}(hv:VR ρ frz v w)(e:jI O v=some items):∃x vals n,w=.ref x/\(x,(cond (yr v) (qx vals n) (listOf vals.toArray n):Obj))∈frz/\VRs ρ frz items vals:=by
 cases v with
 | tup us=>cases e;refine qJ hv fun b vals n Ek hm hi=>?_;subst Ek;exact(y3 b vals n rfl hm hi)
 | ls us=>cases e;refine qJ hv fun b vals n Dm hm hi=>?_;subst Dm;exact(y3 b vals n rfl hm hi)
 | il xs=>cases e;refine qJ hv fun b vals n Cd hm hi=>?_;subst Cd;exact(y3 b vals n rfl hm (eN hi))
 | _=>cases e
def j8(Ws:List (PV->PS->KS->Prop))(v:PV)(O:PS)(k:KS):Prop:=opt (jI O v) fun us=>cond (Nat.beq us.length Ws.length) (UB Ws us O k) False
theorem ja:∀{S4:List Expr},S4.all zT=true->assignEach S4 env=S4.map fun t=>(false,assign t env)
 | [],_=>rfl
 | e::S4,h=>by
  simp only[Ed,Ck] at h
  have:=ja h.2
  cases e<;>first | (show(false,_)::assignEach S4 env=_;rw[this];rfl) | cases h.1
theorem Ys{t:Addr}{items:List Value}{n:Nat}{l:BD}(N:News B3 L h l)(hm:(t,qx items n)∈l):IsTup h t items.toArray:=⟨_,(N _ hm).1,rfl,n,rfl⟩
theorem ASs.len{ts:List (Value->Sem Unit)}{Ws:List (PV->PS->KS->Prop)}(H:ASs G A B3 L ts Ws):ts.length=Ws.length:=by
 induction H with
 | nil=>rfl
 | cons _ _ ih=>simp[ih]
theorem XR{kd:Nat}{Ws:List (PV->PS->KS->Prop)}(hh:A.handled=none)(hst:S4.all zT=true)(H:ASs G A B3 L (S4.map fun t=>assign t env) Ws):AS G A B3 L (assign (.Tuple S4 kd pos) env) (j8 Ws):=by
 intro v w O k m s vs ws h F R Q E hq;have hm:(assignEach S4 env).map (·.2)=S4.map fun t=>assign t env:=by rw[ja hst,List.map_map];rfl
 have hl1:(assignEach S4 env).length=Ws.length:=by rw[ja hst,Cm];have:=H.len;simpa using this
 have hs:(assignEach S4 env).findIdx? (·.1)=none:=by
  rw[ja hst,List.findIdx?_eq_none_iff];intro x hx;obtain⟨t,_,rfl⟩:=List.mem_map.mp hx;rfl
 obtain⟨us,e,g⟩:=zG h;clear h;obtain⟨hb,h⟩:=zW g;clear g;have hb:=Bp hb;obtain⟨ρ,led,frz,q,hv⟩:=R.top1;obtain⟨t,items,n,rfl,hmem,hv⟩:=hv.seq e;have hlen:=hv.length;have q1:=q.pop;have fin:∀{h':Heap} {tk:Nat},Fr B3 L h' m->News B3 L h' ((led++frz)++G.X.ps)->wpAny (model G.prog G.w) A (assignInOrder ((assignEach S4 env).map (·.2)) items) Q E { s with heap:=h',toks:=tk }:=fun F' N'=>by
  rw[hm];exact Ww H (us:=us) (xs:=items) (vs:=vs) (ws:=ws) h F' (zk ρ led frz ⟨q1.hr,N',q1.nd,q1.off,q1.offp,q1.kept,q1.loc,hv.append q1.stk⟩) hlen fun B6 C6 B9 C5 C4 C9 D0=>hq B6 C6 B9 C5 ⟨C4.1,C4.2.1,C4.2.2⟩ C9 D0
 cases ht:yr v with
 | true =>
  rw[ht] at hmem;exact assign_Tuple_tuple hh (Ys q.news (Bo _ hmem)) (by rw[hl1,Bv,hlen,hb]) hs fun h' he=>fin (tk:=s.toks) (F.extBut he (Cg _)) (q.all.extBut he (Cg _))
 | false =>
  rw[ht] at hmem;exact kun_list F q.all (jF q.news (Bo _ hmem)) hh (by rw[hl1,Bv,hlen,hb]) hs fun h' F' N'=>fin (tk:=s.toks) F' N'
end
variable {Wt:PV->PS->KS->Prop}
structure RB(X:Cx)(m:BB)(O:PS)(vs:List PV)(ws:List Value)(ρ:List Addr)(led frz:BD):Prop where
 hr:HR X ρ frz O.hp ρ led
 nd:(led.map (·.1)).Nodup
 off:∀p∈frz,∀q∈led,p.1≠q.1
 offp:∀p∈X.ps,∀q∈led++frz,p.1≠q.1
 kept:(∀p∈X.ks,p∈frz) /\ ∀p∈X.cl,ρ[p.1]?=some p.2
 loc:∀k v,lk k O.loc=some v->∃w,m (X.nm k)=some w/\VR ρ frz v w
 stk:VRs ρ frz vs ws
section
variable {X:Cx}{m:BB}{vs:List PV}{frz:BD}
theorem RW.rb(q:RW X B3 L h m O vs ws ρ led frz):RB X m O vs ws ρ led frz:=⟨q.hr,q.nd,q.off,q.offp,q.kept,q.loc,q.stk⟩
theorem RB.rw(q:RB X m O vs ws ρ led frz)(N:News B3 L h ((led++frz)++X.ps)):RW X B3 L h m O vs ws ρ led frz:=⟨q.hr,N,q.nd,q.off,q.offp,q.kept,q.loc,q.stk⟩
theorem RB.into{its keep:BD}(q:RB X m O vs ws ρ led frz)(ho:∀p∈its,∀y∈led++frz,p.1≠y.1)(hk:∀p∈keep,p∈frz):RB (X.pil (its++X.ps,keep++X.ks)) m O vs ws ρ led frz:=
 ⟨q.hr.pil,q.nd,q.off,fun p hp y hy=>by
  rcases List.mem_append.mp hp with hp | hp
  ·exact ho p hp y hy
  ·exact q.offp p hp y hy,⟨fun p hp=>by
  rcases List.mem_append.mp hp with hp | hp
  ·exact hk p hp
  ·exact q.kept.1 p hp,q.kept.2⟩,q.loc,q.stk⟩
theorem RB.out{its keep:BD}(q:RB (X.pil (its++X.ps,keep++X.ks)) m O vs ws ρ led frz):RB X m O vs ws ρ led frz/\(∀p∈its,∀y∈led++frz,p.1≠y.1) /\ ∀p∈keep,p∈frz:=
 ⟨⟨q.hr.unpil,q.nd,q.off,fun p hp=>q.offp p (Bo _ hp),⟨fun p hp=>q.kept.1 p (Bo _ hp),q.kept.2⟩,q.loc,q.stk⟩,fun p hp=>q.offp p (Bn _ hp),fun p hp=>q.kept.1 p (Bn _ hp)⟩
end
theorem AllObj.intro:∀{ws:List (Addr×String)} {k:BD->Prop},(∀its,Objs ws its->k its)->AllObj ws k
 | [],k,h=>h [] trivial
 | w::ws,k,h=>fun o ho=>AllObj.intro fun its hi=>h ((w.1,o)::its) ⟨⟨rfl,ho⟩,hi⟩
theorem hV{keep l:BD}(h:∀p∈keep,p∈l):SubL keep l:=by
 induction keep with
 | nil=>trivial
 | cons p r ih=>exact⟨h p (.head _),ih fun q hq=>h q (.tail _ hq)⟩
noncomputable def qj(Wt:PV->PS->KS->Prop)(Wb:PS->KF->Prop):List PV->PS->KF->Prop
 | [],O,k=>k .next O
 | v::r,O,k=>Wt v O fun B4=>Wb B4 fun f B6=>match f with
  | .next=>qj Wt Wb r B6 k
  | .brk=>k .next B6
  | .ret u=>k (.ret u) B6
section
variable {A:Around}{m:BB}{vs:List PV}{E:BA}
def n8(G:Gam)(A:Around)(B3:Heap)(env:Env)(target:Expr)(Wt:PV->PS->KS->Prop)(v:PV)(us:List PV)(xs:List Value)(a:Itm):Prop:=
 ∀(pn:Pl) {O:PS} {k:KS} {m:BB} {s:Shared} {u:Value} {vs:List PV} {ws:List Value},Wt v O k->a.Is u s.heap->Fr B3 env.locals s.heap m->RL (G.X.pil pn) B3 env.locals s.heap m O (us++vs) (xs++ws) ->
  ∀{Q:Unit->Shared->Prop} {E:BA},(∀σ' m' s',k σ'->zr s s'->Fr B3 env.locals s'.heap m'->RL (G.X.pil pn) B3 env.locals s'.heap m' σ' vs ws->Q () s')->wpAny (model G.prog G.w) A (assign target env u) Q E s
inductive TurnsOk(G:Gam)(A:Around)(B3:Heap)(env:Env)(target:Expr)(Wt:PV->PS->KS->Prop):List PV->List PV->List Value->List Itm->Prop
 | nil:TurnsOk G A B3 env target Wt [] [] [] []
 | cons {v r us xs us' xs' a r'}:us.length=xs.length->n8 G A B3 env target Wt v us xs a->TurnsOk G A B3 env target Wt r us' xs' r'->TurnsOk G A B3 env target Wt (v::r) (us++us') (xs++xs') (a::r')
set_option tactic.hygienic true in
theorem U1{body:List Stmt}{Q:Flow->Shared->Prop}{zs:List (Addr×String)}{keep:BD}{k:KF}
  (hb:∀pn,SS (G.pil pn) A B3 env.locals (execs body env) Wb) (hq:FCont G B3 env.locals s vs ws k Q) (hz:∀p∈G.X.ps,p.1∉zs.map (·.1)) :
  ∀{items us:List PV} {xs:List Value} {as:List Itm},TurnsOk G A B3 env target Wt items us xs as->∀{O:PS} {m:BB} {ρ:List Addr} {led frz:BD},qj Wt Wb items O k->RB G.X m O (us++vs) (xs++ws) ρ led frz ->
   (∀p∈led++frz,p.1∉zs.map (·.1))->(∀p∈keep,p∈frz)->ItemsRest G.prog G.w A E B3 env target body Q s zs keep as m ((led++frz)++G.X.ps):=by
 intro items us xs as H
 induction H with
 | nil =>
  intro O m ρ led frz h q ho hk;intro h' tk F N;exact hq.next O m _ h zr.mk' F (zk ρ led frz (q.rw N))
 | cons hlen hT hTs ih =>
  rename_i v r us xs us' xs' a r'
  intro O m ρ led frz h q ho hk;intro u h' tk hIs F;refine AllObj.intro fun its hits N=>?_
  have hadr:its.map (·.1)=zs.map (·.1):=hits.map;have hoff:∀p∈its,∀y∈led++frz,p.1≠y.1:=fun p hp y hy e=>ho y hy (hadr▸e▸Cj hp)
  have q':=q.into (its:=its) (keep:=keep) hoff hk;have N':News B3 env.locals h' ((led++frz)++(its++G.X.ps)):=fun p hp=>N p (by
   simp only[By] at hp ⊢
   rcases hp with (h | h) | h | h
   ·exact .inr (.inl (.inl h))
   ·exact .inr (.inl (.inr h))
   ·exact .inl h
   ·exact .inr (.inr h))
  have R:RL (G.X.pil (its++G.X.ps,keep++G.X.ks)) B3 env.locals h' m O (us++(us'++vs)) (xs++(xs'++ws)):=(zk ρ led frz (by simpa only[Br] using q'.rw (B3:=B3) (L:=env.locals) (h:=h') N'))
  refine hT (its++G.X.ps,keep++G.X.ks) (s:={ s with heap:=h',toks:=tk }) h hIs F R fun B4 C3 B7 B5 B8 C2 C1=>?_
  have drop:∀{σ':PS} {m':BB} {s':Shared} {vz:List PV} {wz:List Value} {us':List PV} {xs':List Value},xs'.length=us'.length->RL (G.X.pil (its++G.X.ps,keep++G.X.ks)) B3 env.locals s'.heap m' σ' (us'++vz) (xs'++wz)->RL G.X B3 env.locals s'.heap m' σ' vz wz:=by
   intro σ' m' s' vz wz us' xs' hl R';refine zh R' fun ρ' led' frz' w'=>?_
   refine jn w'.rb.out fun b1 b2 b3=>?_
   refine zv b1.stk.split fun x1 x2 e12 s1 s2=>?_
   have el:=Cw e12.symm (by rw[s1.length,hl])
   refine zd el fun Cd Dm=>?_;subst Cd;subst Dm
   exact⟨ρ',led',frz',b1.hr,fun p hp=>w'.all p (by
    show p∈(led'++frz')++(its++G.X.ps);simp only[By] at hp ⊢
    rcases hp with h | h
    ·exact .inl h
    ·exact .inr (.inr h)),b1.nd,b1.off,b1.offp,b1.kept,b1.loc,s2⟩
  have hlen':xs'.length=us'.length:=by
   have l1:=q.stk.length;refine zv q.stk.split fun Z Z e s1 s2=>?_
   have hl2:(us++us').length=(xs++xs').length:=by
    clear ih h hT R q' q l1 e s1 s2
    have:=hTs
    have key:∀{items us:List PV} {xs:List Value} {as:List Itm},TurnsOk G A B3 env target Wt items us xs as->us.length=xs.length:=by
     intro i u x a t
     induction t with
     | nil=>rfl
     | cons h _ _ ih=>simp[h,ih]
    simp[hlen,key hTs]
   simp only[Bz] at hl2
   lia
  refine hb (its++G.X.ps,keep++G.X.ks) B5 C2 C1 ⟨fun B6 C6 B9 C5 C4 C9 D0=>?_,fun B6 C6 B9 C5 C4 C9 D0=>?_,fun u F0 B6 C6 B9 C5 C4 C9 D0=>?_⟩
  ·refine zh D0 fun ρ' led' frz' w'=>?_
   refine jn w'.rb.out fun b1 b2 b3=>?_
   have hz':∀p∈led'++frz',p.1∉zs.map (·.1):=fun p hp hm=>by
    rw[<- hadr] at hm;refine zc (List.mem_map.mp hm) fun z hz e=>?_
    exact b2 z hz p hp e
   refine(zk B9.heap B9.toks C6 (qB ((led'++frz')++G.X.ps) ?_ C9 (fun p hp=>w'.all p ?_) ⟨fun p hp z hz'=>?_,hV fun p hp=>?_,?_⟩))
   ·obtain⟨a,b,c,d,e⟩:=B9
    refine jn (B8.trans C4) fun r1 r2 r3=>?_
    simp only at r1 r2 r3;subst r1 r2 r3;rfl
   ·show p∈(led'++frz')++(its++G.X.ps)
    simp only[By] at hp ⊢
    rcases hp with h | (h | h) | h
    ·exact .inr (.inl h)
    ·exact .inl (.inl h)
    ·exact .inl (.inr h)
    ·exact .inr (.inr h)
   ·rcases List.mem_append.mp hp with hp | hp
    ·exact fun e=>b2 z hz' p hp e.symm
    ·exact fun e=>hz p hp (hadr▸e▸Cj hz')
   ·exact Bn _ (Bo _ (b3 p hp))
   ·exact ih C5 b1 hz' b3
  ·exact hq.next B6 C6 B9 C5 ⟨(B8.trans C4).1,(B8.trans C4).2.1,(B8.trans C4).2.2⟩ C9 (drop hlen' D0)
  ·have D6:RL (G.X.pil (its++G.X.ps,keep++G.X.ks)) B3 env.locals B9.heap C6 B6 (us'++(u::vs)) (xs'++(F0::ws)):=D0.stack fun ρ' frz' q3=>by
    refine zv q3.cons_inv fun Z Z e a1 t1=>?_
    cases e
    refine zv t1.split fun x1 x2 e12 s1 s2=>?_
    obtain⟨rfl,rfl⟩:=Cw e12.symm (by rw[s1.length,hlen'])
    exact s1.append (VRs.cons a1 s2)
   exact hq.ret u F0 B6 C6 B9 C5 ⟨(B8.trans C4).1,(B8.trans C4).2.1,(B8.trans C4).2.2⟩ C9 (drop hlen' D6)
end
section
variable {prog:Program}{w:World}{A:Around}{E:BA}{body:List Stmt}{Q:Flow->Shared->Prop}
theorem QZ{x left step:Int}{v:Value}{Q':Unit->Shared->Prop}(hit:IsRangeIter s'.heap I x left step)(h:Q' () s'):wpAny (model prog w) A (letOwnedTupleGo target (.ref I) v) Q' E s':=by
  unfold letOwnedTupleGo
  cases target<;>first
    | exact wpAny_pure h
    | (induction v<;>first
        | exact wpAny_pure h
        | (refine wpAny_bind (wpAny_load hit ?_)
           exact wpAny_pure h))
noncomputable def jN(c a:Int):Nat->List Itm
 | 0=>[]
 | n+1=>.tok (fun t=>.int a t)::jN c (a+c) n
theorem qq(c:Int):∀(n:Nat) (a:Int),(jN c a n).length=n
 | 0,_=>rfl
 | n+1,a=>by simp[jN,qq c n]
theorem Js(c:Int):∀(n:Nat) (a:Int) (i:Nat),i<n->(jN c a n)[i]?=some (.tok fun t=>.int (a+i*c) t)
 | 0,_,_,h=>by lia
 | n+1,a,0,_=>by simp[jN]
 | n+1,a,i+1,h=>by
  rw[jN,List.getElem?_cons_succ,Js c n (a+c) i (by lia)]
  congr 2;funext t;congr 1;push_cast;rw[Int.add_mul];lia
theorem QY{r:Addr}{I1 N6 c:Int}{t₀ u₀ v₀:Tok}{n:Nat}{m₀:BB}{news:BD}
  (hh:A.handled=none) (hr:IsRange s.heap r I1 N6 c t₀ u₀ v₀) (hsmall:Builtin.Range.small I1 N6 c=true) (hn:Builtin.Range.rangeSize I1 N6 c=(n:Int)) (F:Fr B3 env.locals s.heap m₀) (N:News B3 env.locals s.heap news)
  (rest₀:∀I:Addr,(∀p∈news,p.1<I)->ItemsRest prog w A E B3 env target body Q s [(I, "range_iterator")] [] (jN c I1 n) m₀ news) :
  wpAny (model prog w) A (pyIter (.ref r)) (fun it B9=>TurnsAt prog w A B3 env target body Q E it B9) E s:=by
 refine wpAny_pyIter_range hr hsmall ?_;refine ktu_core (tk0:=s.toks) (keep:=[]) (KTurns.ofWalks (Walks.range hh s.heap.objs.size I1 c n).bound fun i v s Q E st q=>QZ st q) (by rw[qq]) (fun i v h hp=>?_) (fun i h st=>?_) (fun b hb=>?_) (fun b hb=>by simpa using hb) (fun b hb=>?_) ?_ (fun p hp hI=>?_) ?_ (F.push _) (fun p hp=>⟨Heap.get?_push_of_some _ (N p hp).1,(N p hp).2⟩) trivial (rest₀ _ fun p hp=>Heap.lt_size (N p hp).1)
 ·obtain⟨hi,t,rfl⟩:=hp
  exact(zA _ (Js c n I1 i hi) ⟨t,rfl⟩)
 ·exact(zA ([(s.heap.objs.size,_)]) ⟨⟨rfl,rfl⟩,trivial⟩ (fun p hp=>by rw[List.mem_singleton.mp hp];exact st))
 ·have hb':b=s.heap.objs.size:=by simpa using hb
  rw[hb']
  exact⟨List.mem_cons_self ..,next_is_new F⟩
 ·exact .inl (by simpa using hb)
 ·intro hI
  exact absurd F.ns.lt ((List.mem_singleton.mp hI)▸Do _)
 ·exact absurd (Heap.lt_size (N p hp).1) ((List.mem_singleton.mp hI)▸Do _)
 ·show IsRangeIter _ _ _ _ _;rw[hn];simpa using Heap.get?_push_size _ rfl
end
section
variable {A:Around}{m:BB}{vs:List PV}{E:BA}
theorem gW{t:Sem Flow}{Q:Flow->Shared->Prop}(h:wpAny (model G.prog G.w) A t Q (fun Z Z=>False) s):wpAny (model G.prog G.w) A t Q E s:=wpAny_mono h (fun Z Z x=>x) fun Z Z x=>x.elim
theorem QA{target:Expr}{Wt:PV->PS->KS->Prop}(hT:∀pn,AS (G.pil pn) A B3 env.locals (assign target env) Wt):∀{items:List PV} {vals:List Value},vals.length=items.length->TurnsOk G A B3 env target Wt items items vals (vals.map .val)
 | [],[],_=>.nil
 | [],_::_,h=>by simp at h
 | _::_,[],h=>by simp at h
 | v::items,x::vals,h=>by
  refine TurnsOk.cons (us:=[v]) (xs:=[x]) rfl ?_ (QA hT (by simpa using h))
  intro pn O k m s u vs ws hw hI F R Q E hq;obtain rfl:u=x:=hI;exact hT pn hw F R hq
noncomputable def ji(a:Int):Nat->List PV
 | 0=>[]
 | n+1=>.int a::ji (a+1) n
noncomputable def UP(c a:Int):Nat->List PV
 | 0=>[]
 | n+1=>.int a::UP c (a+c) n
theorem Qh:∀(n:Nat) (a:Int),ji a n=UP 1 a n
 | 0,_=>rfl
 | n+1,a=>congrArg (_ :: ·) (Qh n (a+1))
theorem QQ{target:Expr}{Wt:PV->PS->KS->Prop}(hT:∀pn,AS (G.pil pn) A B3 env.locals (assign target env) Wt)(c:Int):∀(n:Nat) (a:Int),TurnsOk G A B3 env target Wt (UP c a n) [] [] (jN c a n)
 | 0,_=>.nil
 | n+1,a=>by
  refine TurnsOk.cons (us:=[]) (xs:=[]) rfl ?_ (QQ hT c n (a+c));intro pn O k m s u vs ws hw hI F R Q E hq;obtain⟨t,rfl⟩:=hI;exact hT pn hw F (R.push (jz a t)) hq
end
noncomputable def Vb:Expr->Bool
 | .Set ..=>false
 | _=>true
section
variable {A:Around}{m:BB}{vs:List PV}{E:BA}
theorem Qe(h:Vb iter=true)(x:Value):foldedSetIterable iter env x=pure x:=by
 cases iter<;>first | rfl | cases h
structure SeqF(G:Gam)(B3:Heap)(L:Addr)(h:Heap)(m:BB)(O:PS)(vs:List PV)(ws:List Value)(items:List PV)(tp:Bool)(x:Addr)(vals:List Value)(n:Nat)(ρ:List Addr)(led frz:BD):Prop where
 rw:RW G.X B3 L h m O vs ws ρ led frz
 mem:(x,(cond tp (qx vals n) (listOf vals.toArray n):Obj))∈frz
 vals:VRs ρ frz items vals
theorem RL.seq{a:PV}{items:List PV}(R:RL G.X B3 L h m O (a::vs) (wa::ws))(e:jI O a=some items):∃x vals n ρ led frz,SeqF G B3 L h m O vs ws items (yr a) x vals n ρ led frz/\wa=.ref x:=by
 refine byc fun Ea=>?_
 refine jf R.top1 fun ρ led frz q hv=>?_
 refine Ea ?_;refine qJ (hv.seq e) fun x vals n Cd hm hi=>?_;subst Cd
 exact(zk x vals n (QK ρ led frz ⟨q.pop,hm,hi⟩ rfl))
def WF(We:PS->KE->Prop)(Wt:PV->PS->KS->Prop)(Wb:PS->KF->Prop)(O:PS)(k:KF):Prop:=We O fun a B4=>opt (jI B4 a) fun items=>qj Wt Wb items B4 k
theorem VW{body:List Stmt}(hh:A.handled=none)(he:ES G A B3 env.locals (eval iter env) We)(hT:∀pn,AS (G.pil pn) A B3 env.locals (assign target env) Wt)(hb:∀pn,SS (G.pil pn) A B3 env.locals (execs body env) Wb)(hi:Vb iter=true):
  SS G A B3 env.locals (exec (.For target iter body [] pos) env) (WF We Wt Wb):=by
 intro O k m s vs ws h F R Q E hq;refine gW (For_turns F (he h F R fun a B4 C3 E7 B7 B5 B8 C2 C1=>?_) (Qe hi) PassesOwn.never)
 refine zc (zG B5) fun items e B5=>?_
 refine zh (C1.seq e) fun x vals n Ee=>jf Ee fun ρ led frz I Cd=>?_;subst Cd
 have hlen:=I.vals.length;have q:=I.rw;have q':RB G.X C3 B4 (items++vs) (vals++ws) ρ led frz:=⟨q.hr,q.nd,q.off,q.offp,q.kept,q.loc,I.vals.append q.stk⟩;have hm:(x,(cond (yr a) (qx vals n) (listOf vals.toArray n):Obj))∈(led++frz)++G.X.ps:=Bn _ (Bo _ I.mem)
 cases ht:yr a with
 | false =>
  rw[ht] at hm;have hk:=I.mem;rw[ht] at hk;refine iter_listTurns hh C2 q.all hm rfl rfl fun J lt=>?_
  exact U1 hb (hq.after B8) (fun p hp hz=>by simp at hz;exact Do _ (hz▸lt p (Bo _ hp))) (QA hT hlen) B5 q'
   (fun p hp hz=>by simp at hz;exact Do _ (hz▸lt p (Bn _ hp))) (fun p hp=>by rw[List.mem_singleton.mp hp];exact hk)
 | true =>
  rw[ht] at hm;have hk:=I.mem;rw[ht] at hk;refine iter_tupTurns hh C2 q.all hm rfl rfl fun J lt=>?_
  exact U1 hb (hq.after B8) (fun p hp hz=>by simp at hz;exact Do _ (hz▸lt p (Bo _ hp))) (QA hT hlen) B5 q'
   (fun p hp hz=>by simp at hz;exact Do _ (hz▸lt p (Bn _ hp))) (fun p hp=>by rw[List.mem_singleton.mp hp];exact hk)
structure BltOk(G:Gam)(x:Nat)(v:Value):Prop where
 hv:bootBuiltins (G.X.nm x)=some v
 h1:G.X.nm x∉startupNames
 h2:G.X.nm x∉G.loose
 h3:G.X.nm x∉(recsOf G.p).map (·.name)
 h4:G.X.nm x∉(litsOf G.p).map (·.1)
 h4c:G.X.nm x∉(clssOf G.p G.loose).map (·.name)
 hn:G.X.nm x ≠ "__name__"
 hd:(G.X.nm x==("__debug__" : Str))=false
theorem YC{v:Value}{d:Nat}(ok:BltOk G x v)(D:Act G outer B3 env' A d)(V:EnvG env)(hx:env.kindOf (G.X.nm x)=some .globalImplicit)
  (F:Fr B3 L s.heap m) (h:Q v s):wpAny (model G.prog G.w) A (eval (.Name (G.X.nm x) pos) env) Q E s:=xM V F D.T.g (D.T.free _ ok.h1 ok.h2 ok.h3 ok.h4 ok.h4c) D.T.b ((D.T.builtins _ ok.hn).trans ok.hv) h hx ok.hd
theorem JT{id:String}{d:Nat}{Wo:List PV->PS->KE->Prop}(ok:BltOk G x (.builtin id))(D:Act G outer B3 env' A d)(V:EnvG env)(hx:env.kindOf (G.X.nm x)=some .globalImplicit)
  (ha:EL G A B3 L env pos args Wa) (hst:args.all zT=true) (hne:args.isEmpty=false)
  (ho:∀{us:List PV} {xs:List Value} {O:PS} {k:KE} {m:BB} {s:Shared} {vs:List PV} {ws:List Value},Wo us O k->Fr B3 L s.heap m->RL G.X B3 L s.heap m O (us.reverse++vs) (xs.reverse++ws)->xs.length=us.length->∀{Q:BA} {E:BA},yy G B3 L m s vs ws k Q->wpAny (model G.prog G.w) A (call (.builtin id) xs) Q E s) :
  ES G A B3 L (eval (.Call (.Name (G.X.nm x) np) args [] pos) env) (fun O k=>Wa O fun us B4=>Wo us B4 k):=by
 intro O k m s vs ws h F R Q E hq;refine Call_Name rfl (YC ok D V hx F ?_)
 induction args with
 | nil=>cases hne
 | cons e es =>
  simp only[Ed,Ck] at hst;refine callWith_builtin1 (ha h F R fun us B4 C3 xs B7 B5 B8 C2 C1 hl=>?_) (z8 hst.1) (yX hst.2).2
  exact ho B5 C2 C1 hl fun v σ' m' w' s' a b c d=>hq v σ' m' w' s' a (B8.trans b) c d
def one(us:List PV)(k:PV->Prop):Prop:=match us with | []=>False | a::r=>match r with | []=>k a | _::_=>False
def two(us:List PV)(k:PV->PV->Prop):Prop:=match us with | []=>False | a::r=>one r (k a)
def kM(us:List PV)(O:PS)(k:KE):Prop:=one us fun a=>vx a O k
def mB(us:List PV)(O:PS)(k:KE):Prop:=one us fun a=>xf a O k
def dmB(us:List PV)(O:PS)(k:KE):Prop:=two us fun a b=>dmW a b O k
theorem fc{xs:List α}(h:xs.length=1):∃a,xs = [a]:=by
 induction xs with
 | nil=>simp at h
 | cons a r=>induction r with
  | nil=>exact⟨a,rfl⟩
  | cons=>simp at h
theorem fe{xs:List α}(h:xs.length=2):∃a b,xs = [a,b]:=by
 cases xs with
 | nil=>simp at h
 | cons a r =>
  obtain⟨b,rfl⟩:=fc (xs:=r) (by simpa using h)
  exact(Kc a b rfl)
theorem vw{xs:List α}(h:xs.length=3):∃a b c,xs = [a,b,c]:=by
 cases xs with
 | nil=>simp at h
 | cons a r =>
  obtain⟨b,c,rfl⟩:=fe (xs:=r) (by simpa using h)
  exact(zk a b c rfl)
theorem y8{us:List PV}{xs:List Value}{k:PV->Prop}(h:one us k)(hl:xs.length=us.length):∃a w,us = [a]/\xs = [w]/\k a:=by
 cases us with
 | nil=>exact False.elim h
 | cons a r =>
  cases r with
  | cons=>exact False.elim h
  | nil=>obtain⟨w,rfl⟩:=fc hl;exact(jx a w rfl rfl h)
theorem tW{us:List PV}{xs:List Value}{k:PV->PV->Prop}(h:two us k)(hl:xs.length=us.length):∃a b w x,us = [a,b]/\xs = [w,x]/\k a b:=by
 cases us with
 | nil=>exact False.elim h
 | cons a r =>
  cases xs with
  | nil=>cases hl
  | cons w xs=>refine zv (y8 (us:=r) h (Nat.succ.inj hl)) fun b x Cd Dm h=>?_;subst Cd;subst Dm;exact(zk a b w (yh x rfl rfl h))
theorem rX{us:List PV}{xs:List Value}{k:KE}(h:kM us O k)(F:Fr B3 L s.heap m)(R:RL G.X B3 L s.heap m O (us.reverse++vs) (xs.reverse++ws))(hl:xs.length=us.length)(hq:yy G B3 L m s vs ws k Q):wpAny (model G.prog G.w) A (call (.builtin "len") xs) Q E s:=by
 refine zv (y8 h hl) fun a w Cd Dm g=>?_;subst Cd;subst Dm
 exact vS g F R hq
theorem rZ{us:List PV}{xs:List Value}{k:KE}(hh:A.handled=none)(h:mB us O k)(F:Fr B3 L s.heap m)(R:RL G.X B3 L s.heap m O (us.reverse++vs) (xs.reverse++ws))(hl:xs.length=us.length)(hq:yy G B3 L m s vs ws k Q):wpAny (model G.prog G.w) A (call (.builtin "sum") xs) Q E s:=by
 refine zv (y8 h hl) fun a w Cd Dm g=>?_;subst Cd;subst Dm
 exact vV hh g F R hq
theorem vR{us:List PV}{xs:List Value}{k:KE}(h:dmB us O k)(F:Fr B3 L s.heap m)(R:RL G.X B3 L s.heap m O (us.reverse++vs) (xs.reverse++ws))(hl:xs.length=us.length)(hq:yy G B3 L m s vs ws k Q):wpAny (model G.prog G.w) A (call (.builtin "divmod") xs) Q E s:=by
 refine zh (tW h hl) fun a b w Ee=>yb Ee fun x Cd Dm g=>?_;subst Cd;subst Dm
 exact AP g F R hq
noncomputable def jW(a b:Int):Nat:=(b-a).toNat
def ww(us:List PV)(A1:Int->Prop)(A2:Int->Int->Prop)(A3:Int->Int->Int->Prop):Prop:=match us with
 | []=>False
 | u::r=>match r with
  | []=>y4 u A1
  | v::r'=>match r' with
   | []=>y4 u fun a=>y4 v (A2 a)
   | _::_=>one r' fun w=>y4 u fun a=>y4 v fun b=>y4 w (A3 a b)
theorem lZ{us:List PV}{A1:Int->Prop}{A2:Int->Int->Prop}{A3:Int->Int->Int->Prop}(h:ww us A1 A2 A3):(∃b,us = [.int b]/\A1 b)∨(∃a b,us = [.int a,.int b]/\A2 a b) ∨ ∃a b c,us = [.int a,.int b,.int c]/\A3 a b c:=by
 cases us with
 | nil=>exact False.elim h
 | cons u r=>cases r with
  | nil=>refine zc (jl h) fun a Eg h=>?_;subst Eg;exact .inl (zA a rfl h)
  | cons v r=>cases r with
   | nil=>refine zc (jl h) fun a Eh g=>?_;subst Eh;refine zc (jl g) fun b Ej h=>?_;subst Ej;exact .inr (.inl (yA a b rfl h))
   | cons w r=>cases r with
    | nil=>refine zc (jl h) fun a Ek g=>?_;subst Ek;refine zc (jl g) fun b Dm g2=>?_;subst Dm;refine zc (jl g2) fun c Cd h=>?_;subst Cd;exact .inr (.inr (QK a b c rfl h))
    | cons _ _=>exact False.elim h
structure RngOk(a b c:Int):Prop where
 small:Builtin.Range.small a b c=true
 size:0<=Builtin.Range.rangeSize a b c
 nz:c≠0
 np:Builtin.divisionGoesByPylong (b-a) c=false
def VC(Wa:PS->(List PV->PS->Prop)->Prop)(Wt:PV->PS->KS->Prop)(Wb:PS->KF->Prop)(O:PS)(k:KF):Prop:=Wa O fun us B4=>ww us
 (fun b=>(-(2 ^ 61:Int)<=b/\b<=2 ^ 61)/\qj Wt Wb (ji 0 (jW 0 b)) B4 k)
 (fun a b=>(-(2 ^ 61:Int)<=a/\a<=2 ^ 61 /\ -(2 ^ 61:Int)<=b/\b<=2 ^ 61)/\qj Wt Wb (ji a (jW a b)) B4 k)
 (fun a b c=>RngOk a b c/\qj Wt Wb (UP c a (Builtin.Range.rangeSize a b c).toNat) B4 k)
theorem yE{a b:Int}(ha:-(2 ^ 61:Int)<=a)(ha':a<=2 ^ 61)(hb:-(2 ^ 61:Int)<=b)(hb':b<=2 ^ 61):Builtin.Range.small a b 1=true/\Builtin.Range.rangeSize a b 1=(jW a b:Nat):=by
 refine⟨small_one (Dp (by decide) ha) (Dz ha' (by decide)) (Dp (by decide) hb) (Dz hb' (by decide)),?_⟩
 rw[rangeSize_one];unfold jW;clear ha ha' hb hb'
 split<;>lia
theorem J3{T:String}{d:Nat}{k:List PV->PS->Prop}(ok:BltOk G x (.type T))(D:Act G outer B3 env' A d)(V:EnvG env)(hx:env.kindOf (G.X.nm x)=some .globalImplicit)
  (ha:EL G A B3 L env pos args Wa) (hst:args.all zT=true) (hne:args.isEmpty=false) (h:Wa O k) (F:Fr B3 L s.heap m) (R:RL G.X B3 L s.heap m O vs ws)
  (ho:∀us σ' m' xs s',k us σ'->SR m s m' s'->Fr B3 L s'.heap m'->RL G.X B3 L s'.heap m' σ' (us.reverse++vs) (xs.reverse++ws)->xs.length=us.length->wpAny (model G.prog G.w) A (call (.type T) xs) Q E s') :
  wpAny (model G.prog G.w) A (eval (.Call (.Name (G.X.nm x) np) args [] pos) env) Q E s:=by
 refine Call_Name rfl (YC ok D V hx F ?_)
 induction args with
 | nil=>cases hne
 | cons e es =>
  simp only[Ed,Ck] at hst;exact callWith_type1 (ha h F R fun us B4 C3 xs B7 B5 B8 C2 C1 hl=>ho us B4 C3 xs B7 B5 B8 C2 C1 hl) (z8 hst.1) (yX hst.2).2
theorem YS{body:List Stmt}{cp:Pos}{d:Nat}(ok:BltOk G x (.type "range"))(D:Act G outer B3 env A d)(V:EnvF env L)(hx:env.kindOf (G.X.nm x)=some .globalImplicit)
  (ha:EL G A B3 L env cp args Wa) (hst:args.all zT=true) (hne:args.isEmpty=false) (hT:∀pn,AS (G.pil pn) A B3 L (assign target env) Wt) (hb:∀pn,SS (G.pil pn) A B3 L (execs body env) Wb) :
  SS G A B3 L (exec (.For target (.Call (.Name (G.X.nm x) np) args [] cp) body [] pos) env) (VC Wa Wt Wb):=by
 intro O k m s vs ws h F R Q E hq;obtain rfl:=V.loc;refine gW (For_turns (env:=env) F (J3 ok D V.toEnvG hx ha hst hne h F R fun us B4 C3 xs B7 B5 B8 C2 C1 hl=>?_) (fun Z=>rfl) PassesOwn.never)
 have key:∀{lo hi c:Int} {n:Nat} {h':Heap} {tk:Nat} {F7 G7 E6:Tok} {r:Addr} {ρ:List Addr} {led frz:BD},Builtin.Range.small lo hi c=true/\Builtin.Range.rangeSize lo hi c=(n:Nat)->qj Wt Wb (UP c lo n) B4 k->IsRange h' r lo hi c F7 G7 E6->Fr B3 env.locals h' C3->News B3 env.locals h' ((led++frz)++G.X.ps)->RB G.X C3 B4 vs ws ρ led frz ->
   wpAny (model G.prog G.w) A (pyIter (.ref r)) (fun it B9=>TurnsAt G.prog G.w A B3 env target body Q (fun Z Z=>False) it B9) (fun Z Z=>False) { B7 with heap:=h',toks:=tk }:=by
  intro lo hi c n h' tk F7 G7 E6 r ρ led frz hs hf hr F' N' q;refine QY (env:=env) (s:={ B7 with heap:=h',toks:=tk }) D.hd hr hs.1 hs.2 F' N' fun J lt=>?_
  exact U1 (env:=env) (s:={ B7 with heap:=h',toks:=tk }) hb (hq.after (B8.rest.trans zr.mk')) (fun p hp hz=>by simp at hz;exact Do _ (hz▸lt p (Bo _ hp))) (QQ hT c _ lo) hf q
   (fun p hp hz=>by simp at hz;exact Do _ (hz▸lt p (Bn _ hp))) (fun p hp=>(nomatch hp))
 rcases lZ B5 with ⟨b,rfl,B5⟩ | ⟨lo,b,rfl,B5⟩ | ⟨lo,b,c,rfl,B5⟩
 ·refine zV (fc (xs:=xs) hl) fun w0 eZ9=>?_;subst eZ9
  refine zV (RL.int (vs:=vs) (ws:=ws) C1) fun t eZ8=>?_;subst eZ8
  refine byc fun Ea=>?_
  refine zh (RL.pop (vs:=vs) (ws:=ws) C1) fun ρ led frz q=>?_
  refine Ea ?_;refine range1_rows C2 q.all fun h' tk F7 G7 E6 hr F' N' Z=>?_
  exact key (yE (by decide) (by decide) B5.1.1 B5.1.2) (Qh _ _▸B5.2) hr F' N' q.rb
 ·refine JK (fe (xs:=xs) hl) fun w0 w1 eZ7=>?_;subst eZ7
  have G8:RL G.X B3 env.locals B7.heap C3 B4 (.int b::.int lo::vs) (w1::w0::ws):=C1;refine zV G8.int fun t Eg=>?_;subst Eg
  refine zV G8.pop.int fun u Eh=>?_;subst Eh
  refine byc fun Ef=>?_
  refine zh G8.pop.pop fun ρ led frz q=>?_
  refine Ef ?_;refine range2_rows C2 q.all fun h' tk F7 G7 E6 hr F' N' Z=>?_
  exact key (yE B5.1.1 B5.1.2.1 B5.1.2.2.1 B5.1.2.2.2) (Qh _ _▸B5.2) hr F' N' q.rb
 ·refine zh (vw (xs:=xs) hl) fun w0 w1 w2 Ej=>?_;subst Ej
  have G8:RL G.X B3 env.locals B7.heap C3 B4 (.int c::.int b::.int lo::vs) (w2::w1::w0::ws):=C1;refine zV G8.int fun t Ek=>?_;subst Ek
  refine zV G8.pop.int fun u Dm=>?_;subst Dm
  refine zV G8.pop.pop.int fun z Cd=>?_;subst Cd
  refine byc fun El=>?_
  refine zh G8.pop.pop.pop fun ρ led frz q=>?_
  refine El ?_;refine range3_rows C2 q.all B5.1.nz (fun h' tk F7 G7 E6 hr F' N' Z=>?_) (.inl B5.1.np)
  exact key ⟨B5.1.small,(Int.toNat_of_nonneg B5.1.size).symm⟩ B5.2 hr F' N' q.rb
theorem far{zs:List (Addr×String)}{J a:Nat}(h:a<J)(hz:∀z∈zs,J<=z.1):a∉zs.map (·.1):=fun hm=>by
 obtain⟨z,hz',rfl⟩:=List.mem_map.mp hm;exact absurd (hz z hz') (Nat.not_le.mpr h)
end
section
open PySem.Spec PySem.SeqAt
theorem yT(ns:List Int):shaped (.tuple (ns.map PyData.int))=true:=by
 have h1:=PySem.W.depthAll_ints ns;have h2:PyData.depth (.tuple (ns.map PyData.int))<=64:=by simp only[PyData.depth];exact yD (sV h1 (Cg _)) rfl
 show(PyData.canLay0 (.tuple (ns.map PyData.int))&&decide (PyData.depth (.tuple (ns.map PyData.int))<=64))=true
 rw[Ck]
 exact⟨by simp only[PyData.canLay0];exact canLayAll0_ints ns,decide_eq_true h2⟩
section
variable {A:Around}{m:BB}{vs:List PV}{E:BA}
noncomputable def gP:PV->Option (List Int)
 | .tup us=>jy us
 | _=>none
theorem VR.til{frz:BD}{v:PV}{w:Value}{xs:List Int}(h:VR ρ frz v w)(e:gP v=some xs):∃a items n,w=.ref a/\(a,qx items n)∈frz/\IntsAre items xs:=by
 cases v with
 | tup us=>refine qJ h fun a items n Cd hm hi=>?_;subst Cd;exact(y3 a items n rfl hm (y5 e hi))
 | _=>cases e
def xi(op:CmpOp)(a b:PV)(O:PS)(k:KE):Prop:=opt (gP a) fun xs=>opt (gP b) fun ys=>eqW op (decide (xs=ys)) fun c=>k (.bool c) O
theorem vW{op:CmpOp}(hu:A.units+64<cLine):O2 G A B3 L (compareOp op) (xi op):=by
 intro O k m s vs ws a b wa wb h F R Q E hq;refine zc (zG h) fun xs ex g=>?_
 refine zc (zG g) fun ys ey g=>?_
 have fin:∀c,k (.bool c) O->Q (.bool c) s:=fun c hc=>hq _ O m _ s hc (SR.refl _ _) F (R.pop.pop.push (Uh c))
 refine jf R.top1 fun ρ led frz q hv=>?_
 refine zv q.stk.cons_inv fun Z Z ee Z tl=>?_
 cases ee
 refine zv tl.cons_inv fun Z Z ee hv1 Z=>?_
 cases ee
 refine qJ (hv.til ey) fun y i2 n2 Dm m2 r2=>?_;subst Dm
 refine qJ (hv1.til ex) fun x i1 n1 Cd m1 r1=>?_;subst Cd
 have g1:=(q.news _ (Bo _ m1)).1;have g2:=(q.news _ (Bo _ m2)).1;have d1:Reads s.heap (.ref x) (.tuple (xs.map PyData.int)) []:=Reads.tuple g1 rfl rfl (by simpa using readsAll_of_ints r1)
 have d2:Reads s.heap (.ref y) (.tuple (ys.map PyData.int)) []:=Reads.tuple g2 rfl rfl (by simpa using readsAll_of_ints r2)
 rcases Zg g with ⟨rfl,g1⟩ | ⟨rfl,g1⟩
 ·exact eq_dataH_same d1 d2 (yT xs) (yT ys) hu (by simp only[noMix];exact noMix_ints xs ys) (by simp only[PySem.Spec.same];rw[same_ints];exact fin _ g1)
 ·exact ne_dataH_same d1 d2 (yT xs) (yT ys) hu (by simp only[noMix];exact noMix_ints xs ys) (by simp only[PySem.Spec.same];rw[same_ints];exact fin _ g1)
noncomputable def Ji(lo hi:Option Int)(xs:List Int):List Int:=(xs.drop (kms_lo lo xs.length)).take (kms_hi hi xs.length-kms_lo lo xs.length)
noncomputable def jo:PV->Option (Option Int)
 | .none=>some none
 | .int i=>some (some i)
 | _=>none
def ZN(arg:PV->Option (List Int))(mt:Bool)(a lo hi:PV)(O:PS)(k:KE):Prop:=opt (jo lo) fun l=>opt (jo hi) fun u=>opt ((Jb O a).or (arg a)) fun xs=>xs.length<=2 ^ 24/\Xp mt (Ji l u xs) O k
theorem VK{frz:BD}{v:PV}{w:Value}{p:Option Int}(e:jo v=some p)(h:VR ρ frz v w):IsPart w p:=by
 cases v with
 | none=>cases e;cases h;exact .none
 | int i=>cases e;obtain⟨t,rfl⟩:=h;exact .int _ _
 | _=>cases e
theorem YG{X:Cx}{m:BB}{l:PV}{vs:List PV}{wl wu:Value}{p1 p2:_}(R:RL X B3 L h m O (u::l::vs) (wu::wl::ws))(e1:jo l=some p1)(e2:jo u=some p2):IsPart wl p1/\IsPart wu p2:=by
 refine byc fun Ea=>?_
 refine zh R fun ρ led frz q=>?_
 refine zv q.stk.cons_inv fun Z Z ee v2 tl=>?_
 refine Ea ?_
 cases ee
 refine byc fun Ef=>?_
 refine zv tl.cons_inv fun Z Z ee v1 Z=>?_
 refine Ef ?_
 cases ee
 exact⟨VK e1 v1,VK e2 v2⟩
theorem ci{mt:Bool}{a l:PV}{k:KE}(h:ZN arg mt a l u O k):∃p1 p2 xs,jo l=some p1/\jo u=some p2/\(Jb O a=some xs∨arg a=some xs)/\xs.length<=2 ^ 24/\Xp mt (Ji p1 p2 xs) O k:=by
 refine byc fun Ea=>?_
 refine zc (zG h) fun p1 e1 h=>?_
 refine zc (zG h) fun p2 e2 h=>?_
 refine zc (zG h) fun xs e3 h=>?_
 refine Ea ?_;exact(yM p1 p2 xs e1 e2 (nM e3) h)
theorem dR{mt:Bool}{lo hi:Option Expr}{sp:Pos}{Wv:PS->KE->Prop}{Wh:PS->KE->Prop}(hv:ES G A B3 L (eval value env) Wv)(hl:ES G A B3 L (valueOrNone (evalOpt lo env)) Wl)(hh:ES G A B3 L (valueOrNone (evalOpt hi env)) Wh)
  (harg:∀{a:PV} {xs:List Int} {O:PS} {m:BB} {h:Heap} {vs:List PV} {wa:Value} {ws:List Value},arg a=some xs->Fr B3 L h m->RL G.X B3 L h m O (a::vs) (wa::ws)->∃x items,wa=.ref x/\h.IsList x items.toArray/\IntsAre items xs) :
  ES G A B3 L (eval (.Subscript value (.Slice lo hi none sp) pos) env) (fun O k=>Wv O fun a B4=>Wl B4 fun l B6=>Wh B6 fun u C7=>ZN arg mt a l u C7 k):=by
 intro O k m s vs ws h F R Q E hq;refine Subscript_ (hv h F R fun a B4 C3 wa B7 B5 B8 C2 C1=>?_)
 show wpAny _ A (do
  let l <- valueOrNone (evalOpt lo env)
  let u <- holding [l] (valueOrNone (evalOpt hi env))
  let s <- holding [l,u] (valueOrNone (evalOpt none env))
  newFields "slice" [l,u,s]) _ E B7
 refine wpAny_bind (hl B5 C2 C1 fun l B6 C6 wl B9 C5 C4 C9 D0=>wpAny_bind (wpAny_holding (hh C5 C9 D0 fun u C7 E5 wu D8 D1 D7 D9 D6=>wpAny_bind (wpAny_holding (wpAny_pure ?_)))))
 refine wpAny_newObj_type ?_ (by show(3:Nat)<=sizeLine+2;decide)
 refine byc fun Ea=>?_
 refine Jq (ci D1) fun p1 p2 xs e1 e2 ha Ee=>zd Ee fun hz hw=>?_
 have R4:RL G.X B3 L D8.heap E5 C7 (a::vs) (wa::ws):=D6.pop.pop;have parts:=YG D6 e1 e2;refine Ea ?_;clear D1 D6 h B5 C5 R C1 D0 hv hl hh F C2 C9;have src:∃x items,wa=.ref x/\D8.heap.IsList x items.toArray/\IntsAre items xs:=by
  rcases ha with ex | ey
  ·refine zh (R4.ints ex) fun x items c Ee=>jf Ee fun ρ led frz I Dm=>?_;subst Dm
   exact(jx x items rfl I.isList I.vals)
  ·exact harg ey D9 R4
 clear ha harg;refine zv src fun x items Cd hx hi=>?_;subst Cd
 refine byc fun Ef=>?_
 refine zh R4 fun ρ led frz q=>?_
 refine Ef ?_;refine kba_turn (value':=.Name (Str.ofString "_") ⟨0,0,0,0⟩) (fun Z=>rfl) ?_
 refine kms_slice_lit D9 q.all hx parts.1 parts.2 rfl (fun D h' F' N' lt=>?_) rfl (fun Z=>rfl) (by rw[Bv,hi.length];exact hz)
 refine U9 (tk:=D8.toks) (n:=0) q.pop F' N' (fun p hp=>Ca (lt p hp)) ?_ hw (fun v σ' m' w' s' a b c d=>hq v σ' m' w' s' a (((B8.trans C4).trans D7).trans b) c d)
 unfold kms_pick Ji;rw[hi.length];exact(hi.drop _).take _
def gL(xs:List Nat)(v:PV)(O:PS)(k:KS):Prop:=match v with
 | .tup us=>cond (Nat.beq us.length xs.length) (UB (xs.reverse.map fun x=>fun v O k=>O.slC x v k) us.reverse O k) False
 | _=>False
set_option tactic.hygienic true in
theorem mx{xs:List Nat}{kd:Nat}(hh:A.handled=none)(V:EnvF env L)(hl:∀x∈xs,env.kindOf (G.X.nm x)=some .local)(he:ES G A B3 L (eval value env) We)(hc:yS value=true)
  (hw:swappedStores [.Tuple S4 kd tp] value env=pure (some (xs.map G.X.nm))) :
  SS G A B3 L (exec (.Assign [.Tuple S4 kd tp] value pos) env) (fun O k=>We O fun v B4=>gL xs v B4 (k .next)):=by
 intro O k m s vs ws h F R Q E hq;refine Assign_Tuple_swapped (he h F R fun v B4 C3 E7 B7 B5 B8 C2 C1=>?_) (show swapsWith value (some (.Tuple S4 kd tp)) pos.line env=pure false from jP hc) hw
 cases v<;>first | exact False.elim B5 | (delta gL at B5;try dsimp only at B5)
 rename_i us
 cases hb:Nat.beq us.length xs.length with
 | false=>rw[hb] at B5;exact B5.elim
 | true =>
  rw[hb] at B5;simp only[cond_true] at B5;have hb:=Bp hb;refine byc fun Ea=>?_
  refine jf C1.top1 fun ρ led frz q hv=>?_
  refine Ea ?_;obtain⟨t,items,n,rfl,hmem,hv⟩:=hv;have hlen:=hv.length;rw[show(xs.map G.X.nm).length=items.toArray.size by rw[Cm,Bv,hlen,hb]]
  refine unpackItems_tuple hh (Ys q.news (Bo _ hmem)) fun h' he'=>?_
  have q1:=q.pop;have N':News B3 L h' ((led++frz)++G.X.ps):=q.all.extBut he' (Cg _);have rev:∀{a:List PV} {b:List Value},VRs ρ frz a b->VRs ρ frz a.reverse b.reverse:=by
   intro a
   induction a with
   | nil=>intro b hb;cases hb;exact VRs.nil
   | cons v a ih =>
    intro b hb;refine zv hb.cons_inv fun w r Cd hv tl=>?_;subst Cd
    simp only[Cv];exact(ih tl).append (VRs.cons hv VRs.nil)
  have H:∀(ys:List Nat),(∀x∈ys,x∈xs)->ASs G A B3 L ((ys.map G.X.nm).map fun n=>bindName env n) (ys.map fun x=>fun v O k=>O.slC x v k):=by
   intro ys
   induction ys with
   | nil=>intro _;exact .nil
   | cons y ys ih =>
    intro hy;refine .cons ?_ (ih fun x hx=>hy x (.tail _ hx))
    intro v w O k m s vs ws h F R Q E hq;refine byc fun Ef=>?_
    refine zh R fun ρ led frz q=>?_
    refine Ef ?_;refine bindName_ (stE V F q.all (fun h' F' N'=>?_) (hl y (hy y (.head _))))
    exact hq _ _ _ (zJ.mp h) zr.mk' F' (RL.store (k:=y) (v:=v) (w:=w) (zk ρ led frz ⟨q.hr,N',q.nd,q.off,q.offp,q.kept,q.loc,q.stk⟩))
  have e2:((xs.map G.X.nm).reverse.map fun n=>bindName env n)=((xs.reverse.map G.X.nm).map fun n=>bindName env n):=by rw[<- List.map_reverse]
  rw[e2];exact Ww (H xs.reverse fun x hx=>List.mem_reverse.mp hx) (us:=us.reverse) (xs:=items.reverse) (vs:=vs) (ws:=ws) B5 (C2.extBut he' (Cg _)) (zk ρ led frz ⟨q1.hr,N',q1.nd,q1.off,q1.offp,q1.kept,q1.loc,(rev hv).append q1.stk⟩) (by simp[hlen]) fun B6 C6 B9 C5 C4 C9 D0=>hq.next B6 C6 B9 C5 (B8.rest.trans ⟨C4.1,C4.2.1,C4.2.2⟩) C9 D0
end
end
theorem fQ{d:Addr}{o o':Obj}{l l':BD}(N:News B3 L h l)(U:Upd d o o' l l')(hs:Heap.SameBut d h h')(hd:h'.get? d=some o'):News B3 L h' l':=by
 refine q7 U.split fun pre post Cd Dm a b=>?_;subst Cd;subst Dm
 intro p hp;have hdo:=(N (d,o) (by simp)).2
 rcases List.mem_append.mp hp with hp | hp
 ·have:=N p (by simp[hp]);exact⟨hs.extBut _ _ (a p hp) this.1,this.2⟩
 ·cases hp with
  | head=>exact⟨hd,hdo⟩
  | tail _ hp=>have hp:p∈post:=hp;have:=N p (by simp[hp]);exact⟨hs.extBut _ _ (b p hp) this.1,this.2⟩
section
variable {A:Around}{m:BB}{vs:List PV}{E:BA}
def ql(j:Nat)(O:PS)(k:KE):Prop:=di O.hp[j]? fun v=>opt v fun v=>k v O
structure CellAt(G:Gam)(env:Env)(x:Nat)(j:Nat):Prop where
 at_:∃c,env.cells.lookup (G.X.nm x)=some c/\(j,c)∈G.X.cl
 kind:env.kindOf (G.X.nm x)=some .cell
theorem eY(V:EnvG env)(hc:CellAt G env x j){k:KE}(h:ql j O k)(F:Fr B3 L s.heap m)(R:RL G.X B3 L s.heap m O vs ws)(hq:yy G B3 L m s vs ws k Q):wpAny (model G.prog G.w) A (loadName env (G.X.nm x)) Q E s:=by
 refine byc fun Ea=>?_
 refine zc (Wp h) fun v0 e h=>?_
 refine Ea ?_;refine zc (zG h) fun v Dm h=>?_;subst Dm
 refine byc fun Ef=>?_
 refine zc hc.at_ fun c hl hm=>?_
 refine zh R fun ρ led frz q=>?_
 refine zh (q.hr.at_cell e) fun a o w Ee=>q7 Ee fun pre post e1 e2 ed Ee=>zd Ee fun e3 e4=>?_
 refine Ef ?_;subst e2
 have:=q.kept.2 _ hm
 rw[e1] at this
 cases this
 refine zc e3 fun u Cd hu=>?_;subst Cd
 have N:=q.news (c,o) (Bn _ (by simp))
 exact wpAny_loadName_cell V.kind hc.kind hl (zA _ N.1 ed) (hq v O m u s h (SR.refl _ _) F (zk ρ _ frz ⟨q.hr,q.all,q.nd,q.off,q.offp,q.kept,q.loc,VRs.cons hu q.stk⟩))
theorem Z9(V:EnvG env)(hc:CellAt G env x j)(hd:(G.X.nm x==("__debug__" : Str))=false):ES G A B3 L (eval (.Name (G.X.nm x) pos) env) (ql j):=by
 intro O k m s vs ws h F R Q E hq;exact wpAny_Name (eY V hc h F R hq) hd
def dE(j:Nat)(v:PV)(O:PS)(k:KS):Prop:=di O.hp[j]? fun Z=>O.siC j (.cell (some v)) k
theorem YT(V:EnvG env)(hc:CellAt G env x j):AS G A B3 L (fun v=>storeName env (G.X.nm x) v) (dE j):=by
 intro v w O k m s vs ws h F R Q E hq;refine byc fun Ea=>?_
 refine zc (Wp h) fun v0 e h=>?_
 refine Ea ?_;replace h:=j6.mp h;refine byc fun Ef=>?_
 refine zc hc.at_ fun c hl hm=>?_
 refine zh R fun ρ led frz q=>?_
 refine zh (q.hr.at_cell e) fun a o w0 Ee=>q7 Ee fun pre post e1 e2 ed Ee=>zd Ee fun e3 e4=>?_
 refine Ef ?_;subst e2
 have:=q.kept.2 _ hm
 rw[e1] at this
 cases this
 have N:=q.news (c,o) (Bn _ (by simp))
 refine byc fun El=>?_
 refine zv q.stk.cons_inv fun Z Z ee hv tl=>?_
 refine El ?_
 cases ee
 show wpAny _ A (storeName env (G.X.nm x) w) Q E s;have es:storeName env (G.X.nm x) w=(cellOf env (G.X.nm x) >>= fun c=>cellSet c (some w)):=by
  delta storeName;rw[hc.kind,V.kind];rfl
 rw[es];refine wpAny_bind (wpAny_cellOf hl ?_);unfold cellSet;refine wpAny_bind (wpAny_load N.1 ?_);rw[ed];refine wpAny_update N.1 ?_;have hs:Heap.SameBut c s.heap (s.heap.update c fun o=>{ o with data:=.cell (some w) }):=Heap.SameBut.update ..
 have hc':(s.heap.update c fun o=>{ o with data:=.cell (some w) }).get? c=some { o with data:=.cell (some w) }:=Heap.get?_update_self _ N.1 rfl
 have N':=fQ q.all (q.upd { o with data:=.cell (some w) }) hs hc'
 have W:=q.swap (by simp) (e4 (some v) (some w) _ rfl (zA w rfl hv)) N'
 exact hq _ m _ h ⟨rfl,rfl,rfl⟩ (F.change hs N.2.1 N.2.2) (zk ρ _ frz W.pop)
theorem ii(V:EnvG env)(hc:CellAt G env x j):AS G A B3 L (assign (.Name (G.X.nm x) pos) env) (dE j):=by
 intro v w O k m s vs ws h F R Q E hq;exact assign_Name (YT V hc h F R hq)
theorem mm{e:Expr}{W:PS->KE->Prop}(V:EnvG env)(hc:CellAt G env x j)(he:ES G A B3 L (eval e env) W)(hn:yS e=true):
  SS G A B3 L (exec (.Assign [.Name (G.X.nm x) T2] e pos) env) (fun O k=>W O fun v B4=>dE j v B4 (k .next)):=by
 intro O k m s vs ws h F R Q E hq;refine wpAny_Assign_Name (he h F R fun v B4 C3 E7 B7 B5 B8 C2 C1=>?_) (jP hn)
 exact YT V hc B5 C2 C1 fun B6 C6 B9 C5 C4 C9 D0=>hq.next B6 C6 B9 C5 (B8.rest.trans C4) C9 D0
theorem oN{x y:Expr}{W W':PS->KE->Prop}(hx:ES G A B3 L (eval x env) W)(hr:ES G A B3 L (eval (.BoolOp .And (y::rest) pos) env) W'):
  ES G A B3 L (eval (.BoolOp .And (x::y::rest) pos) env) (fun O k=>W O fun a B4=>ju a B4 fun b B6=>cond b (W' B6 k) (k a B6)):=by
 intro O k m s vs ws h F R Q E hq;refine BoolOp_and (hx h F R fun a B4 C3 wa B7 B5 B8 C2 C1=>?_)
 have R1:RL G.X B3 L B7.heap C3 B4 (a::a::vs) (wa::wa::ws):=C1.stack fun ρ frz q=>by
  refine zv q.cons_inv fun Z Z e x Z=>?_
  cases e
  exact VRs.cons x q
 refine KJ B5 C2 R1 fun b B6 C6 B9 C5 C4 C9 D0=>?_
 induction b with
 | false=>exact hq a B6 C6 wa B9 C5 (B8.trans C4) C9 D0
 | true=>exact hr C5 C9 D0.pop fun v σ' m' w' s' a b c d=>hq v σ' m' w' s' a ((B8.trans C4).trans b) c d
theorem dL{op:BoolOp}{x:Expr}{W:PS->KE->Prop}(hx:ES G A B3 L (eval x env) W):ES G A B3 L (eval (.BoolOp op [x] pos) env) W:=by
 intro O k m s vs ws h F R Q E hq;exact BoolOp_one (hx h F R hq)
theorem gQ{l B8 C4:Expr}{N7 N8:CmpOp}{W1 W2:PS->KE->Prop}{Wo Wo':PV->PV->PS->KE->Prop}(hl:ES G A B3 L (eval l env) Wl)(h1:ES G A B3 L (eval B8 env) W1)(h2:ES G A B3 L (eval C4 env) W2)
  (ho:O2 G A B3 L (compareOp N7) Wo) (ho':O2 G A B3 L (compareOp N8) Wo') (hm:lastMarks [N7,N8] [B8,C4]=false) :
  TS G A B3 L (isTrue (.Compare l [N7,N8] [B8,C4] pos) env T1) (fun O k=>Wl O fun a B4=>W1 B4 fun b B6=>Wo a b B6 fun c C7=>ju c C7 fun t E4=>cond t (W2 E4 fun d E9=>Wo' b d E9 fun e G9=>ju e G9 k) (k false E4)):=by
 intro O k m s vs ws h F R Q E hq;refine isTrue_chain (hl h F R fun a B4 C3 wa B7 B5 B8 C2 C1=>test_link (h1 B5 C2 C1 fun b B6 C6 wb B9 C5 C4 C9 D0=>?_)) hm
 have R2:RL G.X B3 L B9.heap C6 B6 (b::a::b::vs) (wb::wa::wb::ws):=D0.stack fun ρ frz q=>by
  refine zv q.cons_inv fun Z Z e x t=>?_
  cases e
  refine zv t.cons_inv fun Z Z e y t=>?_
  cases e
  exact VRs.cons x (VRs.cons y (VRs.cons x t))
 refine ho C5 C9 R2 fun c C7 E5 wc D8 D1 D7 D9 D6=>KJ D1 D9 D6 fun t E4 G3 F6 F5 G4 G1 G0=>?_
 have r:=((B8.trans C4).trans D7).trans G4
 induction t with
 | false=>exact hq false E4 G3 F6 F5 r G1 G0.pop
 | true =>
  refine test_last (h2 F5 G1 G0 fun d E9 m₅ wd P8 I0 M9 N1 N5=>ho' I0 N1 N5 fun e G9 m₆ we s₆ P9 r₆ F₆ R₆=>KJ P9 F₆ R₆ fun u I4 m₇ s₇ I5 r₇ N9 O0=>hq u I4 m₇ s₇ I5 (((r.trans M9).trans r₆).trans r₇) N9 O0)
noncomputable def bU(o:Option PO):Bool:=match o with
 | some (.il _)=>true
 | some (.ls _)=>true
 | _=>false
noncomputable def isLst(O:PS):PV->Bool
 | .ref j=>bU O.hp[j]?
 | _=>false
theorem OR.lst{X:Cx}{frz mid:BD}{o:PO}{a:Addr}(h:OR X ρ frz o a mid)(e:bU (some o)=true):∃items n,mid = [(a,listOf items n)]:=by
 induction h with
 | il=>exact(Kc _ _ rfl)
 | ls=>exact(Kc _ _ rfl)
 | _=>cases e
theorem RL.isLst{a:PV}(R:RL G.X B3 L h m O (a::vs) (wa::ws))(e:Mine.isLst O a=true):∃x items n,wa=.ref x/\h.get? x=some (listOf items n):=by
 cases a with
 | ref j =>
  refine zh R fun ρ led frz q=>?_
  cases eo:O.hp[j]? with
  | none=>cases e.symm.trans (congrArg bU eo)
  | some o =>
   refine zh (q.hr.at eo) fun x pre mid Ee=>yo Ee fun post e1 e2 e3 Z=>?_
   refine JK (e3.lst ((congrArg bU eo).symm.trans e)) fun items n Cd=>?_;subst Cd
   obtain rfl:=q.ref e1;exact(QK x items n rfl ((q.news (x,listOf items n) (by rw[e2];exact Bn _ (Bn _ (Bo _ (.head _))))).1))
 | _=>cases e
theorem bB{id:Str}{e:Expr}(ho:ES G A B3 L (eval (.Name id T2) env) Wo)(he:ES G A B3 L (eval e env) We)(hl:T6.endLine=pos.line)(hst:zT e=true):
  ES G A B3 L (eval (.Call (.Attribute (.Name id T2) "append" T6) [e] [] pos) env) (fun O k=>Wo O fun a B4=>cond (isLst B4 a) (We B4 fun v B6=>Wg a v B6 fun C7=>k .none C7) False):=by
 intro O k m s vs ws h F R Q E hq;refine MethodCall_ (ho h F R fun a B4 C3 wa B7 B5 B8 C2 C1=>?_) (UI hl (by show 1<30;exact wn (Cg _) rfl) (by simp[hst]))
 refine zd (zW B5) fun hb B5=>?_
 ·refine jf (C1.isLst hb) fun x items n Cd hx=>?_;subst Cd
  refine getMethod_list_of PySem.F.slot_list_append PySem.F.type_list_append (yh _ hx rfl ⟨n,rfl⟩) (zA _ hx rfl) ?_;refine callWith_method1 ?_ (z8 hst) rfl;refine args_cons (he B5 C2 C1 fun v B6 C6 F0 B9 C5 C4 C9 D0=>args_nil ?_) (z8 hst)
  exact f3 C5 C9 D0 fun C7 D8 D1 D7 D9 D6=>hq .none C7 C6 .none D8 D1 ((B8.trans C4).trans (.of D7)) D9 (D6.push K0)
end
section
open PySem.Spec
open PyProof.Rows.LCg
section
variable {prog:Program}{w:World}{A:Around}{E:BA}
theorem dy{x:Str}
  (hclos:closureFor scope env=pure cl) (S7:∀y∈scope.names,y.2≠.cell) (T3:scope.kind=.function)
  (hnames:∀y∈scope.names,y.2=.local->scope.names.lookup y.1=some .local) (hx:scope.names.lookup x=some .local)
  (h:wpAny (model prog w) A (eval iter env) (fun xv B7=>∃m,CompSrc prog w A B3 L m env elt x scope cl (fun B9=>FinE B3 L m B9 Q) xv B7) E s)
  (hs:∀x,foldedSetIterable iter env x=pure x) :
  wpAny (model prog w) A (eval (.ListComp elt [⟨.Name x px,iter,[],0⟩] scope pos) env) Q E s:=by
 rw[eval_ListComp];refine wpAny_comprehension_free (use:=none) rfl hs hclos T3 hnames (wpAny_mono h (fun xv B7 B5=>?_) fun Z Z e=>e)
 obtain⟨m,B5⟩:=B5;have done:∀{B9:Shared} (D C:Addr) (h:Heap) (tk:Nat) (m':BB) (ys:List Value) (news':BD),Fr B3 L h m->News B3 L h ((D,lst ys)::news')->Off1 D news'->h.Ns C m'->B3.get? C=none->B3.get? D=none->C≠L->D≠L->C≠D->(∀p∈news',p.1≠C)->FinE B3 L m B9 Q ys news' ->
   compPost (model prog w) A E none Q (.ref D) C (.ok .next) { B9 with heap:=h,toks:=tk }:=by
  intro B9 D C h tk m' ys news' F' N' o1 hn F8 H7 hCL hDL hCD offC fin;refine(zA m' hn (fun h'' hs''=>fin D h'' tk (F'.change hs'' hCL F8) (fun p hp=>?_) o1))
  refine⟨hs''.extBut _ _ ?_ (N' p hp).1,(N' p hp).2⟩
  rcases List.mem_cons.mp hp with rfl | hp
  ·exact Ne.symm hCD
  ·exact offC p hp
 rcases B5 with ⟨ax,its,news,rfl,hh,F,N,S,hsz,R⟩ | ⟨r,a,b,t,u,v,n,news,rfl,hh,F,N,hr,hsm,hn,hsz,R⟩
 ·have hl:=S.list F.keep N
  have hlt:ax<B7.heap.objs.size:=by obtain⟨_,e,_⟩:=hl;exact Heap.lt_size e
  refine wpAny_pyIter_list hl ?_;have up:∀b o,B7.heap.get? b=some o->(B7.heap.push { cls:=.type "list_iterator",data:=.fields #[.ref ax,.int 0 0] }).get? b=some o:=fun b o e=>Heap.get?_push_of_some _ e
  refine block_U (Walks.list hh B7.heap.objs.size ax (Ca hlt) its) hsz (fun i h st=>by obtain⟨o,e,_⟩:=st.1;exact⟨o,e⟩) list_st S7 T3 hx ⟨(yh _ (Heap.get?_push_size _ rfl) rfl rfl),hl.push _⟩ (fun b hb=>?_)
   (F.keeps up) (N.grown up) (Ca F.ns.lt) (next_is_new F) (fun p hp=>Ca (Heap.lt_size (N p hp).1)) S (R _ ⟨_,rfl⟩) done
  show b<(B7.heap.push _).objs.size;rw[Heap.size_push]
  rcases List.mem_cons.mp hb with rfl | hb
  ·exact Dj _
  ·rw[List.mem_singleton.mp hb];exact Nat.lt_succ_of_lt hlt
 ·refine wpAny_pyIter_range hr hsm ?_
  refine block_U (range_walks hh a n) hsz (fun i h st=>⟨_,st⟩) range_st S7 T3 hx (by show IsRangeIter _ _ _ _ _;rw[hn];simpa using Heap.get?_push_size _ rfl) (fun b hb=>?_)
   (F.keeps fun Z Z e=>Heap.get?_push_of_some _ e) (N.grown fun Z Z e=>Heap.get?_push_of_some _ e) (Ca F.ns.lt) (next_is_new F) (fun p hp=>Ca (Heap.lt_size (N p hp).1)) trivial (R _ ⟨_,rfl⟩) done
  rw[List.mem_singleton.mp hb];show B7.heap.objs.size<(B7.heap.push _).objs.size;rw[Heap.size_push];exact Dj _
end
mutual
noncomputable def en:PV->Bool
 | .ref _=>false
 | .tup vs=>QJ vs
 | .ls vs=>QJ vs
 | .bound v _=>en v
 | _=>true
noncomputable def QJ:List PV->Bool
 | []=>true
 | v::vs=>en v&&QJ vs
end
mutual
theorem UL:∀(v:PV),en v=true->bdd 0 v
 | .none,_=>trivial
 | .bool _,_=>trivial
 | .int _,_=>trivial
 | .str _,_=>trivial
 | .top _,_=>trivial
 | .il _,_=>trivial
 | .ref _,h=>nomatch (show false=true from h)
 | .tup vs,h=>Qb vs h
 | .ls vs,h=>Qb vs h
 | .bound v _,h=>UL v h
theorem Qb:∀(vs:List PV),QJ vs=true->JN 0 vs
 | [],_=>trivial
 | v::vs,h=>⟨UL v ((Ck _ _).mp h).1,Qb vs ((Ck _ _).mp h).2⟩
end
theorem Qc:∀{vs:List PV},QJ vs=true->∀{i:Nat} {v:PV},vs[i]?=some v->en v=true
 | [],_,_,_,e=>by simp at e
 | u::vs,h,0,v,e=>by cases e;exact((Ck _ _).mp h).1
 | u::vs,h,i+1,v,e=>Qc (vs:=vs) ((Ck _ _).mp h).2 e
theorem VR.abs{frz:BD}{v:PV}{w:Value}(h:VR ρ frz v w)(f:en v=true):VR [] frz v w:=by
 have:=VR.cut v h (UL v f)
 simpa using this
noncomputable def qZ(Wv:PV->PS->KE->Prop):List PV->List PV->PS->(List PV->PS->Prop)->Prop
 | [],acc,O,k=>k acc O
 | u::r,acc,O,k=>Wv u O fun v B4=>qZ Wv r (acc ++ [v]) B4 k
section
variable {A:Around}{m:BB}{vs:List PV}{E:BA}
structure CompVar(G:Gam)(C:Addr)(x:Nat)(v:PV):Prop where
 at_:∃oC C6 w,(C,oC)∈G.X.ps/\NsObj oC C6/\C6 (G.X.nm x)=some w/\VR [] G.X.ks v w
theorem iM{v:PV}(hC:CompVar G env.locals x v)(hk:env.scope.kind=.function)(hl:env.kindOf (G.X.nm x)=some .local)(hd:(G.X.nm x==("__debug__" : Str))=false):ES G A B3 L (eval (.Name (G.X.nm x) pos) env) (fun O k=>k v O):=by
 intro O k m s vs ws h F R Q E hq;refine byc fun Ea=>?_
 refine Jq hC.at_ fun oC C6 w hp hn hm hv=>?_
 refine zh R fun ρ led frz q=>?_
 have N:=(q.all _ (Bo _ hp)).1;refine Ea ?_;refine wpAny_Name (wpAny_loadName_local hk hl (hn.ns N) hm ?_) hd;exact hq v O m w s h (SR.refl _ _) F (zk ρ led frz ⟨q.hr,q.all,q.nd,q.off,q.offp,q.kept,q.loc,VRs.cons (hv.mono (fun i a e=>by simp at e) q.kept.1) q.stk⟩)
theorem Q3{S:BD->Prop}{P:Nat->Value->Prop}{Fin:List Value->List (Addr×Obj)->Prop}{k:List PV->PS->Prop}{src:BD}
  (he:∀(pn:Pl) (C:Addr) (v:PV),CompVar (G.pil pn) C x v->ES (G.pil pn) A B3 L (eval elt (compEnvC scope cl C env)) (Wv v))
  (hS:∀l:BD,(∀p∈src,p∈l)->S l)
  (Cb:∀{O:PS} {acc:List PV} {ys:List Value} {ρ:List Addr} {led frz:BD},k acc O->RB G.X m O (acc++vs) (ys++ws) ρ led frz->ys.length=acc.length->Fin ys ((led++frz)++G.X.ps)) :
  ∀{items:List PV} {i:Nat} {acc:List PV} {ys:List Value} {O:PS} {ρ:List Addr} {led frz:BD},qZ Wv items acc O k->RB G.X m O (acc++vs) (ys++ws) ρ led frz->ys.length=acc.length->(∀p∈src,p∈frz) ->
   (∀j u,items[j]?=some u->∀v,P (i+j) v->VR [] frz u v)->CompRest G.prog G.w A B3 L m env elt (G.X.nm x) scope cl s S P Fin items.length i ys ((led++frz)++G.X.ps):=by
 intro items
 induction items with
 | nil =>
  intro i acc ys O ρ led frz h q hl hs hI;exact CompRest.zero (Cb h q hl)
 | cons u r ih =>
  intro i acc ys O ρ led frz h q hl hs hI;refine CompRest.succ fun v I oI C oC D C6 h' tk E' hP hN hm F N off dist=>?_
  have offm:=off.mem;have hoff:∀p ∈ [(I,oI),(C,oC),(D,lst ys)],∀y∈led++frz,p.1≠y.1:=by
   intro p hp y hy e;have z:=offm y (Bn _ hy);simp only[Cs,Ci,or_false] at hp
   rcases hp with rfl | rfl | rfl
   ·exact z.1 e.symm
   ·exact z.2.1 e.symm
   ·exact z.2.2 e.symm
  have q':=q.into (its:=[(I,oI),(C,oC),(D,lst ys)]) (keep:=frz) hoff (fun p hp=>hp)
  have N':News B3 L h' ((led++frz)++([(I,oI),(C,oC),(D,lst ys)]++G.X.ps)):=fun p hp=>N p (by
   simp only[By,Cs,Ci,or_false] at hp ⊢
   rcases hp with (h | h) | (h | h | h) | h
   ·exact .inr (.inr (.inr (.inl (.inl h))))
   ·exact .inr (.inr (.inr (.inl (.inr h))))
   ·exact .inl h
   ·exact .inr (.inl h)
   ·exact .inr (.inr (.inl h))
   ·exact .inr (.inr (.inr (.inr h))))
  have hv:VR [] frz u v:=hI 0 u (by simp) v (by simpa using hP)
  have hC:CompVar (G.pil ([(I,oI),(C,oC),(D,lst ys)]++G.X.ps,frz++G.X.ks)) C x u:=
   ⟨oC,C6,v,Bn _ (by simp),hN,hm,hv.mono (fun Z Z e=>e) fun p hp=>Bn _ hp⟩
  refine he _ C u hC (s:={ s with heap:=h',toks:=tk }) h F (zk ρ led frz (q'.rw N')) fun v' B4 C3 E7 B7 B5 B8 C2 C1=>?_
  refine zh C1 fun ρ' led' frz' W'=>?_
  refine jn W'.rb.out fun b1 b2 b3=>?_
  have em:=B8.eq;subst em;refine(yM B7.heap B7.toks ((led'++frz')++G.X.ps) ?_ C2 (fun p hp=>W'.all p ?_) ⟨Off3.of fun p hp=>?_,hS _ fun p hp=>Bn _ (Bo _ (b3 p (hs p hp))),?_⟩)
  ·obtain⟨a,b,c,d,e⟩:=B7
   refine jn B8.rest fun r1 r2 r3=>?_
   simp only at r1 r2 r3;subst r1 r2 r3;rfl
  ·show p∈(led'++frz')++([(I,oI),(C,oC),(D,lst ys)]++G.X.ps)
   simp only[By,Cs,Ci,or_false] at hp ⊢
   rcases hp with h | h | h | (h | h) | h
   ·exact .inr (.inl (.inl h))
   ·exact .inr (.inl (.inr (.inl h)))
   ·exact .inr (.inl (.inr (.inr h)))
   ·exact .inl (.inl h)
   ·exact .inl (.inr h)
   ·exact .inr (.inr h)
  ·rcases List.mem_append.mp hp with hp | hp
   ·exact⟨fun e=>b2 (I,oI) (by simp) p hp e.symm,fun e=>b2 (C,oC) (by simp) p hp e.symm,fun e=>b2 (D,lst ys) (by simp) p hp e.symm⟩
   ·exact offm p (Bo _ hp)
  ·have b1':RB G.X C3 B4 ((acc ++ [v'])++vs) ((ys ++ [E7])++ws) ρ' led' frz':=by
    refine⟨b1.hr,b1.nd,b1.off,b1.offp,b1.kept,b1.loc,?_⟩
    refine zv b1.stk.cons_inv fun Z Z e a1 t1=>?_
    cases e
    refine zv t1.split fun x1 x2 e12 s1 s2=>?_
    obtain⟨rfl,rfl⟩:=Cw e12.symm (by rw[s1.length,hl])
    exact(s1.append (VRs.cons a1 VRs.nil)).append s2
   refine ih B5 b1' (by simp[hl]) (fun p hp=>b3 p (hs p hp)) fun j u' ej v'' hP'=>?_
   have:=hI (j+1) u' (by simpa using ej) v'' (by rw[show i+(j+1)=i+1+j by lia];exact hP')
   exact this.mono (fun Z Z e=>e) b3
theorem KK{D:Addr}:∀{l:BD},Off1 D l->∀p∈l,p.1≠D
 | [],_,_,h=>nomatch h
 | _::_,x,p,h=>by
  rcases List.mem_cons.mp h with rfl | h
  ·exact x.1
  ·exact KK x.2 p h
theorem WE{mt:Bool}{k:KE}(hq:yy G B3 L m B9 vs ws k Q){frz:BD}(h:q6 mt acc O k)(q:RB G.X m O (acc++vs) (ys++ws) ρ led frz)(hl:ys.length=acc.length):
  FinE B3 L m B9 Q ys ((led++frz)++G.X.ps):=by
 intro D h' tk F N off;have lt:=KK off;refine zv q.stk.split fun x1 x2 e12 s1 s2=>?_
 obtain⟨rfl,rfl⟩:=Cw e12.symm (by rw[s1.length,hl])
 have W:RW G.X B3 L ({ B9 with heap:=h' }:Shared).heap m O vs x2 ρ led frz:=⟨q.hr,fun p hp=>N p (.tail _ hp),q.nd,q.off,q.offp,q.kept,q.loc,s2⟩
 have hq':yy G B3 L m { B9 with heap:=h' } vs x2 k Q:=fun v σ' m' w' s' a b c d=>hq v σ' m' w' s' a (SR.trans (C6:=m) (b:={ B9 with heap:=h' }) ⟨⟨rfl,rfl,rfl⟩,rfl⟩ b) c d
 exact aL (s:={ B9 with heap:=h' }) (n:=x1.length) (tk:=tk) W s1 F N lt (zW h).2 hq'
structure BlkOk(G:Gam)(env:Env)(scope:Scope)(cl:List (Str×Addr))(x:Nat):Prop where
 clos:closureFor scope env=pure cl
 cell:∀y∈scope.names,y.2≠.cell
 kind:scope.kind=.function
 names:∀y∈scope.names,y.2=.local->scope.names.lookup y.1=some .local
 var:scope.names.lookup (G.X.nm x)=some .local
def dw(Wi:PS->KE->Prop)(Wv:PV->PS->KE->Prop)(mt:Bool)(O:PS)(k:KE):Prop:=Wi O fun a B4=>cond (yr a) False (opt (jI B4 a) fun items=>(QJ items=true/\items.length<=100000)/\qZ Wv items [] B4 fun us B6=>q6 mt us B6 k)
theorem dP{mt:Bool}(hh:A.handled=none)(B:BlkOk G env scope cl x)
  (hi:ES G A B3 L (eval iter env) Wi) (he:∀(pn:Pl) (C:Addr) (v:PV),CompVar (G.pil pn) C x v->ES (G.pil pn) A B3 L (eval elt (compEnvC scope cl C env)) (Wv v)) (hn:Vb iter=true) :
  ES G A B3 L (eval (.ListComp elt [⟨.Name (G.X.nm x) px,iter,[],0⟩] scope pos) env) (dw Wi Wv mt):=by
 intro O k m s vs ws h F R Q E hq;refine dy (B3:=B3) (L:=L) B.clos B.cell B.kind B.names B.var (hi h F R fun a B4 C3 wa B7 B5 B8 C2 C1=>?_) (Qe hn)
 refine zd (jH B5) fun ht B5=>?_
 ·refine yb (zG B5) fun items e Dm B5=>?_;obtain⟨hf,hsz⟩:=Dm
  refine zh (C1.seq e) fun y vals n Ee=>jf Ee fun ρ led frz I Cd=>?_;subst Cd
  have hm:=I.mem;rw[ht] at hm;replace hm:(y,listOf vals.toArray n)∈frz:=hm;have hlen:=I.vals.length
  refine⟨C3,CompSrc.ledger (its:=vals.toArray) (k:=n) hh C2 I.rw.all (Bn _ (Bo _ hm)) (by rw[Bv,hlen];unfold sizeLine;exact yD hsz rfl) fun g=>?_⟩
  rw[Bv,hlen];refine Q3 (src:=[(y,listOf vals.toArray n)]) (vs:=vs) (ws:=ws) (k:=fun us B6=>q6 mt us B6 k) he (fun l hl=>.inr (yh _ (hl _ (List.mem_singleton.mpr rfl)) rfl ⟨n,rfl⟩)) (fun hk q hl'=>WE (fun v σ' m' w' s' a b c d=>hq v σ' m' w' s' a (B8.trans (SR.trans (C6:=C3) (b:={ B7 with heap:=g }) ⟨⟨rfl,rfl,rfl⟩,rfl⟩ b)) c d) hk q hl') B5 (acc:=[]) (ys:=[]) I.rw.rb rfl (fun p hp=>by rw[List.mem_singleton.mp hp];exact hm) fun j u ej v hP=>?_
  refine zc (I.vals.get ej) fun w' ew hv=>?_
  simp only[Nat.zero_add,Dr] at hP;rw[ew] at hP
  cases hP
  exact hv.abs (Qc hf ej)
theorem ZS:∀{n:Nat} {a:Int},(ji a n)[j]?=some u->u=.int (a+j):=by
 induction j with
 | zero =>
  intro n a e
  induction n with
  | zero=>simp[ji] at e
  | succ n=>simp[ji] at e;rw[<- e];simp
 | succ j ih =>
  intro n a e
  induction n with
  | zero=>simp[ji] at e
  | succ n=>simp[ji] at e;rw[ih e];congr 1;lia
theorem JD:∀(n:Nat) (a:Int),(ji a n).length=n
 | 0,_=>rfl
 | n+1,a=>by simp[ji,JD n]
end
end
section
variable {X:Cx}{m:BB}{vs:List PV}
theorem RW.own2{frz:BD}(q:RW X B3 L h m O vs ws ρ led frz){o o2:Obj}{a b:Addr}{po:PO}(N:News B3 L h' ((a,o)::(b,o2)::((led++frz)++X.ps)))(hlt:∀p∈(led++frz)++X.ps,p.1≠a/\p.1≠b)(hab:a≠b)
  (ho:HR X (ρ ++ [a]) frz [po] [a] [(a,o),(b,o2)]):RW X B3 L h' m ⟨O.loc,O.hp ++ [po]⟩ vs ws (ρ ++ [a]) (led ++ [(a,o),(b,o2)]) frz:=by
 have up:∀(i:Nat) (b:Addr),ρ[i]?=some b->(ρ ++ [a])[i]?=some b:=fun i b e=>X4 i b e
 refine⟨(q.hr.mono up (fun Z e=>e)).app ho,fun p hp=>N p ?_,?_,?_,?_,⟨q.kept.1,fun p hp=>up _ _ (q.kept.2 p hp)⟩,fun k v e=>?_,q.stk.mono up (fun Z e=>e)⟩
 ·simp only[By,Cs,Ci,or_false] at hp ⊢
  rcases hp with ((h | h | h) | h) | h
  ·exact .inr (.inr (.inl (.inl h)))
  ·exact .inl h
  ·exact .inr (.inl h)
  ·exact .inr (.inr (.inl (.inr h)))
  ·exact .inr (.inr (.inr h))
 ·rw[Da,List.nodup_append]
  refine⟨q.nd,by simp[hab],fun x hx c hc e=>?_⟩
  simp only[Dh,List.map_nil,Cs,Ci,or_false] at hc;refine zc (List.mem_map.mp hx) fun p hp Cd=>?_;subst Cd
  have z:=hlt p (Bn _ (Bn _ hp))
  rcases hc with rfl | rfl
  ·exact z.1 e
  ·exact z.2 e
 ·intro p hp y hy
  rcases List.mem_append.mp hy with hy | hy
  ·exact q.off p hp y hy
  ·have z:=hlt p (Bn _ (Bo _ hp))
   simp only[Cs,Ci,or_false] at hy
   rcases hy with rfl | rfl
   ·exact z.1
   ·exact z.2
 ·intro p hp y hy
  have z:=hlt p (Bo _ hp);simp only[By,Cs,Ci,or_false] at hy
  rcases hy with (hy | rfl | rfl) | hy
  ·exact q.offp p hp y (Bn _ hy)
  ·exact z.1
  ·exact z.2
  ·exact q.offp p hp y (Bo _ hy)
 ·refine zc (q.loc k v e) fun w c d=>?_
  exact(zA w c (d.mono up (fun Z e=>e)))
end
def yV(G:Gam)(d:Nat)(f:Addr)(ca:List Value->Args)(S:List PV->List PO->(PV->List PO->Prop)->Prop):Prop:=
 ∀(ps:Pn) {args:List PV} {O:PS} {k:PV->List PO->Prop},S args O.hp k ->
  ∀{outer:List Env} {B3:Heap} {env:Env} {L:Addr} {A:Around} {m:BB} {s:Shared} {vs:List PV} {ws aws:List Value},
   Act G outer B3 env A d->env.frame=some L->env.scope.kind=.function->Fr B3 L s.heap m->RL (G.X.pin ps) B3 L s.heap m O (args.reverse++vs) (aws.reverse++ws)->aws.length=args.length ->
   ∀{R:Result->Shared->Prop},(∀v hp' w' s',k v hp'->zr s s'->Fr B3 L s'.heap m->RL (G.X.pin ps) B3 L s'.heap m { O with hp:=hp' } (v::vs) (w'::ws)->R (.ok (.ret w')) s') ->
    codeAny (model G.prog G.w) A (.call (.ref f) (ca aws)) R s
noncomputable def Yb(n1 n2:Str):List Value->Args
 | [a,b,c]=>⟨[a],[(n1,b),(n2,c)]⟩
 | _=>⟨[],[]⟩
section
variable {A:Around}{m:BB}{vs:List PV}{E:BA}
theorem yV.of{d:Nat}{body:List Stmt}{W:PS->KF->Prop}{S:List PV->List PO->(PV->List PO->Prop)->Prop}(ok:FnOk G ca f ids qual body scope cdv)
  (hb:∀(ps:Pn) {outer:List Env} {B3:Heap} {L:Addr} {A:Around},Act (G.pin ps) outer B3 (envOf qual scope L f cdv) A d->SS (G.pin ps) A B3 L (execs body (envOf qual scope L f cdv)) W)
  (hS:∀args hp k,S args hp k->jc ids W args hp k):yV G (d+1) f ca S:=by
 intro ps args O k h outer B3 env L A m s vs ws aws D hf hke F R hl Q hq;exact eF (G:=G.pin ps) (ok.pin ps) (hb ps) (hS _ _ _ h) (D.pin ps) hf hke F R hl hq
def Z6(S:List PV->List PO->(PV->List PO->Prop)->Prop)(a b:PV)(O:PS)(k:KE):Prop:=match O with
 | ⟨l,h⟩=>cO (.inst []) h fun h'=>S [.ref h.length,a,b] h' fun v hp'=>match v with
  | .none=>k (.ref h.length) ⟨l,hp'⟩
  | _=>False
structure CtorOk(G:Gam)(fI:Addr):Prop where
 makes:makesIn G.K G.X.C=true
 init:findIn G.K (.ref G.X.C) "__init__" = some (some (.ref fI))
 fn:isFn G.K (.ref fI)=true
 keep:keepIn G.K (.ref G.X.C)=true
theorem Act.under{d:Nat}(D:Act G outer B3 env A (d+1))(C:Addr)(vals:List Value)(kw:List (Str×Value)):Act G outer B3 env (A.under (.builtin "type.__call__" ⟨.ref C::vals,kw⟩)) d:=
 ⟨D.B,D.Kin,D.T,D.fr,D.hd,by have:=D.dep;rw[depth_under_kw];lia,by have:=D.un;show A.units+1+8*d<_;lia⟩
def mI(C:Addr)(c:PV)(K:Prop):Prop:=match c with
 | .top D=>cond (Nat.beq D C) K False
 | _=>False
set_option tactic.hygienic true in
theorem mJ{c:PV}{K:Prop}(h:mI C c K):c=.top C/\K:=by
 cases c<;>first | exact h.elim | skip
 rename_i D
 have h:cond (Nat.beq D C) K False:=h
 cases e:Nat.beq D C with
 | false=>rw[e] at h;exact h.elim
 | true=>rw[e] at h;exact⟨congrArg _ (Bp e),h⟩
theorem iL{S:List PV->List PO->(PV->List PO->Prop)->Prop}{d:Nat}{id n1 n2:Str}{p1 p2:Pos}{e1 e2:Expr}{Wn W1 W2:PS->KE->Prop}
  (hS:yV G d fI (Yb n1 n2) S) (D:Act G outer B3 env A (d+1)) (hf:env.frame=some L) (hke:env.scope.kind=.function) (ok:CtorOk G fI)
  (hn:ES G A B3 L (eval (.Name id np) env) Wn) (h1:ES G A B3 L (eval e1 env) W1) (h2:ES G A B3 L (eval e2 env) W2) :
  ES G A B3 L (eval (.Call (.Name id np) [] [⟨some n1,e1,p1⟩,⟨some n2,e2,p2⟩] pos) env) (fun O k=>Wn O fun c F9=>mI G.X.C c (W1 F9 fun a B4=>W2 B4 fun b B6=>Z6 S a b B6 k)):=by
 intro O k m s vs ws h F R Q E hq;show wpAny _ A (do callWith pos (<- eval (.Name id np) env) [] (backTo pos (starEach [] env)) (backToKw pos (keywordEach [⟨some n1,e1,p1⟩,⟨some n2,e2,p2⟩] env))) Q E s
 refine wpAny_bind (hn h F R fun c F9 m₀ wc R0 I6 r₀ F₀ R6=>?_)
 replace I6:=mJ I6;obtain⟨rfl,I6⟩:=I6;obtain rfl:=R6.top;refine callWith_KW0 D.Kin ok.keep rfl ?_;refine kwAll_cons (h1 I6 F₀ R6.pop fun a B4 C3 wa B7 B5 B8 C2 C1=>kwAll_cons (h2 B5 C2 C1 fun b B6 C6 wb B9 C5 C4 C9 D0=>kwAll_nil ⟨D.Kin.keeps C9.keep,?_⟩))
 refine byc fun Ea=>?_
 obtain⟨ρ,led,frz,q⟩:=D0;obtain⟨l,hp⟩:=B6;refine Ea ?_;unfold Z6 at C5;replace C5:=qz.mp C5;refine call_cls C9 D.Kin q.all ok.makes ok.init ok.fn fun x dx h' F' N' l1 l2=>?_
 have W:=q.own2 (po:=.inst []) N' (fun p hp=>⟨Ca (Nat.lt_trans (l1 p hp) l2),Ca (l1 p hp)⟩) (Ne.symm (Ca l2)) (.inst rfl .nil)
 have len:ρ.length=hp.length:=q.hr.len;have hx:VR (ρ ++ [x]) frz (.ref hp.length) (.ref x):=by
  show Exists _;exact(zA x (by rw[Cy (Nat.le_of_eq len),len];simp) rfl)
 refine byc fun Ef=>?_
 obtain⟨_,_,ee,v2,tl⟩:=W.stk.cons_inv;refine Ef ?_
 cases ee
 refine byc fun El=>?_
 obtain⟨_,_,ee,v1,tl⟩:=tl.cons_inv;refine El ?_
 cases ee
 have R3:RL G.X B3 L h' C6 ⟨l,hp ++ [.inst []]⟩ (([.ref hp.length,a,b]:List PV).reverse++(.ref hp.length::vs)) (([.ref x,wa,wb]:List Value).reverse++(.ref x::ws)):=
  (zk _ _ _ ⟨W.hr,W.all,W.nd,W.off,W.offp,W.kept,W.loc,VRs.cons v2 (VRs.cons v1 (VRs.cons hx (VRs.cons hx tl)))⟩)
 refine hS G.X.pn C5 (s:={ B9 with heap:=h' }) (aws:=[.ref x,wa,wb]) (D.under _ _ _) hf hke F' R3 rfl fun v hp' w' s' hk hr F4 R4=>?_
 split at hk<;>try exact hk.elim
 obtain rfl:=R4.none
 exact⟨rfl,hq _ _ C6 _ s' hk (((r₀.trans B8).trans C4).trans ⟨⟨hr.1,hr.2.1,hr.2.2⟩,rfl⟩) F4 R4.pop⟩
end
theorem Us{kindOf:Str->Option NameKind}:∀{T8:List (Str×Value)} {m:BB} {y:Str},kindOf y=some .local->bindL kindOf T8 m y=(T8.reverse.lookup y).or (m y)
 | [],m,y,h=>by simp[bindL]
 | (n,v)::r,m,y,h=>by
  show bindL kindOf r _ y=_;rw[Us h,Cv,List.lookup_append,Option.or_assoc]
  congr 1
  by_cases e:y=n
  ·subst e;simp[h]
  ·have hb:(y==n)=false:=beq_eq_false_iff_ne.mpr e
   simp only[Db,hb,List.lookup_nil,Option.none_or]
   split
   ·simp[e]
   ·rfl
theorem XS{kindOf:Str->Option NameKind}:∀{T8:List (Str×Value)} {m:BB} {y:Str},kindOf y≠some .local->bindC kindOf T8 m y=(T8.reverse.lookup y).or (m y)
 | [],m,y,h=>by simp[bindC]
 | (n,v)::r,m,y,h=>by
  show bindC kindOf r _ y=_;rw[XS h,Cv,List.lookup_append,Option.or_assoc]
  congr 1
  by_cases e:y=n
  ·subst e;simp[h]
  ·have hb:(y==n)=false:=beq_eq_false_iff_ne.mpr e
   simp only[Db,hb,List.lookup_nil,Option.none_or]
   split
   ·rfl
   ·simp[e]
theorem yP:∀(names:List (Str×NameKind)) (n:Nat) (acc:List (Str×Addr)),(∀p∈acc,p.2<n)->(acc.map (·.2)).Nodup->∀lo,lo<=n->(∀p∈acc,lo<=p.2)->((cellsFrom n names acc).map (·.2)).Nodup /\ ∀p∈cellsFrom n names acc,lo<=p.2
 | [],_,acc,h1,h2,lo,h3,h4=>⟨h2,h4⟩
 | (y,k)::r,n,acc,h1,h2,lo,h3,h4=>by
  unfold cellsFrom
  split
  ·refine yP r (n+1) ((y,n)::acc) (fun p hp=>?_) ?_ lo (Nat.le_succ_of_le h3) fun p hp=>?_
   ·rcases List.mem_cons.mp hp with rfl | hp
    ·exact Dj _
    ·exact Nat.lt_succ_of_lt (h1 p hp)
   ·rw[Dh,List.nodup_cons]
    refine⟨fun hm=>?_,h2⟩
    refine zc (List.mem_map.mp hm) fun p hp e=>?_
    exact Do _ (e▸h1 p hp)
   ·rcases List.mem_cons.mp hp with rfl | hp
    ·exact h3
    ·exact h4 p hp
  ·exact yP r n acc h1 h2 lo h3 h4
structure FnOkC(G:Gam)(ca:List Value->Args)(f:Addr)(ids cids:List Nat)(qual:Str)(body:List Stmt)(scope:Scope)(cdv:Value):Prop where
 data:∃name params dV kV doc pm an ct oc od osl,G.K.lookup f=some ⟨oc,od,.func (fnOf name qual params body scope dV kV doc pm an cdv ct),osl⟩ /\
  ∀(s:Shared) (aws:List Value),G.K.In s.heap->aws.length=ids.length->BindsTo s (fnOf name qual params body scope dV kV doc pm an cdv ct) (ca aws) ((ids.map G.X.nm).zip aws)
 code:codeIn G.K cdv qual=true
 nd:ids.Nodup
 locs:∀k∈ids,scope.names.lookup (G.X.nm k)=some .local∨scope.names.lookup (G.X.nm k)=some .cell
 cells:(cellsFrom 0 scope.names []).map (·.1)=cids.map G.X.nm
 ckind:∀c∈cids,scope.names.lookup (G.X.nm c)=some .cell
 lkind:∀k∈ids,k∉cids->scope.names.lookup (G.X.nm k)=some .local
 cnd:cids.Nodup
 co:scope.isCoroutine=false
 gen:scope.isGenerator=false
 kind:scope.kind=.function
theorem FnOkC.pin{body:List Stmt}(ok:FnOkC G ca f ids cids qual body scope cdv)(ps:Pn):FnOkC (G.pin ps) ca f ids cids qual body scope cdv:=⟨ok.data,ok.code,ok.nd,ok.locs,ok.cells,ok.ckind,ok.lkind,ok.cnd,ok.co,ok.gen,ok.kind⟩
noncomputable def YF(cids:List Nat):List (Nat×PV)->List (Nat×PV)
 | []=>[]
 | (k,v)::r=>cond (cids.any (Nat.beq k)) (YF cids r) ((k,v)::YF cids r)
noncomputable def Vx(l:List (Nat×PV)):List Nat->List PO
 | []=>[]
 | c::r=>.cell (lk c l)::Vx l r
theorem Wf{k:Nat}:∀{l:List Nat},l.any (Nat.beq k)=true->k∈l
 | [],h=>by cases h
 | a::l,h=>by
  simp only[List.any_cons,Bool.or_eq_true] at h
  rcases h with h | h
  ·rw[Bp h];exact .head _
  ·exact .tail _ (Wf h)
theorem Uq{k:Nat}:∀{l:List Nat},k∈l->l.any (Nat.beq k)=true
 | a::l,h=>by
  simp only[List.any_cons,Bool.or_eq_true]
  cases h with
  | head=>exact .inl (De _)
  | tail _ h=>exact .inr (Uq h)
theorem Zs{cids:List Nat}{k:Nat}{v:PV}:∀{l:List (Nat×PV)},lk k (YF cids l)=some v->lk k l=some v/\k∉cids
 | [],h=>by simp[YF,lk] at h
 | (j,u)::r,h=>by
  cases e:cids.any (Nat.beq j) with
  | true =>
   simp only[YF,e,cond_true] at h;obtain⟨h1,h2⟩:=Zs h
   have:k≠j:=fun q=>h2 (q▸Wf e)
   exact⟨by simp only[lk,z7 this,cond_false];exact h1,h2⟩
  | false =>
   simp only[YF,e,cond_false,lk] at h
   cases q:Nat.beq k j with
   | true =>
    rw[q] at h
    have:=Bp q
    subst this
    exact⟨by simp only[lk,q];exact h,fun hm=>by rw[Uq hm] at e;cases e⟩
   | false =>
    rw[q] at h;obtain⟨h1,h2⟩:=Zs h
    exact⟨by simp only[lk,q,cond_false];exact h1,h2⟩
def VE(ids cids:List Nat)(W:Nat->PS->KF->Prop)(args:List PV)(hp:List PO)(k:PV->List PO->Prop):Prop:=
 args.length=ids.length/\W hp.length ⟨YF cids (ids.zip args),hp++Vx (ids.zip args) cids⟩ fun f O=>match f with
  | .ret v=>k v O.hp
  | .next=>k .none O.hp
  | .brk=>False
noncomputable def UN(n:Nat):List Addr->List (Nat×Addr)
 | []=>[]
 | a::r=>(n,a)::UN (n+1) r
theorem WL{ρ:List Addr}:∀{as:List Addr} {n:Nat} {p:Nat×Addr},p∈UN n as->n=ρ.length->(ρ++as)[p.1]?=some p.2
 | [],_,_,h,_=>by cases h
 | a::r,n,p,h,e=>by
  cases h with
  | head=>subst e;simp
  | tail _ h =>
   have:=WL (ρ:=ρ ++ [a]) h (by simp[e])
   simpa using this
theorem UO:∀{as:List Addr} {n j:Nat} {a:Addr},as[j]?=some a->(n+j,a)∈UN n as
 | [],_,_,_,h=>by simp at h
 | b::r,n,0,a,h=>by simp at h;subst h;exact .head _
 | b::r,n,j+1,a,h=>by
  simp at h
  have:=UO (n:=n+1) h
  exact .tail _ (by rw[show n+(j+1)=n+1+j by lia];exact this)
section
variable {A:Around}{m:BB}{vs:List PV}{E:BA}
theorem Ux{X:Cx}{ρ:List Addr}{frz:BD}{cm:BB}{l:List (Nat×PV)}:∀{cids:List Nat} {cs:List (Str×Addr)} {cells:BD},CellsAre cm cs cells->cs.map (·.1)=cids.map X.nm->(∀c∈cids,CR ρ frz (lk c l) (cm (X.nm c))) ->
  HR X ρ frz (Vx l cids) (cs.map (·.2)) cells/\cells.map (·.1)=cs.map (·.2)
 | [],_,_,.nil,_,_=>⟨.nil,rfl⟩
 | c::cids,_,_,.nil,e,_=>by simp at e
 | [],_,_,.cons _ _,e,_=>by simp at e
 | c::cids,_,_,.cons hd t,e,h=>by
  simp only[Dh,List.cons.injEq] at e;refine zd (Ux (cids:=cids) t e.2 fun c' hc'=>h c' (.tail _ hc')) fun a b=>?_
  have:=h c (.head _)
  rw[<- e.1] at this
  exact⟨.cell hd this a,by simp[b]⟩
theorem Jo{X:Cx}:∀{l:List Nat},l.Nodup->(l.map X.nm).Nodup
 | [],_=>Dw
 | a::l,h=>by
  refine zd (List.nodup_cons.mp h) fun h1 h2=>?_
  rw[Dh,List.nodup_cons]
  refine⟨fun hm=>?_,Jo h2⟩
  refine zc (List.mem_map.mp hm) fun b hb e=>?_
  exact h1 (X.inj _ _ e▸hb)
theorem al{d:Nat}{body:List Stmt}{W:Nat->PS->KF->Prop}(ok:FnOkC G ca f ids cids qual body scope cdv)
  (hb:∀(n:Nat) (cl:List (Nat×Addr)) {outer:List Env} {B3:Heap} {L:Addr} {A:Around},(∀j c,cids[j]?=some c->∃a,(cellsFrom (L+1) scope.names []).lookup (G.X.nm c)=some a/\(n+j,a)∈cl)->Act (G.pin ⟨G.X.ps,G.X.ks,cl⟩) outer B3 (envOfC qual scope L f cdv) A d ->
   SS (G.pin ⟨G.X.ps,G.X.ks,cl⟩) A B3 L (execs body (envOfC qual scope L f cdv)) (W n))
  {args:List PV} {k:PV->List PO->Prop} (hw:VE ids cids W args O.hp k) {aws:List Value}
  (D:Act G outer B3 env A (d+1)) (hf:env.frame=some L) (hke:env.scope.kind=.function) (F:Fr B3 L s.heap m) (R:RL G.X B3 L s.heap m O (args.reverse++vs) (aws.reverse++ws)) (hlen:aws.length=args.length)
  {Q:Result->Shared->Prop} (hq:∀v hp' w' s',k v hp'->zr s s'->Fr B3 L s'.heap m->RL G.X B3 L s'.heap m { O with hp:=hp' } (v::vs) (w'::ws)->Q (.ok (.ret w')) s') :
  codeAny (model G.prog G.w) A (.call (.ref f) (ca aws)) Q s:=by
 refine byc fun Ea=>?_
 refine zV D.B fun I9 B=>?_
 obtain⟨name,params,dV,kV,doc,pm,an,ct,oc,od,osl,ho,S5⟩:=ok.data;refine zd hw fun hargs hw=>?_
 refine zh R fun ρ led frz q=>?_
 refine jj (XU (O.loc.map (·.1)) fun k Z v e=>q.loc k v e) fun us xs c1 c2=>?_
 refine zd (Qw q hlen) fun sa q0=>?_
 have s2:=q0.stk;have hnd:((cellsFrom 0 scope.names []).map (·.1)).Nodup:=by rw[ok.cells];exact Jo ok.cnd
 refine Ea ?_;refine code_defC B F D.Kin q.all D.T D.fr hf hke ho ok.code (by have:=D.dep;lia) (S5 s aws (D.Kin.keeps F.keep) (hlen.trans hargs)) ?_ hnd (fun g L' B5 tk cells FG F' N' CA B' K' T' l1=>?_) ok.co ok.gen ok.kind
 ·refine List.all_eq_true.mpr fun y hy=>?_
  refine byc fun Ef=>?_
  obtain⟨a,b⟩:=y;refine zc (List.mem_map.mp (List.of_mem_zip hy).1) fun i hi e=>?_
  refine Ef ?_
  show(scope.names.lookup a==some .local||scope.names.lookup a==some .cell)=true
  rw[<- e]
  rcases ok.locs i hi with h | h<;>rw[h]<;>rfl
 ·have hcs:(cellsFrom (L'+1) scope.names []).map (·.1)=cids.map G.X.nm:=(cellsFrom_names scope.names (L'+1) 0 [] [] rfl).trans ok.cells
  refine zd (yP scope.names (L'+1) [] (fun Z h=>nomatch h) Dw (L'+1) (Cg _) (fun Z h=>nomatch h)) fun nd2 above=>?_
  generalize hCS:cellsFrom (L'+1) scope.names []=cs at hcs nd2 above CA;have up:∀(i:Nat) (b:Addr),ρ[i]?=some b->(ρ++cs.map (·.2))[i]?=some b:=fun i b e=>by
   rw[Cz (List.getElem?_eq_some_iff.mp e).1];exact e
  have zl:=qY (X:=G.X) ok.nd sa;have hCR:∀c∈cids,CR (ρ++cs.map (·.2)) frz (lk c (ids.zip args)) (bindC (envOfC qual scope L' f cdv).kindOf ((ids.map G.X.nm).zip aws) (fun Z=>none) (G.X.nm c)):=by
   intro c hc;have hk:(envOfC qual scope L' f cdv).kindOf (G.X.nm c)=some .cell:=ok.ckind c hc;rw[XS (by rw[hk];simp),Option.or_none]
   cases e:lk c (ids.zip args) with
   | some v =>
    refine byc fun El=>?_
    refine zc (zl.2 c v e) fun w' e1 e2=>?_
    refine El ?_;rw[e1];exact(zA w' rfl (e2.mono up fun Z h=>h))
   | none =>
    have:c∉ids:=fun hm=>by
     have key:∀{ids:List Nat} {args:List PV},args.length=ids.length->c∈ids->lk c (ids.zip args)≠none:=by
      intro ids
      induction ids with
      | nil=>intro args _ h;cases h
      | cons a ids ih =>
       intro args hl hm
       induction args with
       | nil=>simp at hl
       | cons b args =>
        simp only[List.zip_cons_cons,lk]
        cases q:Nat.beq c a with
        | true=>simp
        | false =>
         simp only[cond_false];refine ih (by simpa using hl) ?_
         cases hm with
         | head=>rw[De] at q;cases q
         | tail _ h=>exact h
     exact key hargs hm e
    rw[zl.1 c this];rfl
  refine zd (Ux (X:=G.X) CA hcs hCR) fun hr hmap=>?_
  have offc:∀p∈(led++frz)++G.X.ps,∀y∈cells,p.1≠y.1:=fun p hp y hy e=>by
   have:y.1∈cs.map (·.2):=hmap▸Cj hy
   refine byc fun Em=>?_
   refine zc (List.mem_map.mp this) fun z hz ez=>?_
   have h1:L'+1<=y.1:=ez▸above z hz;have h2:y.1<L':=e▸l1 p hp;refine Em ?_;exact Do _ (Nat.lt_trans h2 (Nat.lt_of_succ_le h1))
  have len:ρ.length=O.hp.length:=q.hr.len;have D':Act (G.pin ⟨G.X.ps,G.X.ks,UN O.hp.length (cs.map (·.2))++G.X.cl⟩) (env::outer) g (envOfC qual scope L' f cdv) (A.deeper (envOfC qual scope L' f cdv)) d:=
   ⟨⟨A,B'⟩,K',T',by show A.frames.map _=_;rw[D.fr];rfl,D.hd,by have:=D.dep;show A.depth+1+d<_;lia,by have:=D.un;show A.units+3+8*d<_;lia⟩
  have R':RL (G.X.pin ⟨G.X.ps,G.X.ks,UN O.hp.length (cs.map (·.2))++G.X.cl⟩) g L' B5 (bindL (envOfC qual scope L' f cdv).kindOf ((ids.map G.X.nm).zip aws) fun Z=>none) ⟨YF cids (ids.zip args),O.hp++Vx (ids.zip args) cids⟩ (us++vs) (xs++ws):=by
   refine(zk (ρ++cs.map (·.2)) (led++cells) frz ⟨((q.hr.mono up fun Z h=>h).app hr).pin,fun p hp=>N' p ?_,?_,?_,?_,⟨q.kept.1,fun p hp=>?_⟩,fun k v e=>?_,(c1.append s2).mono up fun Z h=>h⟩)
   ·have hp:p∈((led++cells)++frz)++G.X.ps:=hp
    simp only[By] at hp ⊢
    rcases hp with ((h | h) | h) | h
    ·exact .inr (.inl (.inl h))
    ·exact .inl h
    ·exact .inr (.inl (.inr h))
    ·exact .inr (.inr h)
   ·rw[Da,List.nodup_append]
    refine⟨q.nd,hmap▸nd2,fun x hx y hy e=>?_⟩
    refine zc (List.mem_map.mp hx) fun p hp Ej=>?_;subst Ej
    refine zc (List.mem_map.mp hy) fun p' hp' Ek=>?_;subst Ek
    exact offc p (Bn _ (Bn _ hp)) p' hp' e
   ·intro p hp y hy
    rcases List.mem_append.mp hy with hy | hy
    ·exact q.off p hp y hy
    ·exact offc p (Bn _ (Bo _ hp)) y hy
   ·intro p hp y hy
    simp only[By] at hy
    rcases hy with (hy | hy) | hy
    ·exact q.offp p hp y (Bn _ hy)
    ·exact offc p (Bo _ hp) y hy
    ·exact q.offp p hp y (Bo _ hy)
   ·rcases List.mem_append.mp hp with hp | hp
    ·exact WL hp len.symm
    ·exact up _ _ (q.kept.2 p hp)
   ·refine zd (Zs e) fun e1 e2=>?_
    refine byc fun hN5=>?_
    refine zc (zl.2 k v e1) fun w' e3 e4=>?_
    refine hN5 ?_;have hk:k∈ids:=by
     have key:∀{ids:List Nat} {args:List PV},lk k (ids.zip args)=some v->k∈ids:=by
      intro ids
      induction ids with
      | nil=>intro args h;simp[lk] at h
      | cons a ids ih =>
       intro args h
       induction args with
       | nil=>simp[lk] at h
       | cons b args =>
        simp only[List.zip_cons_cons,lk] at h
        cases q:Nat.beq k a with
        | true=>rw[Bp q];exact .head _
        | false=>rw[q] at h;exact .tail _ (ih h)
     exact key e1
    refine(zA w' ?_ (e4.mono up fun Z h=>h))
    show bindL _ _ _ (G.X.nm k)=_;rw[Us (show(envOfC qual scope L' f cdv).kindOf (G.X.nm k)=some .local from ok.lkind k hk e2),Option.or_none]
    exact e3
  have leave:∀v w' σ' m' s',k v σ'.hp->zr { s with heap:=B5,toks:=tk } s'->Fr g L' s'.heap m'->RL (G.X.pin ⟨G.X.ps,G.X.ks,UN O.hp.length (cs.map (·.2))++G.X.cl⟩) g L' s'.heap m' σ' (v::(us++vs)) (w'::(xs++ws))->LeaveK B3 L m g Q w' s':=by
   intro v w' σ' m' s' hk hr F'' R'';refine byc fun hN6=>?_
   refine zh R'' fun ρ' led' frz' q'=>?_
   refine hN6 ?_;refine leaveK_ F'' q'.all fun F3 N3=>hq v σ'.hp w' s' hk ⟨hr.1,hr.2.1,hr.2.2⟩ F3 ?_
   refine byc fun hN7=>?_
   refine zv q'.stk.cons_inv fun Z Z e' hv tl=>?_
   refine hN7 ?_
   cases e'
   refine byc fun hN8=>?_
   refine zv tl.split fun y1 y2 ey t1 t2=>?_
   have:=Cw ey.symm (by rw[t1.length,c1.length])
   refine hN8 ?_;refine zd this fun Cd Dm=>?_;subst Cd;subst Dm
   exact(zk ρ' led' frz' ⟨q'.hr.unpin,N3,q'.nd,q'.off,q'.offp,⟨q'.kept.1,fun p hp=>q'.kept.2 p (Bo _ hp)⟩,fun k v e=>c2 ρ' frz' t1 k (U4 e) v e,VRs.cons hv t2⟩)
  have S7:∀j c,cids[j]?=some c->∃a,(cellsFrom (L'+1) scope.names []).lookup (G.X.nm c)=some a/\(O.hp.length+j,a)∈UN O.hp.length (cs.map (·.2))++G.X.cl:=by
   intro j c hj;have hj':(cs.map (·.1))[j]?=some (G.X.nm c):=by rw[hcs,Ec,hj];rfl
   rw[Ec] at hj'
   cases e:cs[j]? with
   | none=>rw[e] at hj';cases hj'
   | some p =>
    rw[e] at hj';obtain⟨pn,pa⟩:=p
    cases hj'
    refine(zA pa ?_ (Bn _ (UO (by rw[Ec,e];rfl))))
    rw[hCS];exact lookup_of_mem_nodup (by rw[hcs];exact Jo ok.cnd) (Df e)
  refine hb O.hp.length _ S7 D' (s:={ s with heap:=B5,toks:=tk }) hw F' R' ⟨fun σ' m' s' hk hr F'' R''=>?_,fun σ' m' s' hk hr F'' R''=>hk.elim,fun v w' σ' m' s' hk hr F'' R''=>?_⟩
  ·exact leave .none .none σ' m' s' hk hr F'' (R''.push K0)
  ·exact leave v w' σ' m' s' hk hr F'' R''
end
noncomputable def dH(a b:Nat)(ys xs:Array Value):Array Value:=xs.extract 0 a++ys++xs.extract (max a b) xs.size
noncomputable def qd(a b:Nat)(xs ys:List α):List α:=xs.take a++ys++xs.drop (max a b)
section
variable {prog:Program}{w:World}{A:Around}{E:BA}
theorem tP(a b:Nat):(max (a:Int) b).toNat=max a b:=by
 rcases Nat.le_total a b with h | h
 ·rw[Int.max_eq_right (Int.ofNat_le.mpr h),Nat.max_eq_right h,Dl]
 ·rw[Int.max_eq_left (Int.ofNat_le.mpr h),Nat.max_eq_left h,Dl]
theorem xg{p q lo m n k S:Nat}(g1:p<=lo)(h3:p<=n)(g2:q<=n-m)(hm:lo<=m)(hz:n+k<=S):p+k+q<=S+1:=by lia
theorem Vv{l sl b:Addr}{items new:Array Value}{nn:Nat}{vl vu:Value}{lo hi:Option Int}{Q:Unit->Shared->Prop}(ho:s.heap.get? l=some (listOf items nn))(hs:s.heap.IsSliceOf sl vl vu .none)(pl:IsPart vl lo)(pu:IsPart vu hi)(hv:s.heap.IsList b new)(hz:items.size+new.size<=sizeLine)
  (hQ:Q () { s with heap:=s.heap.update l (Obj.mapSeq (dH (kms_lo lo items.size) (kms_hi hi items.size) new)) }):wpAny (model prog w) A (setItem (.ref l) (.ref sl) (.ref b)) Q E s:=by
 have hl:s.heap.IsList l items:=(yh _ ho rfl ⟨nn,rfl⟩);refine byc fun Ea=>?_
 refine yb (id hs) fun os hos hcs hds=>?_
 refine yb (id hv) fun ob hob hbc Cd=>?_;obtain⟨nb,hbd⟩:=Cd
 have hTs:s.TypeIs (.ref sl) "slice" := (zA os hos hcs);refine Ea ?_;unfold setItem
 try with_reducible refine wpAny_holding ?_
 first | refine wpAny_bind (wpAny_pure ?_) | skip
 refine wpAny_bind (wpAny_sequenceKey hl.typeIs (by decide) ?_)
 refine wpAny_bind (wpAny_callSpecial?_slot (name:=Str.ofString "__setitem__") hl.typeIs slot_list_setitem
  (wpAny_call_entry slot_list_setitem hl.typeIs entry_list_setitem ?_ (args_list_setitem _ _ _)))
 show wpAny _ _ (Builtin.List.listSubscript? (.ref sl) >>= _) _ _ s;refine wpAny_bind ?_;unfold Builtin.List.listSubscript?;refine wpAny_bind (wpAny_specialOf hTs slice_no_index ?_);rw[if_pos (show(Option.isNone (none:Option Value))=true from rfl)]
 refine wpAny_pure ?_;show wpAny _ _ (typeOf (.ref sl) >>= _) _ _ s;refine wpAny_bind (wpAny_typeOf hTs ?_);rw[if_neg (by decide)]
 rw[listSliceParts_eq];refine wpAny_bind (wpAny_bind (wpAny_field hos hds (x:=.none) rfl (wpAny_bind (wpAny_listPart .none ?_))));rw[if_neg (show ¬ ((rawPart none==rawInt 0)=true) from Bool.false_ne_true)]
 refine wpAny_bind (wpAny_field hos hds (x:=vl) rfl (wpAny_bind (wpAny_listPart pl ?_)));refine wpAny_bind (wpAny_field hos hds (x:=vu) rfl (wpAny_bind (wpAny_listPart pu (wpAny_pure ?_))));have it:∀{B:Around} {E:BA} {a:Addr} {o:Obj} {xs:Array Value} {n:Nat} {R:Array Value->Shared->Prop},s.heap.get? a=some o->o.data=.seq xs n->R xs s->wpAny (model prog w) B (Builtin.List.listItems (.ref a)) R E s:=by
  intro B E a o xs n R h1 h2 h3;unfold Builtin.List.listItems;exact wpAny_bind (wpAny_seqItems h1 h2 (wpAny_pure h3))
 have key:∀{B:Around} {E:BA} {c:Prop} {d:Decidable c} {F:Array Value->Sem PySem.Fin} {R:PySem.Fin->Shared->Prop},wpAny (model prog w) B (F new) R E s ->
   wpAny (model prog w) B (@ite _ c d (Builtin.List.listItems (.ref b) >>= F) (Builtin.List.listAllItems (.ref b) "must assign iterable to extended slice" >>= F)) R E s:=by
  intro B E c d F R h
  by_cases hc:c
  ·rw[if_pos hc]
   exact wpAny_bind (m:=Builtin.List.listItems (.ref b)) (it hob hbd h)
  ·rw[if_neg hc]
   refine wpAny_bind (m:=Builtin.List.listAllItems (.ref b) _) ?_;unfold Builtin.List.listAllItems;refine wpAny_bind (wpAny_typeOf (T := "list") (zA ob hob hbc) ?_);rw[if_pos (by decide)]
   first
    | exact it hob hbd h
    | (refine wpAny_bind (m:=Builtin.List.listItems (.ref b)) (it hob hbd ?_);exact wpAny_pure h)
 refine key ?_;refine wpAny_bind (m:=Builtin.List.listItems (.ref l)) (it ho rfl ?_);refine wpAny_bind (wpAny_of_eq (sliceIndices_raw lo hi none items.size (fun e=>nomatch e)) ?_)
 rw[kms_bounds];show wpAny _ _ (if ((1:Int)==1)=true then _ else _) _ _ s
 rw[if_pos (show((1:Int)==1)=true from rfl)]
 refine wpAny_bind (wpAny_rule ?_);show wpAny _ _ (if Builtin.List.listTooLong (items.size+new.size)=true then _ else _) _ _ s
 rw[if_neg (by unfold Builtin.List.listTooLong;exact fun e=>absurd (of_decide_eq_true e) (Nat.not_lt.mpr hz))]
 have e0:(((kms_lo lo items.size:Nat):Int)).toNat=kms_lo lo items.size:=rfl;have e1:(max ((kms_lo lo items.size:Nat):Int) ((kms_hi hi items.size:Nat):Int)).toNat=max (kms_lo lo items.size) (kms_hi hi items.size):=tP _ _;rw[e1];refine wpAny_bind ?_;refine wpAny_updateSeq ho rfl ?_ (hz:=Dc (Nat.le_add_right _ _) hz) (_hz':=?_)
 ·exact wpAny_bind (wpAny_letGo (wpAny_pure (zA .none rfl (wpAny_pure hQ))))
 ·have h1:(items.extract 0 (kms_lo lo items.size)).size<=kms_lo lo items.size:=by rw[Array.size_extract];exact Dc (Nat.sub_le _ _) (Nat.min_le_left ..)
  have h3:(items.extract 0 (kms_lo lo items.size)).size<=items.size:=by rw[Array.size_extract];exact Dc (Nat.sub_le _ _) (Nat.min_le_right ..)
  have h2:(items.extract (max (kms_lo lo items.size) (kms_hi hi items.size)) items.size).size<=items.size-max (kms_lo lo items.size) (kms_hi hi items.size):=by rw[Array.size_extract,Nat.min_self];exact Cg _
  show(items.extract 0 (kms_lo lo items.size)++new++items.extract (max (kms_lo lo items.size) (kms_hi hi items.size)) items.size).size<=sizeLine+1
  rw[Array.size_append,Array.size_append];exact xg h1 h3 h2 (Nat.le_max_left ..) hz
end
section
variable {A:Around}{m:BB}{vs:List PV}{E:BA}
def nO(a l u v:PV)(O:PS)(k:PS->Prop):Prop:=ilC a O fun j xs=>opt (Jb O v) fun ys=>opt (jo l) fun lo=>opt (jo u) fun hi=>xs.length+ys.length<=2 ^ 24/\O.siC j (.il (qd (kms_lo lo xs.length) (kms_hi hi xs.length) xs ys)) k
theorem ZM{a b:Nat}{xs:List Value}:dH a b ys.toArray xs.toArray=(qd a b xs ys).toArray:=by
 apply Array.toList_inj.mp
 unfold qd dH;simp only[Array.toList_append,Array.toList_extract,List.extract_eq_take_drop,Bv,Nat.sub_zero,List.drop_zero];rw[List.take_of_length_le (l:=xs.drop (max a b)) (by rw[List.length_drop];exact Cg _)]
theorem YQ{a b:Nat}{xs ys:List Int}{us zs:List Value}(h:IntsAre us xs)(h2:IntsAre zs ys):IntsAre (qd a b us zs) (qd a b xs ys):=IntsAre.app (IntsAre.app (h.take a) h2) (h.drop _)
theorem tC{o e:Expr}{lo hi:Option Expr}{sp:Pos}{Wh:PS->KE->Prop}(ho:ES G A B3 L (eval o env) Wo)(hl:ES G A B3 L (valueOrNone (evalOpt lo env)) Wl)(hh:ES G A B3 L (valueOrNone (evalOpt hi env)) Wh)(he:ES G A B3 L (eval e env) We)(hc:yS e=true):
  SS G A B3 L (exec (.Assign [.Subscript o (.Slice lo hi none sp) spos] e pos) env) (fun O k=>We O fun v B4=>Wo B4 fun a B6=>Wl B6 fun l C7=>Wh C7 fun u E4=>nO a l u v E4 fun E9=>k .next E9):=by
 intro O k m s vs ws h F R Q E hq;refine wpAny_Assign_stores (he h F R fun v B4 C3 E7 B7 B5 B8 C2 C1=>?_) (show swapsWith e (some (.Subscript o (.Slice lo hi none sp) spos)) pos.line env=pure false from jP hc) ?_
 ·show wpAny (model G.prog G.w) A (assign (.Subscript o (.Slice lo hi none sp) spos) env E7) _ _ B7
  rw[arm_assign_Subscript];refine wpAny_bind (wpAny_holding (ho B5 C2 C1 fun a B6 C6 F0 B9 C5 C4 C9 D0=>wpAny_bind (wpAny_holding ?_)))
  show wpAny _ A (do
   let l <- valueOrNone (evalOpt lo env)
   let u <- holding [l] (valueOrNone (evalOpt hi env))
   let s <- holding [l,u] (valueOrNone (evalOpt none env))
   newFields "slice" [l,u,s]) _ E B9
  refine wpAny_bind (hl C5 C9 D0 fun l C7 E5 wl D8 D1 D7 D9 D6=>wpAny_bind (wpAny_holding (hh D1 D9 D6 fun u E4 G3 wu F6 F5 G4 G1 G0=>wpAny_bind (wpAny_holding (wpAny_pure ?_)))))
  refine wpAny_newObj_type ?_ (by show(3:Nat)<=sizeLine+2;decide)
  refine wpAny_bind (wpAny_standAt (wpAny_bind (wpAny_holding ?_)));refine zv (pH F5) fun j xs Dm ej g=>?_;subst Dm
  refine byc fun Ea=>?_
  refine zc (zG g) fun ys ey g=>?_
  refine zc (zG g) fun p1 e1 g=>?_
  refine yb (zG g) fun p2 e2 hz g=>?_
  refine Ea ?_;replace g:=j6.mp g;have parts:=YG G0 e1 e2;have R':RL G.X B3 L F6.heap G3 E4 (.ref j::v::vs) (F0::E7::ws):=G0.pop.pop;refine zh (R'.pop.ints ey) fun b vit nb Ee=>jf Ee fun ρ2 led2 frz2 I2 Cd=>?_;subst Cd
  refine byc fun Ef=>?_
  refine zh (R'.list ej) fun x items n Ee=>zh Ee fun ρ pre post Ee=>zV Ee fun frz I=>?_
  refine Ef ?_;obtain rfl:=I.rw.ref I.idx;have l1:=I.vals.length;have l2:=I2.vals.length;refine zd (kZ I.rw) fun o1 o2=>?_
  have N:=I.rw.all.pushKeep { cls:=.type "slice",data:=.fields #[wl,wu,.none] };rw[Br,Br,List.cons_append,<- Br] at N;have z:=N (x,listOf items.toArray n) (by simp)
  refine zV (gR (X:=G.X) (dH (kms_lo p1 items.toArray.size) (kms_hi p2 items.toArray.size) vit.toArray) N o1 o2 (ZM (a:=kms_lo p1 items.toArray.size) (b:=kms_hi p2 items.toArray.size) (ys:=vit))) fun n' N'=>?_
  have F':=(G1.push { cls:=.type "slice",data:=.fields #[wl,wu,.none] }).change (Heap.SameBut.update _ x (Obj.mapSeq (dH (kms_lo p1 items.toArray.size) (kms_hi p2 items.toArray.size) vit.toArray))) z.2.1 z.2.2;refine Vv z.1 (Heap.IsSliceOf.new ..) parts.1 parts.2 (I2.isList.push _) (by rw[Bv,Bv,l1,l2];exact hz) ?_
  have W:=I.rw.swap (led':=pre++(x,listOf (qd (kms_lo p1 xs.length) (kms_hi p2 xs.length) items vit).toArray n')::post) (by simp) (I.put _ _ _ (YQ I.vals I2.vals)) (by rw[Br,Br,List.cons_append,<- Br,<- l1];exact N')
  exact wpAny_release (hq.next _ G3 _ g ((((B8.trans C4).trans D7).trans G4).rest.trans ⟨rfl,rfl,rfl⟩) F' (zk ρ _ frz W.pop.pop))
 ·rfl
end
section
variable {A:Around}
theorem uF{n:Nat}{Ze upos:Pos}:ES G A B3 L (eval (.UnaryOp .USub (.Constant (.int 1) n Ze) upos) env) (fun O k=>k (.int (X9 1)) O):=nj (op:=.USub) WA vX
noncomputable def lsP(o:Option PO):Option (List PV):=match o with | some (.ls us)=>some us | _=>none
theorem rp{o:Option PO}{us:List PV}(e:lsP o=some us):o=some (.ls us):=by
 induction o with
 | none=>cases e
 | some p =>
  induction p with
  | ls vs=>cases e;rfl
  | _=>cases e
def gu(mt:Bool)(a:PV)(O:PS)(k:KE):Prop:=match Jb O a with
 | some xs=>xs.length<=2 ^ 24/\Xp mt xs.reverse O k
 | none=>ZI a fun j=>opt (lsP O.hp[j]?) fun us=>us.length<=2 ^ 24/\cond mt False (k (.ls us.reverse) O)
theorem lY{mt:Bool}{a:PV}{k:KE}(h:gu mt a O k):(∃xs,Jb O a=some xs/\xs.length<=2 ^ 24/\Xp mt xs.reverse O k) ∨ ∃j us,a=.ref j/\O.hp[j]?=some (.ls us)/\us.length<=2 ^ 24/\k (.ls us.reverse) O:=by
 unfold gu at h
 cases e:Jb O a with
 | some xs=>rw[e] at h;exact .inl (zA xs rfl h)
 | none =>
  rw[e] at h;refine zc (JB h) fun j Cd h=>?_;subst Cd
  refine yb (zG h) fun us e2 h1 h2=>?_
  exact .inr (qo j us rfl (rp e2) h1 ((jH h2).2))
theorem VRs.reverse{ρ:List Addr}{frz:BD}:∀{us:List PV} {ws:List Value},VRs ρ frz us ws->VRs ρ frz us.reverse ws.reverse
 | [],_,h=>by cases h;exact VRs.nil
 | u::us,_,h=>by
  refine zv h.cons_inv fun w r Cd a b=>?_;subst Cd
  rw[Cv,Cv];exact(VRs.reverse b).append (VRs.cons a VRs.nil)
theorem VRs.len{ρ:List Addr}{frz:BD}:∀{us:List PV} {ws:List Value},VRs ρ frz us ws->ws.length=us.length
 | [],_,h=>by cases h;rfl
 | u::us,_,h=>by
  refine zv h.cons_inv fun w r Cd a b=>?_;subst Cd
  exact congrArg (· + 1) (VRs.len b)
theorem oR{mt:Bool}{n:Nat}{Ze upos sp:Pos}{Wv:PS->KE->Prop}(hv:ES G A B3 L (eval value env) Wv):
  ES G A B3 L (eval (.Subscript value (.Slice none none (some (.UnaryOp .USub (.Constant (.int 1) n Ze) upos)) sp) pos) env) (fun O k=>Wv O fun a B4=>gu mt a B4 k):=by
 intro O k m s vs ws h F R Q E hq;refine Subscript_ (hv h F R fun a B4 C3 wa B7 B5 B8 C2 C1=>?_)
 show wpAny _ A (do
  let l <- valueOrNone (evalOpt none env)
  let u <- holding [l] (valueOrNone (evalOpt none env))
  let s <- holding [l,u] (valueOrNone (evalOpt (some (.UnaryOp .USub (.Constant (.int 1) n Ze) upos)) env))
  newFields "slice" [l,u,s]) _ E B7
 refine wpAny_bind (wpAny_pure (wpAny_bind (wpAny_holding (wpAny_pure (wpAny_bind (wpAny_holding ?_))))));refine uF (k:=fun b B6=>b=.int (X9 1)/\gu mt a B6 k) ⟨rfl,B5⟩ C2 C1 fun b B6 C6 wb B9 C5 C4 C9 D0=>?_
 obtain⟨rfl,C5⟩:=C5;obtain⟨t,rfl⟩:=D0.int;refine wpAny_newObj_type ?_ (by show(3:Nat)<=sizeLine+2;decide)
 have R3:=D0.pop;have pk:IsPart (.int (X9 1) t) (some (-1)):=by rw[show X9 1 = -1 from WJ 1];exact .int _ _
 rcases lY C5 with ⟨xs,e,hz,hw⟩ | ⟨j,us,rfl,e,hz,hw⟩
 ·refine zh (R3.ints e) fun x items c Ee=>jf Ee fun ρ led frz I Cd=>?_;subst Cd
  refine kba_turn (value':=.Name (Str.ofString "_") ⟨0,0,0,0⟩) (fun Z=>rfl) ?_
  refine krv_lit (zs:=items.reverse) C9 I.rw.all I.isList pk rfl (fun D h' F' N' lt=>?_) rfl (fun Z=>rfl) (by rw[Bv,I.vals.length];exact hz)
  exact U9 (tk:=B9.toks) (n:=0) I.rw.pop F' N' (fun p hp=>Ca (lt p hp)) I.vals.reverse hw (fun v σ' m' w' s' a b c d=>hq v σ' m' w' s' a ((B8.trans C4).trans b) c d)
 ·refine zh R3 fun ρ led frz q=>?_
  refine byc fun Ea=>?_
  refine zh (q.hr.at_ls e) fun x items c Ee=>q7 Ee fun pre post e1 e2 hi Z=>?_
  refine Ea ?_;obtain rfl:=q.ref e1;refine kba_turn (value':=.Name (Str.ofString "_") ⟨0,0,0,0⟩) (fun Z=>rfl) ?_
  refine krv_lit (zs:=items.reverse) C9 q.all (jF q.news (by rw[e2];exact Bn _ (Bo _ (.head _)))) pk rfl (fun D h' F' N' lt=>?_) rfl (fun Z=>rfl) (by rw[Bv,hi.len];exact hz)
  exact U8 (tk:=B9.toks) (n:=0) q.pop hi.reverse F' N' (fun p hp=>Ca (lt p hp)) hw (fun v σ' m' w' s' a b c d=>hq v σ' m' w' s' a ((B8.trans C4).trans b) c d)
end
section
open PySem.Spec
open PyProof.Rows.LCg
section
variable {A:Around}{m:BB}{vs:List PV}{E:BA}
def nR(Wa:PS->(List PV->PS->Prop)->Prop)(Wv:PV->PS->KE->Prop)(z:Nat)(O:PS)(k:KF):Prop:=Wa O fun us B4=>one us fun b=>y4 b fun b=>(0<=b/\b<=100000)/\qZ Wv (ji 0 (jW 0 b)) [] B4 fun us B6=>opt (jy us) fun xs=>B6.slC z (.il xs) (k .next)
theorem kj{k:KF}{Q:Flow->Shared->Prop}(hq:FCont G B3 L B9 vs ws k Q){frz:BD}(h:opt (jy acc) fun xs=>O.slC z (.il xs) (k .next))(q:RB G.X m O (acc++vs) (ys++ws) ρ led frz)(hl:ys.length=acc.length):
  FinA B3 L m B9 (G.X.nm z) Q ys ((led++frz)++G.X.ps):=by
 intro D h' tk F N off;refine byc fun Ea=>?_
 refine zc (zG h) fun xs e h=>?_
 have lt:=KK off;refine zv q.stk.split fun x1 x2 e12 s1 s2=>?_
 refine Ea ?_;obtain⟨rfl,rfl⟩:=Cw e12.symm (by rw[s1.length,hl])
 have W:RW G.X B3 L h' m O vs x2 ρ led frz:=⟨q.hr,fun p hp=>N p (.tail _ hp),q.nd,q.off,q.offp,q.kept,q.loc,s2⟩
 have W2:=W.freeze N lt;have R:RL G.X B3 L h' m O (.il xs::vs) (.ref D::x2):=(zk ρ led _ ⟨W2.hr,W2.all,W2.nd,W2.off,W2.offp,W2.kept,W2.loc,VRs.cons (by show Exists _;exact(y3 D x1 x1.length rfl (.head _) (y5 e s1))) W2.stk⟩)
 exact hq.next _ _ { B9 with heap:=h',toks:=tk } (zJ.mp h) zr.mk' F (R.store (k:=z))
theorem V2{z:Str}{gens:List Comprehension}(hk:env.scope.kind=.function)(hz:env.kindOf z=some .local)(hl:zp.line=pos.line)(hn:(scope.names.any fun p=>p.1==z&&(p.2==.local||p.2==.cell))=false):
  swapsWith (.ListComp elt gens scope pos) (some (.Name z zp)) line env=pure true:=by
 have hb:env.blockKind=.function:=by
  unfold Env.blockKind;rw[hk];rfl
 show(pure (env.blockKind==.function&&env.kindOf z==some .local&&zp.line==pos.line && !(scope.names.any fun p=>p.1==z&&(p.2==.local||p.2==.cell))):Sem Bool)=_
 rw[hb,hz,hl,hn,beq_self_eq_true pos.line];rfl
theorem mu{cp:Pos}{d:Nat}(ok:BltOk G y (.type "range"))(D:Act G outer B3 env' A d)(V:EnvF env L)(hz:env.kindOf (G.X.nm z)=some .local)(hy:env.kindOf (G.X.nm y)=some .globalImplicit)(B:BlkOk G env scope cl x)
  (ha:EL G A B3 L env cp args Wa) (hst:args.all zT=true) (hne:args.isEmpty=false) (he:∀(pn:Pl) (C:Addr) (v:PV),CompVar (G.pil pn) C x v->ES (G.pil pn) A B3 L (eval elt (compEnvC scope cl C env)) (Wv v))
  (hl:zp.line=pos.line) (hn:(scope.names.any fun p=>p.1==G.X.nm z&&(p.2==.local||p.2==.cell))=false) :
  SS G A B3 L (exec (.Assign [.Name (G.X.nm z) zp] (.ListComp elt [⟨.Name (G.X.nm x) px,.Call (.Name (G.X.nm y) np) args [] cp,[],0⟩] scope pos) spos) env) (nR Wa Wv z):=by
 intro O k m s vs ws h F R Q E hq;have hLe:env.locals=L:=V.loc;refine Assign_ListComp_U (h₀:=B3) (m:=m) F hLe (V2 V.kind hz hl hn) B.clos B.cell B.kind B.names B.var hz (by rw[V.kind];rfl) (J3 ok D V.toEnvG hy ha hst hne h F R fun us B4 C3 xs B7 B5 B8 C2 C1 hl=>?_) (fun Z=>rfl)
 have em:=B8.eq;subst em;refine zv (y8 B5 hl) fun b0 w0 Ej Eh g=>?_;subst Ej;subst Eh
 refine zc (jl g) fun b Ek B5=>?_;subst Ek
 refine zV (RL.int (vs:=vs) (ws:=ws) C1) fun t Dm=>?_;subst Dm
 refine byc fun Ea=>?_
 refine zh (RL.pop (vs:=vs) (ws:=ws) C1) fun ρ led frz q=>?_
 have hs:=yE (a:=0) (b:=b) (by decide) (by decide) (zi (zf g.1.1) rfl) (yd (zS g.1.2) rfl)
 refine Ea ?_;refine range1_rows C2 q.all fun h' tk F7 G7 E6 hr F' N' Z=>?_
 refine CompSrc.range (s₁:={ B7 with heap:=h',toks:=tk }) D.hd F' N' hr hs.1 hs.2 (by unfold jW sizeLine;lia) fun g=>?_
 have hq':FCont G B3 L { B7 with heap:=g,toks:=tk } vs ws k Q:=hq.after (B8.rest.trans zr.mk')
 have e2:=Q3 (A:=A) (s:={ B7 with heap:=g,toks:=tk }) (S:=fun Z=>True) (P:=fun i v=>∃t,v=.int (0+(i:Int)) t) (Fin:=FinA B3 L C3 { B7 with heap:=g,toks:=tk } (G.X.nm z) Q) (src:=[]) (vs:=vs) (ws:=ws) (k:=fun us B6=>opt (jy us) fun xs=>B6.slC z (.il xs) (k .next)) he (fun l hl=>trivial) (fun hk q hl'=>kj hq' hk q hl') B5.2 (acc:=[]) (ys:=[]) (i:=0) q.rb rfl (fun p hp=>nomatch hp) fun j u ej v hP=>by
  refine zV hP fun t Cd=>?_;subst Cd
  rw[ZS ej];simp only[Nat.zero_add];exact jz _ _ _ _
 rw[JD] at e2;exact e2
end
end
section
variable {A:Around}
def nr(a b:PV)(O:PS)(k:KE):Prop:=cond (yr a||yr b) False (opt (jI O a) fun us=>opt (jI O b) fun vs=>us.length+vs.length<=2 ^ 24/\k (.ls (us++vs)) O)
theorem lz:O2 G A B3 L (binaryOp .Add) nr:=by
 intro O k m s vs ws a b wa wb h F R Q E hq;refine byc fun Ea=>?_
 refine zd (jH h) fun ht h=>?_
 refine zc (zG h) fun us ea h=>?_
 refine yb (zG h) fun vs' eb hl h=>?_
 have ta:yr a=false:=by cases e:yr a;rfl;rw[e] at ht;cases ht
 have tb:yr b=false:=by cases e:yr b;rfl;rw[e,Bool.or_true] at ht;cases ht
 refine zh R fun ρ led frz q=>?_
 refine zv q.stk.cons_inv fun Z Z ee vb tl=>?_
 refine Ea ?_
 cases ee
 refine byc fun Ef=>?_
 refine zv tl.cons_inv fun Z Z ee va Z=>?_
 refine Ef ?_
 cases ee
 refine qJ (vb.seq eb) fun y items2 n2 Dm m2 i2=>?_;subst Dm
 refine qJ (va.seq ea) fun x items n Cd m1 i1=>?_;subst Cd
 rw[ta] at m1;rw[tb] at m2;have N:=q.news;have l1:s.heap.IsList x items.toArray:=jF N (Bo _ m1);have l2:s.heap.IsList y items2.toArray:=jF N (Bo _ m2);refine add_lists F q.all l1 l2 (fun h' F' N'=>?_) (by rw[i1.length,i2.length];exact hl)
 exact U8 (tk:=s.toks) (n:=0) q.pop.pop (i1.append i2) F' N' (fun p hp=>Ca (V9 q p hp)) h hq
abbrev xG(G:Gam)(B3:Heap)(L:Addr)(arg:PV->Option (List Int)):Prop:=∀{a:PV} {xs:List Int} {O:PS} {m:BB} {h:Heap} {vs:List PV} {wa:Value} {ws:List Value},arg a=some xs->Fr B3 L h m->RL G.X B3 L h m O (a::vs) (wa::ws)->∃x items,wa=.ref x/\h.IsList x items.toArray/\IntsAre items xs
def m7(arg:PV->Option (List Int))(y:Nat)(O:PS)(k:KE):Prop:=jS y O fun a B4=>opt (arg a) fun xs=>xs.length<=16384/\k (.int (xs.length:Int)) B4
theorem iJ{p:Pos}{d:Nat}(ok:BltOk G x (.builtin "len"))(D:Act G outer B3 env' A d)(V:EnvG env)(hx:env.kindOf (G.X.nm x)=some .globalImplicit)(harg:xG G B3 L arg)(hn:ES G A B3 L (eval (.Name (G.X.nm y) p) env) (jS y)):
  ES G A B3 L (eval (.Call (.Name (G.X.nm x) np) [.Name (G.X.nm y) p] [] pos) env) (m7 arg y):=by
 have:=JT (np:=np) (pos:=pos) (Wo:=fun us O k=>one us fun a=>opt (arg a) fun xs=>xs.length<=16384/\k (.int (xs.length:Int)) O) ok D V hx (Q4 hn Wy rfl) rfl rfl fun h F R hl Q E hq=>?_
 ·exact this
 ·refine zv (y8 h hl) fun a w Dm Ek g=>?_;subst Dm;subst Ek
  refine yb (zG g) fun xs ex h1 h2=>?_
  refine zv (harg ex F R) fun b items Cd hI hi=>?_;subst Cd
  exact kun_lenL hI (k:=(xs.length:Int)) (by rw[Bv,hi.length]) (yd (Vs h1) rfl) (hq.push F R.pop (jz _ _) h2)
end
section
variable {prog:Program}{w:World}{A:Around}{E:BA}{t:Addr}{m:BB}{news:BD}
theorem Jm{items:Array Value}(hl:s.heap.IsTuple t items)
  (h:∀B9:Shared,B9 = { s with heap:=s.heap.push { cls:=.type "tuple_iterator",data:=.fields #[.ref t,.int 0 0] } } ->
   (B9.heap.IsTupleIter s.heap.objs.size t 0/\B9.heap.IsTuple t items)->(∀b ∈ [s.heap.objs.size,t],b<B9.heap.objs.size)->t≠s.heap.objs.size->Q (.ref s.heap.objs.size) B9) :
  wpAny (model prog w) A (pyIter (.ref t)) Q E s:=by
 have hlt:t<s.heap.objs.size:=by refine zc hl fun Z e Z=>?_;exact Heap.lt_size e
 refine wpAny_pyIter_tuple hl (h _ rfl ⟨(yh _ (Heap.get?_push_size _ rfl) rfl rfl),hl.at fun o e=>Heap.get?_push_of_some _ e⟩ (fun b hb=>?_) (Ca hlt))
 show b<(s.heap.push _).objs.size;rw[Heap.size_push]
 rcases List.mem_cons.mp hb with rfl | hb
 ·exact Dj _
 ·rw[List.mem_singleton.mp hb];exact Nat.lt_succ_of_lt hlt
theorem Vl{o:Obj}(hk:∀b x,b ∉ [s.heap.objs.size]->(s.heap.push o).get? b=some x->h'.get? b=some x):∀b x,s.heap.get? b=some x->h'.get? b=some x:=
 fun b x e=>hk b x (fun hm=>by rw[List.mem_singleton.mp hm] at e;exact Do _ (Heap.lt_size e)) (Heap.get?_push_of_some _ e)
theorem mC{vs:List Value}{ns:List Int}(hh:A.handled=none)(F:Fr B3 L s.heap m)(N:News B3 L s.heap news)(hl:s.heap.IsTuple t vs.toArray)(hi:IntsAre vs ns)
  (h:∀h' tk t',Fr B3 L h' m->News B3 L h' news->Q (.int ns.sum t') { s with heap:=h',toks:=tk }):wpAny (model prog w) A (call (.builtin "sum") [.ref t]) Q E s:=by
 refine zV hi.allInts.items fun xs hx=>?_
 rw[hx] at hl;have e1:ns=xs.toList.map (·.1):=by
  rw[<- nums_intItems,<- hx];exact(show numsOf vs.toArray.toList=ns from hi.numsOf).symm
 have e2:preSum (numAt xs) xs.size=ns.sum:=by
  rw[preSum_eq,List.take_of_length_le (by simp),e1]
 refine call_sum_walkG (Jm hl fun B9 e st hfp hlI=>?_)
 subst e;refine(zk _ _ _ (zk _ _ _ (qB (numAt xs) rfl (Walks.tuple (A:=A.in1) hh _ t hlI (intItems xs)) st ⟨hfp,fun Z Z=>intItems_at,fun h' tk t' hk=>?_⟩)))
 have hk':=Vl hk;have e3:(intItems xs).size=xs.size:=by simp[intItems]
 rw[e3,e2];exact h h' tk t' (F.keeps hk') (N.grown hk')
noncomputable def Zl(x y:Int):Nat->Int | 0=>x | _+1=>y
theorem at2{x y:Int}{u v:Tok}:∀(i:Nat) {r:Value},(#[Value.int x u,.int y v]:Array Value)[i]?=some r->∃t,r=.int (Zl x y i) t
 | 0,r,h=>⟨u,(Di h).symm⟩
 | 1,r,h=>⟨v,(Di h).symm⟩
 | n+2,r,h=>by simp at h
theorem m8(bt:Nat->Nat->Bool):argBest bt 1=cond (bt 1 0) 1 0:=by
 show(if bt 1 0=true then 1 else 0)=_
 cases bt 1 0<;>rfl
theorem rO{big:Bool}{x y:Int}{u v:Tok}(hh:A.handled=none)(F:Fr B3 L s.heap m)(N:News B3 L s.heap news)(hl:s.heap.IsTuple t #[.int x u,.int y v])
  (h:∀h' tk t',Fr B3 L h' m->News B3 L h' news->Q (.int (cond big (if y>x then y else x) (if y<x then y else x)) t') { s with heap:=h',toks:=tk }):wpAny (model prog w) A (call (.builtin (cond big "max" "min")) [.ref t]) Q E s:=by
 have fin:∀{c:Bool} {r:Value} {h':Heap} {tk:Nat},(#[Value.int x u,.int y v]:Array Value)[cond c 1 0]?=some r->c=cond big (decide (y>x)) (decide (y<x))->Fr B3 L h' m->News B3 L h' news->Q r { s with heap:=h',toks:=tk }:=by
  intro c r h' tk hr hc F' N';have e:(cond big (if y>x then y else x) (if y<x then y else x))=cond c y x:=by
   subst hc
   induction big
   ·show(if y<x then y else x)=cond (decide (y<x)) y x
    by_cases g:y<x
    ·rw[if_pos g,decide_eq_true g];rfl
    ·rw[if_neg g,decide_eq_false g];rfl
   ·show(if y>x then y else x)=cond (decide (y>x)) y x
    by_cases g:y>x
    ·rw[if_pos g,decide_eq_true g];rfl
    ·rw[if_neg g,decide_eq_false g];rfl
  rw[e] at h
  induction c
  ·obtain rfl:=Di hr;exact h h' tk u F' N'
  ·obtain rfl:=Di hr;exact h h' tk v F' N'
 induction big with
 | true =>
  refine call_max_walk (Jm hl fun B9 e st hfp hlI=>?_)
  subst e;refine(zk _ _ _ (zk _ _ _ (qB _ rfl (Walks.tuple (A:=A.in1) hh _ t hlI #[.int x u,.int y v]) st ⟨hfp,Nat.succ_pos 1,CmpOf.ints_gt (Zl x y) (fun i Z h=>at2 i h),fun r h' tk hP hk=>?_⟩)))
  have hk':=Vl hk;have hP:(#[Value.int x u,.int y v]:Array Value)[argBest (fun i j=>decide (Zl x y i>Zl x y j)) 1]?=some r:=hP
  rw[m8] at hP;exact fin hP rfl (F.keeps hk') (N.grown hk')
 | false =>
  refine call_min_walk (Jm hl fun B9 e st hfp hlI=>?_)
  subst e;refine(zk _ _ _ (zk _ _ _ (qB _ rfl (Walks.tuple (A:=A.in1) hh _ t hlI #[.int x u,.int y v]) st ⟨hfp,Nat.succ_pos 1,CmpOf.ints_lt (Zl x y) (fun i Z h=>at2 i h),fun r h' tk hP hk=>?_⟩)))
  have hk':=Vl hk;have hP:(#[Value.int x u,.int y v]:Array Value)[argBest (fun i j=>decide (Zl x y i<Zl x y j)) 1]?=some r:=hP
  rw[m8] at hP;exact fin hP rfl (F.keeps hk') (N.grown hk')
end
section
variable {A:Around}{m:BB}{vs:List PV}{E:BA}
noncomputable def tupInts(a:PV):Option (List Int):=match a with
 | .tup us=>jy us
 | _=>none
theorem RL.tupInts{a:PV}{wa:Value}{xs:List Int}{h:Heap}(R:RL G.X B3 L h m O (a::vs) (wa::ws))(e:tupInts a=some xs):∃x items ρ led frz,RW G.X B3 L h m O (a::vs) (wa::ws) ρ led frz/\h.IsTuple x items.toArray/\IntsAre items xs/\wa=.ref x:=by
 refine jf R.top1 fun ρ led frz q hv=>?_
 cases a with
 | tup us =>
  refine qJ hv fun x items n Cd hm hi=>?_;subst Cd
  exact(zk x items ρ (qo led frz q (yh _ ((q.news _ (Bo _ hm)).1) rfl ⟨n,rfl⟩) (y5 e hi) rfl))
 | _=>cases e
def sumT(a:PV)(O:PS)(k:KE):Prop:=opt (tupInts a) fun xs=>k (.int xs.sum) O
theorem r7{a:PV}{k:KE}(hh:A.handled=none)(h:sumT a O k)(F:Fr B3 L s.heap m)(R:RL G.X B3 L s.heap m O (a::vs) (wa::ws))(hq:yy G B3 L m s vs ws k Q):wpAny (model G.prog G.w) A (call (.builtin "sum") [wa]) Q E s:=by
 refine zc (zG h) fun xs e h=>?_
 refine zh (R.tupInts e) fun x items ρ Ee=>q7 Ee fun led frz q hl hi Cd=>?_;subst Cd
 refine mC hh F q.all hl hi fun h' tk t' F' N'=>hq _ O m _ _ h SR.mk' F' ?_
 have q:=q.pop;exact RL.push (zk ρ led frz ⟨q.hr,N',q.nd,q.off,q.offp,q.kept,q.loc,q.stk⟩) (jz _ _)
def xw(xs:List Int)(k:Int->Int->Prop):Prop:=match xs with | [x,y]=>k x y | _=>False
theorem mO{xs:List Int}{k:Int->Int->Prop}(h:xw xs k):∃x y,xs = [x,y]/\k x y:=by
 match xs,h with
 | [x,y],h=>exact(yA x y rfl h)
def mxT(big:Bool)(a:PV)(O:PS)(k:KE):Prop:=opt (tupInts a) fun xs=>xw xs fun x y=>k (.int (cond big (if y>x then y else x) (if y<x then y else x))) O
theorem nJ{big:Bool}{a:PV}{k:KE}(hh:A.handled=none)(h:mxT big a O k)(F:Fr B3 L s.heap m)(R:RL G.X B3 L s.heap m O (a::vs) (wa::ws))(hq:yy G B3 L m s vs ws k Q):wpAny (model G.prog G.w) A (call (.builtin (cond big "max" "min")) [wa]) Q E s:=by
 refine zc (zG h) fun xs e h=>?_
 refine zh (R.tupInts e) fun x items ρ Ee=>q7 Ee fun led frz q hl hi Dm=>?_;subst Dm
 refine jj (mO h) fun x' y' Cd h=>?_;subst Cd
 cases hi with
 | cons _ u t =>
  cases t with
  | cons _ v t =>
   cases t
   refine rO hh F q.all hl fun h' tk t' F' N'=>hq _ O m _ _ h SR.mk' F' ?_
   have q:=q.pop;exact RL.push (zk ρ led frz ⟨q.hr,N',q.nd,q.off,q.offp,q.kept,q.loc,q.stk⟩) (jz _ _)
def tS(a:PV)(k:Addr->Prop):Prop:=match a with | .top b=>k b | _=>False
theorem bh{a:PV}{k:Addr->Prop}(h:tS a k):∃b,a=.top b/\k b:=by cases a<;>first | exact⟨_,rfl,h⟩ | exact False.elim h
def bj(tab:Addr->List PV)(Ws:List (PV->PS->KS->Prop))(v:PV)(O:PS)(k:KS):Prop:=tS v fun b=>cond (Nat.beq (tab b).length Ws.length) (cond (tab b).isEmpty False (UB Ws (tab b) O k)) False
theorem ik{kd:Nat}{Ws:List (PV->PS->KS->Prop)}{d:Nat}(D:Act G outer B3 env A d)(ht:Z0 G tab)(hst:S4.all zT=true)(H:ASs G A B3 L (S4.map fun t=>assign t env) Ws):AS G A B3 L (assign (.Tuple S4 kd pos) env) (bj tab Ws):=by
 intro v w O k m s vs ws h F R Q E hq;have hm:(assignEach S4 env).map (·.2)=S4.map fun t=>assign t env:=by rw[ja hst,List.map_map];rfl
 have hl1:(assignEach S4 env).length=Ws.length:=by rw[ja hst,Cm];have:=H.len;simpa using this
 have hs:(assignEach S4 env).findIdx? (·.1)=none:=by
  rw[ja hst,List.findIdx?_eq_none_iff];intro x hx;refine zc (List.mem_map.mp hx) fun t Z Dm=>?_;subst Dm
  rfl
 refine zc (bh h) fun b Cd h=>?_;subst Cd
 refine byc fun Ea=>?_
 refine zd (zW h) fun hb h=>?_
 refine zd (jH h) fun hne h=>?_
 have hb:=Bp hb;refine Ea ?_;obtain rfl:=R.top;refine byc fun Ef=>?_
 obtain⟨l,n,e1,e2⟩:=ht b (fun e=>by rw[e] at hne;cases hne)
 have hlen:=(e2 [] []).length;refine zh R.pop fun ρ led frz q=>?_
 refine Ef ?_;have fin:∀{h':Heap} {tk:Nat},Fr B3 L h' m->News B3 L h' ((led++frz)++G.X.ps)->wpAny (model G.prog G.w) A (assignInOrder ((assignEach S4 env).map (·.2)) l) Q E { s with heap:=h',toks:=tk }:=fun F' N'=>by
  rw[hm];exact Ww H (us:=tab b) (xs:=l) (vs:=vs) (ws:=ws) h F' (zk ρ led frz ⟨q.hr,N',q.nd,q.off,q.offp,q.kept,q.loc,(e2 ρ frz).append q.stk⟩) hlen fun B6 C6 B9 C5 C4 C9 D0=>hq B6 C6 B9 C5 ⟨C4.1,C4.2.1,C4.2.2⟩ C9 D0
 rcases e1 with e1 | e1
 ·exact kun_list F q.all (kun_topL F D.Kin e1) D.hd (by rw[hl1,Bv,hlen,hb]) hs fun h' F' N'=>fin (tk:=s.toks) F' N'
 ·exact assign_Tuple_tuple D.hd (kun_topT F D.Kin e1) (by rw[hl1,Bv,hlen,hb]) hs fun h' he=>fin (tk:=s.toks) (F.extBut he (Cg _)) (q.all.extBut he (Cg _))
end
section
open PySem.Spec
open PyProof.Rows.LCg PyProof.Rows.LCt
section
variable {A:Around}{m:BB}{vs:List PV}{E:BA}
def n7(G:Gam)(tab:Addr->List PV):Prop:=∀b,tab b ≠ []->∃(l:List Value) (n:Nat),G.K.lookup b=some (listOf l.toArray n) /\ ∀ρ frz,VRs ρ frz (tab b) l
def dv(tab:Addr->List PV)(Wi:PS->KE->Prop)(Wv:PV->PS->KE->Prop)(mt:Bool)(O:PS)(k:KE):Prop:=Wi O fun a B4=>tS a fun b=>cond (tab b).isEmpty False ((tab b).length<=100000/\qZ Wv (tab b) [] B4 fun us B6=>q6 mt us B6 k)
theorem dO{mt:Bool}{d:Nat}(D:Act G outer B3 env' A d)(ht:n7 G tab)(B:BlkOk G env scope cl x)
  (hi:ES G A B3 L (eval iter env) Wi) (he:∀(pn:Pl) (C:Addr) (v:PV),CompVar (G.pil pn) C x v->ES (G.pil pn) A B3 L (eval elt (compEnvC scope cl C env)) (Wv v)) (hn:Vb iter=true) :
  ES G A B3 L (eval (.ListComp elt [⟨.Name (G.X.nm x) px,iter,[],0⟩] scope pos) env) (dv tab Wi Wv mt):=by
 intro O k m s vs ws h F R Q E hq;refine dy (B3:=B3) (L:=L) B.clos B.cell B.kind B.names B.var (hi h F R fun a B4 C3 wa B7 B5 B8 C2 C1=>?_) (Qe hn)
 refine zc (bh B5) fun b Cd B5=>?_;subst Cd
 refine jn (jH B5) fun hne hsz B5=>?_
 obtain rfl:=C1.top;obtain⟨l,n,e1,e2⟩:=ht b (fun e=>by rw[e] at hne;cases hne)
 have hlen:=(e2 [] []).length;have hL:B3.IsList b l.toArray:=(yh _ (D.Kin _ _ e1) rfl ⟨n,rfl⟩);refine zh C1.pop fun ρ led frz q=>?_
 refine⟨C3,CompSrc.base (its:=l.toArray) D.hd C2 q.all hL (by rw[Bv,hlen];unfold sizeLine;exact yD hsz rfl) fun g=>?_⟩
 rw[Bv,hlen];refine Q3 (src:=[]) (vs:=vs) (ws:=ws) (k:=fun us B6=>q6 mt us B6 k) he (fun l hl=>.inl hL) (fun hk q hl'=>WE (fun v σ' m' w' s' a b c d=>hq v σ' m' w' s' a (B8.trans (SR.trans (C6:=C3) (b:={ B7 with heap:=g }) ⟨⟨rfl,rfl,rfl⟩,rfl⟩ b)) c d) hk q hl') B5 (acc:=[]) (ys:=[]) q.rb rfl (fun p hp=>nomatch hp) fun j u ej v hP=>?_
 refine zc ((e2 [] frz).get ej) fun w' ew hv=>?_
 simp only[Nat.zero_add,Dr] at hP;rw[ew] at hP
 cases hP
 exact hv
noncomputable def UA(Wc:PV->PS->KB->Prop)(Wv:PV->PS->KE->Prop):List PV->List PV->PS->(List PV->PS->Prop)->Prop
 | [],acc,O,k=>k acc O
 | u::r,acc,O,k=>Wc u O fun c B4=>cond c (Wv u B4 fun v B6=>UA Wc Wv r (acc ++ [v]) B6 k) (UA Wc Wv r acc B4 k)
theorem dA{ct:Expr}{Wc:PV->PS->KB->Prop}{S:BD->Prop}{P:Nat->Value->Prop}{Fin:List Value->List (Addr×Obj)->Prop}{k:List PV->PS->Prop}
  (hc:∀(pn:Pl) (C:Addr) (v:PV),CompVar (G.pil pn) C x v->TS (G.pil pn) A B3 L (isTrue ct (compEnvC scope cl C env) (eval ct (compEnvC scope cl C env))) (Wc v))
  (he:∀(pn:Pl) (C:Addr) (v:PV),CompVar (G.pil pn) C x v->ES (G.pil pn) A B3 L (eval elt (compEnvC scope cl C env)) (Wv v))
  (hS:∀l:BD,S l)
  (Cb:∀{O:PS} {acc:List PV} {ys:List Value} {ρ:List Addr} {led frz:BD},k acc O->RB G.X m O (acc++vs) (ys++ws) ρ led frz->ys.length=acc.length->Fin ys ((led++frz)++G.X.ps)) :
  ∀{items:List PV} {i:Nat} {acc:List PV} {ys:List Value} {O:PS} {ρ:List Addr} {led frz:BD},UA Wc Wv items acc O k->RB G.X m O (acc++vs) (ys++ws) ρ led frz->ys.length=acc.length ->
   (∀j u,items[j]?=some u->∀v,P (i+j) v->∀frz,VR [] frz u v)->CompRestT G.prog G.w A B3 L m env ct elt (G.X.nm x) scope cl s S P Fin items.length i ys ((led++frz)++G.X.ps):=by
 intro items
 induction items with
 | nil =>
  intro i acc ys O ρ led frz h q hl hI;exact CompRestT.zero (Cb h q hl)
 | cons u r ih =>
  intro i acc ys O ρ led frz h q hl hI;refine CompRestT.succ fun v I oI C oC D C6 h' tk E' hP hN hm F N off dist=>?_
  have offm:=off.mem;have hoff:∀p ∈ [(I,oI),(C,oC),(D,lst ys)],∀y∈led++frz,p.1≠y.1:=by
   intro p hp y hy e;have z:=offm y (Bn _ hy);simp only[Cs,Ci,or_false] at hp
   rcases hp with rfl | rfl | rfl
   ·exact z.1 e.symm
   ·exact z.2.1 e.symm
   ·exact z.2.2 e.symm
  have q':=q.into (its:=[(I,oI),(C,oC),(D,lst ys)]) (keep:=frz) hoff (fun p hp=>hp)
  have N':News B3 L h' ((led++frz)++([(I,oI),(C,oC),(D,lst ys)]++G.X.ps)):=fun p hp=>N p (by
   simp only[By,Cs,Ci,or_false] at hp ⊢
   rcases hp with (h | h) | (h | h | h) | h
   ·exact .inr (.inr (.inr (.inl (.inl h))))
   ·exact .inr (.inr (.inr (.inl (.inr h))))
   ·exact .inl h
   ·exact .inr (.inl h)
   ·exact .inr (.inr (.inl h))
   ·exact .inr (.inr (.inr (.inr h))))
  have hv:∀frz,VR [] frz u v:=hI 0 u rfl v (by simpa using hP)
  have hC:CompVar (G.pil ([(I,oI),(C,oC),(D,lst ys)]++G.X.ps,frz++G.X.ks)) C x u:=
   ⟨oC,C6,v,Bn _ (by simp),hN,hm,hv _⟩
  have nxt:∀j u',r[j]?=some u'->∀v',P (i+1+j) v'->∀frz,VR [] frz u' v':=fun j u' ej v'' hP'=>hI (j+1) u' (by simpa using ej) v'' (by rw[show i+(j+1)=i+1+j by lia];exact hP')
  -- what stands behind the turn
  have key:∀{B4:PS} {C3:BB} {B7:Shared} {acc':List PV} {ys':List Value},zr { s with heap:=h',toks:=tk } B7->C3=m->Fr B3 L B7.heap C3->RL (G.pil ([(I,oI),(C,oC),(D,lst ys)]++G.X.ps,frz++G.X.ks)).X B3 L B7.heap C3 B4 (acc'++vs) (ys'++ws)->ys'.length=acc'.length->UA Wc Wv r acc' B4 k ->
    ∃C5 L5 news',B7 = { ({ s with heap:=h',toks:=tk }:Shared) with heap:=C5,toks:=L5 } /\ Fr B3 L C5 m/\News B3 L C5 ((I,oI)::(C,oC)::(D,lst ys)::news')/\Off3 I C D news'/\S news'/\CompRestT G.prog G.w A B3 L m env ct elt (G.X.nm x) scope cl s S P Fin r.length (i+1) ys' news':=by
   intro B4 C3 B7 acc' ys' B8 em C2 C1 hl' B5;subst em;refine zh C1 fun ρ' led' frz' W'=>?_
   refine jn W'.rb.out fun b1 b2 b3=>?_
   refine(yM B7.heap B7.toks ((led'++frz')++G.X.ps) ?_ C2 (fun p hp=>W'.all p ?_) ⟨Off3.of fun p hp=>?_,hS _,ih B5 b1 hl' nxt⟩)
   ·obtain⟨a,b,c,d,e⟩:=B7
    refine jn B8 fun r1 r2 r3=>?_
    simp only at r1 r2 r3;subst r1 r2 r3;rfl
   ·show p∈(led'++frz')++([(I,oI),(C,oC),(D,lst ys)]++G.X.ps)
    simp only[By,Cs,Ci,or_false] at hp ⊢
    rcases hp with h | h | h | (h | h) | h
    ·exact .inr (.inl (.inl h))
    ·exact .inr (.inl (.inr (.inl h)))
    ·exact .inr (.inl (.inr (.inr h)))
    ·exact .inl (.inl h)
    ·exact .inl (.inr h)
    ·exact .inr (.inr h)
   ·rcases List.mem_append.mp hp with hp | hp
    ·exact⟨fun e=>b2 (I,oI) (by simp) p hp e.symm,fun e=>b2 (C,oC) (by simp) p hp e.symm,fun e=>b2 (D,lst ys) (by simp) p hp e.symm⟩
    ·exact offm p (Bo _ hp)
  refine hc _ C u hC (s:={ s with heap:=h',toks:=tk }) h F (zk ρ led frz (q'.rw N')) fun b B4 C3 B7 B5 B8 C2 C1=>?_
  cases b with
  | true =>
   rw[if_pos rfl];refine he _ C u hC B5 C2 C1 fun v' B6 C6 F0 B9 C5 C4 C9 D0=>?_
   have R3:RL (G.pil ([(I,oI),(C,oC),(D,lst ys)]++G.X.ps,frz++G.X.ks)).X B3 L B9.heap C6 B6 ((acc ++ [v'])++vs) ((ys ++ [F0])++ws):=D0.stack fun ρ frz q=>by
    refine zv q.cons_inv fun Z Z e a1 t1=>?_
    cases e
    refine zv t1.split fun x1 x2 e12 s1 s2=>?_
    obtain⟨rfl,rfl⟩:=Cw e12.symm (by rw[s1.length,hl])
    exact(s1.append (VRs.cons a1 VRs.nil)).append s2
   exact key (B8.rest.trans C4.rest) (C4.eq.trans B8.eq) C9 R3 (by simp[hl]) C5
  | false =>
   rw[if_neg (by decide)]
   exact key B8.rest B8.eq C2 C1 hl B5
def Zc(Wa:PS->(List PV->PS->Prop)->Prop)(Wc:PV->PS->KB->Prop)(Wv:PV->PS->KE->Prop)(mt:Bool)(O:PS)(k:KE):Prop:=Wa O fun us B4=>one us fun b=>y4 b fun b=>(0<=b/\b<=100000)/\UA Wc Wv (ji 0 (jW 0 b)) [] B4 fun us B6=>q6 mt us B6 k
theorem dQ{ct:Expr}{cp:Pos}{Wc:PV->PS->KB->Prop}{mt:Bool}{d:Nat}(ok:BltOk G y (.type "range"))(D:Act G outer B3 env' A d)(V:EnvG env)(hy:env.kindOf (G.X.nm y)=some .globalImplicit)(B:BlkOk G env scope cl x)
  (ha:EL G A B3 L env cp args Wa) (hst:args.all zT=true) (hne:args.isEmpty=false)
  (hc:∀(pn:Pl) (C:Addr) (v:PV),CompVar (G.pil pn) C x v->TS (G.pil pn) A B3 L (isTrue ct (compEnvC scope cl C env) (eval ct (compEnvC scope cl C env))) (Wc v))
  (he:∀(pn:Pl) (C:Addr) (v:PV),CompVar (G.pil pn) C x v->ES (G.pil pn) A B3 L (eval elt (compEnvC scope cl C env)) (Wv v)) :
  ES G A B3 L (eval (.ListComp elt [⟨.Name (G.X.nm x) px,.Call (.Name (G.X.nm y) np) args [] cp,[ct],0⟩] scope pos) env) (Zc Wa Wc Wv mt):=by
 intro O k m s vs ws h F R Q E hq;refine ListComp_T (h₀:=B3) (m:=m) F B.clos B.cell B.kind B.names B.var (J3 ok D V hy ha hst hne h F R fun us B4 C3 xs B7 B5 B8 C2 C1 hl=>?_) (fun Z=>rfl)
 have em:=B8.eq;subst em;refine zv (y8 B5 hl) fun b0 w0 Ej Eh g=>?_;subst Ej;subst Eh
 refine zc (jl g) fun b Ek B5=>?_;subst Ek
 refine zV (RL.int (vs:=vs) (ws:=ws) C1) fun t Dm=>?_;subst Dm
 refine byc fun Ea=>?_
 refine zh (RL.pop (vs:=vs) (ws:=ws) C1) fun ρ led frz q=>?_
 have hs:=yE (a:=0) (b:=b) (by decide) (by decide) (zi (zf g.1.1) rfl) (yd (zS g.1.2) rfl)
 refine Ea ?_;refine range1_rows C2 q.all fun h' tk F7 G7 E6 hr F' N' Z=>?_
 refine CompSrcT.range (s₁:={ B7 with heap:=h',toks:=tk }) D.hd F' N' hr hs.1 hs.2 (by unfold jW sizeLine;lia) fun g=>?_
 have hq':yy G B3 L C3 { B7 with heap:=g,toks:=tk } vs ws k Q:=fun v σ' m' w' s' a b c d=>hq v σ' m' w' s' a (B8.trans (SR.trans (C6:=C3) (b:={ B7 with heap:=g,toks:=tk }) ⟨⟨rfl,rfl,rfl⟩,rfl⟩ b)) c d
 have e2:=dA (A:=A) (s:={ B7 with heap:=g,toks:=tk }) (S:=fun Z=>True) (P:=fun i v=>∃t,v=.int (0+(i:Int)) t) (Fin:=FinE B3 L C3 { B7 with heap:=g,toks:=tk } Q) (vs:=vs) (ws:=ws) (k:=fun us B6=>q6 mt us B6 k) hc he (fun l=>trivial) (fun hk q hl'=>WE hq' hk q hl') B5.2 (acc:=[]) (ys:=[]) q.rb rfl fun j u ej v hP frz=>by
  refine zV hP fun t Cd=>?_;subst Cd
  rw[ZS ej,Nat.zero_add];exact jz _ _ _ _
 rw[JD] at e2;exact e2
end
end
section
open PySem.Spec
open PyProof.Rows.LCg
noncomputable def yq(prog:Program)(w:World)(A:Around)(B3:Heap)(L:Addr)(m:BB)(env:Env)(elt:Expr)(x F1:Str)(scope:Scope)(cl:List (Str×Addr))(s:Shared)(keep:BD)(P2:Nat->Value->Value->Prop)
  (Fin:List Value->List (Addr×Obj)->Prop):Nat->Nat->List Value->List (Addr×Obj)->Prop
 | 0,_,ys,news=>Fin ys news
 | k+1,i,ys,news=>∀E6 E8 its C oC C6 h tk (E':BA),P2 i E6 E8->(C,oC)∈its->NsObj oC C6->C6 x=some E6->C6 F1=some E8->Fr B3 L h m->News B3 L h (its++news)->(∀p∈its,∀q∈news,p.1≠q.1) ->
   wpAny (model prog w) A (eval elt (compEnvC scope cl C env)) (fun y s'=>∃h' tk' news',s' = { ({ s with heap:=h,toks:=tk }:Shared) with heap:=h',toks:=tk' } /\ Fr B3 L h' m/\News B3 L h' (its++news')/\(∀p∈its,∀q∈news',p.1≠q.1)/\(∀p∈keep,p∈news') /\
    yq prog w A B3 L m env elt x F1 scope cl s keep P2 Fin k (i+1) (ys ++ [y]) news') E' { s with heap:=h,toks:=tk }
section
variable {prog:Program}{w:World}{A:Around}{E:BA}{m:BB}
theorem uM{wr:List Addr}(F:Fr B3 L h m)(hk:∀b o,b∉wr->h.get? b=some o->h'.get? b=some o)(hL:L∉wr)(h0:∀b∈wr,B3.get? b=none):Fr B3 L h' m:=
 ⟨F.ns.at' fun o e=>hk L o hL e,fun b o e=>hk b o (fun hm=>by rw[h0 b hm] at e;cases e) (F.keep b o e),F.above⟩
theorem ll{wr:List Addr}{news:BD}(N:News B3 L h news)(hk:∀b o,b∉wr->h.get? b=some o->h'.get? b=some o)(off:∀p∈news,p.1∉wr):News B3 L h' news:=
 fun p hp=>⟨hk _ _ (off p hp) (N p hp).1,(N p hp).2⟩
theorem all_cons{P:α->Prop}{a:α}{l:List α}(h:P a)(t:∀x∈l,P x):∀x∈a::l,P x:=List.forall_mem_cons.mpr ⟨h,t⟩
theorem V8{P:α->Prop}{a l:List α}(h:∀x∈a,P x)(t:∀x∈l,P x):∀x∈a++l,P x:=fun x m=>(List.mem_append.mp m).elim (h x) (t x)
theorem Z1{P:α->Prop}:∀x∈([]:List α),P x:=fun Z h=>nomatch h
theorem Jy{a:Addr}{o:Obj}{l:BD}(h1:h.get? a=some o)(h2:a≠L)(h3:B3.get? a=none)(N:News B3 L h l):News B3 L h ((a,o)::l):=
 all_cons (P:=fun p:Addr×Obj=>h.get? p.1=some p.2/\p.1≠L/\B3.get? p.1=none) ⟨h1,h2,h3⟩ N
theorem pq{wr:List Addr}(F:Fr B3 L h m)(hk:∀b o,b∉wr->b≠C->h.get? b=some o->h'.get? b=some o)(hL:L∉wr)(hC:C≠L)(h0:∀b∈wr,B3.get? b=none)(F8:B3.get? C=none):Fr B3 L h' m:=
 ⟨F.ns.at' fun o e=>hk L o hL (Ne.symm hC) e,fun b o e=>hk b o (fun hm=>by rw[h0 b hm] at e;cases e) (fun hm=>by rw[hm,F8] at e;cases e) (F.keep b o e),F.above⟩
theorem aQ{D:Addr}:∀{l:BD},(∀p∈l,p.1≠D)->Off1 D l
 | [],_=>trivial
 | _::_,h=>⟨h _ (.head _),aQ fun p hp=>h p (.tail _ hp)⟩
theorem gi{wr:List Addr}{D1:Heap}{E5:BB}{news':BD}(Bw:∃ib:BD,ib.map (·.1)=wr /\ ∀p∈ib,D1.get? p.1=some p.2)
  (hk:∀b o,b∉wr->b≠C->h'.get? b=some o->D1.get? b=some o) (N:News B3 L h' ((D,lst ys)::news')) (off:∀p∈news',p.1∉wr/\p.1≠C/\p.1≠D) (hn:D1.Ns C E5)
  (hLw:L∉wr) (hw0:∀b∈wr,B3.get? b=none) (hCL:C≠L) (F8:B3.get? C=none) (hDC:D≠C) (hDw:D∉wr) :
  ∃ib oC,ib.map (·.1)=wr/\NsObj oC E5/\News B3 L D1 ((ib ++ [(C,oC),(D,lst ys)])++news') /\ ∀p∈ib ++ [(C,oC),(D,lst ys)],∀q∈news',p.1≠q.1:=by
 refine zc Bw fun ib hib hval=>?_
 refine zc (ns_obj hn) fun oC heC hoC=>?_
 have ibw:∀p∈ib,p.1∈wr:=fun p hp=>hib▸Cj hp
 exact(yA ib oC hib ⟨hoC,V8
   (V8 (fun p hp=>⟨hval p hp,fun e=>hLw (e▸ibw p hp),hw0 _ (ibw p hp)⟩) (Jy heC hCL F8 (Jy (hk _ _ hDw hDC (N _ (.head _)).1) (N _ (.head _)).2.1 (N _ (.head _)).2.2 Z1)))
   fun p hp=>⟨hk _ _ (off p hp).1 (off p hp).2.1 (N p (.tail _ hp)).1,(N p (.tail _ hp)).2⟩,
  V8 (P:=fun p:Addr×Obj=>∀q∈news',p.1≠q.1) (fun p hp q hq e=>(off q hq).1 (e▸ibw p hp)) (all_cons (fun q hq e=>(off q hq).2.1 e.symm) (all_cons (fun q hq e=>(off q hq).2.2 e.symm) Z1))⟩)
theorem gj{wr:List Addr}{oC oD:Obj}{ib news:BD}(hib:ib.map (·.1)=wr)(off:∀p∈ib ++ [(C,oC),(D,oD)],∀q∈news,p.1≠q.1):∀p∈news,p.1∉wr/\p.1≠C/\p.1≠D:=
 fun p hp=>⟨fun hm=>zc (List.mem_map.mp (hib▸hm)) fun q hq e=>off q (Bn _ hq) p hp e,fun e=>off (C,oC) (Bo _ (.head _)) p hp e.symm,fun e=>off (D,oD) (Bo _ (.tail _ (.head _))) p hp e.symm⟩
theorem b9{wr:List Addr}{X:BD}{D1 I5:Heap}{ib news' L6 keep:BD}(hib:ib.map (·.1)=wr)(hfk:∀b∈fp,b∈wr ∨ ∃o,(b,o)∈keep)(I7:News B3 L D1 ((ib++X)++news'))(H8:News B3 L I5 ((ib++X)++L6))
  (h3:∀p∈keep,p∈news') (h7:∀p∈keep,p∈L6):∀b∈fp,∀o,D1.get? b=some o->I5.get? b=some o:=fun b hb o e=>by
 refine(hfk b hb).elim (fun hw=>?_) fun hw=>?_
 ·rw[<- hib] at hw
  refine zc (List.mem_map.mp hw) fun p hp Cd=>?_;subst Cd
  have e2:=Bn (bs:=news') (Bn (bs:=X) hp);exact(Di ((I7 p e2).1.symm.trans e))▸(H8 p (Bn _ (Bn _ hp))).1
 ·refine zV hw fun o' hk'=>?_
  exact(Di ((I7 (b,o') (Bo _ (h3 _ hk'))).1.symm.trans e))▸(H8 (b,o') (Bo _ (h7 _ hk'))).1
def IvE(n:Nat)(St:Nat->Heap->Prop)(B3:Heap)(L:Addr)(m:BB)(C D:Addr)(wr:List Addr)(keep:BD)(Rr:Nat->List Value->List (Addr×Obj)->Prop)(ys:List Value)(m':BB)(h:Heap)(news:BD):Prop:=
 ys.length<=n/\St ys.length h/\Fr B3 L h m/\h.Ns C m'/\(News B3 L h ((D,lst ys)::news)/\(∀p∈news,p.1∉wr/\p.1≠C/\p.1≠D)/\(∀p∈keep,p∈news)/\Rr ys.length ys news)
theorem ro{x F1:Str}{I8:Pos}{kd:Nat}{wr:List Addr}{n:Nat}{Pt:Nat->Array Value->Prop}{St:Nat->Heap->Prop}{Mid:Nat->Addr->Heap->Prop}{keep news:BD}
  {Fin:List Value->List (Addr×Obj)->Prop} {RR:Result->Shared->Prop} {C3:BB} {B5:Heap} {R7:Nat}
  (W:WalksU prog w A I fp wr n Pt St Mid) (hsz:n<=sizeLine) (hP:∀i vals,Pt i vals->∃E6 E8,vals = #[E6,E8]/\P2 i E6 E8)
  (Bw:∀i h,St i h->∃ib:BD,ib.map (·.1)=wr /\ ∀p∈ib,h.get? p.1=some p.2)
  (hfk:∀b∈fp,b∈wr ∨ ∃o,(b,o)∈keep) (hfC:∀b∈fp,b≠C) (hfD:∀b∈fp,b≠D) (hLw:L∉wr) (hw0:∀b∈wr,B3.get? b=none) (hkn:∀p∈keep,p∈news)
  (T3:scope.kind=.function) (hx:scope.names.lookup x=some .local) (O3:scope.names.lookup F1=some .local) (hxx:x≠F1) (hh:A.handled=none)
  (H7:B3.get? D=none) (F8:B3.get? C=none) (hDL:D≠L) (hCL:C≠L) (hDC:D≠C)
  (hst:St 0 B5) (F:Fr B3 L B5 m) (hn:B5.Ns C C3) (N:News B3 L B5 ((D,lst [])::news)) (off:∀p∈news,p.1∉wr/\p.1≠C/\p.1≠D)
  (R:yq prog w A B3 L m env elt x F1 scope cl B9 keep P2 Fin n 0 [] news)
  (hRR:∀h tk m' ys news',Fr B3 L h m->News B3 L h ((D,lst ys)::news')->(∀p∈news',p.1∉wr/\p.1≠C/\p.1≠D)->h.Ns C m'->Fin ys news'->RR (.ok .next) { B9 with heap:=h,toks:=tk }) :
  codeAny (model prog w) A (.compLoop (.ListComp elt [⟨.Tuple [.Name x px,.Name F1 I8] kd tp,iter,[],0⟩] scope pos) 0 (.ref I) (.ref D) (compEnvC scope cl C env)) RR { B9 with heap:=B5,toks:=R7 }:=by
 have hCw:C∉wr:=fun hm=>hfC C (W.sub _ hm) rfl
 have hDw:D∉wr:=fun hm=>hfD D (W.sub _ hm) rfl
 refine LCp.codeAny_compLoop_pair
  (fun k s'=>∃ys m' h' tk news',s' = { B9 with heap:=h',toks:=tk } /\ k=n+1-ys.length/\IvE n St B3 L m C D wr keep (fun i ys nw=>yq prog w A B3 L m env elt x F1 scope cl B9 keep P2 Fin (n-i) i ys nw) ys m' h' news') (fun k s' z=>?_) (n+1)
  (zk [] C3 _ (jx _ news rfl rfl ⟨Nat.zero_le _,hst,F,hn,N,off,hkn,R⟩))
 refine zh z fun ys m' h' z1=>zv z1 fun tk news' eZ hk z2=>?_;subst eZ;subst hk
 refine yC z2 fun hi hst' F' Ee=>zd Ee fun hn' z3=>yC z3 fun N' off' hS' R'=>?_
 refine(Nat.lt_or_eq_of_le hi).elim (fun hlt=>?_) fun hlt=>?_
 ·replace R':yq prog w A B3 L m env elt x F1 scope cl B9 keep P2 Fin (n-ys.length) _ ys news':=R'
  rw[show n-ys.length=(n-(ys.length+1))+1 from(Nat.succ_pred_eq_of_pos (Nat.sub_pos_of_lt hlt)).symm] at R'
  refine W.item _ _ _ _ hlt hst' fun T vals C5 L5 hPv hT hMid I3=>?_
  refine jj (hP _ vals hPv) fun E6 E8 Ek hP2=>?_;subst Ek
  dsimp only;refine W.go _ _ _ _ T _ _ _ hMid fun F5 hst₄ O4=>?_
  dsimp only;refine assign_Tuple_tuple hh (show IsTup F5 T #[E6,E8] from zc hT fun o e r=>(zA o (O4 T o (W.apart _ T _ hMid) e) r)) rfl rfl fun I0 he=>?_
  have he':∀b o,b∉wr->h'.get? b=some o->I0.get? b=some o:=fun b o hb e=>he b o (Ca (Heap.lt_size (O4 b o hb (I3 b o hb e)))) (O4 b o hb (I3 b o hb e))
  refine assignInOrder_cons (wpAny_assign_Name (wpAny_storeName_local (lookup_relabel_local hx) (hn'.at' fun o e=>he' _ o hCw e) (fun P9 hn₆ hs₆=>?_) (by simp[compEnvC,relabel,T3])))
  refine assignInOrder_cons (wpAny_assign_Name (wpAny_storeName_local (lookup_relabel_local O3) hn₆ (fun D1 hn₃ hs₃=>?_) (by simp[compEnvC,relabel,T3])))
  refine assignInOrder_nil ?_;dsimp only;have old3:∀b o,b≠C->I0.get? b=some o->D1.get? b=some o:=fun b o hb e=>hs₃.extBut b o hb (hs₆.extBut b o hb e)
  have R8:St (ys.length+1) D1:=W.frame _ _ _ hst₄ fun b hb o e=>old3 b o (hfC b hb) (he b o (Ca (Heap.lt_size e)) e)
  have old:∀b o,b∉wr->b≠C->h'.get? b=some o->D1.get? b=some o:=fun b o hb hc e=>old3 b o hc (he' b o hb e)
  refine jj (gi (Bw _ _ R8) old N' off' hn₃ hLw hw0 hCL F8 hDC hDw) fun ib oC hib zZ=>jn zZ fun hoC I7 off3=>?_
  refine wpAny_mono (R' E6 E8 (ib ++ [(C,oC),(D,lst ys)]) C oC _ D1 _ _ hP2 (Bo _ (.head _)) hoC (by simp[hxx]) (by simp) (pq F' old hLw hCL hw0 F8) I7 off3) (fun y F6 h₄'=>?_) fun Z Z e=>e
  refine jf h₄' fun I5 tk₇ L6 Dm zZ25=>yC zZ25 fun N9 H8 off₇ Ee=>zd Ee fun R9 O0=>?_;subst Dm
  dsimp only;have zC:=(H8 (C,oC) (Bn _ (Bo _ (.head _)))).1;have offn:=gj hib off₇;refine append_at (hsz:=by show ys.toArray.size<=sizeLine;rw[Bv];exact Dc hi hsz) (H8 (D,lst ys) (Bn _ (Bo _ (.tail _ (.head _))))).1 fun h₈ L7 hD₈=>?_
  have el:(ys ++ [y]).length=ys.length+1:=by rw[Bz,List.length_singleton]
  exact(zA (n+1-(ys ++ [y]).length) (by rw[el];exact Nat.sub_lt_sub_left (Nat.lt_succ_of_lt hlt) (Dj _)) (zk (ys ++ [y]) _ h₈ (jx tk₇ L6 rfl rfl
   ⟨el.symm▸hlt,el.symm▸W.frame _ _ _ (W.frame _ _ _ R8 (b9 hib hfk I7 H8 hS' R9)) fun b hb o e=>L7.extBut b o (hfD b hb) e,N9.change L7 hDL H7,(hoC.ns zC).sameBut L7 (Ne.symm hDC),Jy (hD₈.trans (congrArg some (lst_snoc ys y))) hDL H7 fun p hp=>⟨L7.extBut _ _ (offn p hp).2.2 (H8 p (Bo _ hp)).1,(H8 p (Bo _ hp)).2⟩,offn,R9,el.symm▸O0⟩)))
 ·subst hlt
  replace R':yq prog w A B3 L m env elt x F1 scope cl B9 keep P2 Fin (ys.length-ys.length) _ ys news':=R';rw[Nat.sub_self] at R';refine W.done _ _ _ hst' fun C5 L5 I3=>?_
  exact hRR C5 L5 _ ys news' (uM F' I3 hLw hw0) (ll N' I3 (all_cons (P:=fun p=>p.1∉wr) hDw fun p hp=>(off' p hp).1)) off' (hn'.at' fun o e=>I3 _ o hCw e) R'
theorem iq{x F1:Str}{I8:Pos}{kd:Nat}{wr:List Addr}{n:Nat}{Pt:Nat->Array Value->Prop}{St:Nat->Heap->Prop}{Mid:Nat->Addr->Heap->Prop}{keep news:BD}
  {Fin:List Value->List (Addr×Obj)->Prop} {RR:Value->Addr->Result->Shared->Prop}
  (W:WalksU prog w A I fp wr n Pt St Mid) (hsz:n<=sizeLine) (hP:∀i vals,Pt i vals->∃E6 E8,vals = #[E6,E8]/\P2 i E6 E8)
  (Bw:∀i h,St i h->∃ib:BD,ib.map (·.1)=wr /\ ∀p∈ib,h.get? p.1=some p.2)
  (hfk:∀b∈fp,b∈wr ∨ ∃o,(b,o)∈keep) (hfp:∀b∈fp,b<B9.heap.objs.size) (hLw:L∉wr) (hw0:∀b∈wr,B3.get? b=none) (hkn:∀p∈keep,p∈news)
  (S7:∀y∈scope.names,y.2≠.cell) (T3:scope.kind=.function) (hx:scope.names.lookup x=some .local) (O3:scope.names.lookup F1=some .local) (hxx:x≠F1) (hh:A.handled=none) (hst:St 0 B9.heap)
  (F:Fr B3 L B9.heap m) (N:News B3 L B9.heap news) (off:∀p∈news,p.1∉wr)
  (R:yq prog w A B3 L m env elt x F1 scope cl B9 keep P2 Fin n 0 [] news)
  (hRR:∀D C h tk m' ys news',Fr B3 L h m->News B3 L h ((D,lst ys)::news')->Off1 D news'->h.Ns C m'->B3.get? C=none->B3.get? D=none->C≠L->D≠L->C≠D->(∀p∈news',p.1≠C)->Fin ys news'->RR (.ref D) C (.ok .next) { B9 with heap:=h,toks:=tk }) :
  wpAny (model prog w) A (newList []) (fun acc D8=>wpAny (model prog w) A (newFunctionEnv scope env.globals cl [] env.qual none .none (some env)) (fun Ja F6 =>
   codeAny (model prog w) A (.compStart (.ListComp elt [⟨.Tuple [.Name x px,.Name F1 I8] kd tp,iter,[],0⟩] scope pos) 0 (.ref I) acc { Ja with scope:=relabel scope env }) (RR acc Ja.locals) F6) E D8) E B9:=by
 refine wpAny_newObj_type (wpAny_newFunctionEnv S7 (by intro y hy;simp at hy) (fun B5 O5 L8=>?_) T3)
 dsimp only at O5 L8 ⊢;have hC:(B9.heap.push { cls:=.type "list",dict:=none,data:=.seq ([]:List Value).toArray }).objs.size=B9.heap.objs.size+1:=Heap.size_push ..;rw[hC] at O5 L8 ⊢;have below:∀b,b<B9.heap.objs.size->b≠B9.heap.objs.size+1/\b≠B9.heap.objs.size:=fun b hb=>⟨Ca (Nat.lt_succ_of_lt hb),Ca hb⟩
 have old:∀b o,B9.heap.get? b=some o->B5.get? b=some o:=fun b o e=>L8.extBut b o (below b (Heap.lt_size e)).1 (Heap.get?_push_of_some _ (Heap.get?_push_of_some _ e))
 have hacc:B5.get? B9.heap.objs.size=some (lst []):=L8.extBut _ _ (Ca (Dj _)) (Heap.get?_push_of_some _ (Heap.get?_push_size _ rfl));have S0:St 0 B5:=W.frame _ _ _ hst fun b Z o e=>old b o e
 have S3:∀a,B9.heap.objs.size<=a->B3.get? a=none:=fun a ha=>by
  cases e:B3.get? a with
  | none=>rfl
  | some o'=>exact absurd (Heap.lt_size (F.keep a o' e)) (Nat.not_lt.mpr ha)
 have H7:=S3 _ (Cg _);have F8:=S3 _ (Nat.le_succ _);have hLb:=below L F.ns.lt;have loop:=ro (RR:=RR (.ref B9.heap.objs.size) (B9.heap.objs.size+1)) (iter:=iter) (px:=px) (I8:=I8) (tp:=tp) (kd:=kd) (pos:=pos) (B9:=B9) (R7:=B9.toks+([]:List (Str×Value)).length) W hsz hP Bw hfk (fun b hb=>(below b (hfp b hb)).1) (fun b hb=>(below b (hfp b hb)).2) hLw hw0 hkn T3 hx O3 hxx hh H7 F8 (Ne.symm hLb.2) (Ne.symm hLb.1) (Ca (Dj _)) S0 (F.keeps old) O5
  (Jy hacc (Ne.symm hLb.2) H7 fun p hp=>⟨old _ _ (N p hp).1,(N p hp).2⟩)
  (fun p hp=>⟨off p hp,below _ (Heap.lt_size (N p hp).1)⟩) R
  (fun h tk m' ys news' F N o n r=>hRR _ _ h tk m' ys news' F N (aQ fun p hp=>(o p hp).2.2) n F8 H7 (Ne.symm hLb.1) (Ne.symm hLb.2) (Ne.symm (Ca (Dj _))) (fun p hp=>(o p hp).2.1) r)
 exact codeAny_compStart_list loop (W.self 0 _ _ _ S0 loop)
end
end
section
open PySem.Spec
open PyProof.Rows.LCg
noncomputable def Z3(Wv:PV->PV->PS->KE->Prop):Nat->List PV->List PV->PS->(List PV->PS->Prop)->Prop
 | _,[],acc,O,k=>k acc O
 | i,u::r,acc,O,k=>Wv (.int (i:Int)) u O fun v B4=>Z3 Wv (i+1) r (acc ++ [v]) B4 k
section
variable {A:Around}{m:BB}{vs:List PV}{E:BA}
theorem dz{Wv:PV->PV->PS->KE->Prop}{Fin:List Value->List (Addr×Obj)->Prop}{k:List PV->PS->Prop}{src:BD}
  (he:∀(pn:Pl) (C:Addr) (u v:PV),CompVar (G.pil pn) C x u->CompVar (G.pil pn) C y v->ES (G.pil pn) A B3 L (eval elt (compEnvC scope cl C env)) (Wv u v))
  (Cb:∀{O:PS} {acc:List PV} {ys:List Value} {ρ:List Addr} {led frz:BD},k acc O->RB G.X m O (acc++vs) (ys++ws) ρ led frz->ys.length=acc.length->Fin ys ((led++frz)++G.X.ps)) :
  ∀{items:List PV} {i:Nat} {acc:List PV} {ys:List Value} {O:PS} {ρ:List Addr} {led frz:BD},Z3 Wv i items acc O k->RB G.X m O (acc++vs) (ys++ws) ρ led frz->ys.length=acc.length->(∀p∈src,p∈frz) ->
   (∀j u,items[j]?=some u->∀E6 E8,P2 (i+j) E6 E8->(∃t,E6=.int ((i+j:Nat):Int) t)/\VR [] frz u E8)->yq G.prog G.w A B3 L m env elt (G.X.nm x) (G.X.nm y) scope cl s src P2 Fin items.length i ys ((led++frz)++G.X.ps):=by
 intro items
 induction items with
 | nil =>
  intro i acc ys O ρ led frz h q hl hs hI;exact Cb h q hl
 | cons u r ih =>
  intro i acc ys O ρ led frz h q hl hs hI;intro E6 E8 its C oC C6 h' tk E' hP hm hN hx hy F N off;have hoff:∀p∈its,∀z∈led++frz,p.1≠z.1:=fun p hp z hz=>off p hp z (Bn _ hz)
  have q':=q.into (its:=its) (keep:=frz) hoff (fun p hp=>hp)
  have N':News B3 L h' ((led++frz)++(its++G.X.ps)):=fun p hp=>N p (by
   simp only[By] at hp ⊢
   rcases hp with (h | h) | h | h
   ·exact .inr (.inl (.inl h))
   ·exact .inr (.inl (.inr h))
   ·exact .inl h
   ·exact .inr (.inr h))
  obtain⟨⟨t,rfl⟩,hv⟩:=hI 0 u rfl E6 E8 (by simpa using hP)
  have hCx:CompVar (G.pil (its++G.X.ps,frz++G.X.ks)) C x (.int (i:Int)):=⟨oC,C6,_,Bn _ hm,hN,hx,jz _ _ _ _⟩;have hCy:CompVar (G.pil (its++G.X.ps,frz++G.X.ks)) C y u:=⟨oC,C6,_,Bn _ hm,hN,hy,hv.mono (fun Z Z e=>e) fun p hp=>Bn _ hp⟩
  refine he _ C _ u hCx hCy (s:={ s with heap:=h',toks:=tk }) h F (zk ρ led frz (q'.rw N')) fun v' B4 C3 E7 B7 B5 B8 C2 C1=>?_
  refine zh C1 fun ρ' led' frz' W'=>?_
  refine jn W'.rb.out fun b1 b2 b3=>?_
  have em:=B8.eq;subst em;refine(yM B7.heap B7.toks ((led'++frz')++G.X.ps) ?_ C2 (fun p hp=>W'.all p ?_) ⟨fun p hp z hz=>?_,fun p hp=>Bn _ (Bo _ (b3 p (hs p hp))),?_⟩)
  ·obtain⟨a,b,c,d,e⟩:=B7
   refine jn B8.rest fun r1 r2 r3=>?_
   simp only at r1 r2 r3;subst r1 r2 r3;rfl
  ·show p∈(led'++frz')++(its++G.X.ps)
   simp only[By] at hp ⊢
   rcases hp with h | (h | h) | h
   ·exact .inr (.inl h)
   ·exact .inl (.inl h)
   ·exact .inl (.inr h)
   ·exact .inr (.inr h)
  ·rcases List.mem_append.mp hz with hz | hz
   ·exact b2 p hp z hz
   ·exact off p hp z (Bo _ hz)
  ·have b1':RB G.X C3 B4 ((acc ++ [v'])++vs) ((ys ++ [E7])++ws) ρ' led' frz':=by
    refine⟨b1.hr,b1.nd,b1.off,b1.offp,b1.kept,b1.loc,?_⟩
    refine zv b1.stk.cons_inv fun Z Z e a1 t1=>?_
    cases e
    refine zv t1.split fun x1 x2 e12 s1 s2=>?_
    obtain⟨rfl,rfl⟩:=Cw e12.symm (by rw[s1.length,hl])
    exact(s1.append (VRs.cons a1 VRs.nil)).append s2
   refine ih B5 b1' (by simp[hl]) (fun p hp=>b3 p (hs p hp)) fun j u' ej w1 w2 hP'=>?_
   have e:i+1+j=i+(j+1):=by lia
   rw[e] at hP' ⊢;obtain⟨a,b⟩:=hI (j+1) u' (by simpa using ej) w1 w2 hP'
   exact⟨a,b.mono (fun Z Z e=>e) b3⟩
def du(Wa:PS->(List PV->PS->Prop)->Prop)(Wv:PV->PV->PS->KE->Prop)(mt:Bool)(O:PS)(k:KE):Prop:=Wa O fun us B4=>one us fun a=>cond (yr a) False (opt (jI B4 a) fun items=>(QJ items=true/\items.length<=100000)/\Z3 Wv 0 items [] B4 fun us B6=>q6 mt us B6 k)
structure BlkE(G:Gam)(env:Env)(scope:Scope)(cl:List (Str×Addr))(x y:Nat):Prop extends BlkOk G env scope cl x where
 var2:scope.names.lookup (G.X.nm y)=some .local
 ne:G.X.nm x≠G.X.nm y
theorem dN{cp py:Pos}{kd:Nat}{Wv:PV->PV->PS->KE->Prop}{mt:Bool}{d:Nat}(ok:BltOk G z (.type "enumerate"))(D:Act G outer B3 env' A d)(V:EnvG env)(hz:env.kindOf (G.X.nm z)=some .globalImplicit)(B:BlkE G env scope cl x y)
  (ha:EL G A B3 L env cp args Wa) (hst:args.all zT=true) (hne:args.isEmpty=false)
  (he:∀(pn:Pl) (C:Addr) (u v:PV),CompVar (G.pil pn) C x u->CompVar (G.pil pn) C y v->ES (G.pil pn) A B3 L (eval elt (compEnvC scope cl C env)) (Wv u v)) :
  ES G A B3 L (eval (.ListComp elt [⟨.Tuple [.Name (G.X.nm x) px,.Name (G.X.nm y) py] kd tp,.Call (.Name (G.X.nm z) np) args [] cp,[],0⟩] scope pos) env) (du Wa Wv mt):=by
 intro O k m s vs ws h F R Q E hq;rw[eval_ListComp];refine wpAny_comprehension_free (use:=none) rfl (fun Z=>rfl) B.clos B.kind B.names (J3 ok D V hz ha hst hne h F R fun us B4 C3 xs B7 B5 B8 C2 C1 hl=>?_)
 have em:=B8.eq;subst em;refine zv (y8 B5 hl) fun v w0 Ek Ej g=>?_;subst Ek;subst Ej
 refine zd (jH g) fun ht g=>?_
 refine yb (zG g) fun items e Dm B5=>?_;obtain⟨hf,hsz⟩:=Dm
 refine zh (RL.seq (vs:=vs) (ws:=ws) C1 e) fun l vals n Ee=>jf Ee fun ρ led frz I Cd=>?_;subst Cd
 have hlen:=I.vals.length;have hm:=I.mem;rw[ht] at hm;replace hm:(l,listOf vals.toArray n)∈frz:=hm;have hN:=I.rw.all _ (Bn _ (Bo _ hm));have hl:B7.heap.IsList l vals.toArray:=(yh _ hN.1 rfl ⟨n,rfl⟩);have hlt:l<B7.heap.objs.size:=Heap.lt_size hN.1;have hLs:L<B7.heap.objs.size:=C2.ns.lt;refine call_enumerate_list hl fun h' hE hI hsz' hk=>?_
 refine wpAny_pyIter_enum hE ?_;have hq':∀g tk,yy G B3 L C3 { B7 with heap:=g,toks:=tk } vs ws k Q:=fun g tk v σ' m' w' s' a b c d=>hq v σ' m' w' s' a (B8.trans (SR.trans (C6:=C3) (b:={ B7 with heap:=g,toks:=tk }) ⟨⟨rfl,rfl,rfl⟩,rfl⟩ b)) c d
 have news_lt:∀p∈(led++frz)++G.X.ps,p.1<B7.heap.objs.size:=fun p hp=>Heap.lt_size (I.rw.all p hp).1
 refine iq (B9:={ B7 with heap:=h' }) (Fin:=FinE B3 L C3 { B7 with heap:=h' } Q) (keep:=[(l,listOf vals.toArray n)]) (news:=(led++frz)++G.X.ps) (P2:=fun i E6 E8=>(∃t,E6=.int (i:Int) t)/\vals[i]?=some E8)
  (WalksT.enumerate D.hd (B7.heap.objs.size+1) B7.heap.objs.size l (Nat.succ_ne_self _) (ktu_ne 1 hlt) (Ca hlt) vals.toArray).toU
  (by rw[Bv,hlen];unfold sizeLine;exact yD hsz rfl) ?_ ?_ ?_ ?_ ?_ ?_ ?_ B.cell B.kind B.var B.var2 B.ne D.hd ⟨⟨.none,hE⟩,hI,hl.at fun o e=>hk l o e⟩ (C2.keeps hk) (I.rw.all.grown hk) ?_ ?_ ?_
 ·rintro i vv ⟨t,x',hx',rfl⟩
  exact(jx _ _ rfl ⟨t,rfl⟩ (by simpa using hx'))
 ·rintro i g ⟨⟨old,he⟩,⟨oi,hoi,hic,_⟩,_⟩
  have he':∃oe:Obj,g.get? (B7.heap.objs.size+1)=some oe:=⟨_,he⟩;refine zV he' fun oe h1=>?_
  refine(zA ([(B7.heap.objs.size+1,oe),(B7.heap.objs.size,oi)]) rfl (fun p hp=>?_))
  rcases List.mem_cons.mp hp with rfl | hp
  ·exact h1
  ·rw[List.mem_singleton.mp hp];exact hoi
 ·intro b hb
  have hb':b=B7.heap.objs.size+1∨b=B7.heap.objs.size∨b=l:=by simpa using hb
  rcases hb' with rfl | rfl | rfl
  ·exact .inl (by simp)
  ·exact .inl (by simp)
  ·exact .inr ⟨_,.head _⟩
 ·intro b hb
  have hb':b=B7.heap.objs.size+1∨b=B7.heap.objs.size∨b=l:=by simpa using hb
  show b<h'.objs.size;have he':∃oe:Obj,h'.get? (B7.heap.objs.size+1)=some oe:=⟨_,hE⟩;refine zV he' fun oe h1=>?_
  have:=Heap.lt_size h1
  rcases hb' with rfl | rfl | rfl
  ·exact this
  ·exact Nat.lt_trans (Dj _) this
  ·exact Nat.lt_trans (Nat.lt_trans hlt (Dj _)) this
 ·intro hm'
  have hb':L=B7.heap.objs.size+1∨L=B7.heap.objs.size:=by simpa using hm'
  rcases hb' with e | e
  ·exact ktu_ne 1 hLs e
  ·exact Ca hLs e
 ·intro b hb
  have hb':b=B7.heap.objs.size+1∨b=B7.heap.objs.size:=by simpa using hb
  rcases hb' with rfl | rfl
  ·exact ktu_new C2 (Nat.le_add_right _ _)
  ·exact ktu_new C2 (Cg _)
 ·intro p hp
  rw[List.mem_singleton.mp hp];exact Bn _ (Bo _ hm)
 ·intro p hp hI'
  have hb':p.1=B7.heap.objs.size+1∨p.1=B7.heap.objs.size:=by simpa using hI'
  have hlp:=news_lt p hp
  rcases hb' with e | e
  ·exact ktu_ne 1 hlp e
  ·exact Ca hlp e
 ·rw[Bv,hlen]
  refine dz (src:=[(l,listOf vals.toArray n)]) (vs:=vs) (ws:=ws) (k:=fun us B6=>q6 mt us B6 k) he (fun hk q hl'=>WE (B9:={ B7 with heap:=h' }) (hq' h' B7.toks) hk q hl') B5 (acc:=[]) (ys:=[]) I.rw.rb rfl (fun p hp=>by rw[List.mem_singleton.mp hp];exact hm) fun j u ej E6 E8 hP=>?_
  rw[Nat.zero_add] at hP ⊢
  refine⟨hP.1,?_⟩
  refine zc (I.vals.get ej) fun w' ew hv=>?_
  rw[hP.2] at ew
  cases ew
  exact hv.abs (Qc hf ej)
 ·intro D' C h2 tk m' ys news' F' N' o1 hn F8 H7 hCL hDL hCD offC fin
  refine(zA m' hn (fun h'' hs''=>fin D' h'' tk (F'.change hs'' hCL F8) (fun p hp=>?_) o1))
  refine⟨hs''.extBut _ _ ?_ (N' p hp).1,(N' p hp).2⟩
  rcases List.mem_cons.mp hp with rfl | hp
  ·exact Ne.symm hCD
  ·exact offC p hp
end
end
section
open PySem.Spec
open PyProof.Rows.LCg
section
variable {A:Around}{m:BB}{vs:List PV}{E:BA}
def nS(Wa:PS->(List PV->PS->Prop)->Prop)(Wv:PV->PS->KE->Prop)(z:Nat)(O:PS)(k:KF):Prop:=Wa O fun us B4=>one us fun b=>y4 b fun b=>(0<=b/\b<=100000)/\qZ Wv (ji 0 (jW 0 b)) [] B4 fun us B6=>B6.slC z (.ls us) (k .next)
theorem eg{k:KF}{Q:Flow->Shared->Prop}(hq:FCont G B3 L B9 vs ws k Q){frz:BD}(h:O.slC z (.ls acc) (k .next))(q:RB G.X m O (acc++vs) (ys++ws) ρ led frz)(hl:ys.length=acc.length):
  FinA B3 L m B9 (G.X.nm z) Q ys ((led++frz)++G.X.ps):=by
 intro D h' tk F N off;have lt:=KK off;refine zv q.stk.split fun x1 x2 e12 s1 s2=>?_
 obtain⟨rfl,rfl⟩:=Cw e12.symm (by rw[s1.length,hl])
 have W:RW G.X B3 L h' m O vs x2 ρ led frz:=⟨q.hr,fun p hp=>N p (.tail _ hp),q.nd,q.off,q.offp,q.kept,q.loc,s2⟩
 have W2:=W.freeze N lt;have R:RL G.X B3 L h' m O (.ls acc::vs) (.ref D::x2):=(zk ρ led _ ⟨W2.hr,W2.all,W2.nd,W2.off,W2.offp,W2.kept,W2.loc,VRs.cons (by show Exists _;exact(y3 D x1 x1.length rfl (.head _) (s1.mono (fun Z Z e=>e) fun p hp=>.tail _ hp))) W2.stk⟩)
 exact hq.next _ _ { B9 with heap:=h',toks:=tk } (zJ.mp h) zr.mk' F (R.store (k:=z))
theorem mw{cp:Pos}{d:Nat}(ok:BltOk G y (.type "range"))(D:Act G outer B3 env' A d)(V:EnvF env L)(hz:env.kindOf (G.X.nm z)=some .local)(hy:env.kindOf (G.X.nm y)=some .globalImplicit)(B:BlkOk G env scope cl x)
  (ha:EL G A B3 L env cp args Wa) (hst:args.all zT=true) (hne:args.isEmpty=false) (he:∀(pn:Pl) (C:Addr) (v:PV),CompVar (G.pil pn) C x v->ES (G.pil pn) A B3 L (eval elt (compEnvC scope cl C env)) (Wv v))
  (hl:zp.line=pos.line) (hn:(scope.names.any fun p=>p.1==G.X.nm z&&(p.2==.local||p.2==.cell))=false) :
  SS G A B3 L (exec (.Assign [.Name (G.X.nm z) zp] (.ListComp elt [⟨.Name (G.X.nm x) px,.Call (.Name (G.X.nm y) np) args [] cp,[],0⟩] scope pos) spos) env) (nS Wa Wv z):=by
 intro O k m s vs ws h F R Q E hq;have hLe:env.locals=L:=V.loc;refine Assign_ListComp_U (h₀:=B3) (m:=m) F hLe (V2 V.kind hz hl hn) B.clos B.cell B.kind B.names B.var hz (by rw[V.kind];rfl) (J3 ok D V.toEnvG hy ha hst hne h F R fun us B4 C3 xs B7 B5 B8 C2 C1 hl=>?_) (fun Z=>rfl)
 have em:=B8.eq;subst em;refine zv (y8 B5 hl) fun b0 w0 Ej Eh g=>?_;subst Ej;subst Eh
 refine zc (jl g) fun b Ek B5=>?_;subst Ek
 refine zV (RL.int (vs:=vs) (ws:=ws) C1) fun t Dm=>?_;subst Dm
 refine byc fun Ea=>?_
 refine zh (RL.pop (vs:=vs) (ws:=ws) C1) fun ρ led frz q=>?_
 have hs:=yE (a:=0) (b:=b) (by decide) (by decide) (by lia) (by lia)
 refine Ea ?_;refine range1_rows C2 q.all fun h' tk F7 G7 E6 hr F' N' Z=>?_
 refine CompSrc.range (s₁:={ B7 with heap:=h',toks:=tk }) D.hd F' N' hr hs.1 hs.2 (by unfold jW sizeLine;lia) fun g=>?_
 have hq':FCont G B3 L { B7 with heap:=g,toks:=tk } vs ws k Q:=hq.after (B8.rest.trans zr.mk')
 have e2:=Q3 (A:=A) (s:={ B7 with heap:=g,toks:=tk }) (S:=fun Z=>True) (P:=fun i v=>∃t,v=.int (0+(i:Int)) t) (Fin:=FinA B3 L C3 { B7 with heap:=g,toks:=tk } (G.X.nm z) Q) (src:=[]) (vs:=vs) (ws:=ws) (k:=fun us B6=>B6.slC z (.ls us) (k .next)) he (fun l hl=>trivial) (fun hk q hl'=>eg hq' hk q hl') B5.2 (acc:=[]) (ys:=[]) q.rb rfl (fun p hp=>nomatch hp) fun j u ej v hP=>by
  refine zV hP fun t Cd=>?_;subst Cd
  rw[ZS ej,Nat.zero_add];exact jz _ _ _ _
 rw[JD] at e2;exact e2
end
end
set_option genCtorIdx false in
inductive BK where
 | i | mul (mt:Bool) | add (mt:Bool) | addV
inductive CK where
 | i | l | t
inductive Blt where
 | len | sum | divmod
 | sumT | maxT | minT
 deriving DecidableEq
set_option genCtorIdx false in
inductive IE where
 | int (i:Int)
 | none
 | bool (b:Bool)
 | str (s:Str)
 | loc (x:Nat)
 | cel (x:Nat) (off:Nat)
 | cv (x:Nat)
 | top (x:Nat) (a:Addr)
 | bin (kd:BK) (op:Operator) (l r:IE)
 | un (op:UnaryOp) (e:IE)
 | cmp (kd:CK) (op:CmpOp) (l r:IE)
 | chain (G5 G6:CmpOp) (l a b:IE)
 | and (es:List IE)
 | or (es:List IE)
 | ite (t a b:IE)
 | attr (x y:Nat)
 | cint (x y:Nat) (i:Int)
 | ctop (x y:Nat) (a:Addr)
 | meth (x y:Nat) (f:Addr)
 | mcall (x y:Nat) (f:Addr) (args:List IE)
 | callv (f:IE) (args:List IE)
 | sub (a i:IE)
 | list (mt:Bool) (es:List IE)
 | tup (es:List IE)
 | slice (mt:Bool) (v:IE) (lo hi:Option IE)
 | blt (b:Blt) (x:Nat) (args:List IE)
 | compL (mt:Bool) (x:Nat) (elt iter:IE)
 | compR (mt:Bool) (x:Nat) (elt:IE) (y:Nat) (args:List IE)
 | append (x:IE) (e:IE)
 | ctor (x:IE) (a b:IE)
 | rev (mt:Bool) (a:IE)
 | compG (mt:Bool) (x:Nat) (elt iter:IE)
 | compT (mt:Bool) (x:Nat) (ct elt:IE) (y:Nat) (args:List IE)
 | compE (mt:Bool) (x y:Nat) (elt:IE) (z:Nat) (args:List IE)
 | argL (x y:Nat)
set_option genCtorIdx false in
variable {hi:Option IE}
inductive IT where
 | name (x:Nat)
 | cel (x off:Nat)
 | sub (o i:IE)
 | attr (x y:Nat)
set_option genCtorIdx false in
inductive IS where
 | pass
 | brk
 | ret (e:IE)
 | expr (e:IE)
 | name (x:Nat) (e:IE)
 | cel (x off:Nat) (e:IE)
 | attr (x y:Nat) (e:IE)
 | aattr (x y:Nat) (op:Operator) (e:IE)
 | aname (x:Nat) (op:Operator) (e:IE)
 | put (o i e:IE)
 | slp (o:IE) (lo hi:Option IE) (e:IE)
 | tup (ts:List IT) (e:IE)
 | swap (xs:List Nat) (e:IE)
 | ite (t:IE) (a b:List IS)
 | forS (t:IT) (e:IE) (body:List IS)
 | forR (t:IT) (y:Nat) (args:List IE) (body:List IS)
 | forT (ts:List IT) (e:IE) (body:List IS)
 | two (a b:IT) (e:IE)
 | frz (x:Nat)
 | keep (xs:List Nat)
 | rowR (z x:Nat) (elt:IE) (y:Nat) (args:List IE)
 | tupG (ts:List IT) (e:IE)
 | rowT (z x:Nat) (elt:IE) (y:Nat) (args:List IE)
variable {A ir is:List IS}
structure Pm where
 atts:List Nat
 cis:List (Nat×Int)
 cts:List (Nat×Addr)
 mths:List (Nat×Addr)
 tops:List (Nat×Addr)
 gis:List (Nat×Int)
 blts:List (Nat×Blt)
 rngs:List Nat
 enms:List Nat
 zips:List Nat
 cels:List (Nat×Nat)
 n1:Str
 n2:Str
structure Pi extends Pm where
 tab:Addr->List PV
 tabL:Addr->List PV
 fnT:Addr->Bool
 base:Nat
 cvs:List (Nat×PV)
 arg:PV->Option (List Int)
 ctr:List PV->List PO->(PV->List PO->Prop)->Prop
 C:Addr
noncomputable def Pi.cv(P:Pi)(x:Nat)(v:PV):Pi:={ P with cvs:=[(x,v)] }
noncomputable def Pi.cv2(P:Pi)(x:Nat)(u:PV)(y:Nat)(v:PV):Pi:={ P with cvs:=[(x,u),(y,v)] }
def oh(kd:BK)(op:Operator)(a b:PV)(O:PS)(k:KE):Prop:=match kd with
 | .i=>JO op a b O k
 | .mul mt=>(match op with | .Mult=>ny mt a b O k | _=>False)
 | .add mt=>(match op with | .Add=>nu mt a b O k | _=>False)
 | .addV=>(match op with | .Add=>nr a b O k | _=>False)
def ow(kd:CK)(op:CmpOp)(a b:PV)(O:PS)(k:KE):Prop:=match kd with
 | .i=>iA op a b O k
 | .l=>vy op a b O k
 | .t=>xi op a b O k
def uo(b:Blt)(us:List PV)(O:PS)(k:KE):Prop:=match b with
 | .len=>kM us O k
 | .sum=>mB us O k
 | .divmod=>dmB us O k
 | .sumT=>one us fun a=>sumT a O k
 | .maxT=>one us fun a=>mxT true a O k
 | .minT=>one us fun a=>mxT false a O k
def cvW(cvs:List (Nat×PV))(x:Nat)(O:PS)(k:KE):Prop:=opt (lk x cvs) fun v=>k v O
noncomputable def aR:List Nat->List (Nat×PV)->(List (Nat×PV)->Prop)->Prop
 | [],_,c=>c []
 | x::xs,l,c=>opt (lk x l) fun v=>aR xs l fun r=>c ((x,v)::r)
def nl(xs:List Nat)(O:PS)(k:KS):Prop:=match O with
 | ⟨l,h⟩=>aR xs l fun l'=>k ⟨l',h⟩
def uN(x:Nat)(O:PS)(k:KS):Prop:=opt (lk x O.loc) fun v=>ZI v fun j=>opt O.hp[j]? fun o=>opt (pt o) fun u=>O.siC j .gone fun B4=>B4.slC x u k
mutual
noncomputable def pE(P:Pi)(H:Hd):IE->PS->KE->Prop
 | .int i,O,k=>k (.int i) O
 | .none,O,k=>k .none O
 | .bool b,O,k=>k (.bool b) O
 | .str x,O,k=>k (.str x) O
 | .loc x,O,k=>jS x O k
 | .cel _ off,O,k=>ql (P.base+off) O k
 | .cv x,O,k=>cvW P.cvs x O k
 | .top _ a,O,k=>k (.top a) O
 | .bin kd op l r,O,k=>pE P H l O fun a B4=>pE P H r B4 fun b B6=>oh kd op a b B6 k
 | .un op e,O,k=>pE P H e O fun a B4=>unW op a B4 k
 | .cmp kd op l r,O,k=>pE P H l O fun a B4=>pE P H r B4 fun b B6=>ow kd op a b B6 k
 | .chain ..,_,_=>False
 | .and _,_,_=>False
 | .or _,_,_=>False
 | .ite t a b,O,k=>pT P H t O fun c B4=>cond c (pE P H a B4 k) (pE P H b B4 k)
 | .attr x y,O,k=>jS x O fun a B4=>QC y a B4 k
 | .cint x y i,O,k=>jS x O fun a B4=>Uw y (.int i) a B4 k
 | .ctop x y b,O,k=>jS x O fun a B4=>Uw y (.top b) a B4 k
 | .meth x y f,O,k=>jS x O fun a B4=>c5 y f a B4 k
 | .mcall x y f args,O,k=>jS x O fun a B4=>U6 H y f (pEs P H args) a B4 k
 | .callv f args,O,k=>pE P H f O fun a B4=>Za H P.fnT (pEs P H args) args.isEmpty a B4 k
 | .sub o i,O,k=>pE P H o O fun a B4=>pE P H i B4 fun b B6=>xe P.tab a b B6 k
 | .list mt es,O,k=>pEs P H es O fun us B4=>q6 mt us B4 k
 | .tup es,O,k=>pEs P H es O fun us B4=>xq us B4 k
 | .slice mt v lo hi,O,k=>pE P H v O fun a B4=>pO P H lo B4 fun l B6=>pO P H hi B6 fun u C7=>ZN P.arg mt a l u C7 k
 | .blt b _ args,O,k=>pEs P H args O fun us B4=>uo b us B4 k
 | .compL mt x elt iter,O,k=>dw (pE P H iter) (fun v=>pE (P.cv x v) H elt) mt O k
 | .compR ..,_,_=>False
 | .append o e,O,k=>pE P H o O fun a B4=>cond (isLst B4 a) (pE P H e B4 fun v B6=>Wg a v B6 fun C7=>k .none C7) False
 | .ctor c a b,O,k=>pE P H c O fun c F9=>mI P.C c (pE P H a F9 fun a B4=>pE P H b B4 fun b B6=>Z6 P.ctr a b B6 k)
 | .rev mt a,O,k=>pE P H a O fun a B4=>gu mt a B4 k
 | .compG mt x elt iter,O,k=>dv P.tabL (pE P H iter) (fun v=>pE (P.cv x v) H elt) mt O k
 | .compT mt x ct elt _ args,O,k=>Zc (pEs P H args) (fun v=>pT (P.cv x v) H ct) (fun v=>pE (P.cv x v) H elt) mt O k
 | .compE mt x y elt _ args,O,k=>du (pEs P H args) (fun u v=>pE (P.cv2 x u y v) H elt) mt O k
 | .argL _ y,O,k=>m7 P.arg y O k
noncomputable def pO(P:Pi)(H:Hd):Option IE->PS->KE->Prop
 | none,O,k=>k .none O
 | some e,O,k=>pE P H e O k
noncomputable def pEs(P:Pi)(H:Hd):List IE->PS->(List PV->PS->Prop)->Prop
 | [],O,k=>k [] O
 | e::es,O,k=>pE P H e O fun v B4=>pEs P H es B4 fun us B6=>k (v::us) B6
noncomputable def nN(P:Pi)(H:Hd):List IE->PS->KE->Prop
 | [],_,_=>False
 | e::es,O,k=>cond es.isEmpty (pE P H e O k) (pE P H e O fun a B4=>ju a B4 fun b B6=>cond b (nN P H es B6 k) (k a B6))
noncomputable def pT(P:Pi)(H:Hd):IE->PS->KB->Prop
 | .cmp kd op l r,O,k=>pE P H l O fun a B4=>pE P H r B4 fun b B6=>ow kd op a b B6 fun c C7=>ju c C7 k
 | .chain G5 G6 l a b,O,k=>pE P H l O fun a' B4=>pE P H a B4 fun b' B6=>iA G5 a' b' B6 fun c C7=>ju c C7 fun t E4=>cond t (pE P H b E4 fun d E9=>iA G6 b' d E9 fun e G9=>ju e G9 k) (k false E4)
 | .and es,O,k=>sK P H es O k
 | .or es,O,k=>pOr P H es O k
 | .int i,O,k=>ju (.int i) O k
 | .none,O,k=>ju .none O k
 | .bool b,O,k=>ju (.bool b) O k
 | .loc x,O,k=>jS x O fun a B4=>ju a B4 k
 | .cel _ off,O,k=>ql (P.base+off) O fun a B4=>ju a B4 k
 | .bin kd op l r,O,k=>pE P H l O fun a B4=>pE P H r B4 fun b B6=>oh kd op a b B6 fun c C7=>ju c C7 k
 | .attr x y,O,k=>jS x O fun a B4=>QC y a B4 fun c C7=>ju c C7 k
 | .compT mt x ct elt _ args,O,k=>Zc (pEs P H args) (fun v=>pT (P.cv x v) H ct) (fun v=>pE (P.cv x v) H elt) mt O fun a B4=>ju a B4 k
 | _,_,_=>False
noncomputable def sK(P:Pi)(H:Hd):List IE->PS->KB->Prop
 | [],O,k=>k true O
 | e::es,O,k=>pT P H e O fun b B4=>cond b (sK P H es B4 k) (k false B4)
noncomputable def pOr(P:Pi)(H:Hd):List IE->PS->KB->Prop
 | [],O,k=>k false O
 | e::es,O,k=>pT P H e O fun b B4=>cond b (k true B4) (pOr P H es B4 k)
end
noncomputable def pA(P:Pi)(H:Hd):IT->PV->PS->KS->Prop
 | .name x,v,O,k=>O.slC x v k
 | .cel _ off,v,O,k=>dE (P.base+off) v O k
 | .sub o i,v,O,k=>pE P H o O fun a B4=>pE P H i B4 fun i B6=>gq a i v B6 k
 | .attr x y,v,O,k=>jS x O fun a B4=>YR y a v B4 k
noncomputable def pAs(P:Pi)(H:Hd):List IT->List (PV->PS->KS->Prop)
 | []=>[]
 | t::ts=>pA P H t::pAs P H ts
mutual
noncomputable def pS(P:Pi)(H:Hd):IS->PS->KF->Prop
 | .pass,O,k=>k .next O
 | .brk,O,k=>k .brk O
 | .ret e,O,k=>pE P H e O fun v B4=>k (.ret v) B4
 | .expr e,O,k=>pE P H e O fun Z B4=>k .next B4
 | .name x e,O,k=>pE P H e O fun v B4=>B4.slC x v (k .next)
 | .cel _ off e,O,k=>pE P H e O fun v B4=>dE (P.base+off) v B4 (k .next)
 | .attr x y e,O,k=>pE P H e O fun v B4=>jS x B4 fun a B6=>YR y a v B6 fun C7=>k .next C7
 | .aattr x y op e,O,k=>jS x O fun a B4=>QC y a B4 fun old B6=>pE P H e B6 fun v C7=>JO op old v C7 fun new E4=>YR y a new E4 fun E9=>k .next E9
 | .aname x op e,O,k=>jS x O fun old B4=>pE P H e B4 fun v B6=>JO op old v B6 fun new C7=>C7.slC x new (k .next)
 | .put o i e,O,k=>pE P H e O fun v B4=>pE P H o B4 fun a B6=>pE P H i B6 fun j C7=>gq a j v C7 fun E4=>k .next E4
 | .slp o lo hi e,O,k=>pE P H e O fun v B4=>pE P H o B4 fun a B6=>pO P H lo B6 fun l C7=>pO P H hi C7 fun u E4=>nO a l u v E4 fun E9=>k .next E9
 | .tup ts e,O,k=>pE P H e O fun v B4=>j8 (pAs P H ts) v B4 (k .next)
 | .swap xs e,O,k=>pE P H e O fun v B4=>gL xs v B4 (k .next)
 | .ite t a b,O,k=>pT P H t O fun c B4=>cond c (pSs P H a B4 k) (pSs P H b B4 k)
 | .forS t e body,O,k=>WF (pE P H e) (pA P H t) (pSs P H body) O k
 | .forR t _ args body,O,k=>VC (pEs P H args) (pA P H t) (pSs P H body) O k
 | .forT ts e body,O,k=>WF (pE P H e) (j8 (pAs P H ts)) (pSs P H body) O k
 | .two a b e,O,k=>pE P H e O fun v B4=>pA P H a v B4 fun B6=>pA P H b v B6 (k .next)
 | .frz x,O,k=>uN x O (k .next)
 | .keep xs,O,k=>nl xs O (k .next)
 | .rowR z x elt _ args,O,k=>nR (pEs P H args) (fun v=>pE (P.cv x v) H elt) z O k
 | .tupG ts e,O,k=>pE P H e O fun v B4=>bj P.tab (pAs P H ts) v B4 (k .next)
 | .rowT z x elt _ args,O,k=>nS (pEs P H args) (fun v=>pE (P.cv x v) H elt) z O k
noncomputable def pSs(P:Pi)(H:Hd):List IS->PS->KF->Prop
 | [],O,k=>k .next O
 | i::is,O,k=>tn (pS P H i) (pSs P H is) O k
end
theorem ft{P:Prop}(h:false=true):P:=nomatch h
theorem za{a b:Bool}(h:(a&&b)=true):a=true/\b=true:=(Ck a b).mp h
noncomputable def th:Scope:=⟨.function,[],false,false,[]⟩
noncomputable def ps0:Pos:=⟨0,0,0,0⟩
noncomputable def obs(f:α->Bool)(x:Sem α):Bool:=match x with | .pure a=>f a | _=>false
theorem gb{f:α->Bool}{x:Sem α}(h:obs f x=true):∃a,x=.pure a/\f a=true:=by
 induction x<;>first | exact⟨_,rfl,h⟩ | exact Bool.noConfusion h
noncomputable def swE(sc:Scope):Env:=⟨sc,0,0,[],Str.empty,none,.none,none,0⟩
noncomputable def vk(e:Expr):List Expr:=match e with
 | .BinOp l _ r _=>[l,r]
 | .UnaryOp _ a _=>[a]
 | .Compare l _ cs _=>l::cs
 | .BoolOp _ vs _=>vs
 | .IfExp t a b _=>[t,a,b]
 | .Attribute v _ _=>[v]
 | .Call f args kws _=>f::(args++kws.map (·.value))
 | .Subscript v i _=>[v,i]
 | .Slice lo hi st _=>[lo.getD e,hi.getD e,st.getD e]
 | .List es _=>es
 | .Tuple es _ _=>es
 | .ListComp elt gens _ _=>elt::gens.flatMap fun g=>g.target::g.iter::g.ifs
 | _=>[]
noncomputable def vn(e:Expr):Nat:=match e with
 | .Constant _ n _=>n
 | .Tuple _ n _=>n
 | _=>0
noncomputable def vs(e:Expr):Scope:=match e with
 | .ListComp _ _ sc _=>sc
 | _=>th
noncomputable def vq(e:Expr):List Pos:=match e with
 | .Call _ _ kws _=>kws.map (·.pos)
 | _=>[]
noncomputable def nth{α:Type}(d:α):List α->Nat->α
 | [],_=>d
 | a::_,0=>a
 | _::r,n+1=>nth d r n
noncomputable def tl:List α->List α
 | []=>[]
 | _::r=>r
noncomputable def kd(e:Expr)(n:Nat):Expr:=nth e (vk e) n
noncomputable def nmI(i:IE):Nat:=match i with
 | .loc x=>x
 | .cel x _=>x
 | .cv x=>x
 | .top x _=>x
 | _=>0
noncomputable def m1E(e:Expr):Expr:=.UnaryOp .USub (.Constant (.int 1) (vn (kd e 0)) (kd e 0).pos) e.pos
section
variable (nm:Nat->Str)(P:Pm)
noncomputable def nE(x:Nat)(e:Expr):Expr:=.Name (nm x) e.pos
noncomputable def aE(x y:Nat)(e:Expr):Expr:=.Attribute (nE nm x (kd e 0)) (nm y) e.pos
mutual
noncomputable def toE:IE->Expr->Expr
 | .int i,e=>.Constant (.int i) (vn e) e.pos
 | .none,e=>.Constant .none (vn e) e.pos
 | .bool b,e=>.Constant (.bool b) (vn e) e.pos
 | .str x,e=>.Constant (.str x) (vn e) e.pos
 | .loc x,e=>nE nm x e
 | .cel x _,e=>nE nm x e
 | .cv x,e=>nE nm x e
 | .top x _,e=>nE nm x e
 | .bin _ op l r,e=>.BinOp (toE l (kd e 0)) op (toE r (kd e 1)) e.pos
 | .un op a,e=>.UnaryOp op (toE a (kd e 0)) e.pos
 | .cmp _ op l r,e=>.Compare (toE l (kd e 0)) [op] [toE r (kd e 1)] e.pos
 | .chain G5 G6 l a b,e=>.Compare (toE l (kd e 0)) [G5,G6] [toE a (kd e 1),toE b (kd e 2)] e.pos
 | .and es,e=>.BoolOp .And (toEs es (vk e)) e.pos
 | .or es,e=>.BoolOp .Or (toEs es (vk e)) e.pos
 | .ite t a b,e=>.IfExp (toE t (kd e 0)) (toE a (kd e 1)) (toE b (kd e 2)) e.pos
 | .attr x y,e=>aE nm x y e
 | .cint x y _,e=>aE nm x y e
 | .ctop x y _,e=>aE nm x y e
 | .meth x y _,e=>aE nm x y e
 | .mcall x y _ args,e=>.Call (aE nm x y (kd e 0)) (toEs args (tl (vk e))) [] e.pos
 | .callv f args,e=>.Call (toE f (kd e 0)) (toEs args (tl (vk e))) [] e.pos
 | .sub a i,e=>.Subscript (toE a (kd e 0)) (toE i (kd e 1)) e.pos
 | .list _ es,e=>.List (toEs es (vk e)) e.pos
 | .tup es,e=>.Tuple (toEs es (vk e)) (vn e) e.pos
 | .slice _ v lo hi,e=>.Subscript (toE v (kd e 0)) (.Slice (toO lo (kd (kd e 1) 0)) (toO hi (kd (kd e 1) 1)) none (kd e 1).pos) e.pos
 | .blt _ x args,e=>.Call (nE nm x (kd e 0)) (toEs args (tl (vk e))) [] e.pos
 | .compL _ x elt iter,e=>.ListComp (toE elt (kd e 0)) [⟨nE nm x (kd e 1),toE iter (kd e 2),[],0⟩] (vs e) e.pos
 | .compR _ x elt y args,e=>.ListComp (toE elt (kd e 0)) [⟨nE nm x (kd e 1),.Call (nE nm y (kd (kd e 2) 0)) (toEs args (tl (vk (kd e 2)))) [] (kd e 2).pos,[],0⟩] (vs e) e.pos
 | .append o a,e=>.Call (.Attribute (nE nm (nmI o) (kd (kd e 0) 0)) ("append" : Str) (kd e 0).pos) [toE a (kd e 1)] [] e.pos
 | .ctor c a b,e=>.Call (nE nm (nmI c) (kd e 0)) [] [⟨some P.n1,toE a (kd e 1),nth ps0 (vq e) 0⟩,⟨some P.n2,toE b (kd e 2),nth ps0 (vq e) 1⟩] e.pos
 | .rev _ a,e=>.Subscript (toE a (kd e 0)) (.Slice none none (some (m1E (kd (kd e 1) 2))) (kd e 1).pos) e.pos
 | .argL x y,e=>.Call (nE nm x (kd e 0)) [nE nm y (kd e 1)] [] e.pos
 | .compG _ x elt iter,e=>.ListComp (toE elt (kd e 0)) [⟨nE nm x (kd e 1),toE iter (kd e 2),[],0⟩] (vs e) e.pos
 | .compT _ x ct elt y args,e=>.ListComp (toE elt (kd e 0)) [⟨nE nm x (kd e 1),.Call (nE nm y (kd (kd e 2) 0)) (toEs args (tl (vk (kd e 2)))) [] (kd e 2).pos,[toE ct (kd e 3)],0⟩] (vs e) e.pos
 | .compE _ x y elt z args,e=>.ListComp (toE elt (kd e 0)) [⟨.Tuple [nE nm x (kd (kd e 1) 0),nE nm y (kd (kd e 1) 1)] (vn (kd e 1)) (kd e 1).pos,.Call (nE nm z (kd (kd e 2) 0)) (toEs args (tl (vk (kd e 2)))) [] (kd e 2).pos,[],0⟩] (vs e) e.pos
noncomputable def toO:Option IE->Expr->Option Expr
 | none,_=>none
 | some i,e=>some (toE i e)
noncomputable def toEs:List IE->List Expr->List Expr
 | [],_=>[]
 | i::is,es=>toE i (nth (.List [] ps0) es 0)::toEs is (tl es)
end
noncomputable def y7(sc:Scope)(x:Nat):Bool:=sc.names.lookup (nm x)==some .local
noncomputable def WG(sc:Scope)(x:Nat):Bool:=sc.names.lookup (nm x)==some .globalImplicit
noncomputable def dh(sc:Scope)(cv:Option (Nat×Nat))(x off:Nat):Bool:=P.cels.contains (x,off)&&(sc.names.lookup (nm x)==some (cond cv.isNone NameKind.cell NameKind.free))
noncomputable def nmB(sc:Scope)(cv:Option (Nat×Nat))(i:IE):Bool:=match i with
 | .loc x=>cv.isNone&&y7 nm sc x
 | .cel c off=>dh nm P sc cv c off
 | .cv x=>(match cv with | some p=>Nat.beq x p.1||Nat.beq x p.2 | none=>false)&&y7 nm sc x
 | .top x a=>WG nm sc x&&P.tops.contains (x,a)
 | _=>false
noncomputable def Vn(sc csc:Scope)(x:Nat):Bool:=csc.names.all (fun y=>y.2 !=.cell)&&(csc.kind==.function)&&csc.names.all (fun y=>y.2 !=.local||csc.names.lookup y.1==some .local)&&(csc.names.lookup (nm x)==some .local)
 && csc.names.all (fun y=>y.2 !=.free||P.cels.any (fun p=>nm p.1==y.1&&sc.names.lookup y.1==some .cell))
noncomputable def uw(sc:Scope)(op:CmpOp)(r:IE)(e:Expr):Bool:=!(behindInMarks op (toE nm P r (kd e 1)))
mutual
noncomputable def okE(sc:Scope)(cv:Option (Nat×Nat)):IE->Expr->Bool
 | .int _,_=>true
 | .none,_=>true
 | .bool _,_=>true
 | .str _,_=>true
 | .loc x,_=>nmB nm P sc cv (.loc x)
 | .cel x o,_=>nmB nm P sc cv (.cel x o)
 | .cv x,_=>nmB nm P sc cv (.cv x)
 | .top x a,_=>nmB nm P sc cv (.top x a)
 | .bin _ _ l r,e=>okE sc cv l (kd e 0)&&okE sc cv r (kd e 1)
 | .un _ a,e=>okE sc cv a (kd e 0)
 | .cmp _ op l r,e=>uw nm P sc op r e&&(okE sc cv l (kd e 0)&&okE sc cv r (kd e 1))
 | .chain ..,_=>false
 | .and _,_=>false
 | .or _,_=>false
 | .ite t a b,e=>okT sc cv t (kd e 0)&&(okE sc cv a (kd e 1)&&okE sc cv b (kd e 2))
 | .attr x y,_=>cv.isNone&&(y7 nm sc x&&P.atts.contains y)
 | .cint x y i,_=>cv.isNone&&(y7 nm sc x&&P.cis.contains (y,i))
 | .ctop x y a,_=>cv.isNone&&(y7 nm sc x&&P.cts.contains (y,a))
 | .meth x y f,_=>cv.isNone&&(y7 nm sc x&&P.mths.contains (y,f))
 | .mcall x y f args,e=>cv.isNone&&((y7 nm sc x&&P.mths.contains (y,f))&&(okEs sc cv args (tl (vk e))&&(decide ((kd e 0).pos.endLine=e.pos.line)&&Dg (toEs nm P args (tl (vk e))).length 30)))
 | .callv f args,e=>cv.isNone&&(okE sc cv f (kd e 0)&&(okEs sc cv args (tl (vk e))&&Xq (toE nm P f (kd e 0))))
 | .sub a i,e=>okE sc cv a (kd e 0)&&okE sc cv i (kd e 1)
 | .list _ es,e=>okEs sc cv es (vk e)
 | .tup es,e=>okEs sc cv es (vk e)
 | .slice _ v lo hi,e=>cv.isNone&&(okE sc cv v (kd e 0)&&(okO sc cv lo (kd (kd e 1) 0)&&okO sc cv hi (kd (kd e 1) 1)))
 | .blt b x args,e=>(WG nm sc x&&P.blts.contains (x,b))&&(okEs sc cv args (tl (vk e)) && !args.isEmpty)
 | .compL _ x elt iter,e=>cv.isNone&&(Vn nm P sc (vs e) x&&(okE sc cv iter (kd e 2)&&okE (vs e) (some (x,x)) elt (kd e 0)))
 | .compR _ x elt y args,e=>cv.isNone&&(Vn nm P sc (vs e) x&&(((WG nm sc y&&P.rngs.contains y)&&(okEs sc cv args (tl (vk (kd e 2))) && !args.isEmpty))&&okE (vs e) (some (x,x)) elt (kd e 0)))
 | .append o a,e=>(nmB nm P sc cv o&&okE sc cv a (kd e 1))&&decide ((kd e 0).pos.endLine=e.pos.line)
 | .ctor c a b,e=>cv.isNone&&(nmB nm P sc cv c&&(okE sc cv a (kd e 1)&&okE sc cv b (kd e 2)))
 | .rev _ a,e=>okE sc cv a (kd e 0)
 | .argL x y,_=>(WG nm sc x&&P.blts.contains (x,.len))&&(cv.isNone&&y7 nm sc y)
 | .compG _ x elt iter,e=>cv.isNone&&(Vn nm P sc (vs e) x&&(okE sc cv iter (kd e 2)&&okE (vs e) (some (x,x)) elt (kd e 0)))
 | .compT _ x ct elt y args,e=>cv.isNone&&(Vn nm P sc (vs e) x&&(((WG nm sc y&&P.rngs.contains y)&&(okEs sc cv args (tl (vk (kd e 2))) && !args.isEmpty))&&(okT (vs e) (some (x,x)) ct (kd e 3)&&okE (vs e) (some (x,x)) elt (kd e 0))))
 | .compE _ x y elt z args,e=>cv.isNone&&((Vn nm P sc (vs e) x&&(y7 nm (vs e) y&&nm x !=nm y))&&(((WG nm sc z&&P.enms.contains z)&&(okEs sc cv args (tl (vk (kd e 2))) && !args.isEmpty))&&okE (vs e) (some (x,y)) elt (kd e 0)))
noncomputable def okO(sc:Scope)(cv:Option (Nat×Nat)):Option IE->Expr->Bool
 | none,_=>true
 | some i,e=>okE sc cv i e
noncomputable def okEs(sc:Scope)(cv:Option (Nat×Nat)):List IE->List Expr->Bool
 | [],_=>true
 | i::is,es=>okE sc cv i (nth (.List [] ps0) es 0)&&okEs sc cv is (tl es)
noncomputable def okT(sc:Scope)(cv:Option (Nat×Nat)):IE->Expr->Bool
 | .cmp _ op l r,e=>uw nm P sc op r e&&(okE sc cv l (kd e 0)&&okE sc cv r (kd e 1))
 | .chain G5 G6 l a b,e=>!(lastMarks [G5,G6] [toE nm P a (kd e 1),toE nm P b (kd e 2)])&&(okE sc cv l (kd e 0)&&(okE sc cv a (kd e 1)&&okE sc cv b (kd e 2)))
 | .and es,e=>gh sc cv es (vk e)
 | .or es,e=>gh sc cv es (vk e)
 | .int _,_=>true
 | .none,_=>true
 | .bool _,_=>true
 | .loc x,_=>nmB nm P sc cv (.loc x)
 | .cel x o,_=>nmB nm P sc cv (.cel x o)
 | .bin _ _ l r,e=>okE sc cv l (kd e 0)&&okE sc cv r (kd e 1)
 | .attr x y,_=>cv.isNone&&(y7 nm sc x&&P.atts.contains y)
 | .compT _ x ct elt y args,e=>cv.isNone&&(Vn nm P sc (vs e) x&&(((WG nm sc y&&P.rngs.contains y)&&(okEs sc cv args (tl (vk (kd e 2))) && !args.isEmpty))&&(okT (vs e) (some (x,x)) ct (kd e 3)&&okE (vs e) (some (x,x)) elt (kd e 0))))
 | _,_=>false
noncomputable def gh(sc:Scope)(cv:Option (Nat×Nat)):List IE->List Expr->Bool
 | [],_=>true
 | i::is,es=>okT sc cv i (nth (.List [] ps0) es 0)&&gh sc cv is (tl es)
end
noncomputable def toA:IT->Expr->Expr
 | .name x,e=>nE nm x e
 | .cel x _,e=>nE nm x e
 | .sub o i,e=>.Subscript (toE nm P o (kd e 0)) (toE nm P i (kd e 1)) e.pos
 | .attr x y,e=>aE nm x y e
noncomputable def okA(sc:Scope):IT->Expr->Bool
 | .name x,_=>y7 nm sc x
 | .cel x off,_=>dh nm P sc none x off
 | .sub o i,e=>okE nm P sc none o (kd e 0)&&okE nm P sc none i (kd e 1)
 | .attr x y,_=>y7 nm sc x&&P.atts.contains y
noncomputable def XE:List IT->List Expr->List Expr
 | [],_=>[]
 | t::ts,es=>toA nm P t (nth (.List [] ps0) es 0)::XE ts (tl es)
noncomputable def ge(sc:Scope):List IT->List Expr->Bool
 | [],_=>true
 | t::ts,es=>okA nm P sc t (nth (.List [] ps0) es 0)&&ge sc ts (tl es)
noncomputable def tR:List Nat->List Expr->List Expr
 | [],_=>[]
 | x::xs,es=>nE nm x (nth (.List [] ps0) es 0)::tR xs (tl es)
set_option backward.match.sparseCases true in
set_option backward.match.sparseCases true in
noncomputable def Zx(sc:Scope)(ts:List Expr)(v:Expr):Bool:=obs Option.isNone (swappedStores [.Tuple ts 0 ps0] v (swE sc))
set_option backward.match.sparseCases true in
set_option backward.match.sparseCases true in
noncomputable def eU(sc:Scope)(xs:List Nat)(ts:List Expr)(v:Expr):Bool:=obs (fun r=>r==some (xs.map nm)) (swappedStores [.Tuple ts 0 ps0] v (swE sc))&&xs.all (fun x=>sc.names.lookup (nm x)==some .local)
end
noncomputable def sk(s:Stmt):List Expr:=match s with
 | .Return (some v) _=>[v]
 | .Expr v _=>[v]
 | .Assign ts v _=>v::ts
 | .AugAssign t _ v _=>[v,t]
 | .For t i _ _ _=>[i,t]
 | .If t _ _ _=>[t]
 | _=>[]
noncomputable def sb(s:Stmt):List Stmt×List Stmt:=match s with
 | .For _ _ b _ _=>(b,[])
 | .If _ a b _=>(a,b)
 | _=>([],[])
noncomputable def isG(i:IS):Bool:=match i with
 | .frz _=>true
 | .keep _=>true
 | _=>false
noncomputable def kx(s:Stmt)(n:Nat):Expr:=nth (.List [] ps0) (sk s) n
section
variable (nm:Nat->Str)(P:Pm)
noncomputable def cE(y:Nat)(args:List IE)(e:Expr):Expr:=.Call (nE nm y (kd e 0)) (toEs nm P args (tl (vk e))) [] e.pos
mutual
noncomputable def toS:IS->Stmt->Stmt
 | .pass,s=>.Pass s.pos
 | .brk,s=>.Break s.pos
 | .ret e,s=>.Return (some (toE nm P e (kx s 0))) s.pos
 | .expr e,s=>.Expr (toE nm P e (kx s 0)) s.pos
 | .name x e,s=>.Assign [nE nm x (kx s 1)] (toE nm P e (kx s 0)) s.pos
 | .cel x _ e,s=>.Assign [nE nm x (kx s 1)] (toE nm P e (kx s 0)) s.pos
 | .attr x y e,s=>.Assign [aE nm x y (kx s 1)] (toE nm P e (kx s 0)) s.pos
 | .aattr x y op e,s=>.AugAssign (aE nm x y (kx s 1)) op (toE nm P e (kx s 0)) s.pos
 | .aname x op e,s=>.AugAssign (nE nm x (kx s 1)) op (toE nm P e (kx s 0)) s.pos
 | .put o i e,s=>.Assign [.Subscript (toE nm P o (kd (kx s 1) 0)) (toE nm P i (kd (kx s 1) 1)) (kx s 1).pos] (toE nm P e (kx s 0)) s.pos
 | .slp o lo hi e,s=>.Assign [.Subscript (toE nm P o (kd (kx s 1) 0)) (.Slice (toO nm P lo (kd (kd (kx s 1) 1) 0)) (toO nm P hi (kd (kd (kx s 1) 1) 1)) none (kd (kx s 1) 1).pos) (kx s 1).pos] (toE nm P e (kx s 0)) s.pos
 | .tup ts e,s=>.Assign [.Tuple (XE nm P ts (vk (kx s 1))) (vn (kx s 1)) (kx s 1).pos] (toE nm P e (kx s 0)) s.pos
 | .swap xs e,s=>.Assign [.Tuple (tR nm xs (vk (kx s 1))) (vn (kx s 1)) (kx s 1).pos] (toE nm P e (kx s 0)) s.pos
 | .ite t a b,s=>.If (toE nm P t (kx s 0)) (Qz a (sb s).1) (Qz b (sb s).2) s.pos
 | .forS t e body,s=>.For (toA nm P t (kx s 1)) (toE nm P e (kx s 0)) (Qz body (sb s).1) [] s.pos
 | .forR t y args body,s=>.For (toA nm P t (kx s 1)) (cE nm P y args (kx s 0)) (Qz body (sb s).1) [] s.pos
 | .forT ts e body,s=>.For (.Tuple (XE nm P ts (vk (kx s 1))) (vn (kx s 1)) (kx s 1).pos) (toE nm P e (kx s 0)) (Qz body (sb s).1) [] s.pos
 | .two a b e,s=>.Assign [toA nm P a (kx s 1),toA nm P b (kx s 2)] (toE nm P e (kx s 0)) s.pos
 | .frz _,s=>s
 | .keep _,s=>s
 | .rowR z x elt y args,s=>.Assign [nE nm z (kx s 1)] (toE nm P (.compR false x elt y args) (kx s 0)) s.pos
 | .tupG ts e,s=>.Assign [.Tuple (XE nm P ts (vk (kx s 1))) (vn (kx s 1)) (kx s 1).pos] (toE nm P e (kx s 0)) s.pos
 | .rowT z x elt y args,s=>.Assign [nE nm z (kx s 1)] (toE nm P (.compR false x elt y args) (kx s 0)) s.pos
noncomputable def Qz:List IS->List Stmt->List Stmt
 | [],_=>[]
 | i::is,ss=>cond (isG i) (Qz is ss) (toS i (nth (.Pass ps0) ss 0)::Qz is (tl ss))
end
noncomputable def cB(sc:Scope)(ys:List Nat)(y:Nat)(args:List IE)(e:Expr):Bool:=(WG nm sc y&&ys.contains y)&&(okEs nm P sc none args (tl (vk e)) && !args.isEmpty)
noncomputable def ncB(e:IE)(x:Expr):Bool:=yS (toE nm P e x)
noncomputable def wB(z:Str)(t e:Expr):Bool:=decide (t.pos.line=e.pos.line) && !((vs e).names.any fun p=>p.1==z&&(p.2==.local||p.2==.cell))
mutual
noncomputable def okS(sc:Scope):IS->Stmt->Bool
 | .pass,_=>true
 | .brk,_=>true
 | .ret e,s=>okE nm P sc none e (kx s 0)
 | .expr e,s=>okE nm P sc none e (kx s 0)&&ncB nm P e (kx s 0)
 | .name x e,s=>y7 nm sc x&&(okE nm P sc none e (kx s 0)&&ncB nm P e (kx s 0))
 | .cel x off e,s=>dh nm P sc none x off&&(okE nm P sc none e (kx s 0)&&ncB nm P e (kx s 0))
 | .attr x y e,s=>(y7 nm sc x&&P.atts.contains y)&&(okE nm P sc none e (kx s 0)&&ncB nm P e (kx s 0))
 | .aattr x y _ e,s=>(y7 nm sc x&&P.atts.contains y)&&okE nm P sc none e (kx s 0)
 | .aname x _ e,s=>y7 nm sc x&&okE nm P sc none e (kx s 0)
 | .put o i e,s=>(okE nm P sc none o (kd (kx s 1) 0)&&okE nm P sc none i (kd (kx s 1) 1))&&(okE nm P sc none e (kx s 0)&&ncB nm P e (kx s 0))
 | .slp o lo hi e,s=>(okE nm P sc none o (kd (kx s 1) 0)&&okE nm P sc none e (kx s 0))&&((okO nm P sc none lo (kd (kd (kx s 1) 1) 0)&&okO nm P sc none hi (kd (kd (kx s 1) 1) 1))&&ncB nm P e (kx s 0))
 | .tup ts e,s=>(ge nm P sc ts (vk (kx s 1))&&okE nm P sc none e (kx s 0))&&Zx sc (XE nm P ts (vk (kx s 1))) (toE nm P e (kx s 0))
 | .swap xs e,s=>(okE nm P sc none e (kx s 0)&&ncB nm P e (kx s 0))&&eU nm sc xs (tR nm xs (vk (kx s 1))) (toE nm P e (kx s 0))
 | .ite t a b,s=>okT nm P sc none t (kx s 0)&&(Qs sc a (sb s).1&&Qs sc b (sb s).2)
 | .forS t e body,s=>okA nm P sc t (kx s 1)&&(okE nm P sc none e (kx s 0)&&Qs sc body (sb s).1)
 | .forR t y args body,s=>okA nm P sc t (kx s 1)&&(cB nm P sc P.rngs y args (kx s 0)&&Qs sc body (sb s).1)
 | .forT ts e body,s=>ge nm P sc ts (vk (kx s 1))&&(okE nm P sc none e (kx s 0)&&Qs sc body (sb s).1)
 | .two a b e,s=>(okA nm P sc a (kx s 1)&&okA nm P sc b (kx s 2))&&okE nm P sc none e (kx s 0)
 | .frz _,_=>true
 | .keep _,_=>true
 | .rowR z x elt y args,s=>(y7 nm sc z&&okE nm P sc none (.compR false x elt y args) (kx s 0))&&wB (nm z) (kx s 1) (kx s 0)
 | .tupG ts e,s=>(ge nm P sc ts (vk (kx s 1))&&okE nm P sc none e (kx s 0))&&Zx sc (XE nm P ts (vk (kx s 1))) (toE nm P e (kx s 0))
 | .rowT z x elt y args,s=>(y7 nm sc z&&okE nm P sc none (.compR false x elt y args) (kx s 0))&&wB (nm z) (kx s 1) (kx s 0)
noncomputable def Qs(sc:Scope):List IS->List Stmt->Bool
 | [],_=>true
 | i::is,ss=>cond (isG i) (Qs sc is ss) (okS sc i (nth (.Pass ps0) ss 0)&&Qs sc is (tl ss))
end
def mSs(sc:Scope)(is:List IS)(ss:List Stmt):Prop:=Qs nm P sc is ss=true/\Qz nm P is ss=ss
end
noncomputable def K6(cells:List (Str×Addr)):List (Str×NameKind)->List (Str×Addr)->Option (List (Str×Addr))
 | [],acc=>some acc
 | (n,k)::r,acc=>if k==.free then (match cells.lookup n with | some a=>K6 cells r ((n,a)::acc) | none=>none) else K6 cells r acc
set_option tactic.hygienic true in
theorem JR{env:Env}{cl:List (Str×Addr)}:∀(names:List (Str×NameKind)) (acc:List (Str×Addr)),K6 env.cells names acc=some cl ->
  (forIn (m:=Sem) names acc fun x r=>match x with | (name,kind)=>if kind==.free then do let a <- cellOf env name;pure (ForInStep.yield ((name,a)::r)) else pure (ForInStep.yield r))=pure cl
 | [],acc,h=>by cases h;rfl
 | (n,k)::r,acc,h=>by
  unfold K6 at h;rw[List.forIn_cons]
  cases hk:(k==NameKind.free) with
  | false =>
   rw[hk] at h;simp only[Du,if_false] at h
   have:=JR r acc h
   simp only[hk,Du,if_false];exact this
  | true =>
   rw[hk] at h;simp only[if_true] at h
   split at h<;>try (cases h;done)
   rename_i a e
   have:=JR r ((n,a)::acc) h
   simp only[hk,if_true];unfold cellOf;rw[e];exact this
theorem Zb(h:K6 env.cells scope.names []=some cl):closureFor scope env=pure cl:=by
 have:=JR scope.names [] h
 unfold closureFor;dsimp only;exact(congrArg (fun t=>t >>= fun cs=>(pure cs:Sem (List (Str×Addr)))) this).trans rfl
set_option tactic.hygienic true in
theorem K7{cells:List (Str×Addr)}:∀{names:List (Str×NameKind)} {acc:List (Str×Addr)},(∀p∈names,p.2=.free->∃a,cells.lookup p.1=some a)->∃cl,K6 cells names acc=some cl
 | [],acc,_=>⟨acc,rfl⟩
 | (n,k)::r,acc,h=>by
  unfold K6
  split
  ·rename_i hk
   obtain⟨a,e⟩:=h (n,k) (.head _) (by simpa using hk)
   rw[show cells.lookup n=some a from e]
   exact K7 fun p hp=>h p (.tail _ hp)
  ·exact K7 fun p hp=>h p (.tail _ hp)
set_option tactic.hygienic true in
theorem Uz{cells:List (Str×Addr)}{cl:List (Str×Addr)}:∀{names:List (Str×NameKind)} {acc:List (Str×Addr)},K6 cells names acc=some cl->(∀p∈acc,cells.lookup p.1=some p.2) ->
  (∀p∈cl,cells.lookup p.1=some p.2)/\(∀p∈acc,p∈cl) /\ ∀p∈names,p.2=.free->∃a,(p.1,a)∈cl
 | [],acc,h,ha=>by cases h;exact⟨ha,fun Z h=>h,fun Z h=>nomatch h⟩
 | (n,k)::r,acc,h,ha=>by
  unfold K6 at h
  split at h
  ·split at h<;>try (cases h;done)
   rename_i a e
   obtain⟨a1,a2,a3⟩:=Uz h fun p hp=>by
    rcases List.mem_cons.mp hp with rfl | hp
    ·exact e
    ·exact ha p hp
   refine⟨a1,fun p hp=>a2 p (.tail _ hp),fun p hp hf=>?_⟩
   rcases List.mem_cons.mp hp with rfl | hp
   ·exact⟨a,a2 _ (.head _)⟩
   ·exact a3 p hp hf
  ·rename_i hk
   refine jn (Uz h ha) fun a1 a2 a3=>?_
   refine⟨a1,a2,fun p hp hf=>?_⟩
   rcases List.mem_cons.mp hp with rfl | hp
   ·exact absurd (by simpa using hf) (by simpa using hk)
   ·exact a3 p hp hf
theorem QM:∀{l:List (Str×Addr)} {n:Str} {a:Addr},(n,a)∈l->∃b,l.lookup n=some b/\(n,b)∈l
 | (m,b)::l,n,a,h=>by
  by_cases e:n=m
  ·subst e;exact(zA b (by simp) (.head _))
  ·rcases List.mem_cons.mp h with h | h
   ·cases h;exact absurd rfl e
   ·refine zc (QM h) fun c c1 c2=>?_
    exact(zA c (by rw[Db,beq_eq_false_iff_ne.mpr e];exact c1) (.tail _ c2))
theorem JW:∀{l:List (Str×NameKind)} {n:Str} {k:NameKind},l.lookup n=some k->(n,k)∈l
 | (m,b)::l,n,k,h=>by
  by_cases e:n=m
  ·subst e;simp at h;subst h;exact .head _
  ·rw[Db,beq_eq_false_iff_ne.mpr e] at h;exact .tail _ (JW h)
theorem XW{cells:List (Str×Addr)}{names:List (Str×NameKind)}{n:Str}(h:K6 cells names []=some cl)(hn:names.lookup n=some .free):cl.lookup n=cells.lookup n:=by
 refine jn (Uz h (fun Z h=>nomatch h)) fun a1 Z a3=>?_
 refine zV (a3 _ (JW hn) rfl) fun a ha=>?_
 refine zc (QM ha) fun b b1 b2=>?_
 rw[b1,a1 _ b2]
theorem Jt{x:Str}:(relabel scope env).names.lookup x=(scope.names.lookup x).map fun k=>if (k==.free&&env.scope.kind==.function&&env.kindOf x==some .cell) then .cell else k:=by
 show(scope.names.map _).lookup x=_
 induction scope.names with
 | nil=>rfl
 | cons p r ih =>
  obtain⟨n,k⟩:=p;show List.lookup x ((if (k==NameKind.free&&env.scope.kind==.function&&env.kindOf n==some .cell)=true then (n,NameKind.cell) else (n,k))::List.map _ r)=_
  by_cases e:x=n
  ·subst e
   by_cases hc:(k==NameKind.free&&env.scope.kind==.function&&env.kindOf x==some .cell)=true
   ·rw[if_pos hc];simp only[Db,beq_self_eq_true,Option.map_some,hc,if_true]
   ·rw[if_neg hc];simp only[Db,beq_self_eq_true,Option.map_some,hc,if_false,Du]
  ·have hb:(x==n)=false:=beq_eq_false_iff_ne.mpr e
   by_cases hc:(k==NameKind.free&&env.scope.kind==.function&&env.kindOf n==some .cell)=true
   ·rw[if_pos hc];simp only[Db,hb];exact ih
   ·rw[if_neg hc];simp only[Db,hb];exact ih
structure PiOk(G:Gam)(P:Pi):Prop where
 tab:Z0 G P.tab
 tabL:n7 G P.tabL
 fnT:FnT G P.fnT
 atts:∀x∈P.atts,AttrOk G x
 cis:∀p∈P.cis,∃c,ConstOk G p.1 (.int p.2) c
 cts:∀p∈P.cts,∃c,ConstOk G p.1 (.top p.2) c
 mths:∀p∈P.mths,MethOk G p.1 p.2
 tops:∀p∈P.tops,nsIn G.K mainGlobals (G.X.nm p.1)=some (some (.ref p.2))
 gis:∀p∈P.gis,∃t,nsIn G.K mainGlobals (G.X.nm p.1)=some (some (.int p.2 t))
 blts:∀p∈P.blts,BltOk G p.1 (.builtin (match p.2 with | .len => "len" | .sum => "sum" | .divmod => "divmod" | .sumT => "sum" | .maxT => "max" | .minT => "min"))
 rngs:∀x∈P.rngs,BltOk G x (.type "range")
 enms:∀x∈P.enms,BltOk G x (.type "enumerate")
 zips:∀x∈P.zips,BltOk G x (.type "zip")
 dbg:∀x,(G.X.nm x==("__debug__" : Str))=false
 C:P.C=G.X.C
 ctor:∃fI,CtorOk G fI
structure FnEnv(G:Gam)(P:Pi)(env:Env)(sc:Scope)(L:Addr)(B3:Heap):Prop where
 V:EnvF env L
 fr:env.frame=some L
 esc:env.scope=sc
 cel:∀p∈P.cels,sc.names.lookup (G.X.nm p.1)=some .cell->CellAt G env p.1 (P.base+p.2)
 arg:∀a xs,P.arg a=some xs->∃x items,a=.top x/\B3.IsList x items.toArray/\IntsAre items xs
structure CpEnv(G:Gam)(P:Pi)(env:Env)(sc:Scope)(y:Nat×Nat):Prop where
 V:EnvG env
 glo:∀n,sc.names.lookup n=some .globalImplicit->env.kindOf n=some .globalImplicit
 cv:∀z,(Nat.beq z y.1||Nat.beq z y.2)=true->∃v,lk z P.cvs=some v/\CompVar G env.locals z v/\env.kindOf (G.X.nm z)=some .local
 cel:∀p∈P.cels,sc.names.lookup (G.X.nm p.1)=some .free->CellAt G env p.1 (P.base+p.2)
inductive EvOk(G:Gam)(P:Pi)(env:Env)(sc:Scope)(L:Addr)(B3:Heap):Option (Nat×Nat)->Prop
 | fn:FnEnv G P env sc L B3->EvOk G P env sc L B3 none
 | cp {y:Nat×Nat}:CpEnv G P env sc y->EvOk G P env sc L B3 (some y)
section
variable {P:Pi}{A:Around}{d:Nat}
theorem PiOk.pil(ok:PiOk G P)(pn:Pl):PiOk (G.pil pn) P where
 tab:=ok.tab
 tabL:=ok.tabL
 fnT:=ok.fnT
 atts:=fun x hx=>let a:=ok.atts x hx;⟨a.pg,a.hd,a.fi,a.sa,a.po,a.tk⟩
 cis:=fun p hp=>let⟨c,a⟩:=ok.cis p hp;⟨c,a.pg,a.hd,a.fi,a.ng,a.hh,a.cp,a.vr⟩
 cts:=fun p hp=>let⟨c,a⟩:=ok.cts p hp;⟨c,a.pg,a.hd,a.fi,a.ng,a.hh,a.cp,a.vr⟩
 mths:=fun p hp=>let a:=ok.mths p hp;⟨a.pg,a.hd,a.fi,a.fn,a.gf,a.tk,a.cp,a.ki,a.fk⟩
 tops:=ok.tops
 gis:=ok.gis
 blts:=fun p hp=>let a:=ok.blts p hp;⟨a.hv,a.h1,a.h2,a.h3,a.h4,a.h4c,a.hn,a.hd⟩
 rngs:=fun p hp=>let a:=ok.rngs p hp;⟨a.hv,a.h1,a.h2,a.h3,a.h4,a.h4c,a.hn,a.hd⟩
 enms:=fun p hp=>let a:=ok.enms p hp;⟨a.hv,a.h1,a.h2,a.h3,a.h4,a.h4c,a.hn,a.hd⟩
 zips:=fun p hp=>let a:=ok.zips p hp;⟨a.hv,a.h1,a.h2,a.h3,a.h4,a.h4c,a.hn,a.hd⟩
 dbg:=ok.dbg
 C:=ok.C
 ctor:=let⟨f,a⟩:=ok.ctor;⟨f,a.makes,a.init,a.fn,a.keep⟩
theorem PiOk.cv(ok:PiOk G P)(x:Nat)(v:PV):PiOk G (P.cv x v):=⟨ok.tab,ok.tabL,ok.fnT,ok.atts,ok.cis,ok.cts,ok.mths,ok.tops,ok.gis,ok.blts,ok.rngs,ok.enms,ok.zips,ok.dbg,ok.C,ok.ctor⟩
theorem PiOk.cv2(ok:PiOk G P)(x:Nat)(u:PV)(y:Nat)(v:PV):PiOk G (P.cv2 x u y v):=⟨ok.tab,ok.tabL,ok.fnT,ok.atts,ok.cis,ok.cts,ok.mths,ok.tops,ok.gis,ok.blts,ok.rngs,ok.enms,ok.zips,ok.dbg,ok.C,ok.ctor⟩
theorem Act.pil(D:Act G outer B3 env A d)(pn:Pl):Act (G.pil pn) outer B3 env A d:=⟨D.B,D.Kin,D.T,D.fr,D.hd,D.dep,D.un⟩
theorem Act.unpil{pn:Pl}(D:Act (G.pil pn) outer B3 env A d):Act G outer B3 env A d:=⟨D.B,D.Kin,D.T,D.fr,D.hd,D.dep,D.un⟩
theorem HdS.pil(hH:HdS G d H)(pn:Pl):HdS (G.pil pn) d H:=by
 intro ps f args O k h outer B3 env L A m s vs ws aws D hf hke F R hl Q hq;exact hH ps h D.unpil hf hke F R hl hq
theorem FnEnv.pil(V:FnEnv G P env sc L B3)(pn:Pl):FnEnv (G.pil pn) P env sc L B3:=⟨V.V,V.fr,V.esc,fun p hp hs=>let c:=V.cel p hp hs;⟨c.at_,c.kind⟩,V.arg⟩
theorem EvOk.V:∀{cv:Option (Nat×Nat)},EvOk G P env sc L B3 cv->EnvG env
 | _,.fn V=>V.V.toEnvG
 | _,.cp V=>V.V
theorem EvOk.glo{cv:Option (Nat×Nat)}(W:EvOk G P env sc L B3 cv)(h:WG G.X.nm sc x=true):env.kindOf (G.X.nm x)=some .globalImplicit:=by
 have h:=eq_of_beq h
 induction W with
 | fn V=>have e:=V.esc;subst e;exact h
 | cp V=>exact V.glo _ h
theorem FnEnv.loc(V:FnEnv G P env sc L B3)(h:y7 G.X.nm sc x=true):env.kindOf (G.X.nm x)=some .local:=by
 have e:=V.esc;subst e;exact eq_of_beq h
theorem FnEnv.name(V:FnEnv G P env sc L B3)(ok:PiOk G P)(h:y7 G.X.nm sc x=true):ES G A B3 L (eval (.Name (G.X.nm x) pos) env) (jS x):=
 WB V.V (V.loc h) (ok.dbg x)
theorem EvOk.cel{cv:Option (Nat×Nat)}(W:EvOk G P env sc L B3 cv)(h:dh G.X.nm P.toPm sc cv x off=true):CellAt G env x (P.base+off):=by
 have h:=za h;have h1:=List.contains_iff_mem.mp h.1
 induction W with
 | fn V=>exact V.cel _ h1 (eq_of_beq h.2)
 | cp V=>exact V.cel _ h1 (eq_of_beq h.2)
set_option tactic.hygienic true in
theorem uG{cv:Option (Nat×Nat)}{i:IE}(ok:PiOk G P)(V:EvOk G P env sc L B3 cv)(D:Act G outer B3 env' A d)(h:nmB G.X.nm P.toPm sc cv i=true):ES G A B3 L (eval (.Name (G.X.nm (nmI i)) pos) env) (pE P H i):=by
 cases i
 case loc x =>
  induction V with
  | cp=>exact ft h
  | fn V=>exact V.name ok h
 case cel c off=>exact Z9 V.V (V.cel h) (ok.dbg c)
 case cv x =>
  have h:=za h
  induction V with
  | fn=>exact ft h.1
  | cp V =>
   refine yb (V.cv x h.1) fun v e hv hk=>?_
   rw[show pE P H (.cv x)=fun O k=>k v O from by
    show(fun(O:PS) (k:KE)=>opt (lk x P.cvs) fun v=>k v O)=_
    rw[e];rfl]
   exact iM hv V.V.kind hk (ok.dbg _)
 case top x a =>
  have h:=za h;exact oX D V.V (V.glo h.1) (ok.dbg x) (ok.tops _ (List.contains_iff_mem.mp h.2))
 all_goals exact ft h
end
section
variable {P:Pi}{A:Around}{d:Nat}{csc:Scope}
structure BlkF(nm:Nat->Str)(P:Pm)(sc csc:Scope)(x:Nat):Prop where
 cell:∀y∈csc.names,y.2≠.cell
 kind:csc.kind=.function
 names:∀y∈csc.names,y.2=.local->csc.names.lookup y.1=some .local
 var:csc.names.lookup (nm x)=some .local
 free:∀y∈csc.names,y.2=.free->∃p∈P.cels,nm p.1=y.1/\sc.names.lookup y.1=some .cell
theorem um{nm:Nat->Str}{P:Pm}(h:Vn nm P sc csc x=true):BlkF nm P sc csc x:=by
 simp only[Vn,Ck,List.all_eq_true,bne_iff_ne,ne_eq,beq_iff_eq,Bool.or_eq_true] at h;refine zd h fun Cd h5=>?_;obtain⟨⟨⟨h1,h2⟩,h3⟩,h4⟩:=Cd
 refine⟨h1,h2,fun y hy e=>?_,h4,fun y hy e=>?_⟩
 ·rcases h3 y hy with h | h
  ·exact absurd e h
  ·exact h
 ·rcases h5 y hy with h | h
  ·exact absurd e h
  ·refine zc (List.any_eq_true.mp h) fun p hp hq=>?_
   simp only[Ck,beq_iff_eq] at hq;exact(yh p hp hq.1 hq.2)
theorem dD(V:FnEnv G P env sc L B3)(B:BlkF G.X.nm P.toPm sc csc x)(hcl:K6 env.cells csc.names []=some cl)(pn:Pl)(C:Addr)(v:PV)(hv:CompVar (G.pil pn) C x v):CpEnv (G.pil pn) (P.cv x v) (compEnvC csc cl C env) csc (x,x):=by
 have hk:∀n,(compEnvC csc cl C env).kindOf n=(csc.names.lookup n).map fun k=>if (k==.free&&env.scope.kind==.function&&env.kindOf n==some .cell) then .cell else k:=fun n=>Jt
 refine⟨⟨V.V.glo,V.V.blt,B.kind⟩,fun n hn=>by rw[hk,hn];rfl,fun z hz=>?_,fun p hp hs=>?_⟩
 ·obtain rfl:z=x:=by rcases(Bool.or_eq_true _ _).mp hz with h | h<;>exact Bp h
  refine(yh v ?_ hv ?_)
  ·show cond (Nat.beq z z) (some v) none=_
   rw[De];rfl
  ·have:=B.var
   show(compEnvC csc cl C env).kindOf (G.X.nm z)=_
   rw[hk,this];rfl
 ·refine yb (B.free _ (JW hs) rfl) fun q hq e1 e2=>?_
  have c:=V.cel p hp e2
  refine⟨?_,?_⟩
  ·refine zc c.at_ fun a h1 h2=>?_
   exact(zA a ((XW hcl hs).trans h1) h2)
  ·show(compEnvC csc cl C env).kindOf (G.X.nm p.1)=_
   have hs':csc.names.lookup (G.X.nm p.1)=some .free:=hs;have ck:env.kindOf (G.X.nm p.1)=some .cell:=c.kind;rw[hk,hs',ck,V.V.kind];rfl
theorem iC(V:FnEnv G P env sc L B3)(B:BlkF G.X.nm P.toPm sc csc x)(hy:csc.names.lookup (G.X.nm y)=some .local)(hne:x≠y)(hcl:K6 env.cells csc.names []=some cl)(pn:Pl)(C:Addr)(u v:PV)(hu:CompVar (G.pil pn) C x u)(hv:CompVar (G.pil pn) C y v):CpEnv (G.pil pn) (P.cv2 x u y v) (compEnvC csc cl C env) csc (x,y):=by
 have hk:∀n,(compEnvC csc cl C env).kindOf n=(csc.names.lookup n).map fun k=>if (k==.free&&env.scope.kind==.function&&env.kindOf n==some .cell) then .cell else k:=fun n=>Jt
 have a:=dD V B hcl pn C u hu
 refine⟨a.V,a.glo,fun z hz=>?_,a.cel⟩
 have hyx:Nat.beq y x=false:=z7 (Ne.symm hne)
 rcases(Bool.or_eq_true _ _).mp hz with h | h
 ·obtain rfl:=Bp h
  refine(yh u ?_ hu ((a.cv z (by show(Nat.beq z z||Nat.beq z z)=true;rw[De];rfl)).choose_spec.2.2))
  show cond (Nat.beq z z) (some u) _=_;rw[De];rfl
 ·obtain rfl:y=z:=(Bp h).symm
  refine(yh v ?_ hv ?_)
  ·show cond (Nat.beq y x) (some u) (cond (Nat.beq y y) (some v) none)=_
   rw[hyx,De];rfl
  ·show(compEnvC csc cl C env).kindOf (G.X.nm y)=_
   rw[hk,hy];rfl
theorem cY(V:FnEnv G P env sc L B3)(B:BlkF G.X.nm P.toPm sc csc x):∃cl,K6 env.cells csc.names []=some cl/\BlkOk G env csc cl x:=by
 obtain⟨cl,h⟩:=K7 (cells:=env.cells) (names:=csc.names) (acc:=[]) fun p hp hf=>by
  refine yb (B.free p hp hf) fun q hq e1 e2=>?_
  refine zc ((V.cel q hq (by rw[e1];exact e2)).at_) fun a h1 Z=>?_
  exact⟨a,by rw[<- e1];exact h1⟩
 exact(zA cl h ⟨Zb h,B.cell,B.kind,B.names,B.var⟩)
theorem rV{kd:BK}{op:Operator}:O2 G A B3 L (binaryOp op) (oh kd op):=by
 induction kd with
 | i=>exact Vd
 | mul mt =>
  intro O k m s vs ws a b wa wb h F R Q E hq
  induction op with
  | Mult=>exact rY h F R hq
  | _=>exact False.elim h
 | add mt =>
  intro O k m s vs ws a b wa wb h F R Q E hq
  induction op with
  | Add=>exact rW h F R hq
  | _=>exact False.elim h
 | addV =>
  intro O k m s vs ws a b wa wb h F R Q E hq
  induction op with
  | Add=>exact lz h F R hq
  | _=>exact False.elim h
theorem f5{kd:CK}{op:CmpOp}(hu:A.units+64<cLine):O2 G A B3 L (compareOp op) (ow kd op):=by
 induction kd with
 | i=>exact f4
 | l=>exact vT hu
 | t=>exact vW hu
theorem iK{b:Blt}(ok:PiOk G P)(hb:(y,b)∈P.blts)(D:Act G outer B3 env' A d)(V:EnvG env)(hx:env.kindOf (G.X.nm y)=some .globalImplicit)
  (ha:EL G A B3 L env pos args Wa) (hst:args.all zT=true) (hne:args.isEmpty=false):ES G A B3 L (eval (.Call (.Name (G.X.nm y) np) args [] pos) env) (fun O k=>Wa O fun us B4=>uo b us B4 k):=by
 induction b with
 | len =>
  have o:BltOk G y (.builtin "len"):=ok.blts _ hb;show ES G A B3 L _ (fun O k=>Wa O fun us B4=>kM us B4 k)
  exact JT (Wo:=kM) o D V hx ha hst hne fun h F R hl Z Z hq=>rX h F R hl hq
 | sum =>
  have o:BltOk G y (.builtin "sum"):=ok.blts _ hb;show ES G A B3 L _ (fun O k=>Wa O fun us B4=>mB us B4 k)
  exact JT (Wo:=mB) o D V hx ha hst hne fun h F R hl Z Z hq=>rZ D.hd h F R hl hq
 | divmod =>
  have o:BltOk G y (.builtin "divmod"):=ok.blts _ hb;show ES G A B3 L _ (fun O k=>Wa O fun us B4=>dmB us B4 k)
  exact JT (Wo:=dmB) o D V hx ha hst hne fun h F R hl Z Z hq=>vR h F R hl hq
 | sumT =>
  have o:BltOk G y (.builtin "sum"):=ok.blts _ hb;show ES G A B3 L _ (fun O k=>Wa O fun us B4=>one us fun a=>sumT a B4 k)
  exact JT (Wo:=fun us O k=>one us fun a=>sumT a O k) o D V hx ha hst hne fun h F R hl Z Z hq=>by
   refine zv (y8 h hl) fun a w Eh Eg g=>?_;subst Eh;subst Eg
   exact r7 D.hd g F R hq
 | maxT =>
  have o:BltOk G y (.builtin "max"):=ok.blts _ hb;show ES G A B3 L _ (fun O k=>Wa O fun us B4=>one us fun a=>mxT true a B4 k)
  exact JT (Wo:=fun us O k=>one us fun a=>mxT true a O k) o D V hx ha hst hne fun h F R hl Z Z hq=>by
   refine zv (y8 h hl) fun a w Ek Ej g=>?_;subst Ek;subst Ej
   exact nJ (big:=true) D.hd g F R hq
 | minT =>
  have o:BltOk G y (.builtin "min"):=ok.blts _ hb;show ES G A B3 L _ (fun O k=>Wa O fun us B4=>one us fun a=>mxT false a B4 k)
  exact JT (Wo:=fun us O k=>one us fun a=>mxT false a O k) o D V hx ha hst hne fun h F R hl Z Z hq=>by
   refine zv (y8 h hl) fun a w Cd Dm g=>?_;subst Cd;subst Dm
   exact nJ (big:=false) D.hd g F R hq
theorem FnEnv.harg{a:PV}{xs:List Int}{m:BB}{vs:List PV}(V:FnEnv G P env sc L B3)(e:P.arg a=some xs)(F:Fr B3 L h m)(R:RL G.X B3 L h m O (a::vs) (wa::ws)):∃x items,wa=.ref x/\h.IsList x items.toArray/\IntsAre items xs:=by
 refine zv (V.arg a xs e) fun x items Cd hl hi=>?_;subst Cd
 obtain rfl:=R.top;refine zc hl fun o h1 h2=>?_
 exact(jx x items rfl (zA o (F.keep _ _ h1) h2) hi)
end
def CtS(G:Gam)(d:Nat)(P:Pi):Prop:=∃d' fI,d=d'+1/\CtorOk G fI/\yV G d' fI (Yb P.n1 P.n2) P.ctr
theorem yV.pil{d:Nat}{S:List PV->List PO->(PV->List PO->Prop)->Prop}(h:yV G d f ca S)(pn:Pl):yV (G.pil pn) d f ca S:=by
 intro ps args O k hs outer B3 env L A m s vs ws aws D hf hke F R hl Q hq;exact h ps hs D.unpil hf hke F R hl hq
theorem CtS.pil{d:Nat}{P:Pi}(h:CtS G d P)(pn:Pl):CtS (G.pil pn) d P:=let⟨d',f,e,a,b⟩:=h;(jx d' f e ⟨a.makes,a.init,a.fn,a.keep⟩ (b.pil pn))
structure Sc where
 G:Gam
 P:Pi
 H:Hd
 A:Around
 B3:Heap
 L:Addr
 outer:List Env
 d:Nat
 env:Env
 env':Env
 sc:Scope
 cv:Option (Nat×Nat)
structure Sx(c:Sc):Prop where
 ok:PiOk c.G c.P
 hH:HdS c.G c.d c.H
 hC:CtS c.G c.d c.P
 h9:9<=c.d
 D:Act c.G c.outer c.B3 c.env' c.A c.d
 V:EvOk c.G c.P c.env c.sc c.L c.B3 c.cv
 he:c.cv=none->c.env'=c.env
abbrev Sc.es(c:Sc)(e:Expr)(W:PS->KE->Prop):Prop:=ES c.G c.A c.B3 c.L (eval e c.env) W
abbrev Sc.ts(c:Sc)(e:Expr)(W:PS->KB->Prop):Prop:=TS c.G c.A c.B3 c.L (isTrue e c.env (eval e c.env)) W
def Sc.okE(c:Sc)(i:IE)(e:Expr):Prop:=Mine.okE c.G.X.nm c.P.toPm c.sc c.cv i e=true
def Sc.okT(c:Sc)(i:IE)(e:Expr):Prop:=Mine.okT c.G.X.nm c.P.toPm c.sc c.cv i e=true
def Sc.okEs(c:Sc)(i:List IE)(e:List Expr):Prop:=Mine.okEs c.G.X.nm c.P.toPm c.sc c.cv i e=true
noncomputable def Sc.toE(c:Sc)(i:IE)(e:Expr):Expr:=Mine.toE c.G.X.nm c.P.toPm i e
noncomputable def Sc.toEs(c:Sc)(i:List IE)(e:List Expr):List Expr:=Mine.toEs c.G.X.nm c.P.toPm i e
def ME(i:IE):Prop:=∀(c:Sc),Sx c->∀e,c.okE i e->c.es (c.toE i e) (pE c.P c.H i)
def MT(i:IE):Prop:=∀(c:Sc),Sx c->∀e,c.okT i e->c.ts (c.toE i e) (pT c.P c.H i)
def MO(i:Option IE):Prop:=∀(c:Sc),Sx c->∀e,okO c.G.X.nm c.P.toPm c.sc c.cv i e=true->ES c.G c.A c.B3 c.L (valueOrNone (evalOpt (toO c.G.X.nm c.P.toPm i e) c.env)) (pO c.P c.H i)
def MEs(is:List IE):Prop:=∀(c:Sc),Sx c->∀es pos,c.okEs is es->EL c.G c.A c.B3 c.L c.env pos (c.toEs is es) (pEs c.P c.H is)
def MAV(is:List IE):Prop:=∀(c:Sc),Sx c->∀es pos,c.okEs is es->ES c.G c.A c.B3 c.L (eval (.BoolOp .And (c.toEs is es) pos) c.env) (nN c.P c.H is)
def MAn(is:List IE):Prop:=∀(c:Sc),Sx c->∀es pos w,gh c.G.X.nm c.P.toPm c.sc c.cv is es=true->TS c.G c.A c.B3 c.L (isTrue (.BoolOp .And (c.toEs is es) pos) c.env w) (sK c.P c.H is)
def MOr(is:List IE):Prop:=∀(c:Sc),Sx c->∀es pos w,gh c.G.X.nm c.P.toPm c.sc c.cv is es=true->TS c.G c.A c.B3 c.L (isTrue (.BoolOp .Or (c.toEs is es) pos) c.env w) (pOr c.P c.H is)
theorem Sx.un{c:Sc}(X:Sx c):c.A.units+64<cLine:=by
 have h:=X.D.un;have h9:=X.h9
 lia
theorem J1{nm:Nat->Str}{P:Pm}(i:IE)(e:Expr):zT (toE nm P i e)=true:=by cases i<;>rfl
theorem V4{nm:Nat->Str}{P:Pm}(i:IE)(e:Expr):KI (toE nm P i e)=true:=by cases i<;>rfl
theorem Ug{nm:Nat->Str}{P:Pm}(i:IE)(e:Expr):Vb (toE nm P i e)=true:=by cases i<;>rfl
theorem jr{nm:Nat->Str}{P:Pm}:∀(is:List IE) (es:List Expr),(toEs nm P is es).all zT=true
 | [],_=>rfl
 | i::is,es=>by
  show(zT _&&(toEs nm P is (tl es)).all zT)=true
  rw[J1,jr is];rfl
theorem qe{nm:Nat->Str}{P:Pm}:∀(is:List IE) (es:List Expr),is.isEmpty=(toEs nm P is es).isEmpty
 | [],_=>rfl
 | i::is,es=>rfl
theorem Jp{b:Bool}(h:(!b)=true):b=false:=(Cq b).mp h
section
variable {c:Sc}(X:Sx c)
include X
theorem Sx.fn(h:c.cv.isNone=true):FnEnv c.G c.P c.env c.sc c.L c.B3/\c.env'=c.env:=by
 have he:=X.he (Option.isNone_iff_eq_none.mp h);have V:=X.V;rw[Option.isNone_iff_eq_none.mp h] at V
 cases V with
 | fn V=>exact⟨V,he⟩
theorem Sx.Dn(h:c.cv.isNone=true):Act c.G c.outer c.B3 c.env c.A c.d:=(X.fn h).2▸X.D
theorem Sx.nm{i:IE}(e:Expr)(h:nmB c.G.X.nm c.P.toPm c.sc c.cv i=true):c.es (nE c.G.X.nm (nmI i) e) (pE c.P c.H i):=uG X.ok X.V X.D h
theorem Sx.att{e:Expr}{Wo:PV->PS->KE->Prop}(h:c.cv.isNone=true)(hx:y7 c.G.X.nm c.sc x=true)(ho:O1 c.G c.A c.B3 c.L (fun o=>getAttr o (c.G.X.nm y) true) Wo):c.es (aE c.G.X.nm x y e) (fun O k=>jS x O fun a B4=>Wo a B4 k):=
 Q5 ((X.fn h).1.name X.ok hx) ho
theorem Sx.inner{csc:Scope}(h:c.cv.isNone=true)(hb:Vn c.G.X.nm c.P.toPm c.sc csc x=true):∃cl,BlkOk c.G c.env csc cl x /\ ∀(pn:Pl) (C:Addr) (v:PV),CompVar (c.G.pil pn) C x v ->
  Sx ⟨c.G.pil pn,c.P.cv x v,c.H,c.A,c.B3,c.L,c.outer,c.d,compEnvC csc cl C c.env,c.env',csc,some (x,x)⟩:=by
 have B:=um hb;have V:=(X.fn h).1;refine zc (cY V B) fun cl hcl BO=>?_
 exact(zA cl BO (fun pn C v hv=>⟨(X.ok.pil pn).cv x v,X.hH.pil pn,X.hC.pil pn,X.h9,X.D.pil pn,.cp (dD V B hcl pn C v hv),fun e=>nomatch e⟩))
end
theorem Sx.inner2{c:Sc}(X:Sx c){csc:Scope}(h:c.cv.isNone=true)(hb:(Vn c.G.X.nm c.P.toPm c.sc csc x&&(y7 c.G.X.nm csc y&&c.G.X.nm x !=c.G.X.nm y))=true):∃cl,BlkE c.G c.env csc cl x y /\ ∀(pn:Pl) (C:Addr) (u v:PV),CompVar (c.G.pil pn) C x u->CompVar (c.G.pil pn) C y v ->
  Sx ⟨c.G.pil pn,c.P.cv2 x u y v,c.H,c.A,c.B3,c.L,c.outer,c.d,compEnvC csc cl C c.env,c.env',csc,some (x,y)⟩:=by
 refine byc fun Ea=>?_
 refine zd (za hb) fun h1 h2=>?_
 refine zd (za h2) fun h2 h3=>?_
 have hy:csc.names.lookup (c.G.X.nm y)=some .local:=eq_of_beq h2;have hne:c.G.X.nm x≠c.G.X.nm y:=bne_iff_ne.mp h3;have B:=um h1;have V:=(X.fn h).1;refine zc (cY V B) fun cl hcl BO=>?_
 refine Ea ?_;exact(zA cl ⟨BO,hy,hne⟩ (fun pn C u v hu hv=>⟨(X.ok.pil pn).cv2 x u y v,X.hH.pil pn,X.hC.pil pn,X.h9,X.D.pil pn,.cp (iC V B hy (fun e=>hne (congrArg _ e)) hcl pn C u v hu hv),fun e=>nomatch e⟩))
theorem fx{kd:BK}{op:Operator}{l r:IE}(hl:ME l)(hr:ME r):ME (.bin kd op l r):=fun c X e h=>JS (hl c X _ (za h).1) (hr c X _ (za h).2) (rV (kd:=kd))
theorem vD{op:UnaryOp}{a:IE}(ha:ME a):ME (.un op a):=fun c X e h=>nj (W:=pE c.P c.H a) (ha c X _ h) vX
theorem rx{kd:CK}{op:CmpOp}{l r:IE}(hl:ME l)(hr:ME r):ME (.cmp kd op l r):=fun c X e h=>oO (hl c X _ (za (za h).2).1) (hr c X _ (za (za h).2).2) (f5 (kd:=kd) X.un) (Jp (za h).1)
theorem ry{t a b:IE}(ht:MT t)(ha:ME a)(hb:ME b):ME (.ite t a b):=fun c X e h=>oP (ht c X _ (za h).1) (ha c X _ (za (za h).2).1) (hb c X _ (za (za h).2).2)
theorem aG:ME (.attr x y):=fun c X e h=>X.att (za h).1 (za (za h).2).1 (Xr X.D (X.ok.atts _ (List.contains_iff_mem.mp (za (za h).2).2)))
theorem kS{i:Int}:ME (.cint x y i):=fun c X e h=>let⟨_,hc⟩:=X.ok.cis _ (List.contains_iff_mem.mp (za (za h).2).2);X.att (za h).1 (za (za h).2).1 (Xs X.D hc)
theorem kT{a:Addr}:ME (.ctop x y a):=fun c X e h=>let⟨_,hc⟩:=X.ok.cts _ (List.contains_iff_mem.mp (za (za h).2).2);X.att (za h).1 (za (za h).2).1 (Xs X.D hc)
theorem kX:ME (.meth x y g):=fun c X e h=>X.att (za h).1 (za (za h).2).1 (ly X.D (X.ok.mths _ (List.contains_iff_mem.mp (za (za h).2).2)))
theorem fD{args:List IE}(ha:MEs args):ME (.mcall x y g args):=fun c X e h=>by
 refine byc fun Ea=>?_
 obtain⟨h0,h⟩:=za h;obtain⟨h1,h⟩:=za h;obtain⟨h2,h⟩:=za h;obtain⟨h3,h4⟩:=za h;have V:=(X.fn h0).1;refine Ea ?_;exact UD X.hH (X.Dn h0) V.fr V.V.kind (X.ok.mths _ (List.contains_iff_mem.mp (za h1).2)) (V.name X.ok (za h1).1) (ha c X _ _ h2) (of_decide_eq_true h3) (Bs h4) (jr _ _)
theorem fy{g:IE}{args:List IE}(hg:ME g)(ha:MEs args):ME (.callv g args):=fun c X e h=>by
 obtain⟨h0,h⟩:=za h;obtain⟨h1,h⟩:=za h;obtain⟨h2,h3⟩:=za h;have V:=(X.fn h0).1;exact dM X.hH (X.Dn h0) V.fr V.V.kind X.ok.fnT (hg c X _ h1) (ha c X _ _ h2) (jr _ _) h3 (qe _ _)
theorem rA{a i:IE}(ha:ME a)(hi:ME i):ME (.sub a i):=fun c X e h=>oW (ha c X _ (za h).1) (hi c X _ (za h).2) (vU X.D X.ok.tab (V4 _ _))
theorem kW{mt:Bool}{es:List IE}(h:MEs es):ME (.list mt es):=fun c X e q=>iP (mt:=mt) (h c X _ _ q)
theorem rB{es:List IE}(h:MEs es):ME (.tup es):=fun c X e q=>oY (h c X _ _ q)
theorem fE{mt:Bool}{v:IE}{lo:Option IE}(hv:ME v)(hl:MO lo)(hh:MO hi):ME (.slice mt v lo hi):=fun c X e h=>by
 obtain⟨h0,h⟩:=za h;obtain⟨h1,h2⟩:=za h;exact dR (arg:=c.P.arg) (mt:=mt) (hv c X _ h1) (hl c X _ (za h2).1) (hh c X _ (za h2).2) (X.fn h0).1.harg
theorem rv{b:Blt}{args:List IE}(ha:MEs args):ME (.blt b y args):=fun c X e h=>by
 obtain⟨h1,h2⟩:=za h;exact iK X.ok (List.contains_iff_mem.mp (za h1).2) X.D X.V.V (X.V.glo (za h1).1) (ha c X _ _ (za h2).1) (jr _ _) ((qe _ _).symm.trans (Jp (za h2).2))
theorem fB{mt:Bool}{elt iter:IE}(hi:ME iter)(hl:ME elt):ME (.compL mt x elt iter):=fun c X e h=>by
 refine byc fun Ea=>?_
 refine zd (za h) fun h0 h=>?_
 refine zd (za h) fun h1 h=>?_
 refine zc (X.inner h0 h1) fun cl B I=>?_
 refine Ea ?_;exact dP (mt:=mt) X.D.hd B (hi c X _ (za h).1) (fun pn C v hv=>hl _ (I pn C v hv) _ (za h).2) (Ug _ _)
theorem bV{o a:IE}(ha:ME a):ME (.append o a):=fun c X e h=>bB (X.nm _ (za (za h).1).1) (ha c X _ (za (za h).1).2) (of_decide_eq_true (za h).2) (J1 _ _)
theorem kU{q a b:IE}(ha:ME a)(hb:ME b):ME (.ctor q a b):=fun c X e h=>by
 refine byc fun Ea=>?_
 refine zd (za h) fun h0 h=>?_
 refine zd (za h) fun h1 h=>?_
 have V:=(X.fn h0).1;refine zv X.hC fun d' fI e1 e2 e3=>?_
 have D:=e1▸X.Dn h0;refine Ea ?_;show c.es _ (fun O k=>pE c.P c.H q O fun v F9=>mI c.P.C v (pE c.P c.H a F9 fun a B4=>pE c.P c.H b B4 fun b B6=>Z6 c.P.ctr a b B6 k))
 rw[X.ok.C];exact iL e3 D V.fr V.V.kind e2 (X.nm _ h1) (ha c X _ (za h).1) (hb c X _ (za h).2)
theorem rz{mt:Bool}{a:IE}(ha:ME a):ME (.rev mt a):=fun c X e h=>oR (mt:=mt) (ha c X _ h)
theorem kR:ME (.argL x y):=fun c X e h=>by
 obtain⟨h1,h2⟩:=za h;exact iJ (X.ok.blts _ (List.contains_iff_mem.mp (za h1).2)) X.D X.V.V (X.V.glo (za h1).1) (X.fn (za h2).1).1.harg ((X.fn (za h2).1).1.name X.ok (za h2).2)
theorem fA{mt:Bool}{elt iter:IE}(hi:ME iter)(hl:ME elt):ME (.compG mt x elt iter):=fun c X e h=>by
 refine byc fun Ea=>?_
 refine zd (za h) fun h0 h=>?_
 refine zd (za h) fun h1 h=>?_
 refine zc (X.inner h0 h1) fun cl B I=>?_
 refine Ea ?_;exact dO (mt:=mt) X.D X.ok.tabL B (hi c X _ (za h).1) (fun pn C v hv=>hl _ (I pn C v hv) _ (za h).2) (Ug _ _)
theorem Yz{mt:Bool}{ct elt:IE}{args:List IE}(hc:MT ct)(hl:ME elt)(ha:MEs args):ME (.compT mt x ct elt y args):=fun c X e h=>by
 refine byc fun Ea=>?_
 refine zd (za h) fun h0 h=>?_
 refine zd (za h) fun h1 h=>?_
 refine zd (za h) fun h h4=>?_
 refine zd (za h) fun h2 h3=>?_
 refine zc (X.inner h0 h1) fun cl B I=>?_
 refine Ea ?_;exact dQ (mt:=mt) (X.ok.rngs _ (List.contains_iff_mem.mp (za h2).2)) X.D X.V.V (X.V.glo (za h2).1) B (ha c X _ _ (za h3).1) (jr _ _) ((qe _ _).symm.trans (Jp (za h3).2)) (fun pn C v hv=>hc _ (I pn C v hv) _ (za h4).1) (fun pn C v hv=>hl _ (I pn C v hv) _ (za h4).2)
theorem fz{mt:Bool}{elt:IE}{args:List IE}(hl:ME elt)(ha:MEs args):ME (.compE mt x y elt z args):=fun c X e h=>by
 refine byc fun Ea=>?_
 refine zd (za h) fun h0 h=>?_
 refine zd (za h) fun h1 h=>?_
 refine zd (za h) fun h h4=>?_
 refine zd (za h) fun h2 h3=>?_
 refine zc (X.inner2 h0 h1) fun cl B I=>?_
 refine Ea ?_;exact dN (mt:=mt) (X.ok.enms _ (List.contains_iff_mem.mp (za h2).2)) X.D X.V.V (X.V.glo (za h2).1) B (ha c X _ _ (za h3).1) (jr _ _) ((qe _ _).symm.trans (Jp (za h3).2)) (fun pn C u v hu hv=>hl _ (I pn C u v hu hv) _ h4)
theorem fO{mt:Bool}{ct elt:IE}{args:List IE}(hc:MT ct)(hl:ME elt)(ha:MEs args):MT (.compT mt x ct elt y args):=fun c X e h=>qf (Yz (mt:=mt) hc hl ha c X e h) rfl
theorem rN{kd:CK}{op:CmpOp}{l r:IE}(hl:ME l)(hr:ME r):MT (.cmp kd op l r):=fun c X e h=>tU (hl c X _ (za (za h).2).1) (hr c X _ (za (za h).2).2) (f5 (kd:=kd) X.un) (Jp (za h).1)
theorem fN{G5 G6:CmpOp}{l a b:IE}(hl:ME l)(ha:ME a)(hb:ME b):MT (.chain G5 G6 l a b):=fun c X e h=>gQ (hl c X _ (za (za h).2).1) (ha c X _ (za (za (za h).2).2).1) (hb c X _ (za (za (za h).2).2).2) f4 f4 (Jp (za h).1)
theorem rL{es:List IE}(h:MAn es):MT (.and es):=fun c X e q=>h c X _ _ _ q
theorem vG{es:List IE}(h:MOr es):MT (.or es):=fun c X e q=>h c X _ _ _ q
theorem nF{i:IE}(hp:∀(c:Sc) e,c.toE i e=nE c.G.X.nm (nmI i) e)(hq:∀P H,pT P H i=fun O k=>pE P H i O fun a B4=>ju a B4 k)(ho:∀(c:Sc) e,c.okT i e->nmB c.G.X.nm c.P.toPm c.sc c.cv i=true):MT i:=fun c X e h=>by
 rw[hp,hq];exact qf (X.nm e (ho c e h)) rfl
theorem rM{kd:BK}{op:Operator}{l r:IE}(hl:ME l)(hr:ME r):MT (.bin kd op l r):=fun c X e h=>qf (fx (kd:=kd) hl hr c X e h) rfl
theorem lj:MT (.attr x y):=fun c X e h=>qf (aG c X e h) rfl
theorem aH:MEs []:=fun c X es pos h=>Wy
theorem YA{i:IE}{is:List IE}(hi:ME i)(hs:MEs is):MEs (i::is):=fun c X es pos h=>Q4 (hi c X _ (za h).1) (hs c X _ _ (za h).2) (J1 _ _)
theorem fv{i:IE}{is:List IE}(hi:ME i)(hs:MAV is):MAV (i::is):=fun c X es pos h=>by
 have h1:=hi c X _ (za h).1
 induction is with
 | nil=>exact dL h1
 | cons j js=>exact oN h1 (hs c X _ pos (za h).2)
theorem fq{i:IE}{is:List IE}(hi:MT i)(hs:MAn is):MAn (i::is):=fun c X es pos w h=>tT (hi c X _ (za h).1) (hs c X _ _ _ (za h).2)
theorem fH{i:IE}{is:List IE}(hi:MT i)(hs:MOr is):MOr (i::is):=fun c X es pos w h=>xp (hi c X _ (za h).1) (hs c X _ _ _ (za h).2)
theorem aK:MO none:=fun c X e h O k m s vs ws hw F R Q E hq=>wpAny_pure (hq .none _ _ .none _ hw (SR.refl _ _) F (R.push K0))
theorem ch:∀i,ME i/\MT i:=by
 have f {c:Sc} {e:Expr} {P:Prop} (h:false=true):P:=ft h;refine IE.rec (motive_1:=fun i=>ME i/\MT i) (motive_2:=fun is=>MEs is/\MAV is/\MAn is/\MOr is) (motive_3:=fun o=>MO o)
  (fun i=>⟨fun c X e h=>WA,fun c X e h=>qf WA rfl⟩)
  ⟨fun c X e h=>aa,fun c X e h=>qf aa rfl⟩
  (fun b=>⟨fun c X e h=>Z8,fun c X e h=>qf Z8 rfl⟩)
  (fun x=>⟨fun c X e h=>oV,fun c X e h=>ft h⟩)
  (fun x=>⟨fun c X e h=>X.nm e h,nF (fun Z Z=>rfl) (fun Z Z=>rfl) fun Z Z h=>h⟩)
  (fun x o=>⟨fun c X e h=>X.nm e h,nF (fun Z Z=>rfl) (fun Z Z=>rfl) fun Z Z h=>h⟩)
  (fun x=>⟨fun c X e h=>X.nm e h,fun c X e h=>ft h⟩)
  (fun x a=>⟨fun c X e h=>X.nm e h,fun c X e h=>ft h⟩)
  (fun kd op l r hl hr=>⟨fx hl.1 hr.1,rM hl.1 hr.1⟩)
  (fun op a ha=>⟨vD ha.1,fun c X e h=>ft h⟩)
  (fun kd op l r hl hr=>⟨rx hl.1 hr.1,rN hl.1 hr.1⟩)
  (fun G5 G6 l a b hl ha hb=>⟨fun c X e h=>ft h,fN hl.1 ha.1 hb.1⟩)
  (fun es h=>⟨fun c X e h=>ft h,rL h.2.2.1⟩)
  (fun es h=>⟨fun c X e h=>ft h,vG h.2.2.2⟩)
  (fun t a b ht ha hb=>⟨ry ht.2 ha.1 hb.1,fun c X e h=>ft h⟩)
  (fun x y=>⟨aG,lj⟩)
  (fun x y i=>⟨kS,fun c X e h=>ft h⟩)
  (fun x y a=>⟨kT,fun c X e h=>ft h⟩)
  (fun x y g=>⟨kX,fun c X e h=>ft h⟩)
  (fun x y g args h=>⟨fD h.1,fun c X e h=>ft h⟩)
  (fun g args hg h=>⟨fy hg.1 h.1,fun c X e h=>ft h⟩)
  (fun a i ha hi=>⟨rA ha.1 hi.1,fun c X e h=>ft h⟩)
  (fun mt es h=>⟨kW h.1,fun c X e h=>ft h⟩)
  (fun es h=>⟨rB h.1,fun c X e h=>ft h⟩)
  (fun mt v lo hi hv hl hh=>⟨fE hv.1 hl hh,fun c X e h=>ft h⟩)
  (fun b y args h=>⟨rv h.1,fun c X e h=>ft h⟩)
  (fun mt x elt iter hl hi=>⟨fB hi.1 hl.1,fun c X e h=>ft h⟩)
  (fun mt x elt y args hl ha=>⟨fun c X e h O k m s vs ws hw=>hw.elim,fun c X e h=>ft h⟩)
  (fun o a ho ha=>⟨bV ha.1,fun c X e h=>ft h⟩)
  (fun q a b hq ha hb=>⟨kU ha.1 hb.1,fun c X e h=>ft h⟩)
  (fun mt a ha=>⟨rz ha.1,fun c X e h=>ft h⟩)
  (fun mt x elt iter hl hi=>⟨fA hi.1 hl.1,fun c X e h=>ft h⟩)
  (fun mt x ct elt y args hc hl ha=>⟨Yz hc.2 hl.1 ha.1,fO hc.2 hl.1 ha.1⟩)
  (fun mt x y elt z args hl ha=>⟨fz hl.1 ha.1,fun c X e h=>ft h⟩)
  (fun x y=>⟨kR,fun c X e h=>ft h⟩)
  ⟨aH,fun c X es pos h O k m s vs ws hw F R Q E hq=>hw.elim,fun c X es pos w h=>mL,fun c X es pos w h=>tV⟩
  (fun i is hi hs=>⟨YA hi.1 hs.1,fv hi.1 hs.2.1,fq hi.2 hs.2.2.1,fH hi.2 hs.2.2.2⟩)
  aK
  (fun i hi c X e h=>hi.1 c X e h)
theorem sO:∀o,MO o
 | none=>aK
 | some i=>fun c X e h=>(ch i).1 c X e h
theorem sEs:∀is,MEs is
 | []=>aH
 | i::is=>YA (ch i).1 (sEs is)
section
variable {P:Pi}{A:Around}{d:Nat}
theorem cn{kd:Nat}:swapsWith value (some (.Tuple S4 kd tp)) line env=pure false:=by cases value<;>rfl
theorem bg{ts:List Expr}{v:Expr}{kd:Nat}:swappedStores [.Tuple ts kd tp] v env=swappedStores [.Tuple ts 0 ps0] v (swE env.scope):=by
 cases v<;>rfl
theorem VO{ts:List Expr}{v:Expr}{kd:Nat}(h:Zx sc ts v=true)(hs:env.scope=sc):swappedStores [.Tuple ts kd tp] v env=pure none:=by
 subst hs;refine zc (gb h) fun r e hr=>?_
 obtain rfl:=Option.isNone_iff_eq_none.mp hr;exact bg.trans e
theorem bQ{nm:Nat->Str}{xs:List Nat}{ts:List Expr}{v:Expr}{kd:Nat}(h:eU nm sc xs ts v=true)(hs:env.scope=sc):swappedStores [.Tuple ts kd tp] v env=pure (some (xs.map nm)) /\ ∀x∈xs,sc.names.lookup (nm x)=some .local:=by
 subst hs;refine zd (za h) fun h h9=>?_
 refine zc (gb h) fun r e hr=>?_
 obtain rfl:=eq_of_beq hr
 exact⟨bg.trans e,fun x hx=>eq_of_beq (List.all_eq_true.mp h9 x hx)⟩
theorem a7{kd:Nat}(he:ES G A B3 L (eval value env) We)(hT:AS G A B3 L (assign (.Tuple S4 kd tp) env) Wt)(hw:swappedStores [.Tuple S4 kd tp] value env=pure none):
  SS G A B3 L (exec (.Assign [.Tuple S4 kd tp] value pos) env) (fun O k=>We O fun v B4=>Wt v B4 (k .next)):=by
 intro O k m s vs ws h F R Q E hq;exact Assign_Tuple (he h F R fun v B4 C3 E7 B7 B5 B8 C2 C1=>hT B5 C2 C1 fun B6 C6 B9 C5 C4 C9 D0=>hq.next B6 C6 B9 C5 (B8.rest.trans C4) C9 D0) (show swapsWith value (some (.Tuple S4 kd tp)) pos.line env=pure false from cn) hw
theorem tF{F7 O6:Expr}{W1 W2:PV->PS->KS->Prop}(he:ES G A B3 L (eval value env) We)(h1:AS G A B3 L (assign F7 env) W1)(h2:AS G A B3 L (assign O6 env) W2)(hn:[F7,O6].all zT=true):
  SS G A B3 L (exec (.Assign [F7,O6] value pos) env) (fun O k=>We O fun v B4=>W1 v B4 fun B6=>W2 v B6 (k .next)):=by
 intro O k m s vs ws h F R Q E hq;refine wpAny_Assign_two (he h F R fun v B4 C3 E7 B7 g₁ B8 C2 C1=>?_) (by rw[ja hn];rfl) (by cases F7<;>rfl)
 have R1:RL G.X B3 L B7.heap C3 B4 (v::v::vs) (E7::E7::ws):=C1.stack fun ρ frz q=>by
  refine zv q.cons_inv fun Z Z e x Z=>?_
  cases e
  exact VRs.cons x q
 exact h1 g₁ C2 R1 fun B6 C6 B9 g₂ C4 C9 D0=>h2 g₂ C9 D0 fun C7 E5 D8 g₃ D7 D9 D6=>hq.next C7 E5 D8 g₃ ((B8.rest.trans C4).trans D7) D9 D6
set_option tactic.hygienic true in
theorem tA{ss:List Stmt}{W:PS->KF->Prop}(hs:SS G A B3 L (execs ss env) W):SS G A B3 L (execs ss env) (fun O k=>uN x O fun σ'=>W σ' k):=by
 intro O k m s vs ws h F R Q E hq;refine byc fun Ea=>?_
 refine zc (zG h) fun v e g=>?_
 refine Ea ?_;refine zc (JB g) fun j Dm g=>?_;subst Dm
 refine byc fun Ef=>?_
 refine zc (zG g) fun o eo g=>?_
 refine zc (zG g) fun u eu g=>?_
 refine Ef ?_;clear h;have h:=zJ.mp (j6.mp g);clear g;refine hs h F ?_ hq;refine byc fun El=>?_
 refine zh R fun ρ led frz q=>?_
 refine zc (q.loc x _ e) fun w hw hv=>?_
 refine El ?_;refine zc hv fun a' ea Cd=>?_;subst Cd
 refine byc fun Em=>?_
 refine zh (q.thing eo eu) fun a b pre Ee=>yb Ee fun post e1 e3 e4=>?_
 refine Em ?_;rw[e1] at ea
 cases ea
 refine(zk ρ _ _ ⟨e4.hr,e4.all,e4.nd,e4.off,e4.offp,e4.kept,fun k' v' ek=>?_,e4.stk⟩)
 have ek':lk k' (st x u O.loc)=some v':=ek;rw[Yx] at ek'
 split at ek'
 ·rename_i eq
  subst eq
  cases ek'
  exact(zA _ hw e3)
 ·exact e4.loc k' v' ek'
theorem YI:∀{xs:List Nat} {l:List (Nat×PV)} {c:List (Nat×PV)->Prop},aR xs l c->∃l',c l' /\ ∀k v,lk k l'=some v->lk k l=some v
 | [],_,_,h=>(zA ([]) h (fun Z Z e=>nomatch e))
 | x::xs,l,c,h=>by
  refine zc (zG h) fun v e h=>?_
  have hx:=YI h;clear h;refine zc hx fun l' h1 h2=>?_
  refine(zA ((x,v)::l') h1 (fun k u eu=>?_))
  replace eu:cond (Nat.beq k x) (some v) (lk k l')=some u:=eu
  cases q:Nat.beq k x with
  | true=>rw[q] at eu;obtain rfl:=Bp q;cases eu;exact e
  | false=>rw[q] at eu;exact h2 k u eu
theorem mo{xs:List Nat}{ss:List Stmt}{W:PS->KF->Prop}(hs:SS G A B3 L (execs ss env) W):SS G A B3 L (execs ss env) (fun O k=>nl xs O fun σ'=>W σ' k):=by
 intro O k m s vs ws h F R Q E hq;refine byc fun Ea=>?_
 obtain⟨l,hp⟩:=O;have hx:=YI h;clear h;refine zc hx fun l' h1 h2=>?_
 refine zh R fun ρ led frz q=>?_
 refine Ea ?_;exact hs h1 F (zk ρ led frz ⟨q.hr,q.all,q.nd,q.off,q.offp,q.kept,fun k' v' ek=>q.loc k' v' (h2 k' v' ek),q.stk⟩) hq
end
abbrev Sc.ss(c:Sc)(s:Stmt)(W:PS->KF->Prop):Prop:=SS c.G c.A c.B3 c.L (exec s c.env) W
structure Sy(c:Sc):Prop extends Sx c where
 cv0:c.cv=none
 ee:c.env'=c.env
theorem Sy.fn{c:Sc}(X:Sy c):FnEnv c.G c.P c.env c.sc c.L c.B3:=(X.toSx.fn (by rw[X.cv0];rfl)).1
theorem Sy.Dn{c:Sc}(X:Sy c):Act c.G c.outer c.B3 c.env c.A c.d:=X.ee▸X.D
noncomputable def Sc.pil(c:Sc)(pn:Pl):Sc:={ c with G:=c.G.pil pn }
theorem Sy.pil{c:Sc}(X:Sy c)(pn:Pl):Sy (c.pil pn):=
 have V:=X.fn
 ⟨⟨X.ok.pil pn,X.hH.pil pn,X.hC.pil pn,X.h9,X.D.pil pn,(by show EvOk _ _ _ _ _ _ c.cv;rw[X.cv0];exact .fn (V.pil pn)),X.he⟩,X.cv0,X.ee⟩
section
variable {c:Sc}(X:Sy c)
include X
theorem Sy.e{i:IE}{e:Expr}(h:okE c.G.X.nm c.P.toPm c.sc none i e=true):c.es (toE c.G.X.nm c.P.toPm i e) (pE c.P c.H i):=(ch i).1 c X.toSx e (by rw[<- X.cv0] at h;exact h)
theorem Sy.o{i:Option IE}{e:Expr}(h:okO c.G.X.nm c.P.toPm c.sc none i e=true):ES c.G c.A c.B3 c.L (valueOrNone (evalOpt (toO c.G.X.nm c.P.toPm i e) c.env)) (pO c.P c.H i):=(sO i) c X.toSx e (by rw[<- X.cv0] at h;exact h)
theorem Sy.t{i:IE}{e:Expr}(h:okT c.G.X.nm c.P.toPm c.sc none i e=true):c.ts (toE c.G.X.nm c.P.toPm i e) (pT c.P c.H i):=(ch i).2 c X.toSx e (by rw[<- X.cv0] at h;exact h)
theorem Sy.es{is:List IE}{es:List Expr}{pos:Pos}(h:okEs c.G.X.nm c.P.toPm c.sc none is es=true):EL c.G c.A c.B3 c.L c.env pos (toEs c.G.X.nm c.P.toPm is es) (pEs c.P c.H is):=sEs is c X.toSx es pos (by rw[<- X.cv0] at h;exact h)
theorem Sy.cel(h:dh c.G.X.nm c.P.toPm c.sc none x off=true):CellAt c.G c.env x (c.P.base+off):=X.V.cel (by rw[<- X.cv0] at h;exact h)
theorem Sy.nm{e:Expr}(h:y7 c.G.X.nm c.sc x=true):c.es (nE c.G.X.nm x e) (jS x):=X.fn.name X.ok h
theorem Sy.a:∀(t:IT) {e:Expr},okA c.G.X.nm c.P.toPm c.sc t e=true->AS c.G c.A c.B3 c.L (assign (toA c.G.X.nm c.P.toPm t e) c.env) (pA c.P c.H t)
 | .name x,e,h=>ij X.fn.V (X.fn.loc h)
 | .cel x o,e,h=>ii X.fn.V.toEnvG (X.cel h)
 | .sub o i,e,h=>oa (X.e (za h).1) (X.e (za h).2)
 | .attr x y,e,h=>ig X.Dn (X.ok.atts _ (List.contains_iff_mem.mp (za h).2)) (X.nm (za h).1)
theorem Sy.as:∀(ts:List IT) {es:List Expr},ge c.G.X.nm c.P.toPm c.sc ts es=true->ASs c.G c.A c.B3 c.L ((XE c.G.X.nm c.P.toPm ts es).map fun t=>assign t c.env) (pAs c.P c.H ts)
 | [],es,h=>.nil
 | t::ts,es,h=>.cons (X.a t (za h).1) (Sy.as ts (za h).2)
end
theorem J0{nm:Nat->Str}{P:Pm}(t:IT)(e:Expr):zT (toA nm P t e)=true:=by induction t<;>rfl
theorem qs{nm:Nat->Str}{P:Pm}:∀(is:List IT) (es:List Expr),(XE nm P is es).all zT=true
 | [],_=>rfl
 | i::is,es=>by
  show(zT _&&(XE nm P is (tl es)).all zT)=true
  rw[J0,qs is];rfl
def MS(i:IS):Prop:=∀(c:Sc),Sy c->∀s,okS c.G.X.nm c.P.toPm c.sc i s=true->isG i=false->c.ss (toS c.G.X.nm c.P.toPm i s) (pS c.P c.H i)
def MSs(is:List IS):Prop:=∀(c:Sc),Sy c->∀ss,Qs c.G.X.nm c.P.toPm c.sc is ss=true->SS c.G c.A c.B3 c.L (execs (Qz c.G.X.nm c.P.toPm is ss) c.env) (pSs c.P c.H is)
section
variable {t:IT}{ts:List IT}{o:Nat}{e i a b:IE}{op:Operator}{args:List IE}{l r:List IS}{xs:List Nat}{u:IE}
theorem k7:MS (.expr e):=fun c X s h Z=>mn (X.e (za h).1) (by show(c.env.scope.kind==.module&&_)=false;rw[X.fn.V.kind];rfl) (za h).2
theorem lc:MS (.name x e):=fun c X s h Z=>mq X.fn.V (X.fn.loc (za h).1) (X.e (za (za h).2).1) (za (za h).2).2
theorem rD:MS (.cel x o e):=fun c X s h Z=>mm X.fn.V.toEnvG (X.cel (za h).1) (X.e (za (za h).2).1) (za (za h).2).2
theorem k6:MS (.attr x y e):=fun c X s h Z=>ml X.Dn (X.ok.atts _ (List.contains_iff_mem.mp (za (za h).1).2)) (X.nm (za (za h).1).1) (X.e (za (za h).2).1) (za (za h).2).2
theorem fJ:MS (.aattr x y op e):=fun c X s h Z=>ZO X.Dn (X.ok.atts _ (List.contains_iff_mem.mp (za (za h).1).2)) (X.nm (za (za h).1).1) (X.e (za h).2)
theorem fL:MS (.aname x op e):=fun c X s h Z=>ZP X.fn.V (X.fn.loc (za h).1) (X.e (za h).2)
theorem rG:MS (.put u i e):=fun c X s h Z=>tD (X.e (za (za h).1).1) (X.e (za (za h).1).2) (X.e (za (za h).2).1) (za (za h).2).2 (V4 _ _)
theorem rH{lo:Option IE}:MS (.slp u lo hi e):=fun c X s h Z=>tC (X.e (za (za h).1).1) (X.o (za (za (za h).2).1).1) (X.o (za (za (za h).2).1).2) (X.e (za (za h).1).2) (za (za h).2).2
theorem rJ:MS (.tup ts e):=fun c X s h Z=>a7 (X.e (za (za h).1).2) (XR X.D.hd (qs _ _) (X.as ts (za (za h).1).1)) (VO (za h).2 X.fn.esc)
theorem rK{p q:IT}:MS (.two p q e):=fun c X s h Z=>tF (X.e (za h).2) (X.a p (za (za h).1).1) (X.a q (za (za h).1).2) (by
 show(zT _&&(zT _&&true))=true
 rw[J0,J0];rfl)
theorem lg:MS (.swap xs e):=fun c X s h Z=>by
 obtain⟨hs,hx⟩:=bQ (env:=c.env) (za h).2 X.fn.esc;exact mx X.D.hd X.fn.V (fun x hm=>by show c.env.scope.names.lookup _=_;rw[X.fn.esc];exact hx x hm) (X.e (za (za h).1).1) (za (za h).1).2 hs
theorem rE(ha:MSs l)(hb:MSs r):MS (.ite e l r):=fun c X s h Z=>w5 (X.t (za h).1) (ha c X _ (za (za h).2).1) (hb c X _ (za (za h).2).2)
theorem la(hb:MSs l):MS (.forS t e l):=fun c X s h Z=>by
 obtain⟨G,P,H,A,B3,L,outer,d,env,env',sc,cv⟩:=c;have hL:env.locals=L:=X.fn.V.loc;subst hL;exact VW X.D.hd (X.e (za (za h).2).1) (fun pn=>(X.pil pn).a t (za h).1) (fun pn=>hb _ (X.pil pn) _ (za (za h).2).2) (Ug _ _)
theorem lb(hb:MSs l):MS (.forT ts e l):=fun c X s h Z=>by
 obtain⟨G,P,H,A,B3,L,outer,d,env,env',sc,cv⟩:=c;have hL:env.locals=L:=X.fn.V.loc;subst hL;exact VW X.D.hd (X.e (za (za h).2).1) (fun pn=>XR (X.pil pn).D.hd (qs _ _) ((X.pil pn).as ts (za h).1)) (fun pn=>hb _ (X.pil pn) _ (za (za h).2).2) (Ug _ _)
theorem k9(hb:MSs l):MS (.forR t y args l):=fun c X s h Z=>by
 obtain⟨h1,h⟩:=za h;obtain⟨h2,h⟩:=za h;obtain⟨h3,h4⟩:=za h2;exact YS (X.ok.rngs _ (List.contains_iff_mem.mp (za h3).2)) X.Dn X.fn.V (X.V.glo (za h3).1) (X.es (za h4).1) (jr _ _) ((qe _ _).symm.trans (Jp (za h4).2)) (fun pn=>(X.pil pn).a t h1) (fun pn=>hb _ (X.pil pn) _ h)
end
theorem ld{elt:IE}{args:List IE}:MS (.rowR z x elt y args):=fun c X s h Z=>by
 refine byc fun Ea=>?_
 refine zd (za h) fun h hr=>?_
 refine zd (za h) fun hz h=>?_
 refine zd (za h) fun h0 h=>?_
 refine zd (za h) fun h1 h=>?_
 refine zd (za h) fun h h4=>?_
 refine zd (za h) fun h2 h3=>?_
 obtain⟨cl,B,I⟩:=X.toSx.inner (by rw[X.cv0];rfl) h1
 refine Ea ?_;exact mu (X.ok.rngs _ (List.contains_iff_mem.mp (za h2).2)) X.D X.fn.V (X.fn.loc hz) (X.V.glo (za h2).1) B (X.es (za h3).1) (jr _ _) ((qe _ _).symm.trans (Jp (za h3).2)) (fun pn C v hv=>(ch elt).1 _ (I pn C v hv) _ h4) (of_decide_eq_true (za hr).1) (Jp (za hr).2)
theorem li{ts:List IT}{e:IE}:MS (.tupG ts e):=fun c X s h Z=>a7 (X.e (za (za h).1).2) (ik X.Dn X.ok.tab (qs _ _) (X.as ts (za (za h).1).1)) (VO (za h).2 X.fn.esc)
theorem lf{elt:IE}{args:List IE}:MS (.rowT z x elt y args):=fun c X s h Z=>by
 refine byc fun Ea=>?_
 refine zd (za h) fun h hr=>?_
 refine zd (za h) fun hz h=>?_
 refine zd (za h) fun h0 h=>?_
 refine zd (za h) fun h1 h=>?_
 refine zd (za h) fun h h4=>?_
 refine zd (za h) fun h2 h3=>?_
 obtain⟨cl,B,I⟩:=X.toSx.inner (by rw[X.cv0];rfl) h1
 refine Ea ?_;exact mw (X.ok.rngs _ (List.contains_iff_mem.mp (za h2).2)) X.D X.fn.V (X.fn.loc hz) (X.V.glo (za h2).1) B (X.es (za h3).1) (jr _ _) ((qe _ _).symm.trans (Jp (za h3).2)) (fun pn C v hv=>(ch elt).1 _ (I pn C v hv) _ h4) (of_decide_eq_true (za hr).1) (Jp (za hr).2)
theorem pL{i:IS}(h:isG i=true):(∃x,i=.frz x) ∨ ∃xs,i=.keep xs:=by
 cases i<;>first | exact ft h | exact .inl ⟨_,rfl⟩ | exact .inr ⟨_,rfl⟩
theorem fM{i:IS}(hi:MS i)(hs:MSs is):MSs (i::is):=fun c X ss h=>by
 have h:cond (isG i) (Qs c.G.X.nm c.P.toPm c.sc is ss) (okS c.G.X.nm c.P.toPm c.sc i (nth (.Pass ps0) ss 0)&&Qs c.G.X.nm c.P.toPm c.sc is (tl ss))=true:=h;show SS c.G c.A c.B3 c.L (execs (cond (isG i) (Qz c.G.X.nm c.P.toPm is ss) (toS c.G.X.nm c.P.toPm i (nth (.Pass ps0) ss 0)::Qz c.G.X.nm c.P.toPm is (tl ss))) c.env) _
 cases e:isG i with
 | false =>
  rw[e] at h;exact aZ (hi c X _ (za h).1 e) (hs c X _ (za h).2)
 | true =>
  rw[e] at h
  rcases pL e with ⟨x,rfl⟩ | ⟨xs,rfl⟩
  ·exact tA (hs c X _ h)
  ·exact mo (hs c X _ h)
theorem wE:∀is,MSs is:=
 IS.rec_1 (motive_1:=fun i=>MS i) (motive_2:=fun is=>MSs is)
  (fun c X s h Z=>mr)
  (fun c X s h Z=>gE)
  (fun e c X s h Z=>gG (X.e h))
  (fun e=>k7)
  (fun x e=>lc)
  (fun x o e=>rD)
  (fun x y e=>k6)
  (fun x y op e=>fJ)
  (fun x op e=>fL)
  (fun o i e=>rG)
  (fun o lo hi e=>rH)
  (fun ts e=>rJ)
  (fun xs e=>lg)
  (fun t a b ha hb=>rE ha hb)
  (fun t e body hb=>la hb)
  (fun t y args body hb=>k9 hb)
  (fun ts e body hb=>lb hb)
  (fun a b e=>rK)
  (fun x c X s h g=>nomatch g)
  (fun xs c X s h g=>nomatch g)
  (fun z x elt y args=>ld)
  (fun ts e=>li)
  (fun z x elt y args=>lf)
  (fun c X ss h=>gF)
  (fun i is hi hs=>fM hi hs)
theorem sSs{P:Pi}{A:Around}{d:Nat}(ok:PiOk G P)(hH:HdS G d H)(hC:CtS G d P)(h9:9<=d)(D:Act G outer B3 env A d)(V:FnEnv G P env sc L B3)(is:List IS){ss:List Stmt}(h:mSs G.X.nm P.toPm sc is ss):SS G A B3 L (execs ss env) (pSs P H is):=
 h.2▸wE is ⟨G,P,H,A,B3,L,outer,d,env,env,sc,none⟩ ⟨⟨ok,hH,hC,h9,D,.fn V,fun Z=>rfl⟩,rfl,rfl⟩ ss h.1
noncomputable def bt(k:Nat)(x:Int):Bool:=decide (x/2 ^ k%2=1)
theorem cM(x y:Int):Builtin.bitAnd x y/2=Builtin.bitAnd (x/2) (y/2):=by
 have:=kbt_halves x y
 split at this<;>lia
theorem cN(x y:Int):Builtin.bitAnd x y%2=if x%2=1/\y%2=1 then 1 else 0:=by
 have:=kbt_halves x y
 split at this<;>simp only[*]<;>simp<;>omega
theorem KN(x:Int)(k:Nat):x/2 ^ (k+1)=x/2/2 ^ k:=by
 rw[Int.pow_succ,Int.mul_comm,Int.ediv_ediv_of_nonneg (by decide)]
theorem ye(k:Nat)(x:Int):bt (k+1) x=bt k (x/2):=by unfold bt;rw[KN]
theorem yO(x:Int):bt 0 x=decide (x%2=1):=by unfold bt;simp
theorem jV:∀(k:Nat) (x y:Int),bt k (zx x y)=(bt k x&&bt k y)
 | 0,x,y=>by
  rw[yO,yO,yO,jk,cN]
  by_cases h1:x%2=1<;>by_cases h2:y%2=1<;>simp[h1,h2]
 | k+1,x,y=>by
  have:=jV k (x/2) (y/2)
  rw[jk] at this;rw[ye,ye,ye,jk,cM,this]
theorem xd{X Y A a b r:Int}(h0:0<=a+b-2*r)(h1:a+b-2*r<2):(2*X+a+(2*Y+b)-2*(2*A+r))/2=X+Y-2*A:=by
 rw[show 2*X+a+(2*Y+b)-2*(2*A+r)=a+b-2*r+2*(X+Y-2*A) by lia,Int.add_mul_ediv_left _ _ (by decide),Int.ediv_eq_zero_of_lt h0 h1,Int.zero_add]
theorem gZ(x y:Int):Builtin.bitXor x y/2=Builtin.bitXor (x/2) (y/2):=by
 rw[bitXor_and,bitXor_and,kbt_halves x y];have e:∀r:Int,0<=x%2+y%2-2*r->x%2+y%2-2*r<2->(x+y-2*(2*Builtin.bitAnd (x/2) (y/2)+r))/2=x/2+y/2-2*Builtin.bitAnd (x/2) (y/2):=fun r h0 h1=>by
  have:=xd (X:=x/2) (Y:=y/2) (A:=Builtin.bitAnd (x/2) (y/2)) h0 h1
  rw[Int.mul_ediv_add_emod,Int.mul_ediv_add_emod] at this;exact this
 refine e _ ?_ ?_<;>rcases Int.emod_two_eq x with h1 | h1<;>rcases Int.emod_two_eq y with h2 | h2<;>rw[h1,h2]<;>decide
theorem yY:∀(k:Nat) (x y:Int),bt k (jR x y)=(bt k x !=bt k y)
 | 0,x,y=>by
  rw[yO,yO,yO,qn,bitXor_and];rw[show(x+y-2*Builtin.bitAnd x y)%2=(x+y)%2 from Int.sub_mul_emod_self_left _ _ _,Int.add_emod]
  rcases Int.emod_two_eq x with h1 | h1<;>rcases Int.emod_two_eq y with h2 | h2<;>rw[h1,h2]<;>rfl
 | k+1,x,y=>by
  have:=yY k (x/2) (y/2)
  rw[qn] at this;rw[ye,ye,ye,qn,gZ,this]
theorem fW(x:Int):Builtin.bitNot x/2=Builtin.bitNot (x/2):=by unfold Builtin.bitNot;lia
theorem JQ:∀(k:Nat) (x:Int),bt k (yg x) = !bt k x
 | 0,x=>by
  rw[yO,yO,qm];unfold Builtin.bitNot
  by_cases h1:x%2=1<;>simp[h1]<;>lia
 | k+1,x=>by
  have:=JQ k (x/2)
  rw[qm] at this;rw[ye,ye,qm,fW,this]
theorem Vw(k:Nat)(x y:Int):bt k (iOr x y)=(bt k x||bt k y):=by
 have:iOr x y=yg (zx (yg x) (yg y)):=by rw[yI,qm,jk,qm,qm];rfl
 rw[this,JQ,jV,JQ,JQ]
 cases bt k x<;>cases bt k y<;>rfl
noncomputable def b2(x:Bool):Int:=cond x 1 0
theorem cR(k:Nat)(x:Int):x/2 ^ k%2=b2 (bt k x):=by
 unfold bt b2
 by_cases h:x/2 ^ k%2=1
 ·simp[h]
 ·simp[h];lia
theorem Q2(k:Nat)(x:Int):zx x (2 ^ k)=b2 (bt k x)*2 ^ k:=by rw[jk,kbt_bit,cR]
theorem hW(x:Int):zx x 1=b2 (bt 0 x):=by have:=Q2 0 x;simpa using this
theorem xJ(x:Int):zx x 2=b2 (bt 1 x)*2:=Q2 1 x
theorem xK(x:Int):zx x 8=b2 (bt 3 x)*8:=Q2 3 x
theorem Y7(x:Int):zx x 128=b2 (bt 7 x)*128:=Q2 7 x
theorem jA(x:Int):zx x 255=x%256:=by rw[jk];exact kbt_mask x 8
theorem yW(x:Int):zx x 65535=x%65536:=by rw[jk];exact kbt_mask x 16
theorem QD(b:Bool):0<=b2 b/\b2 b<=1:=by induction b<;>decide
theorem cS(b:Bool)(n:Int)(h:n≠0):(b2 b*n !=0)=b:=by induction b<;>simp[b2,h]
theorem cU(b:Bool):(b2 b !=0)=b:=by induction b<;>rfl
theorem ua(x:Int)(h:0<=x)(h2:x<256):jR x 255=255-x:=by
 have:zx x 255=x:=by rw[jA];exact Bu h h2
 rw[jk] at this;rw[qn,bitXor_and,this];lia
theorem Uo(x:Int):zx x 65280=x/256%256*256:=by
 have h:∀(k:Nat) (x y:Int),Builtin.bitAnd x (2 ^ k*y)=2 ^ k*Builtin.bitAnd (x/2 ^ k) y:=by
  intro k
  induction k with
  | zero=>intro x y;simp
  | succ k ih =>
   intro x y;rw[kbt_halves];have e1:(2:Int) ^ (k+1)*y/2=2 ^ k*y:=by
    rw[Int.pow_succ,Int.mul_comm (2 ^ k) 2,Int.mul_assoc];exact Int.mul_ediv_cancel_left _ (by decide)
   have e2:¬((2:Int) ^ (k+1)*y%2=1):=by
    rw[Int.pow_succ,Int.mul_comm (2 ^ k) 2,Int.mul_assoc];lia
   rw[e1,ih,if_neg (fun h=>e2 h.2),KN,Int.pow_succ]
   rw[Int.mul_comm (2 ^ k) 2,Int.mul_assoc];lia
 have:=h 8 x 255
 rw[jk];refine(show Builtin.bitAnd x 65280=_ from this).trans ?_
 have h2:Builtin.bitAnd (x/2 ^ 8) 255=x/2 ^ 8%256:=kbt_mask _ 8;rw[h2]
 have:(2:Int) ^ 8=256:=by decide
 rw[this];lia
theorem Ub(k:Nat)(x:Int):x%2 ^ (k+1)=x%2 ^ k+b2 (bt k x)*2 ^ k:=by
 have h1:=cR k x;have hp:(0:Int)<2 ^ k:=kbt_pos k;have e1:=Int.mul_ediv_add_emod x (2 ^ k);have e2:=Int.mul_ediv_add_emod (x/2 ^ k) 2;have b1:=Dq x (show(2:Int) ^ k≠0 by lia)
 have b3:=Int.emod_lt_of_pos x hp;rw[h1] at e2;have key:=kbt_unique (a:=x) (b:=2 ^ (k+1)) (q:=x/2 ^ k/2) (r:=x%2 ^ k+b2 (bt k x)*2 ^ k) (kbt_pos (k+1)) ?_ ?_ ?_
 ·exact key.2
 ·have e3:(2:Int) ^ (k+1)=2 ^ k*2:=Int.pow_succ 2 k
  rw[e3];have e4:2 ^ k*(x/2 ^ k)=2 ^ k*(2*(x/2 ^ k/2)+b2 (bt k x)):=by rw[e2]
  rw[Int.mul_add,<- Int.mul_assoc,Int.mul_comm (2 ^ k) (b2 _)] at e4
  lia
 ·have:=(QD (bt k x)).1
  have:=Int.mul_nonneg this (Int.le_of_lt hp)
  exact zi (zN (zf b1) (zf this)) rfl
 ·rw[Int.pow_succ]
  have:=(QD (bt k x)).2
  have:b2 (bt k x)*2 ^ k<=1*2 ^ k:=Int.mul_le_mul_of_nonneg_right this (Int.le_of_lt hp)
  lia
theorem Ka{n:Nat}{P:Int->Prop}(h:∀i:Fin n,P (i.val:Int)){x:Int}(h0:0<=x)(h1:x<n):P x:=by
 obtain⟨k,rfl⟩:=Int.eq_ofNat_of_zero_le h0;exact h ⟨k,Int.ofNat_lt.mp h1⟩
theorem Y8:∀i:Fin 256,((i.val:Nat):Int)=b2 (bt 0 i.val)+b2 (bt 1 i.val)*2+b2 (bt 2 i.val)*4+b2 (bt 3 i.val)*8+b2 (bt 4 i.val)*16+b2 (bt 5 i.val)*32+b2 (bt 6 i.val)*64+b2 (bt 7 i.val)*128:=by decide +kernel
theorem K5{x:Int}(h:0<=x)(h2:x<256):x=b2 (bt 0 x)+b2 (bt 1 x)*2+b2 (bt 2 x)*4+b2 (bt 3 x)*8+b2 (bt 4 x)*16+b2 (bt 5 x)*32+b2 (bt 6 x)*64+b2 (bt 7 x)*128:=
 Ka (P:=fun x=>x=b2 (bt 0 x)+b2 (bt 1 x)*2+b2 (bt 2 x)*4+b2 (bt 3 x)*8+b2 (bt 4 x)*16+b2 (bt 5 x)*32+b2 (bt 6 x)*64+b2 (bt 7 x)*128) Y8 h h2
structure Fl where
 n:Bool
 v:Bool
 u:Bool
 b:Bool
 d:Bool
 i:Bool
 z:Bool
 c:Bool
noncomputable def pk(f:Fl):Int:=b2 f.c+b2 f.z*2+b2 f.i*4+b2 f.d*8+b2 f.b*16+b2 f.u*32+b2 f.v*64+b2 f.n*128
noncomputable def unp(x:Int):Fl:=⟨bt 7 x,bt 6 x,bt 5 x,bt 4 x,bt 3 x,bt 2 x,bt 1 x,bt 0 x⟩
theorem Qu{x:Int}(h:0<=x)(h2:x<256):pk (unp x)=x:=(K5 h h2).symm
theorem cb:∀n v u b d i z c:Bool,0<=pk ⟨n,v,u,b,d,i,z,c⟩/\pk ⟨n,v,u,b,d,i,z,c⟩<256:=by decide +kernel
theorem y9(f:Fl):0<=pk f/\pk f<256:=let⟨n,v,u,b,d,i,z,c⟩:=f;cb n v u b d i z c
theorem qW(f:Fl):unp (pk f)=f:=by
 obtain⟨n,v,u,b,d,i,z,c⟩:=f;have h:∀n v u b d i z c:Bool,(bt 7 (pk ⟨n,v,u,b,d,i,z,c⟩)=n/\bt 6 (pk ⟨n,v,u,b,d,i,z,c⟩)=v/\bt 5 (pk ⟨n,v,u,b,d,i,z,c⟩)=u/\bt 4 (pk ⟨n,v,u,b,d,i,z,c⟩)=b)/\bt 3 (pk ⟨n,v,u,b,d,i,z,c⟩)=d/\bt 2 (pk ⟨n,v,u,b,d,i,z,c⟩)=i/\bt 1 (pk ⟨n,v,u,b,d,i,z,c⟩)=z/\bt 0 (pk ⟨n,v,u,b,d,i,z,c⟩)=c:=by decide +kernel
 refine yC (h n v u b d i z c) fun Cd h5 h6 Ee=>zd Ee fun h7 h8=>?_;obtain⟨h1,h2,h3,h4⟩:=Cd
 unfold unp;rw[h1,h2,h3,h4,h5,h6,h7,h8]
theorem K4(f:Fl):bt 0 (pk f)=f.c:=congrArg Fl.c (qW f)
theorem Uu(f:Fl):bt 1 (pk f)=f.z:=congrArg Fl.z (qW f)
theorem Wj(f:Fl):bt 2 (pk f)=f.i:=congrArg Fl.i (qW f)
theorem Uv(f:Fl):bt 3 (pk f)=f.d:=congrArg Fl.d (qW f)
theorem c8(f:Fl):bt 4 (pk f)=f.b:=congrArg Fl.b (qW f)
theorem c9(f:Fl):bt 5 (pk f)=f.u:=congrArg Fl.u (qW f)
theorem Wk(f:Fl):bt 6 (pk f)=f.v:=congrArg Fl.v (qW f)
theorem Wm(f:Fl):bt 7 (pk f)=f.n:=congrArg Fl.n (qW f)
theorem Up{x y:Int}(h:0<=x):0<=zx x y/\zx x y<=x:=by rw[jk,bitAnd_comm];exact bitAnd_range y h
theorem KL{x y:Int}(h:0<=x)(h2:x<256)(h3:0<=y)(h4:y<256):0<=iOr x y/\iOr x y<256:=by
 have e:iOr x y=((x.toNat ||| y.toNat:Nat):Int):=by
  rw[yI];unfold Builtin.bitOr;have a1:Builtin.bitAnd (Builtin.bitNot x) (Builtin.bitNot y)=Builtin.bitNot ((Builtin.bitNot (Builtin.bitNot x)).toNat ||| (Builtin.bitNot (Builtin.bitNot y)).toNat:Nat):=by
   unfold Builtin.bitAnd;have hx:¬ (0<=Builtin.bitNot x):=by unfold Builtin.bitNot;lia
   have hy:¬ (0<=Builtin.bitNot y):=by unfold Builtin.bitNot;lia
   simp only[hx,hy,decide_false]
  rw[a1];unfold Builtin.bitNot;simp only[show ∀z:Int,-(-z-1)-1=z from fun z=>by lia]
 rw[e]
 have:x.toNat ||| y.toNat<2 ^ 8:=Nat.or_lt_two_pow (by lia) (by lia)
 exact⟨zi qK rfl,zn (q9 this) rfl⟩
theorem V6{x y:Int}(h:0<=x)(h2:x<256)(h3:0<=y)(h4:y<256):0<=jR x y/\jR x y<256:=by
 have e:jR x y=iOr x y-zx x y:=by rw[qn,yI,jk];rfl
 have e2:iOr x y=x+y-zx x y:=by rw[yI,jk];exact bitOr_and x y
 have h5:=KL h h2 h3 h4;have h6:=Up (x:=x) (y:=y) h;have h7:zx x y<=y:=by rw[jk];exact(bitAnd_range x h3).2
 omega
theorem db{x y:Int}(h:0<=x)(h2:x<256)(h3:0<=y)(h4:y<256)(e:unp x=unp y):x=y:=by
 rw[<- Qu h h2,<- Qu h3 h4,e]
theorem sL{x:Int}{f:Fl}(h:0<=x)(h2:x<256)(e:unp x=f):x=pk f:=by rw[<- e,Qu h h2]
section
variable (f:Fl)
theorem dm:zx (pk f) (yg (iOr 2 128))=pk { f with n:=false,z:=false }:=by
 obtain⟨n,v,u,b,d,i,z,c⟩:=f
 revert n v u b d i z c
 show ∀n v u b d i z c:Bool,zx (pk ⟨n,v,u,b,d,i,z,c⟩) (yg (iOr 2 128))=pk ⟨false,v,u,b,d,i,false,c⟩
 decide +kernel
theorem dj:zx (pk f) (yg (iOr (iOr 1 128) 2))=pk { f with n:=false,z:=false,c:=false }:=by
 obtain⟨n,v,u,b,d,i,z,c⟩:=f
 revert n v u b d i z c
 show ∀n v u b d i z c:Bool,zx (pk ⟨n,v,u,b,d,i,z,c⟩) (yg (iOr (iOr 1 128) 2))=pk ⟨false,v,u,b,d,i,false,false⟩
 decide +kernel
theorem oq:zx (pk f) (yg (iOr (iOr 1 2) 128))=pk { f with n:=false,z:=false,c:=false }:=by
 obtain⟨n,v,u,b,d,i,z,c⟩:=f
 revert n v u b d i z c
 show ∀n v u b d i z c:Bool,zx (pk ⟨n,v,u,b,d,i,z,c⟩) (yg (iOr (iOr 1 2) 128))=pk ⟨false,v,u,b,d,i,false,false⟩
 decide +kernel
theorem ot:zx (pk f) (yg (iOr (iOr 2 128) 64))=pk { f with n:=false,z:=false,v:=false }:=by
 obtain⟨n,v,u,b,d,i,z,c⟩:=f
 revert n v u b d i z c
 show ∀n v u b d i z c:Bool,zx (pk ⟨n,v,u,b,d,i,z,c⟩) (yg (iOr (iOr 2 128) 64))=pk ⟨false,false,u,b,d,i,false,c⟩
 decide +kernel
theorem iy:zx (pk f) (yg (iOr (iOr (iOr 1 64) 128) 2))=pk { f with n:=false,z:=false,v:=false,c:=false }:=by
 obtain⟨n,v,u,b,d,i,z,c⟩:=f
 revert n v u b d i z c
 show ∀n v u b d i z c:Bool,zx (pk ⟨n,v,u,b,d,i,z,c⟩) (yg (iOr (iOr (iOr 1 64) 128) 2))=pk ⟨false,false,u,b,d,i,false,false⟩
 decide +kernel
theorem iz:zx (pk f) (yg (iOr (iOr (iOr 1 2) 64) 128))=pk { f with n:=false,z:=false,v:=false,c:=false }:=by
 obtain⟨n,v,u,b,d,i,z,c⟩:=f
 revert n v u b d i z c
 show ∀n v u b d i z c:Bool,zx (pk ⟨n,v,u,b,d,i,z,c⟩) (yg (iOr (iOr (iOr 1 2) 64) 128))=pk ⟨false,false,u,b,d,i,false,false⟩
 decide +kernel
theorem iw:zx (pk f) (yg 1)=pk { f with c:=false }:=by
 obtain⟨n,v,u,b,d,i,z,c⟩:=f
 revert n v u b d i z c
 show ∀n v u b d i z c:Bool,zx (pk ⟨n,v,u,b,d,i,z,c⟩) (yg 1)=pk ⟨n,v,u,b,d,i,z,false⟩
 decide +kernel
theorem xQ:zx (pk f) (yg 64)=pk { f with v:=false }:=by
 obtain⟨n,v,u,b,d,i,z,c⟩:=f
 revert n v u b d i z c
 show ∀n v u b d i z c:Bool,zx (pk ⟨n,v,u,b,d,i,z,c⟩) (yg 64)=pk ⟨n,false,u,b,d,i,z,c⟩
 decide +kernel
theorem Vu:iOr (pk f) 1=pk { f with c:=true }:=by
 obtain⟨n,v,u,b,d,i,z,c⟩:=f
 revert n v u b d i z c
 show ∀n v u b d i z c:Bool,iOr (pk ⟨n,v,u,b,d,i,z,c⟩) 1=pk ⟨n,v,u,b,d,i,z,true⟩
 decide +kernel
theorem XA:iOr (pk f) 2=pk { f with z:=true }:=by
 obtain⟨n,v,u,b,d,i,z,c⟩:=f
 revert n v u b d i z c
 show ∀n v u b d i z c:Bool,iOr (pk ⟨n,v,u,b,d,i,z,c⟩) 2=pk ⟨n,v,u,b,d,i,true,c⟩
 decide +kernel
theorem wV:iOr (pk f) 16=pk { f with b:=true }:=by
 obtain⟨n,v,u,b,d,i,z,c⟩:=f
 revert n v u b d i z c
 show ∀n v u b d i z c:Bool,iOr (pk ⟨n,v,u,b,d,i,z,c⟩) 16=pk ⟨n,v,u,true,d,i,z,c⟩
 decide +kernel
theorem wZ:iOr (pk f) 32=pk { f with u:=true }:=by
 obtain⟨n,v,u,b,d,i,z,c⟩:=f
 revert n v u b d i z c
 show ∀n v u b d i z c:Bool,iOr (pk ⟨n,v,u,b,d,i,z,c⟩) 32=pk ⟨n,v,true,b,d,i,z,c⟩
 decide +kernel
theorem mi:iOr (pk f) 64=pk { f with v:=true }:=by
 obtain⟨n,v,u,b,d,i,z,c⟩:=f
 revert n v u b d i z c
 show ∀n v u b d i z c:Bool,iOr (pk ⟨n,v,u,b,d,i,z,c⟩) 64=pk ⟨n,true,u,b,d,i,z,c⟩
 decide +kernel
theorem ti:iOr (pk f) 0=pk f:=by
 obtain⟨n,v,u,b,d,i,z,c⟩:=f
 revert n v u b d i z c
 show ∀n v u b d i z c:Bool,iOr (pk ⟨n,v,u,b,d,i,z,c⟩) 0=pk ⟨n,v,u,b,d,i,z,c⟩
 decide +kernel
theorem gC:iOr (pk f) 128=pk { f with n:=true }:=by
 obtain⟨n,v,u,b,d,i,z,c⟩:=f
 revert n v u b d i z c
 show ∀n v u b d i z c:Bool,iOr (pk ⟨n,v,u,b,d,i,z,c⟩) 128=pk ⟨true,v,u,b,d,i,z,c⟩
 decide +kernel
theorem tj:iOr (pk f) 192=pk { f with n:=true,v:=true }:=by
 obtain⟨n,v,u,b,d,i,z,c⟩:=f
 revert n v u b d i z c
 show ∀n v u b d i z c:Bool,iOr (pk ⟨n,v,u,b,d,i,z,c⟩) 192=pk ⟨true,true,u,b,d,i,z,c⟩
 decide +kernel
theorem ZL(t:Int):iOr (pk f) (zx t 128)=pk { f with n:=f.n||bt 7 t }:=by
 rw[Y7]
 cases bt 7 t
 ·exact(ti f).trans (by simp)
 ·exact(gC f).trans (by simp)
theorem wW(t:Int):iOr (pk f) (zx t 1)=pk { f with c:=f.c||bt 0 t }:=by
 rw[hW]
 cases bt 0 t
 ·exact(ti f).trans (by simp)
 ·exact(Vu f).trans (by simp)
theorem n9(t:Int):zx t (iOr 128 64)=b2 (bt 7 t)*128+b2 (bt 6 t)*64:=by
 have e:iOr 128 64=192:=by rw[yI];decide
 rw[e];have h1:0<=zx t 192/\zx t 192<=192:=by rw[jk];exact bitAnd_range t (by decide)
 have h2:=K5 (x:=zx t 192) h1.1 (zn (zS h1.2) rfl);simp only[jV,show bt 0 192=false by decide,show bt 1 192=false by decide,show bt 2 192=false by decide,show bt 3 192=false by decide,show bt 4 192=false by decide,show bt 5 192=false by decide,show bt 6 192=true by decide,show bt 7 192=true by decide,Dd,Bool.and_true,show b2 false=0 by rfl] at h2
 lia
theorem wY(t:Int):iOr (pk f) (zx t (iOr 128 64))=pk { f with n:=f.n||bt 7 t,v:=f.v||bt 6 t }:=by
 rw[n9]
 cases bt 7 t<;>cases bt 6 t
 ·exact(ti f).trans (by simp)
 ·exact(mi f).trans (by simp)
 ·exact(gC f).trans (by simp)
 ·exact(tj f).trans (by simp)
theorem mH:(zx (pk f) 1 !=0)=f.c:=by rw[hW,K4];exact cU _
theorem A7:(zx (pk f) 2 !=0)=f.z:=by rw[xJ,Uu];exact cS _ _ (by decide)
theorem xh:(zx (pk f) 8 !=0)=f.d:=by rw[xK,Uv];exact cS _ _ (by decide)
theorem AL:zx (pk f) 1=b2 f.c:=by rw[hW,K4]
end
theorem V3(t:Int):(zx t 128 !=0)=bt 7 t:=by rw[Y7];exact cS _ _ (by decide)
theorem te1(t:Int):(zx t 1 !=0)=bt 0 t:=by rw[hW];exact cU _
noncomputable def nzF(f:Fl)(v:Int):Fl:={ f with n:=bt 7 v,z:=decide (v=0) }
theorem vH(f:Fl)(v:Int):cond (v==0) (iOr (zx (pk f) (yg (iOr 2 128))) 2) (iOr (zx (pk f) (yg (iOr 2 128))) (zx v 128))=pk (nzF f v):=by
 rw[dm,XA,ZL]
 by_cases h:v=0
 ·subst h
  show pk _=pk _;unfold nzF;simp[bt]
 ·have:(v==0)=false:=by simp[h]
  rw[this];unfold nzF;simp[h]
theorem bt7{v:Int}(h:0<=v)(h2:v<256):bt 7 v=decide (128<=v):=Ka (n:=256) (P:=fun v=>bt 7 v=decide (128<=v)) (by decide +kernel) h h2
structure Cpu where
 pc:Int
 sp:Int
 a:Int
 x:Int
 y:Int
 f:Fl
 ex:Int
 ac:PV
 cyc:Int
 nm:PV
 st:PV
noncomputable abbrev Mem:=List Int
variable {N P P' mem:Mem}
noncomputable abbrev Sp:=List PV->List PO->(PV->List PO->Prop)->Prop
def jC(mem:Mem)(ad:Int):Prop:=0<=ad/\ad<(mem.length:Int)/\ad<2 ^ 63
noncomputable def rd(mem:Mem)(ad:Int):Int:=mem.getD ad.toNat 0
noncomputable def wr(mem:Mem)(ad v:Int):Mem:=mem.set ad.toNat v
def isB(x:Int):Prop:=0<=x/\x<256
def Bts(mem:Mem):Prop:=∀x∈mem,isB x
theorem Bts.rd{mem:Mem}(h:Bts mem)(ad:Int):isB (rd mem ad):=by
 unfold Mine.rd;rw[Cp]
 cases e:mem[ad.toNat]? with
 | none=>exact⟨by decide,by decide⟩
 | some v=>exact h v (Df e)
theorem Bts.wr{mem:Mem}(h:Bts mem)(ad:Int){v:Int}(hv:isB v):Bts (wr mem ad v):=by
 intro x hx
 rcases List.mem_or_eq_of_mem_set hx with h1 | h1
 ·exact h x h1
 ·exact h1▸hv
theorem zB{v:Int}:(wr mem ad v).length=mem.length:=List.length_set
theorem VT{v b:Int}(h:jC mem ad)(hb:0<=b):rd (wr mem ad v) b=if b=ad then v else rd mem b:=by
 unfold rd wr;rw[Cp,Cp,List.getElem?_set]
 have:=h.1
 have:=h.2.1
 by_cases e:b=ad
 ·subst e
  rw[if_pos rfl,if_pos (by lia),if_pos rfl];rfl
 ·rw[if_neg (by lia),if_neg e]
theorem isB.n64{x:Int}(h:isB x):x.natAbs<2 ^ 64:=by have:=h.1;have:=h.2;lia
inductive Md where
 | pc | zp | zpx | zpy | ab | abx | aby | inx | iny
noncomputable def wd(mem:Mem)(ad:Int):Int:=rd mem ad+rd mem (ad+1)*256
noncomputable def wq(ad:Int):Int:=ad/256%256*256+(ad+1)%256
noncomputable def wp(mem:Mem)(ad:Int):Int:=rd mem ad+rd mem (wq ad)*256
noncomputable def acB:PV->Bool
 | .int e=>e !=0
 | _=>false
noncomputable def Jh(a b:Int):Bool:=decide (a/256%256≠b/256%256)
noncomputable def eaA(m:Md)(c:Cpu)(mem:Mem):Int:=match m with
 | .pc=>c.pc
 | .zp=>rd mem c.pc
 | .zpx=>(c.x+rd mem c.pc)%256
 | .zpy=>(c.y+rd mem c.pc)%256
 | .ab=>wd mem c.pc
 | .abx=>(wd mem c.pc+c.x)%65536
 | .aby=>(wd mem c.pc+c.y)%65536
 | .inx=>wp mem ((rd mem c.pc+c.x)%256)
 | .iny=>(wp mem (rd mem c.pc)+c.y)%65536
noncomputable def eaX(m:Md)(c:Cpu)(mem:Mem):Int:=match m with
 | .abx=>c.ex+b2 (acB c.ac&&Jh (wd mem c.pc) ((wd mem c.pc+c.x)%65536))
 | .aby=>c.ex+b2 (acB c.ac&&Jh (wd mem c.pc) ((wd mem c.pc+c.y)%65536))
 | .iny=>c.ex+b2 (acB c.ac&&Jh (wp mem (rd mem c.pc)) ((wp mem (rd mem c.pc)+c.y)%65536))
 | _=>c.ex
def gU(mem:Mem)(ad:Int):Prop:=jC mem ad/\jC mem (ad+1)
def cr(mem:Mem)(ad:Int):Prop:=jC mem ad/\jC mem (wq ad)
def qP(m:Md)(c:Cpu)(mem:Mem):Prop:=match m with
 | .pc=>True
 | .zp | .zpx | .zpy=>jC mem c.pc
 | .ab=>gU mem c.pc
 | .abx | .aby=>gU mem c.pc /\ ∃e,c.ac=.int e
 | .inx=>jC mem c.pc/\cr mem ((rd mem c.pc+c.x)%256)
 | .iny=>jC mem c.pc/\cr mem (rd mem c.pc) /\ ∃e,c.ac=.int e
structure Ok(c:Cpu)(mem:Mem):Prop where
 pc:0<=c.pc
 sp:isB c.sp
 a:isB c.a
 x:isB c.x
 y:isB c.y
 mem:Bts mem
inductive Rg where
 | a | x | y
noncomputable def Cpu.rg(c:Cpu):Rg->Int
 | .a=>c.a
 | .x=>c.x
 | .y=>c.y
inductive Rd where
 | ora | and | eor | adc | sbc | lda | ldx | ldy | bit
noncomputable def ovA(a d r:Int):Bool:=(bt 7 a==bt 7 d)&&(bt 7 a !=bt 7 r)
noncomputable def ovS(a d r:Int):Bool:=(bt 7 a !=bt 7 d)&&(bt 7 a !=bt 7 r)
noncomputable def adB(c:Cpu)(d:Int):Cpu:=
 let r:=c.a+d+b2 c.f.c
 { c with a:=r%256,f:={ c.f with n:=bt 7 (r%256),z:=decide (r%256=0),c:=decide (255<r),v:=ovA c.a d r } }
noncomputable def sbB(c:Cpu)(d:Int):Cpu:=
 let r:=c.a+(255-d)+b2 c.f.c
 { c with a:=r%256,f:={ c.f with n:=bt 7 (r%256),z:=decide (r%256=0),c:=decide (255<r),v:=ovS c.a d r } }
noncomputable def rdF(r:Rd)(c:Cpu)(v:Int):Cpu:=match r with
 | .ora=>{ c with a:=iOr c.a v,f:=nzF c.f (iOr c.a v) }
 | .and=>{ c with a:=zx c.a v,f:=nzF c.f (zx c.a v) }
 | .eor=>{ c with a:=jR c.a v,f:=nzF c.f (jR c.a v) }
 | .adc=>adB c v
 | .sbc=>sbB c v
 | .lda=>{ c with a:=v,f:=nzF c.f v }
 | .ldx=>{ c with x:=v,f:=nzF c.f v }
 | .ldy=>{ c with y:=v,f:=nzF c.f v }
 | .bit=>{ c with f:={ c.f with n:=bt 7 v,v:=bt 6 v,z:=decide (zx c.a v=0) } }
noncomputable def dq(c:Cpu)(r t:Int):Cpu:={ c with f:={ c.f with c:=decide (t<=r),z:=decide (r=t),n:=bt 7 (r-t) } }
inductive Rm where
 | asl | lsr | rol | ror | dec | inc
noncomputable def rmT(r:Rm)(f:Fl)(t:Int):Int:=match r with
 | .asl=>2*t%256
 | .lsr=>t/2
 | .rol=>(2*t+b2 f.c)%256
 | .ror=>t/2+128*b2 f.c
 | .dec=>(t-1)%256
 | .inc=>(t+1)%256
noncomputable def rmC(r:Rm)(f:Fl)(t:Int):Bool:=match r with
 | .asl | .rol=>bt 7 t
 | .lsr | .ror=>bt 0 t
 | _=>f.c
noncomputable def rmF(r:Rm)(f:Fl)(t:Int):Fl:=nzF { f with c:=rmC r f t } (rmT r f t)
theorem JJ(x:Int):0<=x%256/\x%256<256:=⟨Dq x (by decide),Int.emod_lt_of_pos x (by decide)⟩
theorem Zm{t c:Int}(h:0<=t)(h2:t<256)(h3:0<=c/\c<=1):0<=t/2+128*c/\t/2+128*c<256:=⟨Dx (sU h rfl) (Int.mul_nonneg (show(0:Int)<=128 by decide) h3.1),Int.add_lt_add_of_lt_of_le (show t/2<128 from Int.ediv_lt_of_lt_mul (by decide) h2) (show 128*c<=128*1 from Int.mul_le_mul_of_nonneg_left h3.2 (by decide))⟩
theorem nQ{r:Rm}{f:Fl}{t:Int}(h:isB t):isB (rmT r f t):=by
 induction r with
 | lsr=>have:=Zm h.1 h.2 (c:=0) ⟨by decide,by decide⟩;rwa [Int.mul_zero,Ch] at this
 | ror=>exact Zm h.1 h.2 (QD f.c)
 | _=>exact JJ _
set_option genCtorIdx false in
inductive Op where
 | rd (r:Rd) (m:Md)
 | cmp (g:Rg) (m:Md)
 | rmw (r:Rm) (m:Md)
 | acc (r:Rm)
 | sto (g:Rg) (m:Md)
 | bra (bit:Nat) (on:Bool)
 | flag (bit:Nat) (on:Bool)
 | tr (g h:Rg)
 | tsx
 | txs
 | upx
 | upy
 | dnx
 | dny
 | pha
 | php
 | pla
 | plp
 | jsr
 | rts
noncomputable def mdL:Md->Int
 | .ab | .abx | .aby=>2
 | _=>1
noncomputable def Fl.at(f:Fl):Nat->Bool
 | 0=>f.c | 1=>f.z | 2=>f.i | 3=>f.d | 4=>f.b | 5=>f.u | 6=>f.v | _=>f.n
noncomputable def Fl.to(f:Fl)(on:Bool):Nat->Fl
 | 0=>{ f with c:=on } | 1=>{ f with z:=on } | 2=>{ f with i:=on } | 3=>{ f with d:=on } | 4=>{ f with b:=on } | 5=>{ f with u:=on } | 6=>{ f with v:=on } | _=>{ f with n:=on }
noncomputable def c6(c:Cpu)(t:Int):Cpu:={ c with pc:=(c.pc+1+t-256*b2 (bt 7 t))%65536,ex:=c.ex+1+b2 (Jh (c.pc+1) (c.pc+1+t-256*b2 (bt 7 t))) }
noncomputable def Cpu.put(c:Cpu)(g:Rg)(v:Int):Cpu:=match g with
 | .a=>{ c with a:=v,f:=nzF c.f v }
 | .x=>{ c with x:=v,f:=nzF c.f v }
 | .y=>{ c with y:=v,f:=nzF c.f v }
noncomputable def yN(c:Cpu):Cpu:={ c with sp:=(c.sp-1)%256 }
noncomputable def QO(c:Cpu)(mem:Mem)(v:Int):Mem:=wr mem (c.sp+256) v
noncomputable def Jc(c:Cpu):Cpu:={ c with sp:=(c.sp+1)%256 }
noncomputable def yL(c:Cpu)(mem:Mem):Int:=rd mem ((c.sp+1)%256+256)
noncomputable def plF(t:Int):Fl:={ unp t with b:=true,u:=true }
noncomputable def Jr(c:Cpu)(mem:Mem)(v:Int):Mem:=QO (yN c) (QO c mem (v/256%256)) (v%256)
noncomputable def xop(o:Op)(c:Cpu)(mem:Mem):Cpu×Mem:=match o with
 | .rd r m=>({ rdF r { c with ex:=eaX m c mem } (rd mem (eaA m c mem)) with pc:=c.pc+mdL m },mem)
 | .cmp g m=>({ dq { c with ex:=eaX m c mem } (c.rg g) (rd mem (eaA m c mem)) with pc:=c.pc+mdL m },mem)
 | .rmw r m=>({ c with ex:=eaX m c mem,f:=rmF r c.f (rd mem (eaA m c mem)),pc:=c.pc+mdL m },wr mem (eaA m c mem) (rmT r c.f (rd mem (eaA m c mem))))
 | .acc r=>({ c with f:=rmF r c.f c.a,a:=rmT r c.f c.a },mem)
 | .sto g m=>({ c with ex:=eaX m c mem,pc:=c.pc+mdL m },wr mem (eaA m c mem) (c.rg g))
 | .bra b on=>(cond (c.f.at b==on) (c6 c (rd mem c.pc)) { c with pc:=c.pc+1 },mem)
 | .flag b on=>({ c with f:=c.f.to on b },mem)
 | .tr g h=>(c.put h (c.rg g),mem)
 | .tsx=>({ c with x:=c.sp,f:=nzF c.f c.sp },mem)
 | .txs=>({ c with sp:=c.x },mem)
 | .upx=>(c.put .x ((c.x+1)%256),mem)
 | .upy=>(c.put .y ((c.y+1)%256),mem)
 | .dnx=>(c.put .x ((c.x-1)%256),mem)
 | .dny=>(c.put .y ((c.y-1)%256),mem)
 | .pha=>(yN c,QO c mem c.a)
 | .php=>(yN c,QO c mem (pk { c.f with b:=true,u:=true }))
 | .pla=>({ Jc c with a:=yL c mem,f:=nzF c.f (yL c mem) },mem)
 | .plp=>({ Jc c with f:=plF (yL c mem) },mem)
 | .jsr=>({ yN (yN c) with pc:=wd (Jr c mem ((c.pc+1)%65536)) c.pc },Jr c mem ((c.pc+1)%65536))
 | .rts=>({ Jc (Jc c) with pc:=yL c mem+yL (Jc c) mem*256+1 },mem)
def Ju(mem:Mem):Prop:=512<=(mem.length:Int)
def rdD(r:Rd)(f:Fl):Prop:=match r with
 | .adc=>f.d=false
 | .sbc=>f.d=false
 | _=>True
def YE(o:Op)(c:Cpu)(mem:Mem):Prop:=match o with
 | .rd r m=>qP m c mem/\jC mem (eaA m c mem)/\rdD r c.f
 | .cmp _ m | .rmw _ m | .sto _ m=>qP m c mem/\jC mem (eaA m c mem)
 | .bra _ _=>jC mem c.pc
 | .pha | .php | .pla | .plp | .rts=>Ju mem
 | .jsr=>Ju mem/\gU mem c.pc
 | _=>True
noncomputable def wh:List (Nat×Op):=[(5,(.rd .ora .zp)),(8,.php),(9,(.rd .ora .pc)),(10,(.acc .asl)),(24,(.flag 0 false)),(32,.jsr),(36,(.rd .bit .zp)),(37,(.rd .and .zp)),(40,.plp),(41,(.rd .and .pc)),(42,(.acc .rol)),(56,(.flag 0 true)),(70,(.rmw .lsr .zp)),(72,.pha),(73,(.rd .eor .pc)),(96,.rts),(101,(.rd .adc .zp)),(102,(.rmw .ror .zp)),(104,.pla),(105,(.rd .adc .pc)),(106,(.acc .ror)),(132,(.sto .y .zp)),(133,(.sto .a .zp)),(134,(.sto .x .zp)),(136,.dny),(138,(.tr .x .a)),(145,(.sto .a .iny)),(152,(.tr .y .a)),(154,.txs),(157,(.sto .a .abx)),(160,(.rd .ldy .pc)),(162,(.rd .ldx .pc)),(164,(.rd .ldy .zp)),(165,(.rd .lda .zp)),(166,(.rd .ldx .zp)),(169,(.rd .lda .pc)),(170,(.tr .a .x)),(177,(.rd .lda .iny)),(184,(.flag 6 false)),(185,(.rd .lda .aby)),(186,.tsx),(189,(.rd .lda .abx)),(198,(.rmw .dec .zp)),(200,.upy),(201,(.cmp .a .pc)),(202,.dnx),(208,(.bra 1 false)),(224,(.cmp .x .pc)),(229,(.rd .sbc .zp)),(230,(.rmw .inc .zp)),(232,.upx),(233,(.rd .sbc .pc))]
noncomputable def Qt(n:Nat):Option Op:=lk n wh
noncomputable def st1(c:Cpu)(xc:Int):Cpu:={ c with pc:=(c.pc+1)%65536,ex:=0,ac:=.int xc }
noncomputable def st2(c:Cpu)(cy:Int):Cpu:={ c with pc:=c.pc%65536,cyc:=c.cyc+(cy+c.ex) }
theorem fV{t:Int}(h:isB t):zx (yg t) 255=255-t:=by rw[jA,qm];exact Ka (n:=256) (P:=fun t=>Builtin.bitNot t%256=255-t) (by decide +kernel) h.1 h.2
structure FD where
 name:Str
 args:Arguments
 body:List Stmt
 scope:Scope
noncomputable def bG:Option Stmt->FD
 | some (Stmt.FunctionDef n a b _ _ _ sc _ _ _)=>⟨n,a,b,sc⟩
 | _=>⟨Str.empty,⟨[],[],none,[],[],none,[]⟩,[],⟨.function,[],false,false,[]⟩⟩
noncomputable def Vq(d:FD)(q:String)(df pm:Value)(c:Addr):Obj:=⟨.type "function",none,.func (fnOf d.name q d.args d.body d.scope df .none .none pm none (.ref c) .none),#[]⟩
noncomputable def jG{α:Type}(p:α->Bool):List α->Bool
 | []=>true
 | x::r=>cond (p x) (jG p r) false
theorem Zd{a b:Bool}(h:cond a b false=true):a=true/\b=true:=by
 induction a with
 | false=>exact ft h
 | true=>exact⟨rfl,h⟩
theorem zP{α:Type}{p:α->Bool}:∀{l:List α},jG p l=true->∀x∈l,p x=true
 | a::l,h,x,hx=>by
  obtain⟨h1,h2⟩:=Zd (a:=p a) (b:=jG p l) h
  cases hx with
  | head=>exact h1
  | tail _ hx=>exact zP h2 x hx
noncomputable def isN(x:Option (Option Value)):Bool:=match x with | some none=>true | _=>false
noncomputable def pJ(x:Option (Option Value))(b:String):Bool:=match x with | some (some (.builtin c))=>c==b | _=>false
theorem Zq{x:Option (Option Value)}(h:isN x=true):x=some none:=by
 induction x with
 | none=>exact ft h
 | some y=>induction y with
  | none=>rfl
  | some _=>exact ft h
theorem aq{x:Option (Option Value)}{b:String}(h:pJ x b=true):x=some (some (.builtin b)):=by
 induction x with
 | none=>exact ft h
 | some y=>induction y with
  | none=>exact ft h
  | some v=>induction v with
   | builtin c=>exact congrArg (fun z=>some (some (Value.builtin z))) (eq_of_beq h)
   | _=>exact ft h
noncomputable def kG(x:Option (Option Value))(a:Addr):Bool:=match x with | some (some (.ref c))=>Nat.beq c a | _=>false
theorem Xi{x:Option (Option Value)}{b:Addr}(h:kG x b=true):x=some (some (.ref b)):=by
 induction x with
 | none=>exact ft h
 | some y=>induction y with
  | none=>exact ft h
  | some v=>induction v with
   | ref c=>exact congrArg (fun z=>some (some (Value.ref z))) (Bp h)
   | _=>exact ft h
section
variable (K:Frag)(C:Addr)(nm:Nat->Str)
noncomputable def uj(x:Nat):Bool:=plainGet K C (nm x)&&hasDictIn K C&&isN (findIn K (.ref C) (nm x))&&pJ (findIn K (.ref C) "__setattr__") "object.__setattr__" && plainOver K C&&isN (takerIn K C (nm x))
noncomputable def isV(v:PV)(c:Value):Bool:=match v,c with
 | .int i,.int j _=>decide (i=j)
 | .top a,.ref b=>Nat.beq a b
 | .str a,.str b _=>a==b
 | _,_=>false
noncomputable def uz(v:PV)(x:Option (Option Value)):Bool:=match x with
 | some (some c)=>isN (specialIn K c "__get__")&&handedIn c&&isV v c
 | _=>false
theorem iD{K:Frag}{v:PV}{x:Option (Option Value)}(h:uz K v x=true):∃c,x=some (some c)/\(isN (specialIn K c "__get__")&&handedIn c&&isV v c)=true:=by
 induction x with
 | none=>exact ft h
 | some y=>induction y with
  | none=>exact ft h
  | some c=>exact(zA c rfl h)
noncomputable def oy(p:Nat×PV):Bool:=plainGet K C (nm p.1)&&hasDictIn K C && !copiedNames.contains (nm p.1)&&uz K p.2 (findIn K (.ref C) (nm p.1))
noncomputable def vi(x:Option Bool):Bool:=match x with | some false=>true | _=>false
noncomputable def vF(p:Nat×Addr):Bool:=plainGet K C (nm p.1)&&hasDictIn K C&&kG (findIn K (.ref C) (nm p.1)) p.2&&isFn K (.ref p.2)&&pJ (specialIn K (.ref p.2) "__get__") "function.__get__" && vi (takesIn K (.ref p.2)) && !copiedNames.contains (nm p.1)&&keepIn K (.ref p.2)&&fnIn K p.2
noncomputable def A9(p:Nat×Addr):Bool:=kG (nsIn K mainGlobals (nm p.1)) p.2
noncomputable def uR(i:Int)(x:Option (Option Value)):Bool:=match x with | some (some (.int j _))=>decide (j=i) | _=>false
theorem kr{i:Int}{x:Option (Option Value)}(h:uR i x=true):∃t,x=some (some (.int i t)):=by
 induction x with
 | none=>exact ft h
 | some y=>induction y with
  | none=>exact ft h
  | some v=>induction v with
   | int j t=>exact⟨t,congrArg (fun z=>some (some (Value.int z t))) (of_decide_eq_true h)⟩
   | _=>exact ft h
noncomputable def uQ(p:Nat×Int):Bool:=uR p.2 (nsIn K mainGlobals (nm p.1))
noncomputable def eqV:Value->Value->Bool
 | .builtin a,.builtin b=>a==b
 | .type a,.type b=>a==b
 | _,_=>false
noncomputable def eqO(v:Value)(x:Option Value):Bool:=match x with | some u=>eqV u v | none=>false
noncomputable def XT(pr:Program)(loose:List Str)(x:Nat)(v:Value):Bool:=eqO v (bootBuiltins (nm x)) && !startupNames.contains (nm x) && !loose.contains (nm x) && !((recsOf pr).map (·.name)).contains (nm x) && !((litsOf pr).map (·.1)).contains (nm x) && !((clssOf pr loose).map (·.name)).contains (nm x) && !(nm x==("__name__" : Str)) && !(nm x==("__debug__" : Str))
noncomputable def uL(f:Addr):Bool:=keepIn K (.ref f)&&fnIn K f
noncomputable def uA(fI:Addr):Bool:=makesIn K C&&kG (findIn K (.ref C) "__init__") fI&&isFn K (.ref fI)&&keepIn K (.ref C)
end
section
theorem im(h:uj G.K G.X.C G.X.nm x=true):AttrOk G x:=by
 refine zd (za h) fun h h6=>?_
 refine zd (za h) fun h h5=>?_
 refine zd (za h) fun h h4=>?_
 refine zd (za h) fun h h3=>?_
 refine zd (za h) fun h1 h2=>?_
 exact⟨h1,h2,Zq h3,aq h4,h5,Zq h6⟩
theorem eV{v:PV}{c:Value}(h:isV v c=true)(ρ:List Addr)(frz:BD):VR ρ frz v c:=by
 cases v with
 | int i=>induction c with
  | int j t=>exact of_decide_eq_true h▸jz _ _ _ _
  | _=>exact ft h
 | top a=>induction c with
  | ref b=>exact Bp h▸ZT _ _ _
  | _=>exact ft h
 | str a=>induction c with
  | str b t=>exact(eq_of_beq (show(a==b)=true from h))▸(show ∃t',Value.str a t=.str a t' from⟨t,rfl⟩)
  | _=>exact ft h
 | _=>exact ft h
theorem Z5{p:Nat×PV}(h:oy G.K G.X.C G.X.nm p=true):∃c,ConstOk G p.1 p.2 c:=by
 refine byc fun Ea=>?_
 refine zd (za h) fun h h4=>?_
 refine zd (za h) fun h h3=>?_
 refine zd (za h) fun h1 h2=>?_
 refine zc (iD h4) fun c e h4=>?_
 refine zd (za h4) fun h5 h7=>?_
 refine zd (za h5) fun h5 h6=>?_
 refine Ea ?_
 exact⟨c,h1,h2,e,Zq h5,h6,(Cq _).mp h3,eV h7⟩
theorem kH{x:Option Bool}(h:vi x=true):x=some false:=by
 induction x with
 | none=>exact ft h
 | some b=>induction b with
  | true=>exact ft h
  | false=>rfl
theorem kY{p:Nat×Addr}(h:vF G.K G.X.C G.X.nm p=true):MethOk G p.1 p.2:=by
 refine zd (za h) fun h h9=>?_
 refine zd (za h) fun h h8=>?_
 refine zd (za h) fun h h7=>?_
 refine zd (za h) fun h h6=>?_
 refine zd (za h) fun h h5=>?_
 refine zd (za h) fun h h4=>?_
 refine zd (za h) fun h h3=>?_
 refine zd (za h) fun h1 h2=>?_
 exact⟨h1,h2,Xi h3,h4,aq h5,kH h6,(Cq _).mp h7,h8,h9⟩
theorem kq{p:Nat×Int}(h:uQ G.K G.X.nm p=true):∃t,nsIn G.K mainGlobals (G.X.nm p.1)=some (some (.int p.2 t)):=kr h
theorem Wz{u v:Value}(h:eqV u v=true):u=v:=by
 induction u with
 | builtin a=>induction v with
  | builtin b=>exact congrArg Value.builtin (eq_of_beq h)
  | _=>exact ft h
 | type a=>induction v with
  | type b=>exact congrArg Value.type (eq_of_beq h)
  | _=>exact ft h
 | _=>exact ft h
theorem oK{v:Value}{x:Option Value}(h:eqO v x=true):x=some v:=by
 induction x with
 | none=>exact ft h
 | some u=>exact congrArg some (Wz h)
theorem fX{l:List Str}{x:Str}(h:l.contains x=false):x∉l:=fun hm=>by rw[List.contains_iff_mem.mpr hm] at h;cases h
theorem J4{v:Value}(h:XT G.X.nm G.p G.loose x v=true):BltOk G x v:=by
 have n {b:Bool} (h:(!b)=true):b=false:=(Cq b).mp h;refine zd (za h) fun h h8=>?_
 refine zd (za h) fun h h7=>?_
 refine zd (za h) fun h h6=>?_
 refine zd (za h) fun h h5=>?_
 refine zd (za h) fun h h4=>?_
 refine zd (za h) fun h h3=>?_
 refine zd (za h) fun h1 h2=>?_
 exact⟨oK h1,fX (n h2),fX (n h3),fX (n h4),fX (n h5),fX (n h6),beq_eq_false_iff_ne.mp (n h7),n h8⟩
theorem km(h:uL G.K f=true):keepIn G.K (.ref f)=true/\fnIn G.K f=true:=by
 exact za h
theorem iE(h:uA G.K G.X.C fI=true):CtorOk G fI:=by
 obtain⟨h,h4⟩:=za h;obtain⟨h,h3⟩:=za h
 exact⟨(za h).1,Xi (za h).2,h3,h4⟩
end
noncomputable def mR:List PV->List Value->Bool
 | [],[]=>true
 | v::vs,w::ws=>cond (isV v w) (mR vs ws) false
 | _,_=>false
theorem mS{frz:BD}{vs:List PV}:∀{ws:List Value},mR vs ws=true->VRs ρ frz vs ws:=by
 induction vs with
 | nil =>
  intro ws h
  induction ws with
  | nil=>exact VRs.nil
  | cons _ _=>exact ft h
 | cons v vs ih =>
  intro ws h
  induction ws with
  | nil=>exact ft h
  | cons w ws =>
   have h:=Zd (a:=isV v w) (b:=mR vs ws) h;exact VRs.cons (eV h.1 _ _) (ih h.2)
noncomputable def A0(vs:List PV)(d:Data):Bool:=match d with
 | .seq a n=>Nat.beq n 0&&mR vs a.toList
 | _=>false
noncomputable def vC(vs:List PV)(x:Option Obj):Bool:=match x with
 | some o=>((eqV o.cls (.type "list")||eqV o.cls (.type "tuple"))&&o.dict.isNone)&&(o.slots.isEmpty&&A0 vs o.data)
 | none=>false
theorem kQ{x:Option Obj}{vs:List PV}(h:vC vs x=true):∃(l:List Value) (n:Nat),(x=some (listOf l.toArray n)∨x=some (qx l n)) /\ ∀ρ frz,VRs ρ frz vs l:=by
 induction x with
 | none=>exact ft h
 | some o =>
  obtain⟨c,d,dt,sl⟩:=o;refine zd (za h) fun h1 h2=>?_
  refine zd (za h1) fun h1 h3=>?_
  refine zd (za h2) fun h2 h4=>?_
  induction dt with
  | seq a n =>
   refine zd (za h4) fun h6 h5=>?_
   obtain rfl:=Option.isNone_iff_eq_none.mp h3;obtain rfl:=Array.isEmpty_iff.mp h2;obtain rfl:=Bp h6;refine(yA a.toList 0 ?_ (fun Z Z=>mS h5))
   rcases(Bool.or_eq_true _ _).mp h1 with h1 | h1
   ·obtain rfl:=Wz h1;exact .inl rfl
   ·obtain rfl:=Wz h1;exact .inr rfl
  | _=>exact ft h4
noncomputable def rq(K:Frag)(b:Addr)(vs:List PV):Bool:=vC vs (K.lookup b)
theorem aC{K:Frag}{b:Addr}{vs:List PV}(h:rq K b vs=true):∃(l:List Value) (n:Nat),(K.lookup b=some (listOf l.toArray n)∨K.lookup b=some (qx l n)) /\ ∀ρ frz,VRs ρ frz vs l:=kQ h
noncomputable def Ad(x:Option Obj):Bool:=match x with | some o=>eqV o.cls (.type "list") | none=>false
noncomputable def nD(K:Frag)(b:Addr)(vs:List PV):Bool:=rq K b vs&&Ad (K.lookup b)
theorem fj{K:Frag}{b:Addr}{vs:List PV}(h:nD K b vs=true):∃(l:List Value) (n:Nat),K.lookup b=some (listOf l.toArray n) /\ ∀ρ frz,VRs ρ frz vs l:=by
 refine byc fun Ea=>?_
 refine zd (za h) fun h1 h2=>?_
 refine jj (aC h1) fun l n e r=>?_
 refine Ea ?_
 rcases e with e | e
 ·exact(yA l n e r)
 ·rw[e] at h2
  exact absurd (Wz (u:=.type "tuple") (v:=.type "list") h2) (fun q=>by injection q with q;exact absurd q (by decide))
noncomputable def Vi:List (Addr×List PV)->Addr->List PV
 | [],_=>[]
 | (b,v)::r,a=>cond (Nat.beq a b) v (Vi r a)
theorem Vj{f:Addr->List PV->Bool}:∀{l:List (Addr×List PV)},jG (fun p=>f p.1 p.2) l=true->∀b,Vi l b ≠ []->f b (Vi l b)=true
 | [],_,b,h=>absurd rfl h
 | (a,v)::r,hl,b,h=>by
  obtain⟨h1,h2⟩:=Zd (a:=f a v) (b:=jG (fun p:Addr×List PV=>f p.1 p.2) r) hl
  show f b (cond (Nat.beq b a) v (Vi r b))=true;replace h:cond (Nat.beq b a) v (Vi r b) ≠ []:=h
  cases e:Nat.beq b a with
  | true=>rw[Bp e];exact h1
  | false=>rw[e] at h;exact Vj h2 b h
noncomputable def bX:List Nat->Bool
 | []=>true
 | a::r=>cond (r.any (Nat.beq a)) false (bX r)
theorem Uc:∀{l:List Nat},bX l=true->l.Nodup
 | [],_=>Dw
 | a::r,h=>by
  have h:cond (r.any (Nat.beq a)) false (bX r)=true:=h
  cases e:r.any (Nat.beq a) with
  | true=>rw[e] at h;exact ft h
  | false =>
   rw[e] at h;exact List.nodup_cons.mpr ⟨fun hm=>ft (e.symm.trans (Uq hm)),Uc h⟩
noncomputable def eT(x:Option NameKind):Bool:=match x with | some .local=>true | _=>false
noncomputable def eP(x:Option NameKind):Bool:=match x with | some .cell=>true | _=>false
theorem Yr{x:Option NameKind}(h:eT x=true):x=some .local:=by
 induction x with
 | none=>exact ft h
 | some k=>induction k<;>first | rfl | exact ft h
noncomputable def pK(k:ScopeKind):Bool:=match k with | .function=>true | _=>false
theorem au{k:ScopeKind}(h:pK k=true):k=.function:=by induction k<;>first | rfl | exact ft h
noncomputable def fnB(nm:Nat->Str)(d:FD)(ids:List Nat):Bool:=bX ids&&jG (fun k=>eT (d.scope.names.lookup (nm k))) ids&&jG (fun y=>!eP (some y.2)) d.scope.names && !d.scope.isCoroutine && !d.scope.isGenerator&&pK d.scope.kind
theorem aj{c:Addr}{q:String}{d:FD}{df:Value}(hl:G.K.lookup f=some (Vq d q df pm c))(hb:fnB G.X.nm d ids=true)(hc:codeIn G.K (.ref c) q=true)
  (S5:∀(s:Shared) (aws:List Value),G.K.In s.heap->aws.length=ids.length->BindsTo s (fnOf d.name q d.args d.body d.scope df .none .none pm none (.ref c) .none) (ca aws) ((ids.map G.X.nm).zip aws)):FnOk G ca f ids q d.body d.scope (.ref c):=by
 refine byc fun Ea=>?_
 obtain⟨hb,h6⟩:=za hb;obtain⟨hb,h5⟩:=za hb;obtain⟨hb,h4⟩:=za hb;obtain⟨hb,h3⟩:=za hb;obtain⟨h1,h2⟩:=za hb;refine Ea ?_
 refine⟨⟨_,_,_,_,_,_,_,_,_,_,_,hl,S5⟩,hc,Uc h1,fun k hk=>Yr (zP h2 k hk),fun x hx e=>?_,(Cq _).mp h4,(Cq _).mp h5,au h6⟩
 have:=zP h3 x hx
 rw[e] at this;exact ft this
theorem cW{K:Frag}{nm:Nat->Str}(h:∀v w S,peek K S (bindArgs fd ⟨[v,w],[]⟩)=some [(nm i,v),(nm j,w)])(s:Shared)(aws:List Value)(hK:K.In s.heap)(hl:aws.length = [i,j].length):BindsTo s fd (Q0 aws) (([i,j].map nm).zip aws):=by
 refine JK (fe hl) fun v w Cd=>?_;subst Cd
 exact kp_binds hK (h v w)
theorem ol{K:Frag}{nm:Nat->Str}{n1 n2:Str}{l:Nat}(h:∀u v w S,peek K S (bindArgs fd ⟨[u],[(n1,v),(n2,w)]⟩)=some [(nm i,u),(nm j,v),(nm l,w)])(s:Shared)(aws:List Value)(hK:K.In s.heap)(hl:aws.length = [i,j,l].length):BindsTo s fd (Yb n1 n2 aws) (([i,j,l].map nm).zip aws):=by
 refine zh (vw hl) fun u v w Cd=>?_;subst Cd
 exact kp_binds hK (h u v w)
section
variable {P:Pi}
theorem PiOk.pin(ok:PiOk G P)(pn:Pn):PiOk (G.pin pn) P where
 tab:=ok.tab
 tabL:=ok.tabL
 fnT:=ok.fnT
 atts:=fun x hx=>let a:=ok.atts x hx;⟨a.pg,a.hd,a.fi,a.sa,a.po,a.tk⟩
 cis:=fun p hp=>let⟨c,a⟩:=ok.cis p hp;⟨c,a.pg,a.hd,a.fi,a.ng,a.hh,a.cp,a.vr⟩
 cts:=fun p hp=>let⟨c,a⟩:=ok.cts p hp;⟨c,a.pg,a.hd,a.fi,a.ng,a.hh,a.cp,a.vr⟩
 mths:=fun p hp=>let a:=ok.mths p hp;⟨a.pg,a.hd,a.fi,a.fn,a.gf,a.tk,a.cp,a.ki,a.fk⟩
 tops:=ok.tops
 gis:=ok.gis
 blts:=fun p hp=>let a:=ok.blts p hp;⟨a.hv,a.h1,a.h2,a.h3,a.h4,a.h4c,a.hn,a.hd⟩
 rngs:=fun p hp=>let a:=ok.rngs p hp;⟨a.hv,a.h1,a.h2,a.h3,a.h4,a.h4c,a.hn,a.hd⟩
 enms:=fun p hp=>let a:=ok.enms p hp;⟨a.hv,a.h1,a.h2,a.h3,a.h4,a.h4c,a.hn,a.hd⟩
 zips:=fun p hp=>let a:=ok.zips p hp;⟨a.hv,a.h1,a.h2,a.h3,a.h4,a.h4c,a.hn,a.hd⟩
 dbg:=ok.dbg
 C:=ok.C
 ctor:=let⟨f,a⟩:=ok.ctor;⟨f,a.makes,a.init,a.fn,a.keep⟩
theorem HdS.pin{d:Nat}(hH:HdS G d H)(pn:Pn):HdS (G.pin pn) d H:=by
 intro ps f args O k h outer B3 env L A m s vs ws aws D hf hke F R hl Q hq;exact hH ps h D.unpin hf hke F R hl hq
theorem yV.pin{d:Nat}{S:List PV->List PO->(PV->List PO->Prop)->Prop}(h:yV G d f ca S)(pn:Pn):yV (G.pin pn) d f ca S:=by
 intro ps args O k hs outer B3 env L A m s vs ws aws D hf hke F R hl Q hq;exact h ps hs D.unpin hf hke F R hl hq
theorem CtS.pin{d:Nat}(h:CtS G d P)(pn:Pn):CtS (G.pin pn) d P:=let⟨d',f,e,a,b⟩:=h;(jx d' f e ⟨a.makes,a.init,a.fn,a.keep⟩ (b.pin pn))
theorem ak{d:Nat}{c:Addr}{q:String}{D:FD}(ok:PiOk G P)(hC:CtS G d P)(h9:9<=d)(hb:HdS G d Hb)(okf:FnOk G ca f ids q D.body D.scope (.ref c))(T5:P.cels = [])(harg:∀a,P.arg a=none)
  (hm:mSs G.X.nm P.toPm D.scope ir D.body) (ps:Pn) {A:Around} (D':Act (G.pin ps) outer B3 (envOf q D.scope L f (.ref c)) A d):SS (G.pin ps) A B3 L (execs D.body (envOf q D.scope L f (.ref c))) (pSs P Hb ir):=
 sSs (ok.pin ps) (hb.pin ps) (hC.pin ps) h9 D' ⟨iI okf.kind,rfl,rfl,fun p hp=>(by rw[T5] at hp;cases hp),fun a xs e=>(by rw[harg] at e;cases e)⟩ ir hm
theorem pC{d:Nat}{c:Addr}{q:String}{D:FD}{S:List PV->List PO->(PV->List PO->Prop)->Prop}(ok:PiOk G P)(hC:CtS G d P)(h9:9<=d)(hb:HdS G d Hb)(hH:HdS G (d+1) H)(okf:FnOk G Q0 f ids q D.body D.scope (.ref c))(T5:P.cels = [])(harg:∀a,P.arg a=none)
  (hm:mSs G.X.nm P.toPm D.scope ir D.body) (hS:∀args hp k,S args hp k->jc ids (pSs P Hb ir) args hp k):HdS G (d+1) (H.ext f S):=
 HdS.ext hH okf (fun ps Z Z Z Z D'=>ak ok hC h9 hb okf T5 harg hm ps D') hS
theorem uO{d:Nat}{c:Addr}{q:String}{D:FD}{S:List PV->List PO->(PV->List PO->Prop)->Prop}(ok:PiOk G P)(hC:CtS G d P)(h9:9<=d)(hb:HdS G d Hb)(okf:FnOk G ca f ids q D.body D.scope (.ref c))(T5:P.cels = [])(harg:∀a,P.arg a=none)
  (hm:mSs G.X.nm P.toPm D.scope ir D.body) (hS:∀args hp k,S args hp k->jc ids (pSs P Hb ir) args hp k):yV G (d+1) f ca S:=
 yV.of okf (fun ps Z Z Z Z D'=>ak ok hC h9 hb okf T5 harg hm ps D') hS
theorem XY{d:Nat}(h:CtorOk G fI)(hc:P.ctr=fun Z Z Z=>False):CtS G (d+1) P:=(jx d fI rfl h (by rw[hc];intro ps args O k hk;exact hk.elim))
theorem yV.le{d:Nat}{S:List PV->List PO->(PV->List PO->Prop)->Prop}(h:yV G d f ca S)(hd:d<=d'):yV G d' f ca S:=by
 intro ps args O k hs outer B3 env L A m s vs ws aws D;exact h ps hs (D.le hd)
theorem hd0{d:Nat}:HdS G d fun Z Z Z Z=>False:=fun Z Z Z Z Z h=>h.elim
end
noncomputable def bW(l:List Str)(i:Nat):Str:=match l[i]? with
 | some s=>s
 | none=>⟨⟨List.replicate (i+100) 0⟩⟩
noncomputable def ZR:Str->Str->Bool
 | ⟨⟨a⟩⟩,⟨⟨b⟩⟩=>lnB a b
where lnB:List Nat->List Nat->Bool
 | [],[]=>true
 | x::xs,y::ys=>cond (Nat.beq x y) (lnB xs ys) false
 | _,_=>false
theorem Yy:∀l,ZR.lnB l l=true
 | []=>rfl
 | x::xs=>by show cond (Nat.beq x x) (ZR.lnB xs xs) false=true;rw[De];exact Yy xs
theorem cj(a:Str):ZR a a=true:=Yy _
noncomputable def lu:List Str->Bool
 | []=>true
 | a::r=>cond (r.any (ZR a)) false (cond (Nat.ble 100 a.cps.toList.length) false (lu r))
theorem aN:∀{l:List Str},lu l=true->l.Nodup /\ ∀a∈l,a.cps.toList.length<100
 | [],_=>⟨Dw,fun Z h=>nomatch h⟩
 | a::r,h=>by
  replace h:cond (r.any (ZR a)) false (cond (Nat.ble 100 a.cps.toList.length) false (lu r))=true:=h
  cases e:r.any (ZR a) with
  | true=>rw[e] at h;cases h
  | false =>
   cases e2:Nat.ble 100 a.cps.toList.length with
   | true=>rw[e,e2] at h;cases h
   | false =>
    rw[e,e2] at h;obtain⟨h1,h2⟩:=aN h
    refine⟨List.nodup_cons.mpr ⟨fun hm=>?_,h1⟩,fun b hb=>?_⟩
    ·have:r.any (ZR a)=true:=List.any_eq_true.mpr ⟨a,hm,cj a⟩
     rw[e] at this;cases this
    ·rcases List.mem_cons.mp hb with rfl | hb
     ·have:=Nat.lt_of_not_le (fun q=>by rw[Ds q] at e2;cases e2);exact this
     ·exact h2 b hb
theorem fR{l:List Str}(h:lu l=true)(i j:Nat)(e:bW l i=bW l j):i=j:=by
 obtain⟨h1,h2⟩:=aN h;unfold bW at e
 cases ei:l[i]? with
 | some a =>
  rw[ei] at e
  cases ej:l[j]? with
  | some b =>
   rw[ej] at e;subst e;obtain⟨p,q⟩:=List.getElem?_eq_some_iff.mp ei;obtain⟨p',q'⟩:=List.getElem?_eq_some_iff.mp ej;exact(List.getElem_inj h1).mp (q.trans q'.symm)
  | none =>
   rw[ej] at e
   have:=h2 a (Df ei)
   subst e
   have:(List.replicate (j+100) 0).length<100:=this
   rw[List.length_replicate] at this
   lia
 | none =>
  rw[ei] at e
  cases ej:l[j]? with
  | some b =>
   rw[ej] at e
   have:=h2 b (Df ej)
   subst e
   have:(List.replicate (i+100) 0).length<100:=this
   rw[List.length_replicate] at this
   lia
  | none =>
   rw[ej] at e;have e2:(List.replicate (i+100) 0)=List.replicate (j+100) 0:=congrArg (fun z:Str=>z.cps.toList) e
   have:=congrArg List.length e2
   rw[List.length_replicate,List.length_replicate] at this
   lia
theorem lq{l:List Str}{s:Str}(h:l.contains s=false)(hs:s.cps.toList.head?≠some 0)(i:Nat):(bW l i==s)=false:=by
 rw[beq_eq_false_iff_ne];intro e;unfold bW at e
 cases ei:l[i]? with
 | some a =>
  rw[ei] at e;subst e;rw[List.contains_iff_mem.mpr (Df ei)] at h
  cases h
 | none =>
  rw[ei] at e
  apply hs
  rw[<- e];rfl
noncomputable def Hd.or(H H':Hd):Hd:=fun f args hp k=>H f args hp k∨H' f args hp k
section
theorem HdS.or{d:Nat}{H':Hd}(h:HdS G d H)(h':HdS G d H'):HdS G d (H.or H'):=by
 intro ps f args O k hk
 rcases hk with hk | hk
 ·exact h ps hk
 ·exact h' ps hk
theorem eQ{x:Option NameKind}(h:eP x=true):x=some .cell:=by
 induction x with
 | none=>exact ft h
 | some k=>induction k<;>first | rfl | exact ft h
end
noncomputable def swI:Nat->Nat
 | 2=>3
 | 3=>2
 | 4=>5
 | 5=>4
 | i=>i
mutual
noncomputable def rnV:PV->PV
 | .ref i=>.ref (swI i)
 | .tup vs=>.tup (ym vs)
 | .ls vs=>.ls (ym vs)
 | .bound v f=>.bound (rnV v) f
 | .none=>.none
 | .bool b=>.bool b
 | .int i=>.int i
 | .str s=>.str s
 | .top a=>.top a
 | .il xs=>.il xs
noncomputable def ym:List PV->List PV
 | []=>[]
 | v::vs=>rnV v::ym vs
end
noncomputable def rnF:List (Nat×PV)->List (Nat×PV)
 | []=>[]
 | (k,v)::r=>(k,rnV v)::rnF r
noncomputable def rnO:PO->PO
 | .il xs=>.il xs
 | .ls vs=>.ls (ym vs)
 | .cell none=>.cell none
 | .cell (some v)=>.cell (some (rnV v))
 | .gone=>.gone
 | .inst fs=>.inst (rnF fs)
 | .tab a=>.tab a
noncomputable def JY:List PO->List PO
 | []=>[]
 | o::r=>rnO o::JY r
noncomputable def swL:List α->List α
 | z::a::b::c::d::e::r=>z::a::c::b::e::d::r
 | l=>l
noncomputable def swC:List (Nat×Addr)->List (Nat×Addr)
 | []=>[]
 | (k,a)::r=>(swI k,a)::swC r
theorem Uf:∀i,swI (swI i)=i
 | 0 | 1 | 2 | 3 | 4 | 5=>rfl
 | _+6=>rfl
theorem Qp:∀{n:Nat} {xs:List α},n+1<=xs.length->∃a r,xs=a::r/\n<=r.length
 | _,[],h=>absurd h (Nat.not_succ_le_zero _)
 | _,a::r,h=>⟨a,r,rfl,Nat.le_of_succ_le_succ h⟩
theorem aB{xs:List α}(h:6<=xs.length):∃z a b c d e r,xs=z::a::b::c::d::e::r:=by
 exact jj (Qp h) fun z r1 e1 h1=>jj (Qp h1) fun a r2 e2 h2=>jj (Qp h2) fun b r3 e3 h3=>jj (Qp h3) fun c r4 e4 h4=>jj (Qp h4) fun d r5 e5 h5=>jj (Qp h5) fun e r6 e6 h6=>(zk z a b (zk c d e (eJ r6 (e1.trans (congrArg (z :: ·) (e2.trans (congrArg (a :: ·) (e3.trans (congrArg (b :: ·) (e4.trans (congrArg (c :: ·) (e5.trans (congrArg (d :: ·) e6)))))))))))))
theorem gK{l:List α}(i:Nat){a:α}(hl:6<=l.length)(h:l[i]?=some a):(swL l)[swI i]?=some a:=by
 obtain⟨z,a,b,c,d,e,r,rfl⟩:=aB hl
 match i,h with
 | 0,h=>exact h
 | 1,h=>exact h
 | 2,h=>exact h
 | 3,h=>exact h
 | 4,h=>exact h
 | 5,h=>exact h
 | _+6,h=>exact h
mutual
theorem KU:∀v,rnV (rnV v)=v
 | .ref i=>congrArg PV.ref (Uf i)
 | .tup vs=>congrArg PV.tup (qM vs)
 | .ls vs=>congrArg PV.ls (qM vs)
 | .bound v f=>congrArg (PV.bound · f) (KU v)
 | .none=>rfl
 | .bool b=>rfl
 | .int i=>rfl
 | .str s=>rfl
 | .top a=>rfl
 | .il xs=>rfl
theorem qM:∀vs,ym (ym vs)=vs
 | []=>rfl
 | v::vs=>by show rnV (rnV v)::ym (ym vs)=_;rw[KU v,qM vs]
end
theorem KR:∀l,rnF (rnF l)=l
 | []=>rfl
 | (k,v)::r=>by show(k,rnV (rnV v))::rnF (rnF r)=_;rw[KU,KR r]
theorem XB:∀l,swC (swC l)=l
 | []=>rfl
 | (k,a)::r=>by show(swI (swI k),a)::swC (swC r)=_;rw[Uf,XB r]
theorem bf:∀{l:List (Nat×Addr)} {p:Nat×Addr},p∈swC l->(swI p.1,p.2)∈l
 | (k,a)::r,p,h=>by
  cases h with
  | head=>show(swI (swI k),a)∈_;rw[Uf];exact .head _
  | tail _ h=>exact .tail _ (bf h)
theorem KV:∀(a b:List PV),ym (a++b)=ym a++ym b
 | [],_=>rfl
 | v::a,b=>congrArg (rnV v :: ·) (KV a b)
theorem Vg:∀(a:List PV),ym a.reverse=(ym a).reverse
 | []=>rfl
 | v::a=>by rw[Cv,KV,Vg a];exact(Cv ..).symm
theorem Vf:∀(a:List PV),(ym a).length=a.length
 | []=>rfl
 | v::a=>congrArg (· + 1) (Vf a)
theorem nv{k:Nat}{v:PV}:∀{l:List (Nat×PV)},lk k (rnF l)=some v->lk k l=some (rnV v)
 | (j,u)::r,h=>by
  replace h:cond (Nat.beq k j) (some (rnV u)) (lk k (rnF r))=some v:=h;show cond (Nat.beq k j) (some u) (lk k r)=some (rnV v)
  cases q:Nat.beq k j with
  | true=>rw[q] at h;cases h;rw[KU];rfl
  | false=>rw[q] at h;exact nv h
section
variable {frz:BD}
mutual
theorem VR.rn(hl:6<=ρ.length):∀(v:PV) {w:Value},VR ρ frz v w->VR (swL ρ) frz (rnV v) w
 | .none,_,h=>h
 | .bool _,_,h=>h
 | .int _,_,h=>h
 | .str _,_,h=>h
 | .top _,_,h=>h
 | .il _,_,h=>h
 | .ref i,_,h=>by obtain⟨a,e,r⟩:=h;show Exists _;exact⟨a,gK i hl e,r⟩
 | .tup vs,_,h=>by obtain⟨a,it,n,e,q,r⟩:=h;show Exists _;exact⟨a,it,n,e,q,VRs.rn hl vs r⟩
 | .ls vs,_,h=>by obtain⟨a,it,n,e,q,r⟩:=h;show Exists _;exact⟨a,it,n,e,q,VRs.rn hl vs r⟩
 | .bound v f,_,h=>by obtain⟨a,sv,e,q,r⟩:=h;show Exists _;exact⟨a,sv,e,q,VR.rn hl v r⟩
theorem VRs.rn(hl:6<=ρ.length):∀(vs:List PV) {ws:List Value},VRs ρ frz vs ws->VRs (swL ρ) frz (ym vs) ws
 | [],_,h=>h
 | v::vs,_,h=>by obtain⟨w,r,e,a,b⟩:=h;show Exists _;exact⟨w,r,e,VR.rn hl v a,VRs.rn hl vs b⟩
end
theorem FR.rn{nm:Nat->Str}(hl:6<=ρ.length):∀{fs:List (Nat×PV)} {es:List DictEntry},FR nm ρ frz fs es->FR nm (swL ρ) frz (rnF fs) es
 | [],_,h=>h
 | (k,v)::fs,_,h=>by
  refine byc fun Ea=>?_
  refine Jq h fun e r t e1 e2 e3 e4=>?_
  refine Ea ?_;show Exists _;exact(yM e r t e1 e2 (VR.rn hl v e3) (FR.rn hl e4))
variable {X:Cx}
theorem OR.rn(hl:6<=ρ.length){o:PO}{a:Addr}{p:BD}(h:OR X ρ frz o a p):OR X (swL ρ) frz (rnO o) a p:=by
 induction h with
 | il i=>exact .il i
 | ls i=>exact .ls (VRs.rn hl _ i)
 | @cell v w _ _ d i =>
  induction v with
  | none=>exact .cell (v:=none) d i
  | some v=>refine zc i fun u e r=>?_;exact .cell (v:=some (rnV v)) d (zA u e (VR.rn hl v r))
 | gone=>exact .gone
 | inst i=>exact .inst (FR.rn hl i)
 | tab i=>exact .tab i
theorem HR.rnt(hl:6<=ρ.length){os:List PO}{as:List Addr}{l:BD}(h:HR X ρ frz os as l):HR X (swL ρ) frz (JY os) as l:=by
 induction h with
 | nil=>exact .nil
 | cons o _ ih=>exact .cons (o.rn hl) ih
theorem HR.sw{os:List PO}{as:List Addr}{l:BD}(hl:6<=os.length)(h:HR X ρ frz os as l):∃l',HR X ρ frz (swL os) (swL as) l'/\l.Perm l':=by
 obtain⟨z,a,b,c,d,e,r,rfl⟩:=aB hl
 ·cases h with
  | cons oz t =>
  cases t with
  | cons o0 t =>
  cases t with
  | cons o1 t =>
  cases t with
  | cons o2 t =>
  cases t with
  | cons o3 t =>
  cases t with
  | cons o4 t =>
   refine(zA _ (.cons oz (.cons o0 (.cons o2 (.cons o1 (.cons o4 (.cons o3 t)))))) ?_);refine List.Perm.append_left _ (List.Perm.append_left _ ?_);rw[<- Br,<- Br,<- Br,<- Br,<- Br,<- Br];refine List.Perm.append_right _ ?_;rw[Br,Br (_++_)];exact List.perm_append_comm.append List.perm_append_comm
theorem YM:∀(l:List PO),(JY l).length=l.length
 | []=>rfl
 | _::r=>congrArg (· + 1) (YM r)
end
noncomputable def swH(hp:List PO):List PO:=swL (JY hp)
noncomputable def swS(O:PS):PS:=⟨rnF O.loc,swH O.hp⟩
noncomputable def Pn.sw(p:Pn):Pn:=⟨p.ps,p.ks,swC p.cl⟩
theorem RL.sw{X:Cx}{p:Pn}{m:BB}{vs:List PV}(hl:6<=O.hp.length)(r:RL (X.pin p) B3 L h m O vs ws):RL (X.pin p.sw) B3 L h m (swS O) (ym vs) ws:=by
 refine byc fun Ea=>?_
 refine zh r fun ρ led frz q=>?_
 have len:ρ.length=O.hp.length:=q.hr.len;have lρ:6<=ρ.length:=len▸hl;have e1:HR X (swL ρ) frz (JY O.hp) ρ led:=(HR.unpin q.hr).rnt lρ;obtain⟨led',e2,pm⟩:=e1.sw (by rw[YM];exact hl)
 have mem:∀p,p∈led'->p∈led:=fun p hp=>pm.symm.subset hp
 refine Ea ?_;refine(zk (swL ρ) led' frz ⟨e2.pin,fun p hp=>q.all p ?_,(pm.map (·.1)).nodup q.nd,fun p hp y hy=>q.off p hp y (mem y hy),fun p hp y hy=>q.offp p hp y ?_,⟨q.kept.1,fun p hp=>?_⟩,fun k v e=>?_,VRs.rn lρ vs q.stk⟩)
 ·simp only[By] at hp ⊢
  rcases hp with (h | h) | h
  ·exact .inl (.inl (mem _ h))
  ·exact .inl (.inr h)
  ·exact .inr h
 ·simp only[By] at hy ⊢
  rcases hy with h | h
  ·exact .inl (mem _ h)
  ·exact .inr h
 ·have:=gK _ lρ (q.kept.2 _ (bf hp))
  rw[Uf] at this;exact this
 ·refine zc (q.loc k _ (nv e)) fun w c d=>?_
  refine(zA w c ?_)
  have:=VR.rn lρ _ d
  rw[KU] at this;exact this
noncomputable def Hd.sw(H:Hd):Hd:=fun f args hp k=>6<=hp.length/\H f (ym args) (swH hp) fun v hp'=>6<=hp'.length/\k (rnV v) (swH hp')
theorem HdS.sw{d:Nat}(h:HdS G d H):HdS G d H.sw:=by
 intro ps f args O k hk outer B3 env L A m s vs ws aws D hf hke F R hl Q hq;obtain⟨h5,hk⟩:=hk;have R':=R.sw h5;rw[KV,Vg] at R';refine h ps.sw (O:=swS O) hk D hf hke F R' (by rw[Vf];exact hl) fun v hp' w' s' hk' r' F' R''=>?_
 obtain⟨g5,hk'⟩:=hk';have R3:=R''.sw (O:={ swS O with hp:=hp' }) g5
 have e1:ps.sw.sw=ps:=by show(⟨_,_,swC (swC ps.cl)⟩:Pn)=ps;rw[XB];rfl
 have e2:swS { swS O with hp:=hp' } = { O with hp:=swH hp' }:=by show(⟨rnF (rnF O.loc),_⟩:PS)=_;rw[KR]
 have e3:ym (v::ym vs)=rnV v::vs:=by show rnV v::ym (ym vs)=_;rw[qM]
 rw[e1,e2,e3] at R3;exact hq _ _ w' s' hk' r' F' R3
section
variable {A:Around}{m:BB}{vs:List PV}{E:BA}
structure FreeAt(G:Gam)(env:Env)(x j:Nat):Prop where
 at_:∃c,env.cells.lookup (G.X.nm x)=some c/\(j,c)∈G.X.cl
 kind:env.kindOf (G.X.nm x)=some .free
 nc:(G.X.nm x==("__classdict__" : Str))=false
theorem iN(V:EnvG env)(hc:FreeAt G env x j)(hd:(G.X.nm x==("__debug__" : Str))=false):ES G A B3 L (eval (.Name (G.X.nm x) pos) env) (ql j):=by
 intro O k m s vs ws h F R Q E hq;refine wpAny_Name ?_ hd;refine byc fun Ea=>?_
 refine zc (Wp h) fun v0 e h=>?_
 refine Ea ?_;refine zc (zG h) fun v Dm h=>?_;subst Dm
 refine byc fun Ef=>?_
 refine zc hc.at_ fun c hl hm=>?_
 refine zh R fun ρ led frz q=>?_
 refine zh (q.hr.at_cell e) fun a o w Ee=>q7 Ee fun pre post e1 e2 ed Ee=>zd Ee fun e3 e4=>?_
 refine Ef ?_;subst e2
 have:=q.kept.2 _ hm
 rw[e1] at this
 cases this
 refine zc e3 fun u Cd hu=>?_;subst Cd
 have N:=q.news (c,o) (Bn _ (by simp))
 exact wpAny_loadName_free V.kind hc.kind hl (zA _ N.1 ed) (hq v O m u s h (SR.refl _ _) F (zk ρ _ frz ⟨q.hr,q.all,q.nd,q.off,q.offp,q.kept,q.loc,VRs.cons hu q.stk⟩)) hc.nc
theorem bk{d:Addr}{o:Obj}{post:BD}(hp:∀p∈post,p.1≠d):∀{pre:BD},(∀p∈pre,p.1≠d)->UpdF d o (pre++(d,o)::post) (fun o'=>pre++(d,o')::post)
 | [],_=>.head hp
 | p::pre,h=>.tail (h p (.head _)) (bk hp fun q hq=>h q (.tail _ hq))
theorem RL.unpil{pn:Pl}(hps:pn.1=G.X.ps)(hks:∀p∈G.X.ks,p∈pn.2)(r:RL (G.X.pil pn) B3 L h m O vs ws):RL G.X B3 L h m O vs ws:=by
 refine zh r fun ρ led frz q=>?_
 have e:(G.X.pil pn).ps=G.X.ps:=hps;exact(zk ρ led frz ⟨HR.unpil q.hr,e▸q.all,q.nd,q.off,e▸q.offp,⟨fun p hp=>q.kept.1 p (hks p hp),q.kept.2⟩,q.loc,q.stk⟩)
theorem HR.atM{X:Cx}{frz:BD}{os:List PO}{as:List Addr}{l:BD}(h:HR X ρ frz os as l):∀{i:Nat} {o:PO},os[i]?=some o ->
  ∃a pre mid post,as[i]?=some a/\l=pre++mid++post/\OR X ρ frz o a mid /\ ∀(frz':BD),(∀p∈frz,p∈frz')->∀(T9:BD),OR X ρ frz' o a T9->HR X ρ frz' os as (pre++T9++post):=by
 induction h with
 | nil=>intro i o e;cases e
 | cons x t ih =>
  intro i o e
  induction i with
  | zero =>
   cases e
   exact(zk _ ([]) _ (qB _ rfl rfl x (fun frz' up m' h'=>.cons h' (t.mono (fun Z Z e=>e) up))))
  | succ i =>
   refine byc fun Ea=>?_
   refine zh (ih e) fun a pre mid Ee=>yo Ee fun post e1 e2 e3 e4=>?_
   refine Ea ?_;exact(zk a (_++pre) mid (qB post e1 (by rw[e2,Br,Br,Br]) e3 (fun frz' up m' h'=>by rw[Br,Br,<- Br pre];exact .cons (x.mono (fun Z Z e=>e) up) (e4 frz' up m' h'))))
theorem tB{c P a:Addr}{lpos:Pos}{name:Str}{lsc:Scope}{clos:List (Str×Addr)}{body:Expr}{rest:List Stmt}{W:Addr->PS->KF->Prop}{d:Nat}
  (D:Act G outer B3 (envX name sc L a (.ref c) cl) A d) (hz:sc.names.lookup (G.X.nm z)=some .local) (hk:sc.kind=.function) (hC:CodeHd B3 c P) (hlm:G.X.lm=(lpos.line,lpos.col,(name ++ ".<locals>.") ++ "<lambda>"))
  (hcl:closureFor lsc (envX name sc L a (.ref c) cl)=pure clos) (hdef:defaultsOf params (envX name sc L a (.ref c) cl)=([],[]))
  (hs:∀(ks:BD) (f c':Addr) (pm ctv:Value) (oc:Obj) (fs:Array Value) (t:Tok),(f,kla_obj "<lambda>" ((name ++ ".<locals>.") ++ "<lambda>") params body lsc clos pm c' ctv)∈ks->(c',oc)∈ks->oc.data=.fields fs->fs[1]?=some (.str ((name ++ ".<locals>.") ++ "<lambda>") t) ->
   SS (G.pil (G.X.ps,ks)) A B3 L (execs rest (envX name sc L a (.ref c) cl)) (W f)) :
  SS G A B3 L (execs (.Assign [.Name (G.X.nm z) zp] (.Lambda params body lsc lpos) spos::rest) (envX name sc L a (.ref c) cl)) (fun O k=>(∃j:Nat,O.hp[j]?=some (PO.tab P)) /\ ∀f,W f (O.sl z (.top f)) k):=by
 intro O k m s vs ws h F R Q E hq;refine byc fun Ea=>?_
 refine zd h fun Cd h=>?_;obtain⟨j,ej⟩:=Cd
 refine zh R fun ρ led frz q=>?_
 refine zh (q.hr.atM ej) fun a' pre mid Ee=>yo Ee fun post e1 e2 e3 e4=>?_
 refine Ea ?_;have V:EnvF (envX name sc L a (.ref c) cl) L:=⟨⟨rfl,rfl,hk⟩,rfl⟩
 cases e3 with
 | @tab ps _ tg =>
 subst e2;have nd:=q.nd;simp only[Da,Dh,List.map_nil,Br,List.singleton_append] at nd;have nd2:=List.nodup_append.mp nd;have nd3:=List.nodup_cons.mp nd2.2.1;have preP:∀p∈pre,p.1≠P:=fun p hp e=>nd2.2.2 p.1 (Cj hp) P (.head _) e
 have postP:∀p∈post,p.1≠P:=fun p hp e=>nd3.1 (e▸Cj hp)
 have frzP:∀p∈frz,p.1≠P:=fun p hp=>q.off p hp (P,tabObj ps) (by simp)
 have psP:∀p∈G.X.ps,p.1≠P:=fun p hp=>q.offp p hp (P,tabObj ps) (by simp)
 have same:∀ps' (p:Addr×Obj),p∈pre ++ [(P,tabObj ps')]++post->∃p'∈pre ++ [(P,tabObj ps)]++post,p'.1=p.1:=fun ps' p hp=>by
  simp only[By,List.mem_singleton] at hp
  rcases hp with (h | rfl) | h
  ·exact(zA p (by simp[h]) rfl)
  ·exact(zA (P,tabObj ps) (by simp) rfl)
  ·exact(zA p (by simp[h]) rfl)
 -- what is done with the function,once it stands
 have fin:∀(f c':Addr) (pm ctv:Value) (oc:Obj) (fs:Array Value) (t:Tok) (ps':Array Value) (frz':BD) (h':Heap) (tk:Nat),Fr B3 L h' m ->
   News B3 L h' ((pre ++ [(P,tabObj ps')]++post++frz')++G.X.ps)->(∀p∈frz,p∈frz')->(∀p∈frz',p∈frz ∨ ∀y∈(pre ++ [(P,tabObj ps)]++post++frz)++G.X.ps,y.1<p.1)->cJ G.X.lm frz' ps' ->
   (f,kla_obj "<lambda>" ((name ++ ".<locals>.") ++ "<lambda>") params body lsc clos pm c' ctv)∈frz'->(c',oc)∈frz'->oc.data=.fields fs->fs[1]?=some (.str ((name ++ ".<locals>.") ++ "<lambda>") t) ->
   wpAny (model G.prog G.w) A (storeName (envX name sc L a (.ref c) cl) (G.X.nm z) (.ref f)) (fun Z s'=>wpAny (model G.prog G.w) A (execs rest (envX name sc L a (.ref c) cl)) Q E s') E { s with heap:=h',toks:=tk }:=by
  intro f c' pm ctv oc fs t ps' frz' h' tk F' N' up new tg' hf hc ho hv;have hr:=e4 frz' up _ (.tab (ps:=ps') tg');have R':RL (G.X.pil (G.X.ps,frz'++G.X.ks)) B3 L h' m O (.top f::vs) (.ref f::ws):=by
   refine(zk ρ _ frz' ⟨hr.pil,N',?_,fun p hp y hy=>?_,fun p hp y hy=>?_,⟨fun p hp=>?_,q.kept.2⟩,fun k v e=>?_,VRs.cons rfl (q.stk.mono (fun Z Z e=>e) up)⟩)
   ·have e:(pre ++ [(P,tabObj ps')]++post).map (·.1)=(pre ++ [(P,tabObj ps)]++post).map (·.1):=by simp
    rw[e];exact q.nd
   ·refine zc (same ps' y hy) fun y' h1 h2=>?_
    rw[<- h2]
    rcases new p hp with h | h
    ·exact q.off p h y' h1
    ·exact Nat.ne_of_gt (h y' (Bn _ (Bn _ h1)))
   ·rcases List.mem_append.mp hy with hy | hy
    ·refine zc (same ps' y hy) fun y' h1 h2=>?_
     rw[<- h2];exact q.offp p hp y' (Bn _ h1)
    ·rcases new y hy with h | h
     ·exact q.offp p hp y (Bo _ h)
     ·exact Ca (h p (Bo _ hp))
   ·rcases List.mem_append.mp hp with hp | hp
    ·exact hp
    ·exact up _ (q.kept.1 p hp)
   ·refine zc (q.loc k v e) fun w c1 d1=>?_
    exact(zA w c1 (d1.mono (fun Z Z e=>e) up))
  refine byc fun Ef=>?_
  refine zh R' fun ρ2 led2 frz2 q2=>?_
  refine Ef ?_;refine stE V F' q2.all (fun h2 F2 N2=>?_) hz
  have R2:=RL.store (k:=z) (v:=.top f) (w:=.ref f) (X:=G.X.pil (G.X.ps,frz'++G.X.ks)) (h:=h2) (zk ρ2 led2 frz2 ⟨q2.hr,N2,q2.nd,q2.off,q2.offp,q2.kept,q2.loc,q2.stk⟩);have back:∀{h:Heap} {m:BB} {O:PS} {vs:List PV} {ws:List Value},RL (G.X.pil (G.X.ps,frz'++G.X.ks)) B3 L h m O vs ws->RL G.X B3 L h m O vs ws:=fun r=>RL.unpil rfl (fun p hp=>Bo _ hp) r
  have H:=hs (frz'++G.X.ks) f c' pm ctv oc fs t (Bn _ hf) (Bn _ hc) ho hv;refine @H (O.sl z (.top f)) k _ { s with heap:=h2,toks:=tk+1 } vs ws (h f) F2 R2 Q E ⟨fun σ' m' s' hk r F' R'=>?_,fun σ' m' s' hk r F' R'=>?_,fun v w' σ' m' s' hk r F' R'=>?_⟩
  ·exact hq.next σ' m' s' hk ⟨r.1,r.2.1,r.2.2⟩ F' (back R')
  ·exact hq.brk σ' m' s' hk ⟨r.1,r.2.1,r.2.2⟩ F' (back R')
  ·exact hq.ret v w' σ' m' s' hk ⟨r.1,r.2.1,r.2.2⟩ F' (back R')
 refine wpAny_execs_cons (wpAny_Assign_Name (kla_eval hdef ?_) (jP rfl));have N0:News B3 L s.heap ((pre ++ [(P,tabObj ps)]++post++frz)++G.X.ps):=q.all
 rcases tg with rfl | ⟨c',oc,fs,t,rfl,hm,hd,hv⟩
 ·have U:UpdF P (tabObj #[]) ((pre ++ [(P,tabObj #[])]++post++frz)++G.X.ps) (fun o'=>(pre ++ [(P,o')]++post++frz)++G.X.ps):=by
   have:=bk (d:=P) (o:=tabObj #[]) (pre:=pre) (post:=(post++frz)++G.X.ps) (fun p hp=>by
    simp only[By] at hp
    rcases hp with (h | h) | h
    ·exact postP p h
    ·exact frzP p h
    ·exact psP p h) preP
   simpa using this
  refine kla_nest F N0 D.T hC rfl U (by simp[TriplesOk]) rfl hcl fun f c' oc vs' t ctv h' tk F' N' hd hv l1 l2=>?_
  refine fin f c' ((G.mg ("__name__" : Str)).getD .none) ctv oc vs' t _ ((f,kla_obj "<lambda>" ((name ++ ".<locals>.") ++ "<lambda>") params body lsc clos ((G.mg ("__name__" : Str)).getD .none) c' ctv)::(c',oc)::frz) h' tk F' (fun p hp=>N' p ?_) (fun p hp=>.tail _ (.tail _ hp)) (fun p hp=>?_) (.inr (zk c' oc vs' (qB t (by rw[hlm]) (.tail _ (.head _)) hd (by rw[hlm];exact hv)))) (.head _) (.tail _ (.head _)) hd hv
  ·simp only[By,Cs,List.mem_singleton] at hp ⊢
   rcases hp with (((h | h) | h) | h | h | h) | h
   ·exact .inr (.inr (.inl (.inl (.inl (.inl h)))))
   ·exact .inr (.inr (.inl (.inl (.inl (.inr h)))))
   ·exact .inr (.inr (.inl (.inl (.inr h))))
   ·exact .inl h
   ·exact .inr (.inl h)
   ·exact .inr (.inr (.inl (.inr h)))
   ·exact .inr (.inr (.inr h))
  ·rcases List.mem_cons.mp hp with rfl | hp
   ·exact .inr fun y hy=>Nat.lt_trans (l1 y hy) l2
   ·rcases List.mem_cons.mp hp with rfl | hp
    ·exact .inr fun y hy=>l1 y hy
    ·exact .inl hp
 ·rw[hlm] at hv
  refine kla_hit (c':=c') F N0 D.T hC rfl (by simp) (ps:=#[rawInt G.X.lm.1,rawInt G.X.lm.2.1,.ref c']) (by simp[TriplesOk,rawInt]) (by rw[hlm];simp[codeAmong,rawInt]) hcl fun f ctv h' tk F' N' l1=>?_
  refine fin f c' ((G.mg ("__name__" : Str)).getD .none) ctv oc fs t _ ((f,kla_obj "<lambda>" ((name ++ ".<locals>.") ++ "<lambda>") params body lsc clos ((G.mg ("__name__" : Str)).getD .none) c' ctv)::frz) h' tk F' (fun p hp=>N' p ?_) (fun p hp=>.tail _ hp) (fun p hp=>?_) (.inr (zk c' oc fs (qB t rfl (.tail _ hm) hd (by rw[hlm];exact hv)))) (.head _) (.tail _ hm) hd hv
  ·simp only[By,Cs,List.mem_singleton] at hp ⊢
   rcases hp with (((h | h) | h) | h | h) | h
   ·exact .inr (.inl (.inl (.inl (.inl h))))
   ·exact .inr (.inl (.inl (.inl (.inr h))))
   ·exact .inr (.inl (.inl (.inr h)))
   ·exact .inl h
   ·exact .inr (.inl (.inr h))
   ·exact .inr (.inr h)
  ·rcases List.mem_cons.mp hp with rfl | hp
   ·exact .inr fun y hy=>l1 y hy
   ·exact .inl hp
end
section
variable {A:Around}{m:BB}{vs:List PV}{E:BA}
theorem RL.ksAt{p:Addr×Obj}(r:RL G.X B3 L h m O vs ws)(hp:p∈G.X.ks):∃news,News B3 L h news/\p∈news:=by
 refine zh r fun ρ led frz q=>?_
 exact(zA _ q.all (Bn _ (Bo _ (q.kept.1 p hp))))
theorem oQ{d:Nat}{c':Addr}{arg:Expr}{body:Expr}{lsc:Scope}{clos:List (Str×Addr)}{ctv:Value}{oc:Obj}{fs:Array Value}{t:Tok}{Wa Wb:PS->KE->Prop}
  (hf:(f,kla_obj "<lambda>" qual params body lsc clos pm c' ctv)∈G.X.ks) (hc:(c',oc)∈G.X.ks) (ho:oc.data=.fields fs) (hv:fs[1]?=some (.str qual t))
  (D:Act G outer B3 env A (d+1)) (hfr:env.frame=some L) (hke:env.scope.kind=.function)
  (S5:∀v:Value,bindArgs (kla_fn "<lambda>" qual params body lsc clos pm (.ref c') ctv) ⟨[v],[]⟩=pure [(G.X.nm x,v)])
  (hx:lsc.names.lookup (G.X.nm x)=some .local) (hco:lsc.isCoroutine=false) (Bx:lsc.isGenerator=false) (hk:lsc.kind=.function) (S7:∀y∈lsc.names,y.2≠.cell)
  (hb:∀{outer:List Env} {B3:Heap} {L:Addr} {A:Around},Act G outer B3 (envX qual lsc L f (.ref c') clos) A d->ES G A B3 L (eval body (envX qual lsc L f (.ref c') clos)) Wb)
  (hn:ES G A B3 L (eval (.Name (G.X.nm z) np) env) (jS z)) (ha:ES G A B3 L (eval arg env) Wa) (hst:zT arg=true) :
  ES G A B3 L (eval (.Call (.Name (G.X.nm z) np) [arg] [] pos) env) (fun O k=>jS z O fun v F9=>v=.top f/\Wa F9 fun u B4=>Wb ⟨[(x,u)],B4.hp⟩ fun r B6=>k r (B4.sh B6.hp)):=by
 intro O k m s vs ws h F R Q E hq;refine Call_ (hn h F R fun a B4 C3 wa B7 B5 B8 C2 C1=>?_) (UH rfl)
 obtain⟨rfl,B5⟩:=B5;obtain rfl:=C1.top;refine byc fun Ea=>?_
 obtain⟨nw,N₁,hm₁⟩:=C1.ksAt hf;refine Ea ?_;refine callWith_F (FnAt.of N₁ hm₁) (args_cons (ha B5 C2 C1 fun u B6 C6 wu B9 C5 C4 C9 D0=>args_nil ?_) (z8 hst)) (z8 hst) rfl
 refine byc fun Ef=>?_
 obtain⟨ρ,led,frz,q⟩:=D0;have O8:=q.all;have mf:(f,kla_obj "<lambda>" qual params body lsc clos pm c' ctv)∈(led++frz)++G.X.ps:=Bn _ (Bo _ (q.kept.1 _ hf));have mc:(c',oc)∈(led++frz)++G.X.ps:=Bn _ (Bo _ (q.kept.1 _ hc));refine Ef ?_
 refine⟨FnAt.of O8 mf,wpAny_call ?_⟩
 refine byc fun El=>?_
 obtain⟨I9,B⟩:=D.B;obtain⟨us,xs,c1,c2⟩:=XU (B6.loc.map (·.1)) fun k Z v e=>q.loc k v e
 obtain⟨_,_,e0,vu,tl⟩:=q.stk.cons_inv;refine El ?_
 cases e0
 refine byc fun Em=>?_
 obtain⟨_,_,e0,_,tl2⟩:=tl.cons_inv;refine Em ?_
 cases e0
 refine kla_code B C9 D.Kin O8 D.T D.fr hfr hke mf (codeRec_news O8 mc ho hv) (by have:=D.dep;lia) (S5 wu) (fun y hy=>by rw[List.mem_singleton.mp hy];exact hx) (fun g L' h₁' FG F' N' B' K' T'=>?_) hco Bx hk S7
 have D':Act G (env::outer) g (envX qual lsc L' f (.ref c') clos) (A.deeper (envX qual lsc L' f (.ref c') clos)) d:=
  ⟨⟨A,B'⟩,K',T',by show A.frames.map _=_;rw[D.fr];rfl,D.hd,by have:=D.dep;show A.depth+1+d<_;lia,by have:=D.un;show A.units+3+8*d<_;lia⟩
 have R':RL G.X g L' h₁' (fun y=>[(G.X.nm x,wu)].reverse.lookup y) ⟨[(x,u)],B6.hp⟩ (us++vs) (xs++ws):=
  ⟨ρ,led,frz,q.hr,N',q.nd,q.off,q.offp,q.kept,fun k v e=>by
   have:=(qY (X:=G.X) (ids:=[x]) (List.nodup_cons.mpr ⟨Ci,Dw⟩) (VRs.cons vu VRs.nil)).2 k v e
   exact this,c1.append tl2⟩
 refine hb D' C5 F' R' fun r C7 E5 wr D8 D1 D7 D9 D6=>?_
 refine byc fun hN5=>?_
 obtain⟨ρ',led',frz',q'⟩:=D6;refine hN5 ?_;refine leaveK_ D9 q'.all fun F4 N4=>hq r _ C6 wr D8 D1 ((B8.trans C4).trans (.of ⟨D7.rest.1,D7.rest.2.1,D7.rest.2.2⟩)) F4 ?_
 refine byc fun hN6=>?_
 obtain⟨_,_,e',hvr,tl'⟩:=q'.stk.cons_inv;refine hN6 ?_
 cases e'
 refine byc fun hN7=>?_
 obtain⟨y1,y2,ey,t1,t2⟩:=tl'.split;refine hN7 ?_;obtain⟨rfl,rfl⟩:=Cw ey.symm (by rw[t1.length,c1.length])
 exact(zk ρ' led' frz' ⟨q'.hr,N4,q'.nd,q'.off,q'.offp,q'.kept,fun k v e=>c2 ρ' frz' t1 k (U4 e) v e,VRs.cons hvr t2⟩)
end
set_option tactic.hygienic true in
theorem kL{d:Nat}{name:Str}{body:List Stmt}{doc:Value}{fa a:Addr}{o:Obj}{c P:Addr}{p0:Program}{l0:List Str}{mean0:ExcName->Option Value}{mg0 mb0:BB}{W:PS->KF->Prop}{R:Result->Shared->Prop}
  (hX:G.X.ps = []/\G.X.ks = []/\G.X.cl = []) (hT:TabsAt [(c,P)] s.heap) (Kin:G.K.In (ghostOf s.heap [(c,P)])) (T:Top G.p G.loose G.mean G.mg G.mb (ghostOf s.heap [(c,P)])) (T0:Top p0 l0 mean0 mg0 mb0 s.heap) (Cc:G.base=ghostOf s.heap [(c,P)])
  (ho:s.heap.get? fa=some o) (hdata:o.data=.func (Calls.docDef name params body scope pm cd doc)) (hcd:s.heap.CodeRec cd name)
  (S5:∀v,bindArgs (Calls.docDef name params body scope pm cd doc) ⟨[v],[]⟩=pure [(G.X.nm x,v)])
  (hx:scope.names.lookup (G.X.nm x)=some .local) (cells:(cellsFrom 0 scope.names []).map (·.1)=cids.map G.X.nm) (cnd:cids.Nodup) (hxc:x∉cids)
  (hroom:callerA.depth+1+d<recursionLimit) (hun:callerA.units+3+8*d<cLine)
  (hco:scope.isCoroutine=false) (Bx:scope.isGenerator=false) (hk:scope.kind=.function)
  (hb:∀(cl:List (Nat×Addr)) {outer:List Env} {B3:Heap} {L:Addr} {A:Around},B3=ghostOf s.heap [(c,P)]->(∀j c,cids[j]?=some c->∃a,(cellsFrom (L+1) scope.names []).lookup (G.X.nm c)=some a/\(j,a)∈cl)->Act (G.pin ⟨[],[],cl⟩) outer B3 (envOfC name scope L fa cd) A d ->
   SS (G.pin ⟨[],[],cl⟩) A B3 L (execs body (envOfC name scope L fa cd)) W)
  (hw:W ⟨[(x,.top a)],Vx [] cids ++ [.tab P]⟩ fun f O=>match f with | .ret (.bool true)=>∃j:Nat,O.hp[j]?=some (PO.tab P) | _=>False)
  (hR:∀L h' m tk,Fr (ghostOf s.heap [(c,P)]) L h' m->GrownAt P h'->R (.ok (.ret (.bool true))) { s with heap:=h',toks:=tk }) :
  codeAny (model G.prog G.w) callerA (.call (.ref fa) ⟨[.ref a],[]⟩) R s:=by
 have hnd:((cellsFrom 0 scope.names []).map (·.1)).Nodup:=by rw[cells];exact Jo cnd
 refine call_cellsN (by have:=hroom;lia) ho hdata (T0.nolimit) hcd (S5 (.ref a)) (fun y hy=>?_) hnd (fun B5 tk cs' F N CA=>?_) hco Bx hk
 ·rw[List.mem_singleton.mp hy];exact .inl hx
 ·have hcs:(cellsFrom (s.heap.objs.size+1) scope.names []).map (·.1)=cids.map G.X.nm:=(cellsFrom_names scope.names (s.heap.objs.size+1) 0 [] [] rfl).trans cells
  refine zd (yP scope.names (s.heap.objs.size+1) [] (fun Z h=>nomatch h) Dw (s.heap.objs.size+1) (Cg _) (fun Z h=>nomatch h)) fun nd2 above=>?_
  generalize hCS:cellsFrom (s.heap.objs.size+1) scope.names []=cs at hcs nd2 above CA;have hCR:∀c∈cids,CR (cs.map (·.2) ++ [P]) [] (lk c ([]:List (Nat×PV))) (bindC (envOfC name scope s.heap.objs.size fa cd).kindOf [(G.X.nm x,.ref a)] (fun Z=>none) (G.X.nm c)):=by
   intro c hc;have hne:G.X.nm c≠G.X.nm x:=fun e=>hxc (G.X.inj _ _ e▸hc)
   show bindC _ _ _ _=none;simp only[bindC]
   split
   ·rfl
   ·simp[hne]
  have hrT:HR G.X (cs.map (·.2) ++ [P]) [] [.tab P] [P] [(P,tabObj #[])]:=.cons (.tab (.inl rfl)) .nil;refine zd (Ux (X:=G.X) CA hcs hCR) fun hr hmap=>?_
  have lP:P<s.heap.objs.size:=Heap.lt_size (hT (c,P) (.head _)).2;have ndP:((cs' ++ [(P,tabObj #[])]).map (·.1)).Nodup:=by
   rw[Da,hmap];refine List.nodup_append.mpr ⟨nd2,by simp,fun a ha b hb=>?_⟩
   refine zc (List.mem_map.mp ha) fun p hp Cd=>?_;subst Cd
   obtain rfl:=List.mem_singleton.mp hb;exact Nat.ne_of_gt (Nat.lt_of_lt_of_le lP (Dc (Nat.le_succ _) (above p hp)))
  have hL:∀v,(bindL (envOfC name scope s.heap.objs.size fa cd).kindOf [(G.X.nm x,v)] fun Z=>none) (G.X.nm x)=some v:=by
   intro v;rw[Us (show(envOfC name scope s.heap.objs.size fa cd).kindOf (G.X.nm x)=some .local from hx)]
   simp
  have D':Act (G.pin ⟨[],[],UN 0 (cs.map (·.2))⟩) [] (ghostOf s.heap [(c,P)]) (envOfC name scope s.heap.objs.size fa cd) (callerA.deeper (envOfC name scope s.heap.objs.size fa cd)) d:=
   ⟨⟨callerA,by show Below callerA G.base [] (ghostOf s.heap [(c,P)]);rw[Cc];exact below_caller _⟩,Kin,T,rfl,rfl,hroom,hun⟩
  have R':RL (G.X.pin ⟨[],[],UN 0 (cs.map (·.2))⟩) (ghostOf s.heap [(c,P)]) s.heap.objs.size B5 (bindL (envOfC name scope s.heap.objs.size fa cd).kindOf [(G.X.nm x,.ref a)] fun Z=>none) ⟨[(x,.top a)],Vx [] cids ++ [.tab P]⟩ [] []:=by
   refine(zk (cs.map (·.2) ++ [P]) (cs' ++ [(P,tabObj #[])]) ([]) ⟨(hr.app hrT).pin,fun p hp=>ghost_news hT F N p (by simpa using (show p∈((cs' ++ [(P,tabObj #[])]) ++ [])++([]:BD) from hp)),ndP,fun p hp=>(nomatch hp),fun p hp=>(nomatch (show p∈([]:BD) from hp)),⟨fun p hp=>(nomatch (show p∈([]:BD) from hp)),fun p hp=>?_⟩,fun k v e=>?_,VRs.nil⟩)
   ·have:=WL (ρ:=[]) (show p∈UN 0 (cs.map (·.2)) from hp) rfl
    rw[List.nil_append] at this
    show(cs.map (·.2) ++ [P])[p.1]?=some p.2
    rw[Cz (List.getElem?_eq_some_iff.mp this).1];exact this
   ·simp only[lk] at e
    cases q:Nat.beq k x with
    | false=>rw[q] at e;cases e
    | true =>
     rw[q] at e;obtain rfl:=Bp q
     cases e
     exact(zA (.ref a) (hL _) (ZT a _ _))
  have S7:∀j c,cids[j]?=some c->∃a,(cellsFrom (s.heap.objs.size+1) scope.names []).lookup (G.X.nm c)=some a/\(j,a)∈UN 0 (cs.map (·.2)):=by
   intro j c hj;have hj':(cs.map (·.1))[j]?=some (G.X.nm c):=by rw[hcs,Ec,hj];rfl
   rw[Ec] at hj'
   cases e:cs[j]? with
   | none=>rw[e] at hj';cases hj'
   | some p =>
    rw[e] at hj';obtain⟨pn,pa⟩:=p
    cases hj'
    refine(zA pa ?_ (by have:=UO (n:=0) (as:=cs.map (·.2)) (j:=j) (a:=pa) (by rw[Ec,e];rfl);simpa using this))
    rw[hCS];exact lookup_of_mem_nodup (by rw[hcs];exact Jo cnd) (Df e)
  refine hb _ rfl S7 D' (s:={ s with heap:=B5,toks:=tk }) hw (ghost_fr hT F) R' ⟨fun σ' m' s' hk hr F'' R''=>hk.elim,fun σ' m' s' hk hr F'' R''=>hk.elim,fun v w' σ' m' s' hk hr F'' R''=>?_⟩
  split at hk<;>try exact hk.elim
  rename_i e
  cases e
  refine zV hk fun jt ej=>?_
  have gr:GrownAt P s'.heap:=by
   refine zh R'' fun ρ led frz q=>?_
   refine zh (q.hr.atM ej) fun a' pre mid Ee=>yo Ee fun post e1 e2 e3 e4=>?_
   cases e3 with
   | @tab ps _ tg=>exact GrownAt.of q.all (ps:=ps) (by rw[e2];simp)
  obtain rfl:=R''.bool;obtain⟨hh,hg,hd',ht,hos⟩:=s';refine jn hr fun r1 r2 r3=>?_
  simp only at r1 r2 r3;subst r1 r2 r3;exact hR _ _ _ _ F'' gr
noncomputable def be:List Str->List Str->Bool
 | [],[]=>true
 | a::r,b::q=>(a==b)&&be r q
 | _,_=>false
theorem YY:∀{a b:List Str},be a b=true->a=b
 | [],[],_=>rfl
 | [],_::_,h=>ft h
 | _::_,[],h=>ft h
 | a::r,b::q,h=>by
  obtain⟨h1,h2⟩:=za (show((a==b)&&be r q)=true from h)
  rw[eq_of_beq h1,YY h2]
noncomputable def oo(ids cids:List Nat)(nm:Nat->Str)(sc:Scope):Bool:=jG (fun k=>cond (cids.any (Nat.beq k)) true (eT (sc.names.lookup (nm k)))) ids
noncomputable def uK(nm:Nat->Str)(d:FD)(ids cids:List Nat):Bool:=bX ids&&(bX cids&&(oo ids cids nm d.scope&&(be ((cellsFrom 0 d.scope.names []).map (·.1)) (cids.map nm)&&(jG (fun c=>eP (d.scope.names.lookup (nm c))) cids&&(!d.scope.isCoroutine&&(!d.scope.isGenerator&&pK d.scope.kind))))))
section
theorem Qd{c:Addr}{q:String}{d:FD}{df:Value}(hl:G.K.lookup f=some (Vq d q df pm c))(hb:uK G.X.nm d ids cids=true)(hc:codeIn G.K (.ref c) q=true)
  (S5:∀(s:Shared) (aws:List Value),G.K.In s.heap->aws.length=ids.length->BindsTo s (fnOf d.name q d.args d.body d.scope df .none .none pm none (.ref c) .none) (ca aws) ((ids.map G.X.nm).zip aws)):FnOkC G ca f ids cids q d.body d.scope (.ref c):=by
 refine byc fun Ea=>?_
 refine zd (za hb) fun h1 hb=>?_
 refine zd (za hb) fun h2 hb=>?_
 refine zd (za hb) fun h3 hb=>?_
 refine zd (za hb) fun h4 hb=>?_
 refine zd (za hb) fun h5 hb=>?_
 refine zd (za hb) fun h6 hb=>?_
 refine zd (za hb) fun h7 h8=>?_
 have T5:∀c∈cids,d.scope.names.lookup (G.X.nm c)=some .cell:=fun c hc=>eQ (zP h5 c hc)
 refine Ea ?_;have hloc:∀k∈ids,k∉cids->d.scope.names.lookup (G.X.nm k)=some .local:=fun k hk hn=>by
  have:=zP h3 k hk
  cases e:cids.any (Nat.beq k) with
  | true=>exact absurd (Wf e) hn
  | false=>rw[e] at this;exact Yr this
 refine⟨⟨_,_,_,_,_,_,_,_,_,_,_,hl,S5⟩,hc,Uc h1,fun k hk=>?_,YY h4,T5,hloc,Uc h2,(Cq _).mp h6,(Cq _).mp h7,au h8⟩
 by_cases hm:k∈cids
 ·exact .inr (T5 k hm)
 ·exact .inl (hloc k hk hm)
noncomputable def Uy(n:Nat):List Nat->List (Nat×Nat)
 | []=>[]
 | c::r=>(c,n)::Uy (n+1) r
theorem Vy:∀{cids:List Nat} {n:Nat} {p:Nat×Nat},p∈Uy n cids->∃j,cids[j]?=some p.1/\p.2=n+j
 | c::r,n,p,h=>by
  cases h with
  | head=>exact(zA 0 rfl rfl)
  | tail _ h =>
   refine zc (Vy h) fun j h1 h2=>?_
   exact(zA (j+1) h1 (by rw[h2,Nat.add_assoc,Nat.add_comm 1 j]))
theorem X8{d:Nat}{P:Nat->Pi}{c:Addr}{q:String}{D:FD}{S:List PV->List PO->(PV->List PO->Prop)->Prop}(ok:∀n,PiOk G (P n))(hC:∀n,CtS G d (P n))(h9:9<=d)(hb:HdS G d Hb)(hH:HdS G (d+1) H)(okf:FnOkC G Q0 f ids cids q D.body D.scope (.ref c))(T5:∀n,(P n).cels=Uy 0 cids)(Cc:∀n,(P n).base=n)(harg:∀n a,(P n).arg a=none)
  (hm:∀n,mSs G.X.nm (P n).toPm D.scope ir D.body) (hS:∀args hp k,S args hp k->VE ids cids (fun n=>pSs (P n) Hb ir) args hp k):HdS G (d+1) (H.ext f S):=by
 intro ps g args O k h;unfold Hd.ext at h
 cases e:Nat.beq g f with
 | false=>rw[e] at h;exact hH ps h
 | true =>
  rw[e] at h;obtain rfl:=Bp e;intro outer B3 env L A m s vs ws aws D' hf hke F R hl Q hq;refine al (G:=G.pin ps) (okf.pin ps) (fun n cl outer B3 L A hcl D2=>?_) (hS _ _ _ h) (D'.pin ps) hf hke F R hl hq
  refine sSs ((ok n).pin ⟨ps.ps,ps.ks,cl⟩) (hb.pin ⟨ps.ps,ps.ks,cl⟩) ((hC n).pin ⟨ps.ps,ps.ks,cl⟩) h9 D2 ⟨UC okf.kind,rfl,rfl,fun p hp hs=>?_,fun a xs e=>(by rw[harg] at e;cases e)⟩ ir (hm n)
  rw[T5] at hp;refine zc (Vy hp) fun j h1 h2=>?_
  rw[Cc,h2,Nat.zero_add];refine zc (hcl j p.1 h1) fun c h3 h4=>?_
  exact⟨(zA c h3 h4),okf.ckind _ (Df h1)⟩
noncomputable def rj(e:Expr):Expr:=match e with | .Lambda _ b _ _=>b | _=>e
noncomputable def kJ(e:Expr):Arguments:=match e with | .Lambda a _ _ _=>a | _=>⟨[],[],none,[],[],none,[]⟩
noncomputable def Jn(e:Expr):Scope:=match e with | .Lambda _ _ s _=>s | _=>th
section
variable (nm:Nat->Str)(self S6 wrap x ba hi lo bw:Nat)
noncomputable def tQ(b:Expr):Expr:=.BinOp (.BinOp (nE nm x (kd (kd b 0) 0)) .BitAnd (aE nm self hi (kd (kd b 0) 1)) (kd b 0).pos) .Add (.BinOp (.BinOp (nE nm x (kd (kd (kd b 1) 0) 0)) .Add (.Constant (.int 1) (vn (kd (kd (kd b 1) 0) 1)) (kd (kd (kd b 1) 0) 1).pos) (kd (kd b 1) 0).pos) .BitAnd (aE nm self lo (kd (kd b 1) 1)) (kd b 1).pos) b.pos
noncomputable def xm(a e:Expr):Expr:=.Call (aE nm self ba (kd e 0)) [a] [] e.pos
noncomputable def xn(e:Expr):Expr:=.BinOp (xm nm self ba (nE nm S6 (kd (kd e 0) 1)) (kd e 0)) .Add (.BinOp (xm nm self ba (.Call (nE nm wrap (kd (kd (kd (kd e 1) 0) 1) 0)) [nE nm S6 (kd (kd (kd (kd e 1) 0) 1) 1)] [] (kd (kd (kd e 1) 0) 1).pos) (kd (kd e 1) 0)) .LShift (aE nm self bw (kd (kd e 1) 1)) (kd e 1).pos) e.pos
noncomputable def toW(s1 s2:Stmt):List Stmt:=[.Assign [nE nm wrap (kx s1 1)] (.Lambda (kJ (kx s1 0)) (tQ nm self x hi lo (rj (kx s1 0))) (Jn (kx s1 0)) (kx s1 0).pos) s1.pos,.Return (some (xn nm self S6 wrap ba bw (kx s2 0))) s2.pos]
def kK(n:Nat)(O:PS)(k:KE):Prop:=jS x O fun a B4=>ql n B4 fun s B6=>QC hi s B6 fun b C7=>JO .BitAnd a b C7 fun u E4=>jS x E4 fun a E9=>JO .Add a (.int 1) E9 fun a G9=>ql n G9 fun s I4=>QC lo s I4 fun b O9=>JO .BitAnd a b O9 fun v σ₉=>JO .Add u v σ₉ k
def gY(H:Hd)(fBA:Addr)(cbw:Int)(n:Nat)(f:Addr)(O:PS)(k:KF):Prop:=ql n O fun a B4=>U6 H ba fBA (fun O k=>jS S6 O fun v O=>k [v] O) a B4 fun u B6=>ql n B6 fun a C7=>U6 H ba fBA (fun O k=>jS wrap O fun v F9=>v=.top f/\jS S6 F9 fun u B4=>kK x hi lo n ⟨[(x,u)],B4.hp⟩ fun r B6=>k [r] (B4.sh B6.hp)) a C7 fun v E4=>ql n E4 fun a E9=>Uw bw (.int cbw) a E9 fun b G9=>JO .LShift v b G9 fun v I4=>JO .Add u v I4 fun r O9=>k (.ret r) O9
def nY(H:Hd)(fBA P:Addr)(cbw:Int)(n:Nat)(O:PS)(k:KF):Prop:=(∃j:Nat,O.hp[j]?=some (PO.tab P)) /\ ∀f,gY S6 wrap x ba hi lo bw H fBA cbw n f (O.sl wrap (.top f)) k
end
def ZW(K:Frag)(c P:Addr):Prop:=
 ∃o vs file tf flags tg inF text tt,K.lookup c=some o/\o.cls=.type "code" /\ o.data=.fields vs/\vs[11]?=some (.ref P)/\vs.getD 11 .none=.ref P/\vs.getD 18 .none=.str file tf /\
  vs.getD 7 .none=.int flags tg/\vs.getD 9 .none=.bool inF/\vs.getD 10 .none=.int text tt/\c≠P
theorem kt{d:Nat}{H1:Hd}{c P fBA:Addr}{self S6 wrap ba hi lo bw:Nat}{cbw:Int}{cv:Value}{q:Str}{D:FD}{s1 s2:Stmt}{S:List PV->List PO->(PV->List PO->Prop)->Prop}(okf:FnOkC G Q0 f [self,S6] [self] q D.body D.scope (.ref c))(hH:HdS G (d+1) H)(hH1:HdS G (d+1+1) H1)
  (dbg:∀x,(G.X.nm x==("__debug__" : Str))=false) (mBA:MethOk G ba fBA) (ahi:AttrOk G hi) (alo:AttrOk G lo) (abw:ConstOk G bw (.int cbw) cv) (hK:ZW G.K c P)
  (htx:D.body=toW G.X.nm self S6 wrap x ba hi lo bw s1 s2) (hlm:G.X.lm=((kx s1 0).pos.line,(kx s1 0).pos.col,(q ++ ".<locals>.") ++ "<lambda>"))
  (hdef:∀env,defaultsOf (kJ (kx s1 0)) env=([],[])) (hcl:∀L a,closureFor (Jn (kx s1 0)) (envX q D.scope L a (.ref c) (cellsFrom (L+1) D.scope.names []))=pure [(G.X.nm self,L+1)])
  (hce:∀L,cellsFrom (L+1) D.scope.names [] = [(G.X.nm self,L+1)]) (lw:D.scope.names.lookup (G.X.nm wrap)=some .local) (lad:D.scope.names.lookup (G.X.nm S6)=some .local)
  (kx':(Jn (kx s1 0)).names.lookup (G.X.nm x)=some .local) (kself:(Jn (kx s1 0)).names.lookup (G.X.nm self)=some .free) (nc:(G.X.nm self==("__classdict__" : Str))=false)
  (hco:(Jn (kx s1 0)).isCoroutine=false) (Bx:(Jn (kx s1 0)).isGenerator=false) (hk:(Jn (kx s1 0)).kind=.function) (S7:∀y∈(Jn (kx s1 0)).names,y.2≠.cell)
  (S5:∀(qual:Str) (clos:List (Str×Addr)) (pm ctv:Value) (c':Addr) (v:Value),bindArgs (kla_fn "<lambda>" qual (kJ (kx s1 0)) (tQ G.X.nm self x hi lo (rj (kx s1 0))) (Jn (kx s1 0)) clos pm (.ref c') ctv) ⟨[v],[]⟩=pure [(G.X.nm x,v)])
  (hp1:(kd (kd (kx s2 0) 0) 0).pos.endLine=(kd (kx s2 0) 0).pos.line) (hp2:(kd (kd (kd (kx s2 0) 1) 0) 0).pos.endLine=(kd (kd (kx s2 0) 1) 0).pos.line)
  (hS:∀args hp k,S args hp k->VE [self,S6] [self] (fun n=>nY S6 wrap x ba hi lo bw H fBA P cbw n) args hp k):HdS G (d+1+1) (H1.ext f S):=by
 intro ps g args O k h;unfold Hd.ext at h
 cases e:Nat.beq g f with
 | false=>rw[e] at h;exact hH1 ps h
 | true =>
  rw[e] at h;obtain rfl:=Bp e;intro outer B3 env L A m s vs ws aws D' hf hke F R hl Q hq;refine al (G:=G.pin ps) (okf.pin ps) (fun n cl outer B3 L A hcl' D2=>?_) (hS _ _ _ h) (D'.pin ps) hf hke F R hl hq
  refine byc fun Ea=>?_
  refine zc (hcl' 0 self rfl) fun a ha1 ha2=>?_
  have ha1':List.lookup (G.X.nm self) (cellsFrom (L+1) D.scope.names [])=some a:=ha1;refine Ea ?_;rw[hce] at ha1';obtain rfl:L+1=a:=by
   rw[Db,beq_self_eq_true] at ha1';exact Di ha1'
  refine byc fun Ef=>?_
  refine zh hK fun o vs' file Ee=>zh Ee fun tf flags tg Ee=>jf Ee fun inF text tt k1 k2=>?_
  have hC:CodeHd B3 c P:=(zk o vs' file (zk tf flags tg (QK inF text tt (D2.Kin _ _ k1) k2)));have V:EnvF (envOfC q D.scope L g (.ref c)) L:=UC okf.kind;refine Ef ?_;rw[htx];refine tB (G:=(G.pin ps).pin ⟨ps.ps,ps.ks,cl⟩) (P:=P) (z:=wrap) (zp:=(kx s1 1).pos) (lpos:=(kx s1 0).pos) (spos:=s1.pos) (params:=kJ (kx s1 0)) (body:=tQ G.X.nm self x hi lo (rj (kx s1 0))) (lsc:=Jn (kx s1 0)) (rest:=[.Return (some (xn G.X.nm self S6 wrap ba bw (kx s2 0))) s2.pos]) (W:=gY S6 wrap x ba hi lo bw H fBA cbw n) D2 lw okf.kind hC hlm (hcl L g) (hdef _) fun ks f c' pm ctv oc fs t m1 m2 ho hv=>?_
  generalize hG2:((G.pin ps).pin ⟨ps.ps,ps.ks,cl⟩).pil (((G.pin ps).pin ⟨ps.ps,ps.ks,cl⟩).X.ps,ks)=G2;have D3:Act G2 outer B3 (envOfC q D.scope L g (.ref c)) A (d+1):=hG2▸D2.pil _;have hH2:HdS G2 (d+1) H:=hG2▸((hH.pin ps).pin _).pil _;have cellAt:CellAt G2 (envOfC q D.scope L g (.ref c)) self n:=hG2▸⟨(zA (L+1) ha1 ha2),okf.ckind self (.head _)⟩;have freeAt:∀L',FreeAt G2 (envX ((q ++ ".<locals>.") ++ "<lambda>") (Jn (kx s1 0)) L' f (.ref c') [(G.X.nm self,L+1)]) self n:=fun L'=>hG2▸⟨(zA (L+1) (by show List.lookup (G.X.nm self) [(G.X.nm self,L+1)]=some (L+1);rw[Db,beq_self_eq_true]) ha2),kself,nc⟩
  have enm:G2.X.nm=G.X.nm:=hG2▸rfl;have m1:=(show ks=G2.X.ks by rw[<- hG2];rfl)▸m1
  have m2:=(show ks=G2.X.ks by rw[<- hG2];rfl)▸m2
  have mBA2:MethOk G2 ba fBA:=hG2▸⟨mBA.pg,mBA.hd,mBA.fi,mBA.fn,mBA.gf,mBA.tk,mBA.cp,mBA.ki,mBA.fk⟩;have ahi2:AttrOk G2 hi:=hG2▸⟨ahi.pg,ahi.hd,ahi.fi,ahi.sa,ahi.po,ahi.tk⟩;have alo2:AttrOk G2 lo:=hG2▸⟨alo.pg,alo.hd,alo.fi,alo.sa,alo.po,alo.tk⟩;have abw2:ConstOk G2 bw (.int cbw) cv:=hG2▸⟨abw.pg,abw.hd,abw.fi,abw.ng,abw.hh,abw.cp,abw.vr⟩;clear hG2;rw[<- enm] at kx' S5 lw lad dbg m1 ⊢;simp only[<- enm] at freeAt;have nself:∀p,ES G2 A B3 L (eval (.Name (G2.X.nm self) p) (envOfC q D.scope L g (.ref c))) (ql n):=fun p=>Z9 V.toEnvG cellAt (dbg self)
  have naddr:∀p,ES G2 A B3 L (eval (.Name (G2.X.nm S6) p) (envOfC q D.scope L g (.ref c))) (jS S6):=fun p=>WB V lad (dbg S6)
  have nwrap:∀p,ES G2 A B3 L (eval (.Name (G2.X.nm wrap) p) (envOfC q D.scope L g (.ref c))) (jS wrap):=fun p=>WB V lw (dbg wrap)
  have lam:∀np ap pos,ES G2 A B3 L (eval (.Call (.Name (G2.X.nm wrap) np) [.Name (G2.X.nm S6) ap] [] pos) (envOfC q D.scope L g (.ref c))) (fun O k=>jS wrap O fun v F9=>v=.top f/\jS S6 F9 fun u B4=>kK x hi lo n ⟨[(x,u)],B4.hp⟩ fun r B6=>k r (B4.sh B6.hp)):=fun np ap pos =>
   oQ (Wb:=kK x hi lo n) m1 m2 ho hv D3 rfl okf.kind (fun v=>S5 _ _ _ _ _ v) kx' hco Bx hk S7 (fun{outer B3 L' A} D4=>by
    have V':EnvF (envX ((q ++ ".<locals>.") ++ "<lambda>") (Jn (kx s1 0)) L' f (.ref c') [(G2.X.nm self,L+1)]) L':=⟨⟨rfl,rfl,hk⟩,rfl⟩;have nx:∀p,ES G2 A B3 L' (eval (.Name (G2.X.nm x) p) (envX ((q ++ ".<locals>.") ++ "<lambda>") (Jn (kx s1 0)) L' f (.ref c') [(G2.X.nm self,L+1)])) (jS x):=fun p=>WB V' kx' (dbg x)
    have ns:∀p,ES G2 A B3 L' (eval (.Name (G2.X.nm self) p) (envX ((q ++ ".<locals>.") ++ "<lambda>") (Jn (kx s1 0)) L' f (.ref c') [(G2.X.nm self,L+1)])) (ql n):=fun p=>iN V'.toEnvG (freeAt L') (dbg self)
    have e1:∀p0 p1 p2 p3,ES G2 A B3 L' (eval (.BinOp (.Name (G2.X.nm x) p0) .BitAnd (.Attribute (.Name (G2.X.nm self) p1) (G2.X.nm hi) p2) p3) (envX ((q ++ ".<locals>.") ++ "<lambda>") (Jn (kx s1 0)) L' f (.ref c') [(G2.X.nm self,L+1)])) _:=fun Z Z Z Z=>JS (nx _) (Q5 (ns _) (Xr D4 ahi2)) Vd
    have e2:∀p0 v p1 p2,ES G2 A B3 L' (eval (.BinOp (.Name (G2.X.nm x) p0) .Add (.Constant (.int 1) v p1) p2) (envX ((q ++ ".<locals>.") ++ "<lambda>") (Jn (kx s1 0)) L' f (.ref c') [(G2.X.nm self,L+1)])) _:=fun Z Z Z Z=>JS (nx _) WA Vd
    have e3:∀p0 v p1 p2 p4 p5 p6,ES G2 A B3 L' (eval (.BinOp (.BinOp (.Name (G2.X.nm x) p0) .Add (.Constant (.int 1) v p1) p2) .BitAnd (.Attribute (.Name (G2.X.nm self) p4) (G2.X.nm lo) p5) p6) (envX ((q ++ ".<locals>.") ++ "<lambda>") (Jn (kx s1 0)) L' f (.ref c') [(G2.X.nm self,L+1)])) _:=fun Z Z Z Z Z Z Z=>JS (e2 _ _ _ _) (Q5 (ns _) (Xr D4 alo2)) Vd
    have this:=fun b:Expr=>JS (op:=.Add) (pos:=b.pos) (e1 (kd (kd b 0) 0).pos (kd (kd (kd b 0) 1) 0).pos (kd (kd b 0) 1).pos (kd b 0).pos) (e3 (kd (kd (kd b 1) 0) 0).pos (vn (kd (kd (kd b 1) 0) 1)) (kd (kd (kd b 1) 0) 1).pos (kd (kd b 1) 0).pos (kd (kd (kd b 1) 1) 0).pos (kd (kd b 1) 1).pos (kd b 1).pos) Vd
    exact this _) (nwrap np) (naddr ap) rfl
  have one:∀{W:PS->KF->Prop} {t:Stmt},SS G2 A B3 L (exec t (envOfC q D.scope L g (.ref c))) W->SS G2 A B3 L (execs [t] (envOfC q D.scope L g (.ref c))) (tn W fun O k=>k .next O):=fun h=>aZ h gF
  refine one (gG (W:=fun O k=>_) (JS (UD hH2 D3 rfl okf.kind mBA2 (nself _) (Q4 (naddr _) Wy rfl) hp1 (show 1<30 by decide) rfl) (JS (UD hH2 D3 rfl okf.kind mBA2 (nself _) (Q4 (lam _ _ _) Wy rfl) hp2 (show 1<30 by decide) rfl) (Q5 (nself _) (Xs D3 abw2)) Vd) Vd))
end
structure St where
 fr:List Obj
 tl:List Obj
 n:Nat
 toks:Nat
 cnt:Nat
 pos:Pos
variable {S S' S'' D5:St}
variable {hc:Code->List (Code×Pos)->St->Option (Flow×St)}
noncomputable def lAt{α:Type}:List α->Nat->Option α
 | [],_=>none
 | x::_,0=>some x
 | _::r,i+1=>lAt r i
noncomputable def yR{α:Type}(f:α->α):List α->Nat->List α
 | [],_=>[]
 | x::r,0=>f x::r
 | x::r,i+1=>x::yR f r i
theorem Xk{α:Type}:∀(l:List α) (i:Nat),lAt l i=l[i]?
 | [],_=>rfl
 | x::r,0=>rfl
 | x::r,i+1=>Xk r i
theorem U2{α:Type}(f:α->α):∀(l:List α) (i j:Nat),(yR f l i)[j]?=if i=j then (l[j]?).map f else l[j]?
 | [],i,j=>(ite_self (none:Option α)).symm
 | x::r,0,0=>rfl
 | x::r,0,j+1=>rfl
 | x::r,i+1,0=>rfl
 | x::r,i+1,j+1=>by
  refine(U2 f r i j).trans ?_
  by_cases e:i=j
  ·rw[if_pos e,if_pos (congrArg (· + 1) e)];rfl
  ·rw[if_neg e,if_neg (fun h=>e (Nat.succ.inj h))];rfl
theorem jM{α:Type}(f:α->α):∀(l:List α) (i:Nat),(yR f l i).length=l.length
 | [],_=>rfl
 | x::r,0=>rfl
 | x::r,i+1=>congrArg (· + 1) (jM f r i)
noncomputable def jg(fr tl:List Obj)(n a:Nat):Option Obj:=match lAt fr a with
 | some o=>alive o
 | none=>match Dg a n with
  | true=>(match lAt tl (Nat.sub (Nat.sub n 1) a) with | some o=>alive o | none=>none)
  | false=>none
noncomputable def okU(a:Nat):Bool:=Nat.ble 11 a||Nat.beq a 3||Nat.beq a 2
noncomputable def yt(o:Option α)(f:α->Option β):Option β:=match o with | some a=>f a | none=>none
theorem Qr{o:Option α}{f g:α->Option β}(h:∀x,f x=g x):yt o f=yt o g:=by induction o with | none=>rfl | some x=>exact h x
theorem VP{γ:Type}{o:Option α}{f:α->Option β}{g:β->Option γ}:yt (yt o f) g=yt o fun x=>yt (f x) g:=by induction o<;>rfl
theorem Wq{c:Bool}{a b a' b':α}(h:a=a')(k:b=b'):cond c a b=cond c a' b':=by rw[h,k]
theorem Jz{o:Option α}{f:α->Option β}{b:β}(h:yt o f=some b):∃a,o=some a/\f a=some b:=by
 induction o with
 | none=>cases h
 | some a=>exact⟨a,rfl,h⟩
theorem Z4{c:Bool}{a:Option α}{b:α}(h:cond c a none=some b):c=true/\a=some b:=by
 induction c with
 | false=>cases h
 | true=>exact⟨rfl,h⟩
section
variable (p:Program)(P:Params)(hc:Code->List (Code×Pos)->St->Option (Flow×St))(code:Code)(stk:List (Code×Pos))
noncomputable def zo{α:Type}:Sem α->St->Option (α×St)
 | .pure a,S=>some (a,S)
 | .rule _ k,⟨fr,tl,n,t,c,q⟩=>zo (k ()) ⟨fr,tl,n,t,c+1,q⟩
 | .at q' k,⟨fr,tl,n,t,c,q⟩=>zo (k ()) ⟨fr,tl,n,t,c+1,q'⟩
 | .load a _ k,⟨fr,tl,n,t,c,q⟩=>yt (jg fr tl n a) fun o=>zo (k o) ⟨fr,tl,n,t,c+1,q⟩
 | .update a _ f k,⟨fr,tl,n,t,c,q⟩=>cond (okU a) (yt (jg fr tl n a) fun Z=>cond (Dg a fr.length) (zo (k ()) ⟨yR f fr a,tl,n,t,c+1,q⟩) (zo (k ()) ⟨fr,yR f tl (Nat.sub (Nat.sub n 1) a),n,t,c+1,q⟩)) none
 | .alloc o k,⟨fr,tl,n,t,c,q⟩=>zo (k n) ⟨fr,o::tl,n+1,t,c+1,q⟩
 | .point _ k,⟨fr,tl,n,t,c,q⟩=>zo (k ()) ⟨fr,tl,n,t,c+1,q⟩
 | .fresh k,⟨fr,tl,n,t,c,q⟩=>zo (k t) ⟨fr,tl,n,t+1,c+1,q⟩
 | .ask k,⟨fr,tl,n,t,c,q⟩=>zo (k ⟨p,P⟩) ⟨fr,tl,n,t,c+1,q⟩
 | .stack k,⟨fr,tl,n,t,c,q⟩=>zo (k ((code,q)::stk)) ⟨fr,tl,n,t,c+1,q⟩
 | .call c' _ _ _ k,⟨fr,tl,n,t,c,q⟩=>yt (hc c' ((code,q)::stk) ⟨fr,tl,n,t,c+1,q⟩) fun r=>match r with
  | (f,⟨fr',tl',n',t',c',_⟩)=>zo (k (.ok f)) ⟨fr',tl',n',t',c',q⟩
 | _,_=>none
structure BC(α:Type)where
 b:List Stmt
 env:Env
 h:Option Value
 g:Bool
 l:List Value
 k:Result->Sem α
noncomputable def yf{α:Type}:Sem α->St->Option (BC α×St)
 | .rule _ k,⟨fr,tl,n,t,c,q⟩=>yf (k ()) ⟨fr,tl,n,t,c+1,q⟩
 | .at q' k,⟨fr,tl,n,t,c,q⟩=>yf (k ()) ⟨fr,tl,n,t,c+1,q'⟩
 | .load a _ k,⟨fr,tl,n,t,c,q⟩=>yt (jg fr tl n a) fun o=>yf (k o) ⟨fr,tl,n,t,c+1,q⟩
 | .update a _ f k,⟨fr,tl,n,t,c,q⟩=>cond (okU a) (yt (jg fr tl n a) fun Z=>cond (Dg a fr.length) (yf (k ()) ⟨yR f fr a,tl,n,t,c+1,q⟩) (yf (k ()) ⟨fr,yR f tl (Nat.sub (Nat.sub n 1) a),n,t,c+1,q⟩)) none
 | .alloc o k,⟨fr,tl,n,t,c,q⟩=>yf (k n) ⟨fr,o::tl,n+1,t,c+1,q⟩
 | .point _ k,⟨fr,tl,n,t,c,q⟩=>yf (k ()) ⟨fr,tl,n,t,c+1,q⟩
 | .fresh k,⟨fr,tl,n,t,c,q⟩=>yf (k t) ⟨fr,tl,n,t+1,c+1,q⟩
 | .ask k,⟨fr,tl,n,t,c,q⟩=>yf (k ⟨p,P⟩) ⟨fr,tl,n,t,c+1,q⟩
 | .stack k,⟨fr,tl,n,t,c,q⟩=>yf (k ((code,q)::stk)) ⟨fr,tl,n,t,c+1,q⟩
 | .call c' h g l k,⟨fr,tl,n,t,c,q⟩=>(match c' with
  | .body b env=>some (⟨b,env,h,g,l,k⟩,⟨fr,tl,n,t,c,q⟩)
  | c'=>yt (hc c' ((code,q)::stk) ⟨fr,tl,n,t,c+1,q⟩) fun r=>match r with
   | (f,⟨fr',tl',n',t',c',_⟩)=>yf (k (.ok f)) ⟨fr',tl',n',t',c',q⟩)
 | _,_=>none
end
noncomputable def Zv:Code->Bool
 | .builtin id _=>!id.startsWith "lifetime."
 | _=>true
noncomputable def hcN(rec:Code->St->Option (Flow×St))(stk:List (Code×Pos))(r:PySem.Fin×St):Option (Flow×St):=match r with
 | (.done f,⟨fr,tl,n,t,c',q⟩)=>some (f,⟨fr,tl,n,t,c'+1,q⟩)
 | (.again d,⟨fr,tl,n,t,c',q⟩)=>cond (Zv d) (rec d ⟨fr,tl,n,t,c'+1,q⟩) none
noncomputable def hcF(p:Program)(P:Params):Nat->Code->List (Code×Pos)->St->Option (Flow×St)
 | 0,_,_,_=>none
 | m+1,c,stk,S=>yt (zo p P (hcF p P m) c stk (denote treeTable c) S) (hcN (fun d=>hcF p P m d stk) stk)
noncomputable def St.sh(S:St)(life:Life)(drawn:Drawn)(os:OsState):Shared:=⟨⟨(S.fr++S.tl.reverse).toArray,life⟩,#[],drawn,S.toks,os⟩
def St.inv(S:St):Prop:=S.n=S.fr.length+S.tl.length
theorem ar8{n a f t:Nat}(i:n=f+t)(h:f<=a)(h2:a<n):a-f<t/\t-1-(a-f)=n-1-a:=by
 refine zV (Nat.exists_eq_add_of_le h) fun x Cd=>?_;subst Cd
 subst i;rw[Nat.add_sub_cancel_left,Nat.sub_sub,Nat.sub_sub,Nat.add_left_comm,Nat.add_sub_add_left]
 exact⟨Nat.lt_of_add_lt_add_left h2,rfl⟩
theorem ar9{n a f t:Nat}(i:n=f+t)(h:f<=a)(h2:¬ a<n):t<=a-f:=Nat.le_sub_of_add_le (Nat.add_comm t f▸i▸Dy h2)
theorem w3(i:S.inv)(a:Nat):(S.fr++S.tl.reverse)[a]?=match S.fr[a]? with
  | some o=>some o
  | none=>if a<S.n then S.tl[S.n-1-a]? else none:=by
 unfold St.inv at i
 cases e:S.fr[a]? with
 | some o =>
  have:=(List.getElem?_eq_some_iff.mp e).1
  rw[Cz this];exact e
 | none =>
  have h1:S.fr.length<=a:=List.getElem?_eq_none_iff.mp e;rw[Cy h1]
  by_cases h:a<S.n
  ·simp only[h,if_true]
   rw[List.getElem?_reverse (ar8 i h1 h).1,(ar8 i h1 h).2]
  ·simp only[h,if_false]
   apply Eb
   rw[Cr];exact ar9 i h1 h
theorem pv{a:Nat}{o:Obj}(e:h.objs[a]?=some o):h.get? a=alive o:=by
 unfold Heap.get?;rw[e];obtain⟨c,d,dt,sl⟩:=o
 induction dt<;>rfl
theorem QP(i:S.inv){a:Nat}{o:Obj}{life:Life}{drawn:Drawn}{os:OsState}(h:jg S.fr S.tl S.n a=some o):(S.sh life drawn os).heap.get? a=some o:=by
 unfold jg at h;rw[Xk] at h;have key:∀o',(S.fr++S.tl.reverse)[a]?=some o'->alive o'=some o->(S.sh life drawn os).heap.get? a=some o:=by
  intro o' e1 e2;rw[pv (o:=o') (by simpa [St.sh] using e1)];exact e2
 have hat:=w3 i a
 cases e:S.fr[a]? with
 | some o'=>rw[e] at h hat;exact key o' hat h
 | none =>
  rw[e] at h hat
  cases hb:Dg a S.n with
  | false=>rw[hb] at h;cases h
  | true =>
   rw[hb] at h;have lt:a<S.n:=Bs hb;simp only[lt,if_true] at hat;rw[Xk] at h
   cases e2:S.tl[S.n-1-a]? with
   | none=>simp only[show Nat.sub (Nat.sub S.n 1) a=S.n-1-a from rfl,e2] at h;cases h
   | some o' =>
    simp only[show Nat.sub (Nat.sub S.n 1) a=S.n-1-a from rfl,e2] at h
    rw[e2] at hat;exact key o' hat h
theorem ar1{a b c:Nat}(h:a<=b)(k:b<=c):b-a+(c-b)=c-a:=(Nat.add_comm _ _).trans (Nat.sub_add_sub_cancel k h)
theorem ar2{a b:Nat}(h:a+1<=b):b-(a+1)+1=b-a:=Nat.sub_add_cancel (n:=b-a) (m:=1) (Nat.sub_pos_of_lt h)
theorem ar3{a b:Nat}(h:a<=b):b-a+(0+1)=b+1-a:=(Nat.succ_sub h).symm
theorem ar5{n a f t:Nat}(i:n=f+t)(h:¬ a<f)(h2:a<n)(hj:¬ j<f)(hn:j<n):j-f<t/\(n-1-a=t-1-(j-f)↔a=j):=by
 obtain⟨x,rfl⟩:=Nat.exists_eq_add_of_le (Dy h);obtain⟨y,rfl⟩:=Nat.exists_eq_add_of_le (Dy hj);subst i;have hx:=Nat.lt_of_add_lt_add_left h2;have hy:=Nat.lt_of_add_lt_add_left hn;rw[Nat.add_sub_cancel_left]
 refine⟨hy,?_⟩
 rw[Nat.sub_sub,Nat.add_comm 1,Nat.add_assoc,Nat.add_sub_add_left,Nat.sub_sub,Nat.add_comm 1 y]
 constructor
 ·intro e
  have:x=y:=by
   clear h2 hn h hj
   omega
  rw[this]
 ·intro e
  rw[Nat.add_left_cancel e]
theorem ar6{n f t:Nat}(i:n=f+t)(hj:¬ j<f)(hn:¬ j<n):t<=j-f:=by omega
theorem tX{a:Nat}{f:Obj->Obj}(h:a<S.fr.length){life:Life}:(Heap.mk (S.fr++S.tl.reverse).toArray life).update a f=⟨(yR f S.fr a++S.tl.reverse).toArray,life⟩:=by
 show Heap.mk _ _=Heap.mk _ _;refine congrArg (fun z=>Heap.mk z life) (Array.ext_getElem? fun j=>?_)
 rw[Array.getElem?_modify,Dr,Dr];have hl:=jM f S.fr a
 by_cases hj:j<S.fr.length
 ·rw[Cz hj,Cz (hl.symm▸hj),U2]
 ·rw[Cy (Dy hj),Cy (hl.symm▸Dy hj),hl,if_neg (fun(e:a=j)=>hj (e▸h))]
theorem tZ(i:S.inv){a:Nat}{f:Obj->Obj}(h:¬ a<S.fr.length)(h2:a<S.n){life:Life}:(Heap.mk (S.fr++S.tl.reverse).toArray life).update a f=⟨(S.fr++(yR f S.tl (S.n-1-a)).reverse).toArray,life⟩:=by
 show Heap.mk _ _=Heap.mk _ _;refine congrArg (fun z=>Heap.mk z life) (Array.ext_getElem? fun j=>?_)
 rw[Array.getElem?_modify,Dr,Dr]
 by_cases hj:j<S.fr.length
 ·rw[Cz hj,Cz hj,if_neg (fun(e:a=j)=>h (e▸hj))]
 ·rw[Cy (Dy hj),Cy (Dy hj)]
  by_cases hn:j<S.n
  ·obtain⟨k,e⟩:=ar5 i h h2 hj hn
   rw[List.getElem?_reverse k,List.getElem?_reverse (by rw[jM];exact k),U2,jM]
   by_cases q:a=j
   ·rw[if_pos q,if_pos (e.mpr q)]
   ·rw[if_neg q,if_neg (fun x=>q (e.mp x))]
  ·have k:=ar6 i hj hn
   rw[Eb (by rw[Cr];exact k),Eb (by rw[Cr,jM];exact k)]
   exact ite_self _
section
variable {p:Program}{w:World}
def jv(p:Program)(w:World)(m:Nat)(s:Shared)(t:Thread)(s':Shared)(t':Thread):Prop:=
 ∀N r,topRun treeTable p w 11 (some (.ref 6)) N s' t'=some r->topRun treeTable p w 11 (some (.ref 6)) (m+N) s t=some r
theorem jv.refl{t:Thread}:jv p w 0 s t s t:=fun N r h=>by rw[Nat.zero_add];exact h
theorem jv.trans{m m':Nat}{s'':Shared}{t t' t'':Thread}(a:jv p w m s t s' t')(b:jv p w m' s' t' s'' t''):jv p w (m+m') s t s'' t'':=
 fun N r h=>by rw[Nat.add_assoc];exact a _ _ (b _ _ h)
theorem jv.step{m:Nat}{s'':Shared}{t t' t'':Thread}(h1:through t=false)(h2:stepOk 11 (some (.ref 6)) t=true)(h3:PySem.step (denote treeTable) p w s t=.go s' t')(b:jv p w m s' t' s'' t''):jv p w (m+1) s t s'' t'':=by
 intro N r h;rw[show m+1+N=(m+N)+1 by lia]
 unfold topRun;rw[h1,h2,h3];exact b _ _ h
theorem jv.of_eq{m m':Nat}{t t':Thread}(a:jv p w m s t s' t')(e:m=m'):jv p w m' s t s' t':=e▸a
structure Ev(p:Program)(w:World)(code:Code)(stk:List (Code×Pos)){α:Type}(x:Sem α)(S:St)(a:α)(S':St):Prop where
 inv:S'.inv
 le:S.cnt<=S'.cnt
 go:∀{K:α->Sem Fin} {H:Value->Sem Fin} {gd:Bool->Bool} {lv:List Value->List Value} {B:List Frame} {life:Life} {dr:Drawn} {os:OsState},B.map Frame.where_=stk ->
  jv p w (S'.cnt-S.cnt) (S.sh life dr os) ⟨x.wrap K H gd lv,code,S.pos,B⟩ (S'.sh life dr os) ⟨K a,code,S'.pos,B⟩
structure Cl(p:Program)(w:World)(c:Code)(stk:List (Code×Pos))(S:St)(f:Flow)(S':St):Prop where
 inv:S'.inv
 le:S.cnt<=S'.cnt
 go:∀{k:Result->Sem Fin} {h:Option Value} {g:Bool} {l:List Value} {cd:Code} {pp:Pos} {kept:List Value} {B:List Frame} {life:Life} {dr:Drawn} {os:OsState},(cd,pp)::B.map Frame.where_=stk ->
  jv p w (S'.cnt-S.cnt) (S.sh life dr os) ⟨denote treeTable c,c,S.pos,.ret k h g l cd pp kept::B⟩ (S'.sh life dr os) ⟨k (.ok f),cd,pp,B⟩
theorem Ev.pure{code:Code}{a:α}(i:S.inv):Ev p w code stk (Sem.pure a) S a S:=
 ⟨i,Cg _,fun Z=>jv.of_eq jv.refl (Nat.sub_self _).symm⟩
theorem Ev.bind{code:Code}{x:Sem α}{f:α->Sem β}{a:α}{b:β}(h:Ev p w code stk x S a S')(k:Ev p w code stk (f a) S' b S''):Ev p w code stk (x.bind f) S b S'':=by
 refine⟨k.inv,Dc h.le k.le,fun{K H gd lv B life dr os} hB=>?_⟩
 rw[Sem.bind_eq_wrap,Sem.wrap_wrap];exact jv.of_eq ((h.go (K:=fun a=>(f a).wrap K H gd lv) (H:=fun e=>(Sem.raise e:Sem β).wrap K H gd lv) (gd:=fun g=>gd (id g)) (lv:=fun l=>lv (id l)) hB).trans (k.go hB)) (ar1 h.le k.le)
theorem Ev.onRaise{code:Code}{x:Sem α}{f:Value->Sem Unit}{a:α}(h:Ev p w code stk x S a S'):Ev p w code stk (x.onRaise f) S a S':=by
 refine⟨h.inv,h.le,fun{K H gd lv B life dr os} hB=>?_⟩
 rw[Sem.onRaise_eq_wrap,Sem.wrap_wrap];exact h.go (K:=fun a=>(Sem.pure a:Sem α).wrap K H gd lv) hB
def Stp(p:Program)(w:World)(code:Code)(stk:List (Code×Pos))(x:Sem α)(S:St)(y:Sem α)(C8:St):Prop:=C8.cnt=S.cnt+1 /\
 ∀(K:α->Sem Fin) (H:Value->Sem Fin) (gd:Bool->Bool) (lv:List Value->List Value) (B:List Frame) (life:Life) (dr:Drawn) (os:OsState),B.map Frame.where_=stk->through ⟨x.wrap K H gd lv,code,S.pos,B⟩=false/\stepOk 11 (some (.ref 6)) ⟨x.wrap K H gd lv,code,S.pos,B⟩=true /\
   PySem.step (denote treeTable) p w (S.sh life dr os) ⟨x.wrap K H gd lv,code,S.pos,B⟩=.go (C8.sh life dr os) ⟨y.wrap K H gd lv,code,C8.pos,B⟩
theorem Ev.step{code:Code}{x y:Sem α}{a:α}{C8:St}(s:Stp p w code stk x S y C8)(h:Ev p w code stk y C8 a S'):Ev p w code stk x S a S':=by
 have hl:=h.le;rw[s.1] at hl
 refine⟨h.inv,Nat.le_of_succ_le hl,fun{K H gd lv B life dr os} hB=>?_⟩
 refine jn (s.2 K H gd lv B life dr os hB) fun h1 h2 h3=>?_
 exact jv.of_eq (jv.step h1 h2 h3 (h.go hB)) (s.1▸ar2 hl)
section
variable {code:Code}{fr tl:List Obj}{n t c:Nat}
theorem YX{r:String}{k:Unit->Sem α}:Stp p w code stk (.rule r k) ⟨fr,tl,n,t,c,q⟩ (k ()) ⟨fr,tl,n,t,c+1,q⟩:=⟨rfl,fun Z Z Z Z Z Z Z Z Z=>⟨Dd _,rfl,rfl⟩⟩
theorem gJ{k:Unit->Sem α}:Stp p w code stk (.at q' k) ⟨fr,tl,n,t,c,q⟩ (k ()) ⟨fr,tl,n,t,c+1,q'⟩:=⟨rfl,fun Z Z Z Z Z Z Z Z Z=>⟨Dd _,rfl,rfl⟩⟩
theorem V0{l:List Value}{k:Unit->Sem α}:Stp p w code stk (.point l k) ⟨fr,tl,n,t,c,q⟩ (k ()) ⟨fr,tl,n,t,c+1,q⟩:=⟨rfl,fun Z Z Z Z Z Z Z Z Z=>⟨Dd _,rfl,rfl⟩⟩
theorem VZ{k:Nat->Sem α}:Stp p w code stk (.fresh k) ⟨fr,tl,n,t,c,q⟩ (k t) ⟨fr,tl,n,t+1,c+1,q⟩:=⟨rfl,fun Z Z Z Z Z Z Z Z Z=>⟨Dd _,rfl,rfl⟩⟩
theorem a9{k:Setting->Sem α}:Stp p w code stk (.ask k) ⟨fr,tl,n,t,c,q⟩ (k ⟨p,w.params⟩) ⟨fr,tl,n,t,c+1,q⟩:=⟨rfl,fun Z Z Z Z Z Z Z Z Z=>⟨Dd _,rfl,rfl⟩⟩
theorem V1{k:List (Code×Pos)->Sem α}:Stp p w code stk (.stack k) ⟨fr,tl,n,t,c,q⟩ (k ((code,q)::stk)) ⟨fr,tl,n,t,c+1,q⟩:=⟨rfl,fun Z Z Z Z Z Z Z Z hB=>⟨Dd _,rfl,by rw[<- hB];rfl⟩⟩
theorem VY{o:Obj}{k:Addr->Sem α}(i:St.inv ⟨fr,tl,n,t,c,q⟩):Stp p w code stk (.alloc o k) ⟨fr,tl,n,t,c,q⟩ (k n) ⟨fr,o::tl,n+1,t,c+1,q⟩:=by
 refine⟨rfl,fun K H gd lv B life dr os hB=>⟨Dd _,rfl,?_⟩⟩
 have e:(fr++tl.reverse).toArray.size=n:=by rw[Bv,Bz,Cr];exact i.symm
 have e2:(fr++tl.reverse).toArray.push o=(fr++(o::tl).reverse).toArray:=by rw[List.push_toArray,Cv,Br]
 show PySem.Step.go ⟨⟨(fr++tl.reverse).toArray.push o,life⟩,#[],dr,t,os⟩ ⟨(k (fr++tl.reverse).toArray.size).wrap K H gd lv,code,q,B⟩=_;rw[e,e2];rfl
theorem YW{a:Addr}{v:Option Value}{k:Obj->Sem α}{o:Obj}(i:St.inv ⟨fr,tl,n,t,c,q⟩)(e:jg fr tl n a=some o):Stp p w code stk (.load a v k) ⟨fr,tl,n,t,c,q⟩ (k o) ⟨fr,tl,n,t,c+1,q⟩:=by
 refine⟨rfl,fun K H gd lv B life dr os hB=>⟨Dd _,rfl,?_⟩⟩
 have g:=QP (S:=⟨fr,tl,n,t,c,q⟩) i (life:=life) (drawn:=dr) (os:=os) e
 show(match (St.sh ⟨fr,tl,n,t,c,q⟩ life dr os).heap.get? a with | some o=>_ | none=>_)=_
 rw[g];rfl
theorem sG{b:Nat}(hu:okU b=true):(Nat.ble 11 b||b==mainNs||b==cStatics||some (Value.ref 6)==some (.ref b))=true:=by
 rcases Bool.or_eq_true_iff.mp hu with h | h
 ·rcases Bool.or_eq_true_iff.mp h with h | h
  ·rw[h];rfl
  ·obtain rfl:=Bp h;rfl
 ·obtain rfl:=Bp h;rfl
theorem gH(i:S.inv){b:Nat}{o:Obj}(e:jg S.fr S.tl S.n b=some o):b<S.n:=by
 unfold jg at e
 cases q:lAt S.fr b with
 | some x =>
  rw[Xk] at q
  have:=(List.getElem?_eq_some_iff.mp q).1
  exact Nat.lt_of_lt_of_le this (i.symm▸Nat.le_add_right _ _)
 | none =>
  rw[q] at e
  cases hb:Dg b S.n with
  | false=>rw[hb] at e;cases e
  | true=>exact Bs hb
theorem bc{b:Addr}{v:Option Value}{f:Obj->Obj}{k:Unit->Sem α}{o:Obj}{fr':List Obj}(i:St.inv ⟨fr,tl,n,t,c,q⟩)(hu:okU b=true)(e:jg fr tl n b=some o)
  (u:∀life,(Heap.mk (fr++tl.reverse).toArray life).update b f=⟨(fr'++tl'.reverse).toArray,life⟩):Stp p w code stk (.update b v f k) ⟨fr,tl,n,t,c,q⟩ (k ()) ⟨fr',tl',n,t,c+1,q⟩:=by
 refine⟨rfl,fun K H gd lv B life dr os hB=>⟨Dd _,sG hu,?_⟩⟩
 have g:=QP (S:=⟨fr,tl,n,t,c,q⟩) i (life:=life) (drawn:=dr) (os:=os) e
 show(if (St.sh ⟨fr,tl,n,t,c,q⟩ life dr os).heap.get? b |>.isSome then PySem.Step.go ⟨(Heap.mk (fr++tl.reverse).toArray life).update b f,#[],dr,t,os⟩ ⟨(k ()).wrap K H gd lv,code,q,B⟩ else _)=_
 rw[g,u];rfl
set_option backward.match.sparseCases true in
theorem Ev.call{c':Code}{hd:Option Value}{g:Bool}{l:List Value}{k:Result->Sem α}{f:Flow}{a:α}(C:Cl p w c' ((code,q)::stk) ⟨fr,tl,n,t,c+1,q⟩ f D5)(E:Ev p w code stk (k (.ok f)) ⟨D5.fr,D5.tl,D5.n,D5.toks,D5.cnt,q⟩ a S'):Ev p w code stk (.call c' hd g l k) ⟨fr,tl,n,t,c,q⟩ a S':=by
 have l1:c+1<=D5.cnt:=C.le;have l2:D5.cnt<=S'.cnt:=E.le
 refine⟨E.inv,Nat.le_of_succ_le (Dc l1 l2),fun{K H gd lv B life dr os} hB=>?_⟩
 have r2:=C.go (k:=fun x=>(k x).wrap K H gd lv) (h:=hd) (g:=gd g) (l:=lv l) (cd:=code) (pp:=q) (kept:=match (generalizing:=false) c',code with
   | .builtin _ a,_=>unmarked a.refs
   | .call f a,.builtin .. | .call f a,.call ..=>unmarked (if (lv l).contains borrowed then a.refs else f::a.refs)
   | _,_=>[]) (B:=B) (life:=life) (dr:=dr) (os:=os) (by rw[hB])
 have r3:=E.go (K:=K) (H:=H) (gd:=gd) (lv:=lv) (B:=B) (life:=life) (dr:=dr) (os:=os) hB;have r4:=r2.trans r3;refine jv.of_eq (m:=(D5.cnt-(c+1))+(S'.cnt-D5.cnt)+1) ?_ ((congrArg (· + 1) (ar1 l1 l2)).trans (ar2 (Dc l1 l2)));exact jv.step (t:=⟨(Sem.call c' hd g l k).wrap K H gd lv,code,q,B⟩) (Dd _) rfl rfl r4
end
def HcS(p:Program)(w:World)(hc:Code->List (Code×Pos)->St->Option (Flow×St)):Prop:=∀c stk S f S',hc c stk S=some (f,S')->S.inv->Cl p w c stk S f S'
theorem tY{fr tl:List Obj}{n b:Nat}{f:Obj->Obj}{X Y:Option β}{r:β}(h:cond (okU b) (yt (jg fr tl n b) fun Z=>cond (Dg b fr.length) X Y) none=some r):okU b=true /\ ∃o,jg fr tl n b=some o/\((b<fr.length/\X=some r)∨(¬ b<fr.length/\Y=some r)):=by
 refine byc fun Ea=>?_
 refine zd (Z4 h) fun hu h=>?_
 refine zc (Jz h) fun o e h=>?_
 refine Ea ?_
 refine⟨hu,o,e,?_⟩
 cases hb:Dg b fr.length with
 | true=>rw[hb] at h;exact .inl ⟨Bs hb,h⟩
 | false=>rw[hb] at h;exact .inr ⟨fun q=>(nomatch hb.symm.trans (show Dg b fr.length=true from Ds q)),h⟩
theorem vf{fr tl:List Obj}{n t c c' b:Nat}{f:Obj->Obj}(i:St.inv ⟨fr,tl,n,t,c,q⟩):St.inv ⟨yR f fr b,tl,n,t',c',q'⟩:=Eq.trans i (congrArg (· + tl.length) (jM f fr b).symm)
theorem vg{fr tl:List Obj}{n t c c' b:Nat}{f:Obj->Obj}(i:St.inv ⟨fr,tl,n,t,c,q⟩):St.inv ⟨fr,yR f tl b,n,t',c',q'⟩:=Eq.trans i (congrArg (fr.length + ·) (jM f tl b).symm)
theorem Ev.upd{code:Code}{a:α}{r:β}{b:Addr}{v:Option Value}{f:Obj->Obj}{k:Unit->Sem α}{F:St->Option β}
  (h:cond (okU b) (yt (jg S.fr S.tl S.n b) fun Z=>cond (Dg b S.fr.length) (F ⟨yR f S.fr b,S.tl,S.n,S.toks,S.cnt+1,S.pos⟩) (F ⟨S.fr,yR f S.tl (Nat.sub (Nat.sub S.n 1) b),S.n,S.toks,S.cnt+1,S.pos⟩)) none=some r) (i:S.inv)
  (g:∀{C8:St},F C8=some r->C8.inv->Ev p w code stk (k ()) C8 a S'):Ev p w code stk (.update b v f k) S a S':=by
 obtain⟨hu,o,e,h | h⟩:=tY (f:=f) h
 ·exact .step (bc i hu e fun life=>tX h.1) (g h.2 (vf i))
 ·exact .step (bc i hu e fun life=>tZ i h.1 (gH i e)) (g h.2 (vg i))
theorem zQ(hh:HcS p w hc){code:Code}(x:Sem α):∀{S:St} {a:α} {S':St},zo p w.params hc code stk x S=some (a,S')->S.inv->Ev p w code stk x S a S':=by
 induction x with
 | pure a=>intro S a' S' h i;cases h;exact Ev.pure i
 | rule t k ih=>exact fun{S a S'} h i=>.step YX (ih () h i)
 | «at» q' k ih=>exact fun{S a S'} h i=>.step gJ (ih () h i)
 | point l k ih=>exact fun{S a S'} h i=>.step V0 (ih () h i)
 | fresh k ih=>exact fun{S a S'} h i=>.step VZ (ih _ h i)
 | ask k ih=>exact fun{S a S'} h i=>.step a9 (ih _ h i)
 | stack k ih=>exact fun{S a S'} h i=>.step V1 (ih _ h i)
 | alloc o k ih=>exact fun{S a S'} h i=>.step (VY i) (ih _ h (congrArg (· + 1) i))
 | load b q' k ih=>exact fun{S a S'} h i=>let⟨o,e,h⟩:=Jz h;.step (YW i e) (ih _ h i)
 | update b q' f k ih=>exact fun{S a S'} h i=>.upd (F:=zo p w.params hc code stk (k ())) h i (ih ())
 | call c' hd g l k ih =>
  intro S a S' h i;refine zc (Jz h) fun Cd e h=>?_;obtain⟨f,D5⟩:=Cd
  have C:=hh _ _ _ _ _ e i;exact .call C (ih (.ok f) h C.inv)
 | _=>intro S a S' h i;cases h
structure TB(p:Program)(w:World)(code:Code)(stk:List (Code×Pos)){α:Type}(D5 S':St)(f:Flow)(a:α)(b:BC α)(C8:St):Prop where
 body:St.inv ⟨C8.fr,C8.tl,C8.n,C8.toks,C8.cnt+1,C8.pos⟩->Cl p w (.body b.b b.env) ((code,C8.pos)::stk) ⟨C8.fr,C8.tl,C8.n,C8.toks,C8.cnt+1,C8.pos⟩ f D5
 rest:St.inv ⟨D5.fr,D5.tl,D5.n,D5.toks,D5.cnt,C8.pos⟩->Ev p w code stk (b.k (.ok f)) ⟨D5.fr,D5.tl,D5.n,D5.toks,D5.cnt,C8.pos⟩ a S'
theorem bE(hh:HcS p w hc){code:Code}{f:Flow}{a:α}(x:Sem α):∀{S:St} {b:BC α} {C8:St},yf p w.params hc code stk x S=some (b,C8)->S.inv->TB p w code stk D5 S' f a b C8->Ev p w code stk x S a S':=by
 induction x with
 | rule t k ih=>exact fun{S b C8} h i B=>.step YX (ih () h i B)
 | «at» q' k ih=>exact fun{S b C8} h i B=>.step gJ (ih () h i B)
 | point l k ih=>exact fun{S b C8} h i B=>.step V0 (ih () h i B)
 | fresh k ih=>exact fun{S b C8} h i B=>.step VZ (ih _ h i B)
 | ask k ih=>exact fun{S b C8} h i B=>.step a9 (ih _ h i B)
 | stack k ih=>exact fun{S b C8} h i B=>.step V1 (ih _ h i B)
 | alloc o k ih=>exact fun{S b C8} h i B=>.step (VY i) (ih _ h (congrArg (· + 1) i) B)
 | load b q' k ih=>exact fun{S bb C8} h i B=>let⟨o,e,h⟩:=Jz h;.step (YW i e) (ih _ h i B)
 | update b q' f k ih=>exact fun{S bb C8} h i B=>.upd (F:=yf p w.params hc code stk (k ())) h i fun h i=>ih () h i B
 | call c' hd g l k ih =>
  intro S bb C8 h i B;have other:yt (hc c' ((code,S.pos)::stk) ⟨S.fr,S.tl,S.n,S.toks,S.cnt+1,S.pos⟩) (fun r=>yf p w.params hc code stk (k (.ok r.1)) ⟨r.2.fr,r.2.tl,r.2.n,r.2.toks,r.2.cnt,S.pos⟩)=some (bb,C8)->Ev p w code stk (.call c' hd g l k) S a S':=by
   intro h;refine zc (Jz h) fun Cd e h=>?_;obtain⟨f,D5⟩:=Cd
   have C:=hh _ _ _ _ _ e i;exact .call C (ih (.ok f) h C.inv B)
  induction c' with
  | body b env =>
   replace h:=Di h
   cases h
   have C:=B.body i;exact .call C (B.rest C.inv)
  | _=>exact other h
 | _=>intro S bb C8 h i;cases h
theorem QI(hh:HcS p w hc){code:Code}{f:Flow}{a:α}(x:Sem α):∀{S:St} {b:BC α} {C8:St},yf p w.params hc code stk x S=some (b,C8)->S.inv ->
  (St.inv ⟨C8.fr,C8.tl,C8.n,C8.toks,C8.cnt+1,C8.pos⟩->Cl p w (.body b.b b.env) ((code,C8.pos)::stk) ⟨C8.fr,C8.tl,C8.n,C8.toks,C8.cnt+1,C8.pos⟩ f D5) ->
  (St.inv ⟨D5.fr,D5.tl,D5.n,D5.toks,D5.cnt,C8.pos⟩->Ev p w code stk (b.k (.ok f)) ⟨D5.fr,D5.tl,D5.n,D5.toks,D5.cnt,C8.pos⟩ a S')->Ev p w code stk x S a S':=fun{S b C8} h i hb he=>bE hh x h i ⟨hb,he⟩
theorem XG(x:Sem α):x.wrap Sem.pure Sem.raise id id=x:=by
 induction x<;>simp only[Sem.wrap,id, *]
theorem Cl.done{c:Code}{f:Flow}(h:Ev p w c stk (denote treeTable c) S (.done f) S'):Cl p w c stk S f ⟨S'.fr,S'.tl,S'.n,S'.toks,S'.cnt+1,S'.pos⟩:=by
 refine⟨h.inv,Nat.le_succ_of_le h.le,fun{k hh g l cd pp kept B life dr os} hB=>?_⟩
 have r:=h.go (K:=Sem.pure) (H:=Sem.raise) (gd:=id) (lv:=id) (B:=.ret k hh g l cd pp kept::B) (life:=life) (dr:=dr) (os:=os) (by rw[<- hB];rfl)
 rw[XG] at r;have r2:jv p w (0+1) (S'.sh life dr os) ⟨.pure (.done f),c,S'.pos,.ret k hh g l cd pp kept::B⟩ (S'.sh life dr os) ⟨k (.ok f),cd,pp,B⟩:=jv.step rfl rfl rfl jv.refl;exact jv.of_eq (r.trans r2) (ar3 h.le)
theorem ar7{a b c:Nat}(h:a<=b)(k:b+1<=c):b-a+(c-(b+1)+1)=c-a:=(congrArg (b-a + ·) (ar2 k)).trans (ar1 h (Nat.le_of_succ_le k))
theorem Cl.again{c d:Code}{f:Flow}(h:Ev p w c stk (denote treeTable c) S (.again d) S')(hd:Zv d=true)(k:Cl p w d stk ⟨S'.fr,S'.tl,S'.n,S'.toks,S'.cnt+1,S'.pos⟩ f S''):Cl p w c stk S f S'':=by
 have kl:S'.cnt+1<=S''.cnt:=k.le
 refine⟨k.inv,Dc h.le (Nat.le_of_succ_le kl),fun{kk hh g l cd pp kept B life dr os} hB=>?_⟩
 have r:=h.go (K:=Sem.pure) (H:=Sem.raise) (gd:=id) (lv:=id) (B:=.ret kk hh g l cd pp kept::B) (life:=life) (dr:=dr) (os:=os) (by rw[<- hB];rfl)
 rw[XG] at r;have ok:stepOk 11 (some (.ref 6)) ⟨.pure (.again d),c,S'.pos,.ret kk hh g l cd pp kept::B⟩=true:=by
  induction d with
  | builtin id args =>
   replace hd:id.startsWith "lifetime." = false:=(Cq _).mp hd
   show((!(id.startsWith "lifetime.")||_) && !false&&true&&true)=true
   rw[hd];rfl
  | _=>rfl
 have r2:=k.go (k:=kk) (h:=hh) (g:=g) (l:=l) (cd:=cd) (pp:=pp) (kept:=keptBy c d l kept) (B:=B) (life:=life) (dr:=dr) (os:=os) hB;have r3:=jv.step (s:=S'.sh life dr os) (t:=⟨.pure (.again d),c,S'.pos,.ret kk hh g l cd pp kept::B⟩) rfl ok step_again r2;exact jv.of_eq (r.trans r3) (ar7 h.le kl)
theorem pB{P:Params}{m:Nat}{c:Code}{f:Flow}(h:hcF p P (m+1) c stk S=some (f,S')):∃x C8,zo p P (hcF p P m) c stk (denote treeTable c) S=some (x,C8) /\
  ((x=.done f/\S'=⟨C8.fr,C8.tl,C8.n,C8.toks,C8.cnt+1,C8.pos⟩) ∨ ∃d,x=.again d/\Zv d=true/\hcF p P m d stk ⟨C8.fr,C8.tl,C8.n,C8.toks,C8.cnt+1,C8.pos⟩=some (f,S')):=by
 refine zc (Jz (show yt (zo p P (hcF p P m) c stk (denote treeTable c) S) (hcN (fun d=>hcF p P m d stk) stk)=some (f,S') from h)) fun Cd e h=>?_;obtain⟨x,C8⟩:=Cd
 induction x with
 | done f'=>cases h;exact(yA _ _ e (.inl ⟨rfl,rfl⟩))
 | again d=>exact(yA _ _ e (.inr (zA d rfl (Z4 h))))
theorem zU:∀m,HcS p w (hcF p w.params m)
 | 0=>by intro c stk S f S' h;cases h
 | m+1=>by
  intro c stk S f S' h i;obtain⟨x,C8,e,⟨rfl,rfl⟩ | ⟨d,rfl,hd,k⟩⟩:=pB h
  ·exact Cl.done (zQ (zU m) _ e i)
  ·have E:=zQ (zU m) _ e i
   exact Cl.again E hd (zU m _ _ _ _ _ k E.inv)
theorem Ev.cons{code:Code}{st:Stmt}{rest:List Stmt}{f:Flow}(h:Ev p w code stk (exec st env) S .next S')(k:Ev p w code stk (execs rest env) S' f S''):Ev p w code stk (execs (st::rest) env) S f S'':=by
 rw[execs_cons];exact Ev.bind h k
theorem Ev.nil{code:Code}(i:S.inv):Ev p w code stk (execs [] env) S .next S:=Ev.pure i
theorem Cl.body{b:List Stmt}(h0:blockStart b env=Sem.pure ())(h:Ev p w (.body b env) stk (execs b env) S .next S'):Cl p w (.body b env) stk S .next ⟨S'.fr,S'.tl,S'.n,S'.toks,S'.cnt+1,S'.pos⟩:=by
 refine Cl.done ?_;show Ev p w _ stk ((blockStart b env).bind (fun Z=>((execs b env).onRaise (leaving env)).bind fun f=>(Sem.pure (Fin.done f):Sem Fin))) S _ S'
 rw[h0];show Ev p w _ stk (((execs b env).onRaise (leaving env)).bind fun f=>(Sem.pure (Fin.done f):Sem Fin)) S _ S'
 exact Ev.bind h.onRaise (Ev.pure h.inv)
end
section
variable {p:Program}{P:Params}{code:Code}
theorem dB{γ:Type}{c d:Bool}{o:Option γ}{A B:Option α}{g:α->Option β}:cond c (yt o fun Z=>cond d (yt A g) (yt B g)) none=yt (cond c (yt o fun Z=>cond d A B) none) g:=by
 induction c<;>induction o<;>induction d<;>rfl
theorem Zj(x:Sem α)(f:α->Sem β):∀(S:St),zo p P hc code stk (x.bind f) S=yt (zo p P hc code stk x S) fun r=>zo p P hc code stk (f r.1) r.2:=by
 induction x with
 | pure a=>intro S;rfl
 | rule t k ih=>rintro⟨fr,tl,n,t,c,q⟩;exact ih _ _
 | «at» t k ih=>rintro⟨fr,tl,n,t,c,q⟩;exact ih _ _
 | point t k ih=>rintro⟨fr,tl,n,t,c,q⟩;exact ih _ _
 | fresh k ih=>rintro⟨fr,tl,n,t,c,q⟩;exact ih _ _
 | ask k ih=>rintro⟨fr,tl,n,t,c,q⟩;exact ih _ _
 | stack k ih=>rintro⟨fr,tl,n,t,c,q⟩;exact ih _ _
 | alloc o k ih=>rintro⟨fr,tl,n,t,c,q⟩;exact ih _ _
 | load a q k ih =>
  rintro⟨fr,tl,n,t,c,q⟩
  exact(Qr (o:=jg fr tl n a) fun o=>ih o ⟨fr,tl,n,t,c+1,q⟩).trans VP.symm
 | update a q g k ih =>
  rintro⟨fr,tl,n,t,c,q⟩
  exact(Wq (c:=okU a) (Qr (o:=jg fr tl n a) fun Z=>Wq (c:=Dg a fr.length) (ih () ⟨yR g fr a,tl,n,t,c+1,q⟩) (ih () ⟨fr,yR g tl (Nat.sub (Nat.sub n 1) a),n,t,c+1,q⟩)) rfl).trans dB
 | call c' h g l k ih =>
  rintro⟨fr,tl,n,t,c,q⟩
  exact(Qr (o:=hc c' ((code,q)::stk) ⟨fr,tl,n,t,c+1,q⟩) fun r=>ih (.ok r.1) ⟨r.2.fr,r.2.tl,r.2.n,r.2.toks,r.2.cnt,q⟩).trans VP.symm
 | _=>intro S;rfl
theorem Zk(vs:List Value)(x:Sem α):∀(S:St),zo p P hc code stk (x.keep vs) S=zo p P hc code stk x S:=by
 induction x with
 | pure a=>intro S;rfl
 | rule t k ih=>rintro⟨fr,tl,n,t,c,q⟩;exact ih _ _
 | «at» t k ih=>rintro⟨fr,tl,n,t,c,q⟩;exact ih _ _
 | point t k ih=>rintro⟨fr,tl,n,t,c,q⟩;exact ih _ _
 | fresh k ih=>rintro⟨fr,tl,n,t,c,q⟩;exact ih _ _
 | ask k ih=>rintro⟨fr,tl,n,t,c,q⟩;exact ih _ _
 | stack k ih=>rintro⟨fr,tl,n,t,c,q⟩;exact ih _ _
 | alloc o k ih=>rintro⟨fr,tl,n,t,c,q⟩;exact ih _ _
 | load a q k ih =>
  rintro⟨fr,tl,n,t,c,q⟩
  exact(Qr (o:=jg fr tl n a) fun o=>ih o ⟨fr,tl,n,t,c+1,q⟩)
 | update a q g k ih =>
  rintro⟨fr,tl,n,t,c,q⟩
  exact(Wq (c:=okU a) (Qr (o:=jg fr tl n a) fun Z=>Wq (c:=Dg a fr.length) (ih () ⟨yR g fr a,tl,n,t,c+1,q⟩) (ih () ⟨fr,yR g tl (Nat.sub (Nat.sub n 1) a),n,t,c+1,q⟩)) rfl)
 | call c' h g l k ih =>
  rintro⟨fr,tl,n,t,c,q⟩
  exact(Qr (o:=hc c' ((code,q)::stk) ⟨fr,tl,n,t,c+1,q⟩) fun r=>ih (.ok r.1) ⟨r.2.fr,r.2.tl,r.2.n,r.2.toks,r.2.cnt,q⟩)
 | _=>intro S;rfl
theorem j0(vs:List Value)(x:Sem α)(S:St):zo p P hc code stk (holding vs x) S=zo p P hc code stk x S:=by
 unfold holding
 split
 ·rfl
 ·exact Zk _ _ _
theorem evB{x:Sem α}{f:α->Sem β}{a:α}{r:Option (β×St)}(h:zo p P hc code stk x S=some (a,S'))(k:zo p P hc code stk (f a) S'=r):zo p P hc code stk (x >>= f) S=r:=by
 show zo p P hc code stk (x.bind f) S=r;rw[Zj,h];exact k
noncomputable def yx(l:List Str)(t:Nat):List Value:=match l with
 | []=>[]
 | s::r=>.str s t::yx r (t+1)
theorem J9:∀(l:List Str) {fr tl:List Obj} {n t c:Nat} {q:Pos},zo p P hc code stk (l.mapM mkText) ⟨fr,tl,n,t,c,q⟩=some (yx l t,⟨fr,tl,n,t+l.length,c+l.length,q⟩)
 | [],_,_,_,_,_,_=>rfl
 | s::l,fr,tl,n,t,c,q=>by
  rw[List.mapM_cons];refine evB (S':=⟨fr,tl,n,t+1,c+1,q⟩) (a:=.str s t) rfl ?_;refine evB (J9 l) ?_;show some _=some _;rw[Cu,<- Nat.add_right_comm t,<- Nat.add_right_comm c];rfl
theorem J8{fr tl:List Obj}{n t c a:Nat}{o:Obj}(h:jg fr tl n a=some o):zo p P hc code stk (load a) ⟨fr,tl,n,t,c,q⟩=some (o,⟨fr,tl,n,t,c+1,q⟩):=by
 show yt (jg fr tl n a) (fun o=>some (o,(⟨fr,tl,n,t,c+1,q⟩:St)))=_
 rw[h];rfl
theorem QG{fr tl:List Obj}{n t c a:Nat}{o:Obj}{x:Option Value}(h:jg fr tl n a=some o):zo p P hc code stk (loadPart a x) ⟨fr,tl,n,t,c,q⟩=some (o,⟨fr,tl,n,t,c+1,q⟩):=by
 show yt (jg fr tl n a) (fun o=>some (o,(⟨fr,tl,n,t,c+1,q⟩:St)))=_
 rw[h];rfl
theorem VB{fr tl:List Obj}{n t c a:Nat}{o:Obj}{x:Option Value}{f:Obj->Obj}(h:jg fr tl n a=some o)(hu:okU a=true)(hl:Dg a fr.length=true):zo p P hc code stk (updatePart a x f) ⟨fr,tl,n,t,c,q⟩=some ((),⟨yR f fr a,tl,n,t,c+1,q⟩):=by
 show cond (okU a) (yt (jg fr tl n a) fun Z=>cond (Dg a fr.length) (some ((),(⟨yR f fr a,tl,n,t,c+1,q⟩:St))) (some ((),⟨fr,yR f tl (Nat.sub (Nat.sub n 1) a),n,t,c+1,q⟩))) none=_
 rw[h,hu,hl];rfl
theorem K9{fr tl:List Obj}{n t c a:Nat}{o:Obj}{vs:Array Value}(h:jg fr tl n a=some o)(hd:o.data=.fields vs):zo p P hc code stk (fieldsOf (.ref a)) ⟨fr,tl,n,t,c,q⟩=some (vs,⟨fr,tl,n,t,c+1,q⟩):=by
 refine evB (J8 h) ?_;rw[hd];rfl
theorem UF{fr tl:List Obj}{n t c a:Nat}{o:Obj}{x:Str}{v:Option Value}(h:jg fr tl n a=some o)(hv:nsLook x o=Sem.pure v):zo p P hc code stk (nsGet a x) ⟨fr,tl,n,t,c,q⟩=some (v,⟨fr,tl,n,t,c+1,q⟩):=by
 refine evB (QG h) ?_;rw[hv];rfl
theorem Zh:∀{sc:Scope},(sc.names.all fun x=>!(x.2==.free))=true->zo p P hc code stk (closureFor sc env) S=some ([],S):=by
 rintro⟨kd,names,g,co,more⟩ h
 simp only at h;have key:∀(l:List (Str×NameKind)),(l.all fun x=>!(x.2==.free))=true->zo p P hc code stk (forIn l [] fun(x:Str×NameKind) (cs:List (Str×Addr))=>(do
   let(name,kind):=x
   if kind==.free then pure (ForInStep.yield ((name,<- cellOf env name)::cs)) else pure (ForInStep.yield cs):Sem (ForInStep (List (Str×Addr))))) S=some ([],S):=by
  intro l
  induction l with
  | nil=>intro _;rfl
  | cons x l ih =>
   intro h;rw[Ed,Ck] at h;rw[List.forIn_cons];obtain⟨nm,kd⟩:=x;have h1:(kd==NameKind.free)=false:=by simpa using h.1
   refine evB (a:=ForInStep.yield []) (S':=S) ?_ (ih h.2);simp only[h1,Du,if_false];rfl
 exact evB (key names h) rfl
structure CB where
 pre:List Obj
 o25:Obj
 o27:Obj
 o28:Obj
noncomputable abbrev qO(es:List DictEntry)(m:Nat):Obj:=⟨.type "dict",none,.dict es.toArray m,#[]⟩
noncomputable abbrev Vp(vs:List Value):Obj:=⟨.none,none,.fields vs.toArray,#[]⟩
noncomputable def CB.fr(X:CB)(es:List DictEntry)(m:Nat)(vs:List Value):List Obj:=X.pre ++ [qO es m,X.o25,Vp vs,X.o27,X.o28]
structure CBok(X:CB)(env:Env)(file:Str)(fl:Nat)(tx:Nat)(mod:Value):Prop where
 len:X.pre.length=24
 loc:env.locals=24
 glo:env.globals=3
 bui:env.builtins=0
 cod:env.code=.ref 27
 kin:env.scope.kind=.class
 dat:∃cv:Array Value,X.o27.data=.fields cv/\cv.getD 11 .none=.ref 26/\(∃t,cv.getD 18 .none=.str file t)/\cv.getD 7 .none=.int fl 0/\cv.getD 9 .none=.bool false/\cv.getD 10 .none=.int tx 0
 al27:alive X.o27=some X.o27
 fut:(fl &&& (coFutureAnnotations ||| coFutureBarry))=0
 g3:∃o3,lAt X.pre 3=some o3/\alive o3=some o3/\nsLook "__builtins__" o3=Sem.pure (some (.ref 4))/\nsLook "__name__" o3=Sem.pure (some mod)
 g4:∃o4,lAt X.pre 4=some o4/\alive o4=some o4/\o4.dict=some 0/\o4.cls=.type "module" /\ (match o4.data with | .dict ..=>false | _=>true)=true
section
variable {X:CB}{file:Str}{fl tx:Nat}{mod:Value}
theorem aw{α:Type}:∀(l r:List α) (i:Nat),lAt (l++r) (l.length+i)=lAt r i
 | [],r,i=>by simp
 | x::l,r,i=>by rw[List.cons_append,Cu,show l.length+1+i=(l.length+i)+1 by lia];exact aw l r i
theorem Yt{α:Type}:∀{l:List α} {i:Nat} {x:α} (r:List α),lAt l i=some x->lAt (l++r) i=some x
 | [],_,_,_,h=>by cases h
 | y::l,0,_,_,h=>h
 | y::l,i+1,_,r,h=>Yt (l:=l) r h
theorem Yu{α:Type}(f:α->α):∀(l r:List α) (i:Nat),yR f (l++r) (l.length+i)=l++yR f r i
 | [],r,i=>by simp
 | x::l,r,i=>by rw[List.cons_append,Cu,show l.length+1+i=(l.length+i)+1 by lia];exact congrArg (x :: ·) (Yu f l r i)
theorem eC(ok:CBok X env file fl tx mod)(es:List DictEntry)(m:Nat)(vs:List Value):(X.fr es m vs).length=29:=by
 unfold CB.fr;rw[Bz,ok.len];rfl
theorem eB(ok:CBok X env file fl tx mod)(es:List DictEntry)(m:Nat)(vs:List Value)(i:Nat):lAt (X.fr es m vs) (24+i)=lAt [qO es m,X.o25,Vp vs,X.o27,X.o28] i:=by
 unfold CB.fr;rw[<- ok.len];exact aw _ _ _
theorem eD(ok:CBok X env file fl tx mod)(es:List DictEntry)(m:Nat)(vs:List Value)(f:Obj->Obj)(i:Nat):yR f (X.fr es m vs) (24+i)=X.pre++yR f [qO es m,X.o25,Vp vs,X.o27,X.o28] i:=by
 unfold CB.fr;rw[<- ok.len];exact Yu _ _ _ _
theorem g24(ok:CBok X env file fl tx mod){es:List DictEntry}{m:Nat}{vs:List Value}{tl:List Obj}{n:Nat}:jg (X.fr es m vs) tl n 24=some (qO es m):=by
 unfold jg;rw[show(24:Nat)=24+0 from rfl,eB ok];rfl
theorem g26(ok:CBok X env file fl tx mod){es:List DictEntry}{m:Nat}{vs:List Value}{tl:List Obj}{n:Nat}:jg (X.fr es m vs) tl n 26=some (Vp vs):=by
 unfold jg;rw[show(26:Nat)=24+2 from rfl,eB ok];rfl
theorem g27(ok:CBok X env file fl tx mod){es:List DictEntry}{m:Nat}{vs:List Value}{tl:List Obj}{n:Nat}:jg (X.fr es m vs) tl n 27=some X.o27:=by
 unfold jg;rw[show(27:Nat)=24+3 from rfl,eB ok];exact ok.al27
theorem pz{o:Obj}(h:lAt X.pre i=some o)(ha:alive o=some o){es:List DictEntry}{m:Nat}{vs:List Value}{tl:List Obj}{n:Nat}:jg (X.fr es m vs) tl n i=some o:=by
 unfold jg CB.fr;rw[Yt _ h];exact ha
structure DD where
 name:Str
 bind:Str
 args:Arguments
 body:List Stmt
 scope:Scope
 pos:Pos
 l1:List Str
 l2:List Str
noncomputable abbrev Qy(vs:List Value):Obj:=⟨.type "tuple",none,.seq vs.toArray 0,#[]⟩
noncomputable def DD.cod(d:DD)(qual file:Str)(tx n t:Nat):Obj:=⟨.type "code",none,.fields #[.str d.name t,.str (qual++d.name) (t+1),.str file (t+2),rawInt d.pos.line,rawInt (0+d.args.args.length:Nat),rawInt 0,rawInt 0,
 rawInt (functionFlags false false d.scope ⟨file,0,false,tx⟩),.ref n,.bool true,rawInt tx,.ref (n+1),.none,.ref (n+2),.ref (n+3),.ref (n+4),rawInt (t+3+d.l1.length+d.l2.length:Nat),rawInt d.pos.line,.str file (t+3+d.l1.length+d.l2.length+1)],#[]⟩
noncomputable def DD.fn(d:DD)(qual:Str)(mod:Value)(n:Nat):Obj:=⟨.type "function",none,.func { name:=d.name,qualname:=qual++d.name,params:=d.args,body:=.stmts d.body,scope:=d.scope,globals:=3,closure:=[],defaults:=.none,kwdefaults:=.none,pyModule:=mod,code:=.ref (n+5) },#[]⟩
noncomputable def DD.tmp(d:DD)(qual:Str):Obj:=⟨.none,none,.func { name:=d.name,qualname:=qual++d.name,params:=d.args,body:=.stmts d.body,scope:=d.scope,globals:=builtinsNs,closure:=[],defaults:=.none,kwdefaults:=.none },#[]⟩
noncomputable def DD.objs(d:DD)(qual file:Str)(tx:Nat)(mod:Value)(n t:Nat)(tl:List Obj):List Obj:=
 d.fn qual mod n::d.cod qual file tx n t::d.tmp qual::Qy (yx d.l2 (t+3+d.l1.length))::Qy (yx d.l1 (t+3))::Vp []::Qy []::tl
noncomputable def DD.stmt(d:DD)(ts:Option Scope):Stmt:=.FunctionDef d.name d.args d.body [] none [] d.scope ts d.bind d.pos
noncomputable def JA(a:Arguments):Bool:=match a with
 | ⟨[],as,none,[],[],none,[]⟩=>as.all fun x=>x.annotation.isNone
 | _=>false
theorem qU{a:Arguments}(h:JA a=true):∃as,a=⟨[],as,none,[],[],none,[]⟩/\(as.all fun x=>x.annotation.isNone)=true:=by
 obtain⟨po,as,va,ko,kd,kw,df⟩:=a
 induction po with
 | cons _ _=>exact nomatch (show false=true from h)
 | nil=>induction va with
  | some _=>exact nomatch (show false=true from h)
  | none=>induction ko with
   | cons _ _=>exact nomatch (show false=true from h)
   | nil=>induction kd with
    | cons _ _=>exact nomatch (show false=true from h)
    | nil=>induction kw with
     | some _=>exact nomatch (show false=true from h)
     | none=>induction df with
      | cons _ _=>exact nomatch (show false=true from h)
      | nil=>exact⟨as,rfl,h⟩
structure DDok(d:DD)(env:Env):Prop where
 ar:JA d.args=true
 fr:(d.scope.names.all fun x=>!(x.2==.free))=true
 ln:localNames d.args d.scope (.stmts d.body)=some (d.l1,d.l2)
 dc:docOf d.body=none
 kd:env.kindOf d.bind=some .local
theorem Q6{a:α}:zo p P hc code stk (pure a) S=some (a,S):=rfl
theorem X2{fr tl:List Obj}{n t c:Nat}{o:Obj}:zo p P hc code stk (alloc o) ⟨fr,tl,n,t,c,q⟩=some (n,⟨fr,o::tl,n+1,t,c+1,q⟩):=rfl
theorem yG{fr tl:List Obj}{n t c:Nat}{l:List Value}:zo p P hc code stk (newTextTuple l) ⟨fr,tl,n,t,c,q⟩=some (.ref n,⟨fr,Qy l::tl,n+1,t,c+1,q⟩):=rfl
theorem qA{fr tl:List Obj}{n t c:Nat}{x:Str}:zo p P hc code stk (mkText x) ⟨fr,tl,n,t,c,q⟩=some (.str x t,⟨fr,tl,n,t+1,c+1,q⟩):=rfl
theorem dU{fr tl:List Obj}{n t c:Nat}:zo p P hc code stk fresh ⟨fr,tl,n,t,c,q⟩=some (t,⟨fr,tl,n,t+1,c+1,q⟩):=rfl
theorem WC{fr tl:List Obj}{n t c:Nat}{ty:String}{l:List Value}(h:¬ l.toArray.size>sizeLine+2):zo p P hc code stk (newFields ty l) ⟨fr,tl,n,t,c,q⟩=some (.ref n,⟨fr,⟨.type ty,none,.fields l.toArray,#[]⟩::tl,n+1,t,c+1,q⟩):=by
 unfold newFields newObj;simp only[h,if_false];rfl
theorem eE(h:(sc.names.all fun x=>!(x.2==.free))=true):sc.freeNames = []:=by
 have:sc.names.filter (·.2==.free) = []:=by
  rw[List.filter_eq_nil_iff];intro x hx
  have:=List.all_eq_true.mp h x hx
  simpa using this
 unfold Scope.freeNames;rw[this];exact List.mergeSort_nil
theorem Zi{d:DD}{file:Str}{tx:Nat}{fr tl:List Obj}{n t c:Nat}(hf:d.scope.freeNames = [])(ha:JA d.args=true):
  zo p P hc code stk (newCode ⟨file,0,false,tx⟩ d.name (qual++d.name) d.pos.line (d.args.posonlyargs.length+d.args.args.length) d.args.posonlyargs.length d.args.kwonlyargs.length
   (functionFlags d.args.vararg.isSome d.args.kwarg.isSome d.scope ⟨file,0,false,tx⟩) d.scope.freeNames true none (some (d.l1,d.l2))
   (some { name:=d.name,qualname:=qual++d.name,params:=d.args,body:=.stmts d.body,scope:=d.scope,globals:=builtinsNs,closure:=[],defaults:=.none,kwdefaults:=.none })) ⟨fr,tl,n,t,c,q⟩
   = some (.ref (n+5),⟨fr,d.cod qual file tx n t::d.tmp qual::Qy (yx d.l2 (t+3+d.l1.length))::Qy (yx d.l1 (t+3))::Vp []::Qy []::tl,n+6,t+3+d.l1.length+d.l2.length+2,c+5+d.l1.length+1+d.l2.length+5,q⟩):=by
 obtain⟨name,bind,args,body,scope,pos,l1,l2⟩:=d;refine zc (qU ha) fun as ea Z=>?_
 replace ea:args=_:=ea;subst ea;unfold newCode;simp only at hf;rw[hf];refine evB qA ?_;refine evB qA ?_;refine evB qA ?_;refine evB (J9 []) ?_;refine evB yG ?_;refine evB X2 ?_;refine evB (J9 _) ?_;refine evB yG ?_;refine evB (J9 _) ?_;refine evB yG ?_;refine evB X2 ?_;refine evB Q6 ?_;refine evB dU ?_;refine evB qA ?_;exact WC (show ¬ 19>2 ^ 24+2 by decide)
noncomputable def z6:List (Nat×Nat×Nat)->List Value
 | []=>[]
 | (l,c,a)::r=>rawInt l::rawInt c::.ref a::z6 r
noncomputable def q8(l c:Nat):List (Nat×Nat×Nat)->Bool
 | []=>true
 | (l',c',_)::r=>cond (Nat.beq l' l) (cond (Nat.beq c' c) false (q8 l c r)) (q8 l c r)
theorem cV(a b:Nat):(((a:Int)==(b:Int))=Nat.beq a b):=by
 cases h:Nat.beq a b with
 | true=>have:=Bp h;subst this;simp
 | false=>have:=Nat.ne_of_beq_eq_false h;simp;lia
theorem Jw{pos:Pos}:∀{L:List (Nat×Nat×Nat)} {r:List Value},q8 pos.line pos.col L=true->codeAmong pos (z6 L++r)=codeAmong pos r
 | [],_,_=>rfl
 | (l',c',a)::L,r,h=>by
  show(if (l':Int)==(pos.line:Int)&&(c':Int)==(pos.col:Int) then some (Value.ref a) else codeAmong pos (z6 L++r))=_
  rw[cV,cV];replace h:cond (Nat.beq l' pos.line) (cond (Nat.beq c' pos.col) false (q8 pos.line pos.col L)) (q8 pos.line pos.col L)=true:=h
  cases h1:Nat.beq l' pos.line with
  | false=>rw[h1] at h;exact Jw h
  | true =>
   rw[h1] at h
   cases h2:Nat.beq c' pos.col with
   | false=>rw[h2] at h;exact Jw h
   | true=>rw[h2] at h;cases h
theorem bu{L:List (Nat×Nat×Nat)}{v:Value}(h:q8 pos.line pos.col L=true):codeAmong pos (z6 L ++ [rawInt pos.line,rawInt pos.col,v])=some v:=by
 rw[Jw h]
 show(if (pos.line:Int)==(pos.line:Int)&&(pos.col:Int)==(pos.col:Int) then some v else _)=_
 simp
theorem Qv{l c a:Nat}:∀{L:List (Nat×Nat×Nat)},z6 L ++ [rawInt l,rawInt c,.ref a]=z6 (L ++ [(l,c,a)])
 | []=>rfl
 | (l',c',a')::L=>by
  show rawInt l'::rawInt c'::.ref a'::(z6 L ++ [rawInt l,rawInt c,.ref a])=rawInt l'::rawInt c'::.ref a'::z6 (L ++ [(l,c,a)]);rw[Qv]
set_option backward.match.sparseCases true in
theorem bD(ok:CBok X env file fl tx mod){make:CodeContext->Sem Value}{es:List DictEntry}{m:Nat}{L:List (Nat×Nat×Nat)}{tl:List Obj}{n t c c' a:Nat}
  (hm:zo p P hc code stk (make ⟨file,0,false,tx⟩) ⟨X.fr es m (z6 L),tl,n,t,c+2,q⟩=some (.ref a,⟨X.fr es m (z6 L),tl',n',t',c',q'⟩)) (hL:q8 pos.line pos.col L=true) :
  zo p P hc code stk (codeAt env pos make) ⟨X.fr es m (z6 L),tl,n,t,c,q⟩=some (.ref a,⟨X.fr es m (z6 (L ++ [(pos.line,pos.col,a)])),tl',n',t',c'+3,q'⟩):=by
 refine byc fun Ea=>?_
 refine yo ok.dat fun cv d1 d2 Cd Ee=>jn Ee fun d4 d5 d6=>?_;obtain⟨ft,d3⟩:=Cd
 refine Ea ?_;unfold codeAt;rw[ok.cod];show zo p P hc code stk (do
  let vs <- fieldsOf (.ref 27)
  let .ref places:=vs.getD 11 .none | unsupported "internal:code-record"
  if let some c:=codeAmong pos (<- fieldsOf (.ref places)).toList then return c
  let(.str file _,.int flags _,.bool inFunction,.int text _):=(vs.getD 18 .none,vs.getD 7 .none,vs.getD 9 .none,vs.getD 10 .none)
   | unsupported "internal:code-record"
  let c <- make { file,future:=flags.toNat &&& (coFutureAnnotations ||| coFutureBarry),inFunction:=inFunction||env.scope.kind==.function,text:=text.toNat }
  updateFieldsOfTheText places fun vs=>if (codeAmong pos vs.toList).isSome then vs else vs ++ #[rawInt pos.line,rawInt pos.col,c]
  match codeAmong pos (<- fieldsOf (.ref places)).toList with
  | some c=>pure c
  | none=>unsupported "internal:code-record" : Sem Value) _=_
 refine evB (K9 (g27 ok) d1) ?_;rw[d2];refine evB (K9 (g26 ok) rfl) ?_;have h0:codeAmong pos (z6 L)=none:=by have:=Jw (r:=[]) hL;rw[Cn] at this;rw[this];rfl
 simp only[h0,d3,d4,d5,d6,ok.kin,Dl,ok.fut,show(false||(ScopeKind.class==ScopeKind.function))=false from rfl]
 refine evB (S':=⟨X.fr es m (z6 L),tl',n',t',c',q'⟩) (a:=.ref a) hm ?_;refine evB (a:=()) (S':=⟨X.fr es m (z6 (L ++ [(pos.line,pos.col,a)])),tl',n',t',c'+2,q'⟩) ?_ ?_
 ·refine evB (J8 (g26 ok)) ?_
  show zo p P hc code stk (updatePart 26 none _) _=_;rw[VB (g26 ok) rfl (by rw[eC ok];rfl)]
  rw[show(26:Nat)=24+2 from rfl,eD ok]
  show some ((),St.mk (X.pre ++ [qO es m,X.o25,⟨.none,none,.fields (if (codeAmong pos (z6 L)).isSome=true then (z6 L).toArray else (z6 L).toArray ++ #[rawInt pos.line,rawInt pos.col,.ref a]),#[]⟩,X.o27,X.o28]) tl' n' t' (c'+2) q')=_
  rw[h0,<- Qv];simp[CB.fr]
 ·refine evB (K9 (g26 ok) rfl) ?_
  show zo p P hc code stk (match codeAmong pos (z6 (L ++ [(pos.line,pos.col,a)])) with | some c=>pure c | none=>unsupported "internal:code-record") _=_
  rw[<- Qv,bu hL];rfl
set_option backward.match.sparseCases true in
theorem UE(ok:CBok X env file fl tx mod){es:List DictEntry}{m:Nat}{vs:List Value}{tl:List Obj}{n t c:Nat}:zo p P hc code stk (builtinsFor 3 0) ⟨X.fr es m vs,tl,n,t,c,q⟩=some (0,⟨X.fr es m vs,tl,n,t,c+2,q⟩):=by
 refine yo ok.g3 fun o3 a1 a2 a3 a4=>?_
 refine yo ok.g4 fun o4 b1 b2 b3 Ee=>zd Ee fun b4 b5=>?_
 refine evB (UF (pz a1 a2) a3) ?_;show zo p P hc code stk (do
  let o <- load 4
  match o.data,o.dict with
  | .dict ..,_ =>
   if o.cls !=.type "dict" then unsupported "builtins:of-a-dict-subclass"
   if (4:Nat)==sysModules&&(<- nsGet cStatics "_decimal.a-light-load").isSome then unsupported "sys.modules:read-past-the-dict's-own-slots:builtinsFor:behind-a-light-load-of-_decimal"
   pure 4
  | _,some d=>if o.cls==.type "module" then pure d else unsupported "builtins:neither-dict-nor-module"
  | _,none=>unsupported "builtins:neither-dict-nor-module" : Sem Addr) _=_
 refine evB (J8 (pz b1 b2)) ?_;rw[b3,b4];obtain⟨c4,d4,dt,s4⟩:=o4
 cases dt<;>first | (cases b5;done) | rfl
theorem XO{e:Env}(as:List Arg):(as.all fun x=>x.annotation.isNone)=true->annotationsOf as e = []:=by
 induction as with
 | nil=>intro _;rfl
 | cons x as ih =>
  intro h;obtain⟨nm,an,ps⟩:=x;simp only[Ed,Ck] at h
  induction an with
  | none=>exact ih h.2
  | some x=>simp at h
theorem QS(ok:CBok X env file fl tx mod){d:DD}(dk:DDok d env){es:List DictEntry}{m:Nat}{L:List (Nat×Nat×Nat)}{tl:List Obj}{n t c:Nat}(hL:q8 d.pos.line d.pos.col L=true):
  zo p P hc code stk (makeFunction d.name (env.qual++d.name) d.args (.stmts d.body) d.scope env [] [] [] d.pos d.pos.line) ⟨X.fr es m (z6 L),tl,n,t,c,q⟩
   = some (.ref (n+6),⟨X.fr es m (z6 (L ++ [(d.pos.line,d.pos.col,n+5)])),d.objs env.qual file tx mod n t tl,n+7,t+3+d.l1.length+d.l2.length+2,c+2+5+d.l1.length+1+d.l2.length+5+3+2+1+1,q⟩):=by
 refine byc fun Ea=>?_
 refine yo ok.g3 fun o3 a1 a2 a3 a4=>?_
 refine Ea ?_;have hko:d.args.kwonlyargs = []:=by
  refine byc fun Ef=>?_
  refine zc (qU dk.ar) fun as e Z=>?_
  refine Ef ?_;rw[e]
 unfold makeFunction;rw[hko];refine evB (a:=.none) (S':=⟨X.fr es m (z6 L),tl,n,t,c,q⟩) rfl ?_;refine evB (a:=.none) (S':=⟨X.fr es m (z6 L),tl,n,t,c,q⟩) rfl ?_;refine evB (a:=none) (S':=⟨X.fr es m (z6 L),tl,n,t,c,q⟩) rfl ?_;refine evB (Zh dk.fr) ?_;refine evB (a:=.none) (S':=⟨X.fr es m (z6 L),tl,n,t,c,q⟩) rfl ?_;refine evB (a:=.ref (n+5)) (S':=⟨X.fr es m (z6 (L ++ [(d.pos.line,d.pos.col,n+5)])),d.cod env.qual file tx n t::d.tmp env.qual::Qy (yx d.l2 (t+3+d.l1.length))::Qy (yx d.l1 (t+3))::Vp []::Qy []::tl,n+6,t+3+d.l1.length+d.l2.length+2,c+2+5+d.l1.length+1+d.l2.length+5+3,q⟩) ?_ ?_
 ·unfold functionCode
  refine bD ok ?_ hL;rw[dk.ln];exact Zi (eE dk.fr) dk.ar
 rw[ok.glo,ok.bui];refine evB (UE ok) ?_;refine evB (UF (pz a1 a2) a4) ?_;simp only[dk.dc];refine evB Q6 ?_;rfl
noncomputable def X0(P:Params)(e:Str×Nat×Value):DictEntry:=⟨if e.1.cps.isEmpty then 0 else reduceHash (P.strHash e.1.cps),.str e.1 e.2.1,e.2.2⟩
noncomputable def zj(P:Params)(l:List (Str×Nat×Value)):List DictEntry:=l.map (X0 P)
noncomputable def yK(x:Str)(l:List (Str×Nat×Value)):Bool:=l.all fun e=>!(e.1==x)
theorem bA{x:Str}{l:List (Str×Nat×Value)}(h:yK x l=true):(zj P l).toArray.findIdx? (·.key.isStr x)=none:=by
 rw[List.findIdx?_toArray,List.findIdx?_eq_none_iff];intro e he;refine zc (List.mem_map.mp he) fun y hy Cd=>?_;subst Cd
 have:=List.all_eq_true.mp h y hy
 simp only[Cq,beq_eq_false_iff_ne,ne_eq] at this
 show(Value.str y.1 y.2.1).isStr x=false
 show(y.1==x)=false
 simpa using this
theorem Zf{l:List (Str×Nat×Value)}:(zj P l).toArray.any (·.refKey)=false:=by
 rw[List.any_toArray,List.any_eq_false];intro e he;refine zc (List.mem_map.mp he) fun y Z Cd=>?_;subst Cd
 simp[X0,DictEntry.refKey]
theorem X3(ok:CBok X env file fl tx mod){x:Str}{v:Value}{l:List (Str×Nat×Value)}{m:Nat}{vs:List Value}{tl:List Obj}{n t c:Nat}(hn:yK x l=true)(ha:aRefKeyMayBeTheName x (zj P l).toArray=false):
  zo p P hc code stk (localSet env x v) ⟨X.fr (zj P l) m vs,tl,n,t,c,q⟩=some ((),⟨X.fr (zj P (l ++ [(x,t,v)])) (m+1) vs,tl,n,t+1,c+5,q⟩):=by
 unfold localSet;rw[ok.loc];refine evB (J8 (g24 ok)) ?_;show zo p P hc code stk (nsSet 24 x v) _=_;unfold nsSet strHash;refine evB (a:=if x.cps.isEmpty then 0 else reduceHash (P.strHash x.cps)) (S':=⟨X.fr (zj P l) m vs,tl,n,t,c+2,q⟩) rfl ?_
 refine evB qA ?_;refine evB (QG (g24 ok)) ?_;simp only[ha,Du,if_false];rw[VB (g24 ok) rfl (by rw[eC ok];rfl)]
 rw[show(24:Nat)=24+0 from rfl,eD ok]
 rw[Obj.putName_eq];have e:Obj.putNameByArray x (if x.cps.isEmpty then 0 else reduceHash (P.strHash x.cps)) (.str x t) v (qO (zj P l) m)=qO (zj P (l ++ [(x,t,v)])) (m+1):=by
  show(match (zj P l).toArray.findIdx? (·.key.isStr x) with
   | some i=>(⟨.type "dict",none,.dict ((zj P l).toArray.modify i fun e=>{ e with val:=v }) m,#[]⟩:Obj)
   | none=>⟨.type "dict",none,.dict ((zj P l).toArray.push ⟨if x.cps.isEmpty then 0 else reduceHash (P.strHash x.cps),.str x t,v⟩) (m+1),#[]⟩)=_
  rw[bA hn]
  show(⟨.type "dict",none,.dict ((zj P l).toArray.push ⟨if x.cps.isEmpty then 0 else reduceHash (P.strHash x.cps),.str x t,v⟩) (m+1),#[]⟩:Obj)=⟨.type "dict",none,.dict (zj P (l ++ [(x,t,v)])).toArray (m+1),#[]⟩
  simp[zj,X0]
 show some ((),St.mk (X.pre ++ [Obj.putNameByArray x _ (.str x t) v (qO (zj P l) m),X.o25,Vp vs,X.o27,X.o28]) tl n (t+1) _ q)=_;rw[e];rfl
theorem fT{x:Str}{l:List (Str×Nat×Value)}:aRefKeyMayBeTheName x (zj P l).toArray=false:=by
 rw[aRefKeyMayBeTheName_at,Zf,Dd]
theorem QF(ok:CBok X env file fl tx mod){x:Str}{v:Value}{l:List (Str×Nat×Value)}{m:Nat}{vs:List Value}{tl:List Obj}{n t c:Nat}(hk:env.kindOf x=some .local)(hn:yK x l=true):
  zo p P hc code stk (bindName env x v) ⟨X.fr (zj P l) m vs,tl,n,t,c,q⟩=some ((),⟨X.fr (zj P (l ++ [(x,t,v)])) (m+1) vs,tl,n,t+1,c+7,q⟩):=by
 unfold bindName;refine evB (a:=()) (S':=⟨X.fr (zj P l) m vs,tl,n,t,c+1,q⟩) (by rw[j0];rfl) ?_
 refine evB (a:=()) (S':=⟨X.fr (zj P (l ++ [(x,t,v)])) (m+1) vs,tl,n,t+1,c+6,q⟩) ?_ rfl;unfold storeName;rw[hk,ok.kin];exact X3 ok hn fT
theorem o7(ok:CBok X env file fl tx mod){d:DD}(dk:DDok d env){ts:Option Scope}{l:List (Str×Nat×Value)}{m:Nat}{L:List (Nat×Nat×Nat)}{tl:List Obj}{n t c:Nat}(hL:q8 d.pos.line d.pos.col L=true)(hn:yK d.bind l=true):
  zo p P hc code stk (exec (d.stmt ts) env) ⟨X.fr (zj P l) m (z6 L),tl,n,t,c,q⟩
   = some (.next,⟨X.fr (zj P (l ++ [(d.bind,t+3+d.l1.length+d.l2.length+2,.ref (n+6))])) (m+1) (z6 (L ++ [(d.pos.line,d.pos.col,n+5)])),d.objs env.qual file tx mod n t tl,n+7,t+3+d.l1.length+d.l2.length+2+1,c+1+2+5+d.l1.length+1+d.l2.length+5+3+2+1+1+1+7,d.pos⟩):=by
 have hq:qualnameIn env d.name d.bind=env.qual++d.name:=by unfold qualnameIn;rw[dk.kd];rfl
 obtain⟨name,bind,args,body,scope,pos,l1,l2⟩:=d;refine zc (qU dk.ar) fun as ea har=>?_
 replace ea:args=_:=ea;subst ea;replace hq:qualnameIn env name bind=env.qual++name:=hq;show zo p P hc code stk (defStmt name bind ⟨[],as,none,[],[],none,[]⟩ body scope pos env [] ts [] [] ([],[]) (fun e=>annotationsOf (as ++ [] ++ [] ++ [] ++ []) e ++ []) (.FunctionDef name ⟨[],as,none,[],[],none,[]⟩ body [] none [] scope none bind pos)) _=_
 unfold defStmt;refine evB (a:=[]) (S':=⟨X.fr (zj P l) m (z6 L),tl,n,t,c,q⟩) rfl ?_;refine evB (a:=()) (S':=⟨X.fr (zj P l) m (z6 L),tl,n,t,c+1,pos⟩) rfl ?_;refine evB (a:=.ref (n+6)) (S':=⟨X.fr (zj P l) m (z6 (L ++ [(pos.line,pos.col,n+5)])),DD.objs ⟨name,bind,⟨[],as,none,[],[],none,[]⟩,body,scope,pos,l1,l2⟩ env.qual file tx mod n t tl,n+7,t+3+l1.length+l2.length+2,c+1+2+5+l1.length+1+l2.length+5+3+2+1+1,pos⟩) ?_ ?_
 ·rw[j0]
  refine evB (a:=[]) (S':=⟨X.fr (zj P l) m (z6 L),tl,n,t,c+1,pos⟩) rfl ?_;refine evB (a:=[]) (S':=⟨X.fr (zj P l) m (z6 L),tl,n,t,c+1,pos⟩) (by rw[j0];rfl) ?_
  rw[j0];have e:annotationsOf as env = []:=XO _ har;refine evB (a:=[]) (S':=⟨X.fr (zj P l) m (z6 L),tl,n,t,c+1,pos⟩) (by simp only[Cn,e];rfl) ?_
  rw[hq];exact QS ok dk hL
 refine evB (a:=.ref (n+6)) (S':=_) rfl ?_;refine evB (a:=()) (S':=⟨X.fr (zj P l) m (z6 (L ++ [(pos.line,pos.col,n+5)])),DD.objs ⟨name,bind,⟨[],as,none,[],[],none,[]⟩,body,scope,pos,l1,l2⟩ env.qual file tx mod n t tl,n+7,t+3+l1.length+l2.length+2,c+1+2+5+l1.length+1+l2.length+5+3+2+1+1+1,pos⟩) rfl ?_;exact evB (QF ok dk.kd hn) rfl
end
end
noncomputable def oB(o:Option α)(f:α->Bool):Bool:=match o with | some v=>f v | none=>false
theorem QN{o:Option α}{f:α->Bool}(h:oB o f=true):∃v,o=some v/\f v=true:=by
 induction o with
 | none=>exact Bool.noConfusion h
 | some v=>exact⟨v,rfl,h⟩
structure FV where
 name:Str
 args:Arguments
 body:List Stmt
 scope:Scope
 ts:Option Scope
 bind:Str
noncomputable def fvS(s:Stmt):FV:=match s with
 | .FunctionDef n a b _ _ _ sc ts bi _=>⟨n,a,b,sc,ts,bi⟩
 | _=>⟨Str.empty,⟨[],[],none,[],[],none,[]⟩,[],th,none,Str.empty⟩
noncomputable def idE(e:Expr):Str:=match e with | .Name x _=>x | _=>Str.empty
noncomputable def cK(e:Expr):Const:=match e with | .Constant c _ _=>c | _=>.none
noncomputable def reN(e:Expr):Expr:=.Name (idE e) e.pos
noncomputable def reK(e:Expr):Expr:=.Constant (cK e) (vn e) e.pos
noncomputable def kdS(s:Stmt):Nat:=match s with
 | .FunctionDef ..=>0
 | .Assign _ (.List (.Name _ _::_) _) _=>2
 | .Assign _ (.List _ _) _=>3
 | _=>1
noncomputable def reA(s:Stmt)(v:Expr):Stmt:=.Assign [reN (kx s 1)] v s.pos
noncomputable def reF(s:Stmt):Stmt:=.FunctionDef (fvS s).name (fvS s).args (fvS s).body [] none [] (fvS s).scope (fvS s).ts (fvS s).bind s.pos
noncomputable def reL(s:Stmt)(f:Expr->Expr):Stmt:=reA s (.List ((vk (kx s 0)).map f) (kx s 0).pos)
noncomputable def reS(s:Stmt):Stmt:=cond (Nat.beq (kdS s) 0) (reF s) (cond (Nat.beq (kdS s) 1) (reA s (reK (kx s 0))) (cond (Nat.beq (kdS s) 2) (reL s reN) (reL s reK)))
noncomputable def Zw:Expr->Bool
 | .ListComp ..=>false
 | .SetComp ..=>false
 | .DictComp ..=>false
 | _=>true
noncomputable def lkV(x:Str):List (Str×Nat×Value)->Option Value
 | []=>none
 | (y,_,v)::r=>cond (y==x) (some v) (lkV x r)
noncomputable def aM:Expr->Bool
 | .Starred ..=>false
 | _=>true
section
variable {p:Program}{P:Params}{code:Code}
variable {X:CB}{file:Str}{fl tx:Nat}{mod:Value}
theorem gM{t:Option Expr}(h:Zw value=true):swapsWith value t line env=pure false:=by
 cases value<;>first | rfl | cases h
theorem bC(ok:CBok X env file fl tx mod){x:Str}{e:Expr}{v:Value}{l:List (Str×Nat×Value)}{m:Nat}{vs:List Value}{tl:List Obj}{n t c c':Nat}(hk:env.kindOf x=some .local)(hn:yK x l=true)(hc':Zw e=true)
  (he:zo p P hc code stk (eval e env) ⟨X.fr (zj P l) m vs,tl,n,t,c+1,pos⟩=some (v,⟨X.fr (zj P l) m vs,tl',n',t',c',q'⟩)) :
  zo p P hc code stk (exec (.Assign [.Name x np] e pos) env) ⟨X.fr (zj P l) m vs,tl,n,t,c,q⟩=some (.next,⟨X.fr (zj P (l ++ [(x,t',v)])) (m+1) vs,tl',n',t'+1,c'+1+7,np⟩):=by
 show zo p P hc code stk (do
  standAt pos
  if <- swapsWith e (some (.Name x np)) pos.line env then do
   evalThenUse e env fun v=>assignAll v ((assignEach [.Name x np] env).map (·.2))
   pure .next
  else do
   let v <- eval e env
   assignStores env v (<- swappedStores [.Name x np] e env) ((assignEach [.Name x np] env).map (·.2)):Sem Flow) _=_
 refine evB (a:=()) (S':=⟨X.fr (zj P l) m vs,tl,n,t,c+1,pos⟩) rfl ?_;rw[gM hc'];refine evB Q6 ?_;simp only[Du,if_false];refine evB he ?_;refine evB (a:=none) (S':=⟨X.fr (zj P l) m vs,tl',n',t',c',q'⟩) rfl ?_;refine evB (a:=()) (S':=⟨X.fr (zj P (l ++ [(x,t',v)])) (m+1) vs,tl',n',t'+1,c'+1+7,np⟩) ?_ rfl;show zo p P hc code stk (do standAt np;bindName env x v:Sem Unit) _=_
 refine evB (a:=()) (S':=⟨X.fr (zj P l) m vs,tl',n',t',c'+1,np⟩) rfl ?_;exact QF ok hk hn
theorem o8{i:Int}{kd:Nat}{cp:Pos}{fr tl:List Obj}{n t c:Nat}:zo p P hc code stk (eval (.Constant (.int i) kd cp) env) ⟨fr,tl,n,t,c,q⟩=some (.int i t,⟨fr,tl,n,t+1,c+1,q⟩):=rfl
theorem o9{i:Str}{kd:Nat}{cp:Pos}{fr tl:List Obj}{n t c:Nat}:zo p P hc code stk (eval (.Constant (.str i) kd cp) env) ⟨fr,tl,n,t,c,q⟩=some (.str i t,⟨fr,tl,n,t+1,c+1,q⟩):=rfl
theorem VA{x:Str}{v:Value}:∀{l:List (Str×Nat×Value)},lkV x l=some v->∃e,(zj P l).find? (·.key.isStr x)=some e/\e.val=v
 | [],h=>by cases h
 | (y,tk,u)::r,h=>by
  replace h:cond (y==x) (some u) (lkV x r)=some v:=h;show ∃e,List.find? _ (X0 P (y,tk,u)::zj P r)=some e/\_;rw[List.find?_cons];have e1:(X0 P (y,tk,u)).key.isStr x=(y==x):=rfl;rw[e1]
  cases hb:y==x with
  | true=>rw[hb] at h;cases h;exact⟨_,rfl,rfl⟩
  | false=>rw[hb] at h;exact VA h
theorem bT{x:Str}{v:Value}{l:List (Str×Nat×Value)}{m:Nat}(h:lkV x l=some v):nsLook x (qO (zj P l) m)=Sem.pure (some v):=by
 rw[nsLook_eq];refine zc (VA (P:=P) h) fun e h1 h2=>?_
 show(match (zj P l).toArray.find? (·.key.isStr x) with
  | some e=>pure (some e.val)
  | none=>if (zj P l).toArray.any (·.refKey) then unsupported "namespace:key-that-is-no-exact-str" else pure none:Sem (Option Value))=_
 rw[List.find?_toArray,h1,<- h2];rfl
set_option backward.match.sparseCases true in
theorem iR(ok:CBok X env file fl tx mod){x:Str}{v:Value}{l:List (Str×Nat×Value)}{m:Nat}{vs:List Value}{tl:List Obj}{n t c:Nat}(hk:env.kindOf x=some .local)(hd:(x==("__debug__" : Str))=false)(hv:lkV x l=some v):
  zo p P hc code stk (eval (.Name x pos) env) ⟨X.fr (zj P l) m vs,tl,n,t,c,q⟩=some (v,⟨X.fr (zj P l) m vs,tl,n,t,c+3,pos⟩):=by
 show zo p P hc code stk (do standAt pos;if x==("__debug__" : Str) then debugConstant else loadName env x:Sem Value) _=_
 refine evB (a:=()) (S':=⟨X.fr (zj P l) m vs,tl,n,t,c+1,pos⟩) rfl ?_;rw[hd];simp only[Du,if_false];have ln:loadName env x=(do
  if let some v <- localGet env x then return v
  loadGlobal env x:Sem Value):=by
  unfold loadName Env.blockKind;rw[ok.kin,hk];rfl
 rw[ln];refine evB (a:=some v) (S':=⟨X.fr (zj P l) m vs,tl,n,t,c+3,pos⟩) ?_ rfl;unfold localGet;rw[ok.loc];refine evB (J8 (g24 ok)) ?_;exact UF (g24 ok) (bT hv)
theorem YU{e:Expr}(h:aM e=true):starEach (e::rest) env=(false,eval e env)::starEach rest env:=by
 cases e<;>first | rfl | cases h
theorem UG:zo p P hc code stk (spliced (backTo pos (starEach [] env))) S=some ([],S):=rfl
theorem QH{e:Expr}{v:Value}{us:List Value}(hs:aM e=true)(h:zo p P hc code stk (eval e env) S=some (v,S'))(k:zo p P hc code stk (spliced (backTo pos (starEach rest env))) S'=some (us,S'')):
  zo p P hc code stk (spliced (backTo pos (starEach (e::rest) env))) S=some (v::us,S''):=by
 rw[YU hs];show zo p P hc code stk (do
  let v <- eval e env
  let here <- pure [v]
  return here++(<- holding here (spliced (backTo pos (starEach rest env)))):Sem (List Value)) S=_
 refine evB h ?_;refine evB Q6 ?_;refine evB (by rw[j0];exact k) ?_
 rfl
noncomputable def kAt(ns:List (Str×NameKind))(i:Nat)(x:Str):Bool:=match lAt ns i with | some (y,_)=>y==x | none=>false
noncomputable def uE(x:Str)(a:Nat)(o:Option (Str×Nat×Value)):Bool:=match o with | some (y,_,.ref b)=>y==x&&Nat.beq a b | _=>false
theorem iH{x:Str}{a:Nat}{o:Option (Str×Nat×Value)}(h:uE x a o=true):∃tk,o=some (x,tk,.ref a):=by
 induction o with
 | none=>exact ft h
 | some p =>
  obtain⟨y,tk,v⟩:=p
  induction v with
  | ref b =>
   obtain⟨h1,h2⟩:=za h;obtain rfl:=eq_of_beq h1;obtain rfl:=Bp h2
   exact⟨tk,rfl⟩
  | _=>exact ft h
noncomputable def eAt(l:List (Str×Nat×Value))(j:Nat)(x:Str)(a:Nat):Bool:=uE x a (lAt l j)
noncomputable def hd?(l:List α):Option (α×List α):=match l with | []=>none | a::r=>some (a,r)
theorem hd?_of{l:List α}{p:α×List α}(h:hd? l=some p):l=p.1::p.2:=by
 cases l with
 | nil=>cases h
 | cons a r=>cases h;rfl
noncomputable def wo(v:Value):Option Addr:=match v with | .ref a=>some a | _=>none
theorem lW{v:Value}{a:Addr}(h:wo v=some a):v=.ref a:=by
 cases v<;>first | cases h;rfl | cases h
noncomputable def Xo(ns:List (Str×NameKind))(l:List (Str×Nat×Value)):List Expr->List Value->List (Nat×Nat)->Bool
 | [],vs,_=>vs.isEmpty
 | e::es,vs,hs=>oB (hd? vs) fun u=>oB (hd? hs) fun g=>oB (wo u.1) fun a=>(kAt ns g.1.1 (idE e) && !(idE e==("__debug__" : Str)))&&(eAt l g.1.2 (idE e) a&&Xo ns l es u.2 g.2)
theorem Jx{x:Str}:∀{ns:List (Str×NameKind)} {i:Nat},(ns.all fun e=>e.2==.local)=true->kAt ns i x=true->ns.lookup x=some .local
 | [],i,_,h=>by cases h
 | (y,k)::ns,i,ha,h=>by
  simp only[Ed,Ck,beq_iff_eq] at ha;rw[Db]
  cases hb:x==y with
  | true=>rw[ha.1]
  | false =>
   induction i with
   | zero =>
    cases eq_of_beq (show(y==x)=true from h)
    rw[beq_self_eq_true] at hb;cases hb
   | succ i=>exact Jx ha.2 h
abbrev hU(l:List (Str×Nat×Value)):Prop:=l.Pairwise fun a b=>a.1≠b.1
theorem fg{x:Str}{tk:Nat}{v:Value}:∀{l:List (Str×Nat×Value)},hU l->(x,tk,v)∈l->lkV x l=some v
 | [],_,h=>by cases h
 | (y,tk',u)::l,hd,h=>by
  have hd':=List.pairwise_cons.mp hd;show cond (y==x) (some u) (lkV x l)=some v
  cases h with
  | head=>rw[beq_self_eq_true];rfl
  | tail _ h =>
   rw[beq_eq_false_iff_ne.mpr (hd'.1 _ h)];exact fg hd'.2 h
theorem ay{α:Type}{x:α}:∀{l:List α} {i:Nat},lAt l i=some x->x∈l
 | [],_,h=>by cases h
 | y::l,0,h=>by cases h;exact .head _
 | y::l,i+1,h=>.tail _ (ay (l:=l) h)
theorem oH{l:List (Str×Nat×Value)}{x:Str}{a:Nat}(hd:hU l)(h:eAt l j x a=true):lkV x l=some (.ref a):=
 let⟨_,e⟩:=iH h
 fg hd (ay e)
noncomputable def az(q:Pos):List Expr->Pos
 | []=>q
 | e::es=>az e.pos es
theorem al1(c n:Nat):c+3+3*n=c+3*(n+1):=by lia
theorem al2(c n:Nat):c+1+n=c+(n+1):=by lia
theorem dW(ok:CBok X env file fl tx mod){l:List (Str×Nat×Value)}{m:Nat}{vs:List Value}{tl:List Obj}{n t:Nat}(Kb:(env.scope.names.all fun e=>e.2==.local)=true)(hd:hU l):∀{es:List Expr} {us:List Value} {hs:List (Nat×Nat)} {c:Nat} {q:Pos},Xo env.scope.names l es us hs=true ->
  zo p P hc code stk (spliced (backTo pos (starEach (es.map reN) env))) ⟨X.fr (zj P l) m vs,tl,n,t,c,q⟩=some (us,⟨X.fr (zj P l) m vs,tl,n,t,c+3*es.length,az q es⟩):=by
 intro es
 induction es with
 | nil =>
  intro us hs c q h;obtain rfl:=List.isEmpty_iff.mp h;exact UG
 | cons e es ih =>
  intro us hs c q h;refine byc fun Ea=>?_
  refine zc (QN h) fun Dm e2 h=>?_;obtain⟨u,us'⟩:=Dm
  refine zc (QN h) fun Cd e3 h=>?_;obtain⟨⟨i,j⟩,hs'⟩:=Cd
  refine zc (QN h) fun a e4 h=>?_
  refine zd (za h) fun h1 h3=>?_
  refine Ea ?_;obtain rfl:=hd?_of e2;obtain rfl:=lW e4;rw[Cu,<- al1];exact QH rfl (iR ok (Jx Kb (za h1).1) ((Cq _).mp (za h1).2) (oH hd (za h3).1)) (ih (c:=c+3) (za h3).2)
noncomputable def eR(c:Const)(v:Value)(t:Nat):Bool:=match c with
 | .int i=>(match v with | .int j u=>i==j&&Nat.beq t u | _=>false)
 | .str i=>(match v with | .str j u=>i==j&&Nat.beq t u | _=>false)
 | _=>false
set_option tactic.hygienic true in
theorem dS{c:Const}{v:Value}{kd:Nat}{cp:Pos}{fr tl:List Obj}{n t cc:Nat}(h:eR c v t=true):zo p P hc code stk (eval (.Constant c kd cp) env) ⟨fr,tl,n,t,cc,q⟩=some (v,⟨fr,tl,n,t+1,cc+1,q⟩):=by
 induction c
 case int i =>
  induction v
  case int j u=>have h:=za h;rw[<- eq_of_beq h.1,<- Bp h.2];exact o8
  all_goals exact ft h
 case str i =>
  induction v
  case str j u=>have h:=za h;rw[<- eq_of_beq h.1,<- Bp h.2];exact o9
  all_goals exact ft h
 all_goals exact ft h
noncomputable def Zp(t:Nat):List Expr->List Value->Bool
 | [],vs=>vs.isEmpty
 | e::es,vs=>oB (hd? vs) fun u=>eR (cK e) u.1 t&&Zp (t+1) es u.2
theorem iQ{fr tl:List Obj}{n:Nat}:∀{es:List Expr} {us:List Value} {c t:Nat},Zp t es us=true ->
  zo p P hc code stk (spliced (backTo pos (starEach (es.map reK) env))) ⟨fr,tl,n,t,c,q⟩=some (us,⟨fr,tl,n,t+es.length,c+es.length,q⟩):=by
 intro es
 induction es with
 | nil =>
  intro us c t h;obtain rfl:=List.isEmpty_iff.mp h;exact UG
 | cons e es ih =>
  intro us c t h;refine zc (QN h) fun Cd e2 h=>?_;obtain⟨u,us'⟩:=Cd
  obtain rfl:=hd?_of e2;rw[Cu,<- al2 t,<- al2 c];exact QH rfl (dS (cc:=c) (za h).1) (ih (c:=c+1) (za h).2)
noncomputable abbrev Vr(vs:List Value):Obj:=⟨.type "list",none,.seq vs.toArray 0,#[]⟩
theorem af{es:List Expr}{us:List Value}{ps:Pos}{fr tl:List Obj}{n t c c':Nat}(h:zo p P hc code stk (spliced (backTo ps (starEach es env))) ⟨fr,tl,n,t,c+1,ps⟩=some (us,⟨fr,tl,n,t',c',q'⟩))(hl:Nat.ble us.length 1000=true):
  zo p P hc code stk (eval (.List es ps) env) ⟨fr,tl,n,t,c,q⟩=some (.ref n,⟨fr,Vr us::tl,n+1,t',c'+1,q'⟩):=by
 show zo p P hc code stk (do standAt ps;newList (<- spliced (backTo ps (starEach es env))):Sem Value) _=_
 refine evB (a:=()) (S':=⟨fr,tl,n,t,c+1,ps⟩) rfl ?_;refine evB h ?_;have hl:¬ us.toArray.size>sizeLine:=by
  rw[Bv];exact Nat.not_lt.mpr (Dc (Bs hl) (by decide))
 unfold newList newObj;simp only[hl,if_false];rfl
noncomputable def llS(s:Stmt):List Str×List Str:=(localNames (fvS s).args (fvS s).scope (.stmts (fvS s).body)).getD ([],[])
noncomputable def ddS(s:Stmt):DD:=⟨(fvS s).name,(fvS s).bind,(fvS s).args,(fvS s).body,(fvS s).scope,s.pos,(llS s).1,(llS s).2⟩
noncomputable def lX(v:Value):Nat:=match v with | .ref a=>a | _=>0
noncomputable def Y9(qual file:Str)(tx:Nat)(mod:Value)(tab:Str->List Value)(s:Stmt)(x:Str)(v:Value)(t:Nat)(tl:List Obj):List Obj:=
 cond (Nat.beq (kdS s) 0) ((ddS s).objs qual file tx mod (Nat.sub (lX v) 6) t tl) (cond (Nat.beq (kdS s) 1) tl (Vr (tab x)::tl))
noncomputable def cTl(qual file:Str)(tx:Nat)(mod:Value)(tab:Str->List Value):List Stmt->List (Str×Nat×Value)->Nat->List Obj->List Obj
 | [],_,_,tl=>tl
 | st::r,E,t,tl=>match E with
  | []=>tl
  | e::es=>cTl qual file tx mod tab r es (e.2.1+1) (Y9 qual file tx mod tab st e.1 e.2.2 t tl)
noncomputable def Zr(v:Value)(n:Nat):Bool:=match v with | .ref a=>Nat.beq a n | _=>false
noncomputable def KW(l:List Nat):Nat:=List.rec (motive:=fun Z=>Nat) 0 (fun c Z ih=>Nat.add c (Nat.mul 1114112 ih)) l
noncomputable def nb(c:Nat)(l:List Nat):Bool:=List.rec (motive:=fun Z=>Bool) true (fun y Z ih=>cond (Nat.beq y c) false ih) l
theorem fP{c:Nat}:∀{l:List Nat},nb c l=true->c∉l
 | [],_,h=>by cases h
 | y::r,h,hm=>by
  have h:cond (Nat.beq y c) false (nb c r)=true:=h
  cases e:Nat.beq y c with
  | true=>rw[e] at h;cases h
  | false =>
   rw[e] at h
   cases hm with
   | head=>rw[De] at e;cases e
   | tail _ hm=>exact fP h hm
noncomputable def JU(x:Str)(c:Nat)(sc:List Nat):Bool:=cond (Nat.beq (KW x.cps.toList) c) (nb c sc) false
theorem VD{x:Str}{c:Nat}{sc:List Nat}(h:JU x c sc=true):KW x.cps.toList=c/\c∉sc:=by
 have h:cond (Nat.beq (KW x.cps.toList) c) (nb c sc) false=true:=h
 cases e:Nat.beq (KW x.cps.toList) c with
 | false=>rw[e] at h;exact ft h
 | true=>rw[e] at h;exact⟨Bp e,fP h⟩
set_option tactic.hygienic true in
theorem VL{v:Value}{n:Nat}(h:Zr v n=true):v=.ref n:=by
 induction v
 case ref a=>rw[Bp h]
 all_goals exact ft h
noncomputable def c3(E:List (Str×Nat×Value))(hks cs:List Nat)(K:Str->Nat->Value->List (Str×Nat×Value)->Nat->List Nat->Nat->List Nat->Bool):Bool:=
 oB (hd? E) fun e=>oB (hd? hks) fun hk=>oB (hd? cs) fun cd=>K e.1.1 e.1.2.1 e.1.2.2 e.2 hk.1 hk.2 cd.1 cd.2
theorem ur{E:List (Str×Nat×Value)}{hks cs:List Nat}{K:Str->Nat->Value->List (Str×Nat×Value)->Nat->List Nat->Nat->List Nat->Bool}(h:c3 E hks cs K=true):∃x tk v es hk hks' cd cs',E=(x,tk,v)::es/\hks=hk::hks'/\cs=cd::cs'/\K x tk v es hk hks' cd cs'=true:=by
 refine byc fun Ea=>?_
 refine zc (QN h) fun e e1 h=>?_
 refine zc (QN h) fun hk e2 h=>?_
 refine zc (QN h) fun cd e3 h=>?_
 refine Ea ?_;exact(zk _ _ _ (zk _ _ _ (qo _ _ (hd?_of e1) (hd?_of e2) (hd?_of e3) h)))
noncomputable def ckF(ns:List (Str×NameKind))(s:Stmt)(x:Str)(tk:Nat)(v:Value)(hk S8 n t:Nat)(l:Nat×Nat×Nat):Bool:=
  ((JA (fvS s).args&&(fvS s).scope.names.all (fun x=>!(x.2==.free)))&&((localNames (fvS s).args (fvS s).scope (.stmts (fvS s).body)).isSome&&(docOf (fvS s).body).isNone)) &&
  (((kAt ns hk (fvS s).bind&&Dg S8 s.pos.line)&&((fvS s).bind==x&&Zr v (n+6))) &&
   ((Nat.beq tk (t+3+(llS s).1.length+(llS s).2.length+2)&&Nat.beq l.1 s.pos.line)&&(Nat.beq l.2.1 s.pos.col&&Nat.beq l.2.2 (n+5))))
noncomputable def ckA(ns:List (Str×NameKind))(s:Stmt)(x:Str)(hk:Nat):Bool:=kAt ns hk x&&idE (kx s 1)==x
noncomputable def cSt(ns:List (Str×NameKind))(tab:Str->List Value)(T4:List (Nat×Nat))(st:Stmt)(L:List (Nat×Nat×Nat))(acc:List (Str×Nat×Value))(sc:List Nat)(S8 n t c:Nat)(R:List (Str×Nat×Value)->List (Nat×Nat×Nat)->List Nat->List Nat->List (Str×Nat×Value)->List Nat->Nat->Nat->Nat->Nat->Pos->Bool)(x:Str)(tk:Nat)(v:Value)(es:List (Str×Nat×Value))(hk:Nat)(hks:List Nat)(cd:Nat)(cs:List Nat):Bool:=JU x cd sc &&
  cond (Nat.beq (kdS st) 0) (oB (hd? L) fun l=>ckF ns st x tk v hk S8 n t l.1&&R es l.2 hks cs ((x,tk,v)::acc) (cd::sc) st.pos.line (n+7) (tk+1) (c+1+2+5+(llS st).1.length+1+(llS st).2.length+5+3+2+1+1+1+7) st.pos)
   (ckA ns st x hk&&cond (Nat.beq (kdS st) 1)
    ((Nat.beq tk (t+1)&&eR (cK (kx st 0)) v t)&&R es L hks cs ((x,tk,v)::acc) (cd::sc) S8 n (tk+1) (c+1+1+1+7) (kx st 1).pos)
    ((Zr v n&&Nat.ble (tab x).length 1000)&&cond (Nat.beq (kdS st) 2)
     ((Xo ns acc.reverse (vk (kx st 0)) (tab x) T4&&Nat.beq tk t)&&R es L hks cs ((x,tk,v)::acc) (cd::sc) S8 (n+1) (tk+1) (c+1+1+3*(vk (kx st 0)).length+1+1+7) (kx st 1).pos)
     ((Zp t (vk (kx st 0)) (tab x)&&Nat.beq tk (t+(vk (kx st 0)).length))&&R es L hks cs ((x,tk,v)::acc) (cd::sc) S8 (n+1) (tk+1) (c+1+1+(vk (kx st 0)).length+1+1+7) (kx st 1).pos)))
noncomputable def bx(ns:List (Str×NameKind))(tab:Str->List Value)(T4:List (Nat×Nat))(nE tE cE:Nat)(qE:Pos):List Stmt->List (Str×Nat×Value)->List (Nat×Nat×Nat)->List Nat->List Nat->List (Str×Nat×Value)->List Nat->Nat->Nat->Nat->Nat->Pos->Bool
 | [],E,L,_,_,_,_,_,n,t,c,q=>(E.isEmpty&&L.isEmpty)&&((Nat.beq n nE&&Nat.beq t tE)&&(Nat.beq c cE&&decide (q=qE)))
 | st::r,E,L,hks,cs,acc,sc,S8,n,t,c,_=>c3 E hks cs (cSt ns tab T4 st L acc sc S8 n t c (bx ns tab T4 nE tE cE qE r))
structure AccOk(acc:List (Str×Nat×Value))(sc:List Nat):Prop where
 cod:∀e∈acc,KW e.1.cps.toList∈sc
 dist:hU acc
theorem AccOk.no{acc:List (Str×Nat×Value)}{sc:List Nat}(h:AccOk acc sc){x:Str}{c:Nat}(f:JU x c sc=true):yK x acc=true:=by
 obtain⟨e1,f2⟩:=VD f;unfold yK;rw[List.all_eq_true];intro e he;have h1:=h.cod e he
 have:e.1≠x:=by
  rintro rfl
  rw[e1] at h1;exact f2 h1
 simpa using this
theorem AccOk.cons{acc:List (Str×Nat×Value)}{sc:List Nat}(h:AccOk acc sc){x:Str}{c:Nat}{v:Value}(f:JU x c sc=true):AccOk ((x,tk,v)::acc) (c::sc):=by
 have hn:=h.no f;obtain⟨e1,f2⟩:=VD f
 refine⟨fun e he=>?_,List.pairwise_cons.mpr ⟨fun e he=>?_,h.dist⟩⟩
 ·cases he with
  | head=>rw[<- e1];exact .head _
  | tail _ he=>exact .tail _ (h.cod e he)
 ·have:=List.all_eq_true.mp hn e he
  simp only[Cq,beq_eq_false_iff_ne,ne_eq] at this;exact fun q=>this q.symm
noncomputable def Y6:List (Str×Nat×Value)->List Nat->Bool
 | [],[]=>true
 | (x,_,_)::acc,c::sc=>cond (JU x c sc) (Y6 acc sc) false
 | _,_=>false
theorem Un:∀{acc:List (Str×Nat×Value)} {sc:List Nat},Y6 acc sc=true->AccOk acc sc
 | [],[],_=>⟨fun e he=>(nomatch he),List.Pairwise.nil⟩
 | (x,tk,v)::acc,c::sc,h=>by
  have h:cond (JU x c sc) (Y6 acc sc) false=true:=h
  cases e:JU x c sc with
  | false=>rw[e] at h;exact ft h
  | true=>rw[e] at h;exact(Un h).cons e
 | [],_::_,h=>by cases h
 | _::_,[],h=>by cases h
theorem Va{x:Str}{l:List (Str×Nat×Value)}(h:yK x l=true):yK x l.reverse=true:=by
 unfold yK at *;rw[List.all_reverse];exact h
theorem YJ{l c:Nat}:∀{L:List (Nat×Nat×Nat)},(∀x∈L,x.1<l)->q8 l c L=true
 | [],_=>rfl
 | (l',c',a)::L,h=>by
  show cond (Nat.beq l' l) (cond (Nat.beq c' c) false (q8 l c L)) (q8 l c L)=true
  have:Nat.beq l' l=false:=by
   cases e:Nat.beq l' l with
   | false=>rfl
   | true=>exact absurd (Bp e) (Ca (h (l',c',a) (.head _)))
  rw[this];exact YJ fun x hx=>h x (.tail _ hx)
theorem Vo{st:Stmt}{rest:List Stmt}{r:Option (Flow×St)}(h:zo p P hc code stk (exec st env) S=some (.next,S'))(k:zo p P hc code stk (execs rest env) S'=r):zo p P hc code stk (execs (st::rest) env) S=r:=by
 rw[execs_cons];exact evB h k
section
variable {X:CB}{file:Str}{fl tx:Nat}{mod:Value}{acc es:List (Str×Nat×Value)}{x:Str}{m n t c:Nat}{v:Value}{tl:List Obj}{hk:Nat}{s:Stmt}{LA:List (Nat×Nat×Nat)}
theorem tJ(ok:CBok X env file fl tx mod)(Kb:(env.scope.names.all fun e=>e.2==.local)=true){S8:Nat}{l:Nat×Nat×Nat}(h:ckF env.scope.names s x tk v hk S8 n t l=true)(hL:∀x∈LA,x.1<=S8)(kn:yK x acc=true):
  zo p P hc code stk (exec (reF s) env) ⟨X.fr (zj P acc.reverse) m (z6 LA),tl,n,t,c,q⟩=some (.next,⟨X.fr (zj P (acc.reverse ++ [(x,tk,v)])) (m+1) (z6 (LA ++ [l])),(ddS s).objs env.qual file tx mod (Nat.sub (lX v) 6) t tl,n+7,tk+1,c+1+2+5+(llS s).1.length+1+(llS s).2.length+5+3+2+1+1+1+7,s.pos⟩) /\ ∀y∈LA ++ [l],y.1<=s.pos.line:=by
 refine byc fun Ea=>?_
 refine zd (za h) fun h1 h=>?_
 refine zd (za h1) fun h1 h2=>?_
 refine zd (za h) fun h3 h=>?_
 refine zd (za h3) fun h3 h4=>?_
 refine zd (za h) fun h5 h6=>?_
 refine zd (za h5) fun h5 h7=>?_
 refine zd (za h6) fun h6 h8=>?_
 have ex:(fvS s).bind=x:=eq_of_beq (za h4).1;refine Ea ?_;have el:l=(s.pos.line,s.pos.col,n+5):=by
  refine byc fun Ef=>?_
  obtain⟨l1,l2,l3⟩:=l;refine Ef ?_;rw[show l1=s.pos.line from Bp h7,show l2=s.pos.col from Bp h6,show l3=n+5 from Bp h8]
 have hlt:S8<s.pos.line:=Bs (za h3).2;have hll:localNames (fvS s).args (fvS s).scope (.stmts (fvS s).body)=some ((llS s).1,(llS s).2):=by
  unfold llS
  cases e:localNames (fvS s).args (fvS s).scope (.stmts (fvS s).body) with
  | none=>rw[e] at h2;exact ft (za h2).1
  | some p=>rfl
 rw[VL (za h4).2,Bp h5,el,<- ex]
 refine⟨?_,fun y hy=>?_⟩
 ·rw[show Nat.sub (lX (.ref (n+6))) 6=n from Nat.add_sub_cancel n 6]
  exact o7 ok (d:=ddS s) ⟨(za h1).1,(za h1).2,hll,Option.isNone_iff_eq_none.mp (za h2).2,Jx Kb (za h3).1⟩
   (YJ fun x hx=>Nat.lt_of_le_of_lt (hL x hx) hlt) (Va (by rw[show(ddS s).bind=x from ex];exact kn))
 ·rcases List.mem_append.mp hy with hy | hy
  ·exact Nat.le_of_lt (Nat.lt_of_le_of_lt (hL y hy) hlt)
  ·rw[List.mem_singleton.mp hy];exact Cg _
theorem ZQ(ok:CBok X env file fl tx mod)(Kb:(env.scope.names.all fun e=>e.2==.local)=true)(h:ckA env.scope.names s x hk=true)(kn:yK x acc=true){e:Expr}{vs:List Value}{c':Nat}(he':Zw e=true)
  (he:zo p P hc code stk (eval e env) ⟨X.fr (zj P acc.reverse) m vs,tl,n,t,c+1,s.pos⟩=some (v,⟨X.fr (zj P acc.reverse) m vs,tl',n',tk,c',q'⟩)) :
  zo p P hc code stk (exec (reA s e) env) ⟨X.fr (zj P acc.reverse) m vs,tl,n,t,c,q⟩=some (.next,⟨X.fr (zj P (acc.reverse ++ [(x,tk,v)])) (m+1) vs,tl',n',tk+1,c'+1+7,(kx s 1).pos⟩):=by
 have ex:idE (kx s 1)=x:=eq_of_beq (za h).2;have hk:=Jx Kb (za h).1;rw[<- ex] at hk kn ⊢;exact bC ok hk (Va kn) he' he
end
theorem am(m k:Nat):m+1+k=m+(k+1):=by lia
theorem ae(ok:CBok X env file fl tx mod){tab:Str->List Value}{T4:List (Nat×Nat)}{nE tE cE:Nat}{qE:Pos}(Kb:(env.scope.names.all fun e=>e.2==.local)=true):∀(b:List Stmt) {E:List (Str×Nat×Value)} {L LA:List (Nat×Nat×Nat)} {hks cs sc:List Nat} {acc:List (Str×Nat×Value)} {S8 m n t c:Nat} {q:Pos} {tl:List Obj},
  bx env.scope.names tab T4 nE tE cE qE b E L hks cs acc sc S8 n t c q=true->(∀x∈LA,x.1<=S8)->AccOk acc sc ->
  zo p P hc code stk (execs (b.map reS) env) ⟨X.fr (zj P acc.reverse) m (z6 LA),tl,n,t,c,q⟩=some (.next,⟨X.fr (zj P (acc.reverse++E)) (m+E.length) (z6 (LA++L)),cTl env.qual file tx mod tab b E t tl,nE,tE,cE,qE⟩):=by
 intro b
 induction b with
 | nil =>
  intro E L LA hks cs sc acc S8 m n t c q tl h hL hA;refine zd (za h) fun h1 h2=>?_
  refine zd (za h2) fun h2 h3=>?_
  rw[<- Bp (za h2).1,<- Bp (za h2).2,<- Bp (za h3).1,<- of_decide_eq_true (za h3).2,List.isEmpty_iff.mp (za h1).1,List.isEmpty_iff.mp (za h1).2,Cn,Cn];rfl
 | cons s r ih =>
  intro E L LA hks cs sc acc S8 m n t c q tl h hL hA;refine zh (ur (K:=cSt env.scope.names tab T4 s L acc sc S8 n t c (bx env.scope.names tab T4 nE tE cE qE r)) h) fun x tk v Ee=>zh Ee fun es hk hks' Ee=>q7 Ee fun cd cs' Cd Dm Ek h=>?_;subst Cd;subst Dm;subst Ek
  refine zd (za h) fun kf h=>?_
  have kn:=hA.no kf;have hA':=hA.cons (tk:=tk) (v:=v) kf
  -- one statement,then the rest
  have fin:∀{tl':List Obj} {L1 L2 LA':List (Nat×Nat×Nat)} {Bt n' c':Nat} {q':Pos} {s':Stmt},LA++L1=LA'->reS s=s'->tl'=Y9 env.qual file tx mod tab s x v t tl->L1++L2=L ->
    zo p P hc code stk (exec s' env) ⟨X.fr (zj P acc.reverse) m (z6 LA),tl,n,t,c,q⟩=some (.next,⟨X.fr (zj P (acc.reverse ++ [(x,tk,v)])) (m+1) (z6 LA'),tl',n',tk+1,c',q'⟩) ->
    bx env.scope.names tab T4 nE tE cE qE r es L2 hks' cs' ((x,tk,v)::acc) (cd::sc) Bt n' (tk+1) c' q'=true->(∀y∈LA',y.1<=Bt) ->
    zo p P hc code stk (execs ((s::r).map reS) env) ⟨X.fr (zj P acc.reverse) m (z6 LA),tl,n,t,c,q⟩=some (.next,⟨X.fr (zj P (acc.reverse++(x,tk,v)::es)) (m+(es.length+1)) (z6 (LA++L)),cTl env.qual file tx mod tab (s::r) ((x,tk,v)::es) t tl,nE,tE,cE,qE⟩):=by
   intro tl' L1 L2 LA' Bt n' c' q' s' hA1 hs ht hL' he hc hl;subst hA1 hs ht hL';refine Vo he ?_;have e2:=ih (LA:=LA++L1) (m:=m+1) (tl:=Y9 env.qual file tx mod tab s x v t tl) hc hl hA';rw[Cv] at e2;rw[e2,Br,Br,am];rfl
  clear ih hA'
  cases k0:Nat.beq (kdS s) 0 with
  | true =>
   rw[k0] at h;refine zc (QN h) fun l e h=>?_
   refine zd (za h) fun h1 h2=>?_
   obtain⟨e1,e2⟩:=tJ ok Kb h1 hL kn;exact fin (L1:=[l.1]) rfl (s':=reF s) (tl':=(ddS s).objs env.qual file tx mod (Nat.sub (lX v) 6) t tl) (by unfold reS;rw[k0];rfl) (by unfold Y9;rw[k0];rfl) (hd?_of e).symm e1 h2 e2
  | false =>
   rw[k0] at h;refine zd (za h) fun ha h=>?_
   cases k1:Nat.beq (kdS s) 1 with
   | true =>
    rw[k1] at h;refine zd (za h) fun h1 h2=>?_
    have et:tk=t+1:=Bp (za h1).1;have e1:=ZQ (p:=p) (P:=P) (hc:=hc) (code:=code) (stk:=stk) (v:=v) (tk:=tk) (m:=m) (tl:=tl) (n:=n) (t:=t) (c:=c) (q:=q) (vs:=z6 LA) ok Kb ha kn (e:=reK (kx s 0)) rfl (by rw[et];exact dS (za h1).2)
    exact fin (L1:=[]) (Cn _) (s':=reA s (reK (kx s 0))) (tl':=tl) (by unfold reS;rw[k0,k1];rfl) (by unfold Y9;rw[k0,k1];rfl) rfl e1 h2 hL
   | false =>
    rw[k1] at h;refine zd (za h) fun hb h=>?_
    have ev:v=.ref n:=VL (za hb).1
    cases k2:Nat.beq (kdS s) 2 with
    | true =>
     rw[k2] at h;refine zd (za h) fun h1 h2=>?_
     have e1:=ZQ (p:=p) (P:=P) (hc:=hc) (code:=code) (stk:=stk) (v:=v) (tk:=tk) (m:=m) (tl:=tl) (n:=n) (t:=t) (c:=c) (q:=q) (vs:=z6 LA) ok Kb ha kn (e:=.List ((vk (kx s 0)).map reN) (kx s 0).pos) rfl (by rw[ev,show tk=t from Bp (za h1).2];exact af (dW ok Kb (List.pairwise_reverse.mpr (hA.dist.imp fun h=>h.symm)) (za h1).1) (za hb).2)
     exact fin (L1:=[]) (Cn _) (s':=reL s reN) (tl':=Vr (tab x)::tl) (by unfold reS;rw[k0,k1,k2];rfl) (by unfold Y9;rw[k0,k1];rfl) rfl e1 h2 hL
    | false =>
     rw[k2] at h;refine zd (za h) fun h1 h2=>?_
     have e1:=ZQ (p:=p) (P:=P) (hc:=hc) (code:=code) (stk:=stk) (v:=v) (tk:=tk) (m:=m) (tl:=tl) (n:=n) (t:=t) (c:=c) (q:=q) (vs:=z6 LA) ok Kb ha kn (e:=.List ((vk (kx s 0)).map reK) (kx s 0).pos) rfl (by rw[ev,show tk=t+(vk (kx s 0)).length from Bp (za h1).2];exact af (iQ (za h1).1) (za hb).2)
     exact fin (L1:=[]) (Cn _) (s':=reL s reK) (tl':=Vr (tab x)::tl) (by unfold reS;rw[k0,k1,k2];rfl) (by unfold Y9;rw[k0,k1];rfl) rfl e1 h2 hL
end
section
variable {p:Program}{w:World}
theorem Cl.of_eq{c:Code}{f:Flow}(hfr:S.fr++S.tl.reverse=D5.fr++D5.tl.reverse)(ht:S.toks=D5.toks)(hc:S.cnt=D5.cnt)(hp:S.pos=D5.pos)(h:Cl p w c stk D5 f S'):Cl p w c stk S f S':=by
 refine⟨h.inv,hc▸h.le,fun{k hh g l cd pp kept B life dr os} hB=>?_⟩
 have e:S.sh life dr os=D5.sh life dr os:=by unfold St.sh;rw[hfr,ht]
 rw[e,hc,hp];exact h.go hB
set_option backward.match.sparseCases true in
theorem Ev.app{code:Code}{b r:List Stmt}{f:Flow}(h:Ev p w code stk (execs b env) S .next S')(k:Ev p w code stk (execs r env) S' f S''):Ev p w code stk (execs (b++r) env) S f S'':=by
 refine⟨k.inv,Dc h.le k.le,fun{K H gd lv B life dr os} hB=>?_⟩
 rw[execs_app_wrap];exact jv.of_eq ((h.go (K:=fun f=>match f with | .next=>(execs r env).wrap K H gd lv | f=>K f) (H:=H) (gd:=gd) (lv:=lv) hB).trans (k.go hB)) (ar1 h.le k.le)
theorem mK{life:Life}{dr:Drawn}{f:Flow}{M:Nat}{code:Code}{os:OsState}(h:Ev p w (.builtin "claim.caller" {}) [] (topStub p).cur S (.done f) S')(h0:S.cnt=0)(hp:S.pos=default)(hM:S'.cnt+1=M):
  topRun treeTable p w 11 (some (.ref 6)) M (S.sh life dr os) (topStub p)=some (S'.sh life dr os):=by
 have r:=h.go (K:=Sem.pure) (H:=Sem.raise) (gd:=id) (lv:=id) (B:=[]) (life:=life) (dr:=dr) (os:=os) rfl;rw[XG,h0,hp] at r
 have:=r 1 (S'.sh life dr os) rfl
 rw[<- hM];exact this
end
noncomputable abbrev Bq:TablesWhole.Alg Bool:=⟨fun sc n Z=>(sc.names.lookup n).isSome,fun Z Z Z ok=>ok,fun Z=>true,true,false,fun a b=>a&&b⟩
theorem bo{top:Scope}{cx:TablesWhole.Ctx}{sc:Scope}:∀{l r:List Stmt},TablesWhole.wSs Bq top cx sc l=true->TablesWhole.wSs Bq top cx sc r=true->TablesWhole.wSs Bq top cx sc (l++r)=true
 | [],r,_,h=>h
 | s::l,r,h,h2=>by
  have h:(TablesWhole.wS Bq top cx sc s&&TablesWhole.wSs Bq top cx sc l)=true:=h;rw[Ck] at h
  show(TablesWhole.wS Bq top cx sc s&&TablesWhole.wSs Bq top cx sc (l++r))=true
  rw[h.1,bo h.2 h2];rfl
theorem gS{top:Scope}{cx:TablesWhole.Ctx}{l:List Stmt}(n:Nat)(h:TablesWhole.wSs Bq top cx sc (l.take n)=true)(h2:TablesWhole.wSs Bq top cx sc (l.drop n)=true):TablesWhole.wSs Bq top cx sc l=true:=by
 have:=bo h h2
 rwa [List.take_append_drop] at this
theorem qg{top:Scope}{cx:TablesWhole.Ctx}{l:List Stmt}{k:Nat}(n:Nat)(h:TablesWhole.wSs Bq top cx sc ((l.drop n).take k)=true)(h2:TablesWhole.wSs Bq top cx sc (l.drop (n+k))=true):TablesWhole.wSs Bq top cx sc (l.drop n)=true:=
 gS k h (by rw[List.drop_drop];exact h2)
theorem xz{top:Scope}{cx:TablesWhole.Ctx}{l:List Stmt}{n:Nat}(h:l.drop n = []):TablesWhole.wSs Bq top cx sc (l.drop n)=true:=by rw[h];rfl
theorem UK{p:Str×NameKind}:∀{l:List (Str×NameKind)},(l.map (·.1)).Nodup->p∈l->l.filter (fun q=>q.1==p.1) = [p]
 | [],_,h=>nomatch h
 | q::l,hd,h=>by
  rw[Dh,List.nodup_cons] at hd;have none:∀{l:List (Str×NameKind)} {x:Str},x∉l.map (·.1)->l.filter (fun q=>q.1==x) = []:=by
   intro l x hx;rw[List.filter_eq_nil_iff];intro a ha e;exact hx (List.mem_map.mpr ⟨a,ha,by simpa using e⟩)
  rcases List.mem_cons.mp h with rfl | h
  ·rw[List.filter_cons_of_pos (by simp),none hd.1]
  ·have hne:¬ (q.1==p.1)=true:=by
    intro e;have e:q.1=p.1:=by simpa using e
    exact hd.1 (e▸List.mem_map.mpr ⟨p,h,rfl⟩)
   rw[List.filter_cons_of_neg (p:=fun q:Str×NameKind=>q.1==p.1) hne,UK hd.2 h]
theorem Zz(h:(sc.names.map (·.1)).Nodup):TablesWhole.noTwice sc=true:=by
 refine List.all_eq_true.mpr fun p hp=>?_
 obtain⟨n,k⟩:=p;show TablesWhole.noTwice.match_1 (fun Z=>Bool) (sc.names.filter (fun q=>q.1==n)) _ _ _=true
 rw[show sc.names.filter (fun q=>q.1==n) = [(n,k)] from UK h hp]
noncomputable def cdB:List (Str×NameKind)->List Nat->Bool
 | [],[]=>true
 | p::r,c::cs=>cond (Nat.beq (KW p.1.cps.toList) c) (cond (nb c cs) (cdB r cs) false) false
 | _,_=>false
theorem ut{c a:Bool}(h:cond c a false=true):c=true/\a=true:=by
 induction c with
 | false=>cases h
 | true=>exact⟨rfl,h⟩
theorem dg:∀{l:List (Str×NameKind)} {cs:List Nat},cdB l cs=true->l.map (fun p=>KW p.1.cps.toList)=cs/\cs.Nodup
 | [],[],_=>⟨rfl,Dw⟩
 | p::r,c::cs,h=>by
  obtain⟨e,h⟩:=ut (show cond (Nat.beq (KW p.1.cps.toList) c) (cond (nb c cs) (cdB r cs) false) false=true from h)
  obtain⟨e2,h⟩:=ut h;obtain⟨h1,h2⟩:=dg h
  exact⟨by rw[Dh,h1,Bp e],List.nodup_cons.mpr ⟨fP e2,h2⟩⟩
 | [],_::_,h=>nomatch h
 | _::_,[],h=>nomatch h
theorem KH{α β:Type}{f:α->β}:∀{l:List α},(l.map f).Nodup->l.Nodup
 | [],_=>Dw
 | a::l,h=>by
  rw[Dh,List.nodup_cons] at h;exact List.nodup_cons.mpr ⟨fun hm=>h.1 (Cj hm),KH h.2⟩
theorem Zy{cs:List Nat}(h:cdB sc.names cs=true):TablesWhole.noTwice sc=true:=by
 obtain⟨h1,h2⟩:=dg h;refine Zz (KH (f:=fun s:Str=>KW s.cps.toList) ?_)
 rw[List.map_map];exact h1▸h2
theorem Vk{p:Program}(hm:p.modules = [])(hp:p.parses = [])(hh:p.harvested = [])(h:TablesWhole.wModule Bq p.main=true):p.tablesWhole=true:=by
 unfold Program.tablesWhole TablesWhole.wProgram;rw[hm,hp,hh]
 show(TablesWhole.wModule Bq p.main&&_)=true
 rw[h];rfl
theorem mU{m:Module}(ht:TablesWhole.wSs TablesWhole.gather m.scope ⟨m.scope,[],[],[],none⟩ m.scope m.body = [])(hn:TablesWhole.noTwice m.scope=true)(h:TablesWhole.wSs Bq m.scope ⟨m.scope,[],[],[],none⟩ m.scope m.body=true):TablesWhole.wModule Bq m=true:=by
 unfold TablesWhole.wModule;rw[ht]
 show(true&&(TablesWhole.noTwice m.scope&&(TablesWhole.wSs Bq m.scope ⟨m.scope,[],[],[],none⟩ m.scope m.body&&true)))=true
 rw[hn,h];rfl
theorem mV{top:Scope}{cx:TablesWhole.Ctx}{s:Stmt}{r:List Stmt}(h:TablesWhole.wS Bq top cx sc s=true)(h2:TablesWhole.wSs Bq top cx sc r=true):TablesWhole.wSs Bq top cx sc (s::r)=true:=by
 show(TablesWhole.wS Bq top cx sc s&&TablesWhole.wSs Bq top cx sc r)=true
 rw[h,h2];rfl
theorem t5{top:Scope}{cx:TablesWhole.Ctx}{own:Scope}{nm bind:Str}{body:List Stmt}{x:_}
  (h:TablesWhole.wClassHead Bq cx sc [] [] [] [] own none bind pos (TablesWhole.declSs true body)=true) (h2:TablesWhole.wSs Bq top ⟨own,TablesWhole.declSs false body,TablesWhole.declSs true body,cx.encl,none⟩ own body=true):TablesWhole.wS Bq top cx sc (.ClassDef nm [] [] body [] [] own none bind x pos)=true:=by
 show(TablesWhole.wClassHead Bq cx sc [] [] [] [] own none bind pos (TablesWhole.declSs true body)&&TablesWhole.wSs Bq top ⟨own,TablesWhole.declSs false body,TablesWhole.declSs true body,cx.encl,none⟩ own body)=true
 rw[h];exact h2
namespace MH
section
noncomputable abbrev pw:=PySem.Challenge.pw_me0007_11
noncomputable def jb:List Stmt:=behindTheImports pw
noncomputable def KG:Env:={ scope:=pw.main.scope,locals:=mainNs,globals:=mainNs,cells:=[],code:=.ref 13,frame:=some 14 }
noncomputable def sAt(l:List Stmt)(i:Nat):Stmt:=match l.drop i with | s::_=>s | []=>.Pass ⟨0,0,0,0⟩
structure FD where
 name:Str
 args:Arguments
 body:List Stmt
 scope:Scope
noncomputable def bG:Stmt->FD
 | Stmt.FunctionDef n a b _ _ _ sc _ _ _=>⟨n,a,b,sc⟩
 | _=>⟨⟨⟨[]⟩⟩,⟨[],[],none,[],[],none,[]⟩,[],⟨.function,[],false,false,[]⟩⟩
noncomputable def yQ:Stmt:=sAt jb 2
noncomputable def zF:List Stmt:=match yQ with | .ClassDef _ _ _ b _ _ _ _ _ _ _=>b | _=>[]
noncomputable def iiN:Nat:=15
noncomputable def jB:Scope:=match yQ with | .ClassDef _ _ _ _ _ _ sc _ _ _ _=>sc | _=>⟨.function,[],false,false,[]⟩
noncomputable def Ja:Env:={ scope:=jB,locals:=24,globals:=mainNs,qual:=⟨⟨[77,80,85,46]⟩⟩,code:=.ref 27,frame:=some 28,builtins:=0,cells:=[] }
noncomputable def cfn(i:Nat):FD:=bG (sAt zF i)
noncomputable def tfn(i:Nat):FD:=bG (sAt jb i)
noncomputable def fob(cl:Value)(d:FD)(q:Str)(gl:Addr)(df pm c:Value):Obj:=⟨cl,none,.func { name:=d.name,qualname:=q,params:=d.args,body:=.stmts d.body,scope:=d.scope,globals:=gl,closure:=[],defaults:=df,kwdefaults:=.none,pyModule:=pm,code:=c },#[]⟩
noncomputable def je:Stmt->Pos
 | .FunctionDef _ _ _ _ _ _ _ _ _ p=>p
 | .Assign [.Name _ np] _ _=>np
 | .ClassDef _ _ _ _ _ _ _ _ _ _ p=>p
 | _=>⟨0,0,0,0⟩
noncomputable def M0:List (Str×Nat×Value):=[(⟨⟨[95,95,110,97,109,101,95,95]⟩⟩,165,.str ⟨⟨[95,95,109,97,105,110,95,95]⟩⟩ 164),(⟨⟨[95,95,100,111,99,95,95]⟩⟩,166,.none),(⟨⟨[95,95,112,97,99,107,97,103,101,95,95]⟩⟩,167,.none),(⟨⟨[95,95,108,111,97,100,101,114,95,95]⟩⟩,168,.builtin "__main__.__loader__#opaque"),(⟨⟨[95,95,115,112,101,99,95,95]⟩⟩,169,.none),(⟨⟨[95,95,97,110,110,111,116,97,116,105,111,110,115,95,95]⟩⟩,170,.ref 6),(⟨⟨[95,95,98,117,105,108,116,105,110,115,95,95]⟩⟩,171,.ref 4),(⟨⟨[95,95,102,105,108,101,95,95]⟩⟩,173,.str ⟨⟨[47,99,108,97,105,109,47,99,117,116,46,112,121]⟩⟩ 172),(⟨⟨[95,95,99,97,99,104,101,100,95,95]⟩⟩,174,.none)]
noncomputable def M1:List (Str×Nat×Value):=M0 ++ [(⟨⟨[95,119,97,108,108]⟩⟩,193,.ref 21)]
noncomputable def M2:List (Str×Nat×Value):=(⟨⟨[95,95,110,97,109,101,95,95]⟩⟩,165,.str ⟨⟨[112,121,54,53,46,100,101,118,105,99,101,115,46,109,112,117,54,53,48,50]⟩⟩ 194)::M1.tail
noncomputable def M3:List (Str×Nat×Value):=M2 ++ [(⟨⟨[77,80,85]⟩⟩,2248,.ref 1428)]
noncomputable def M4:List (Str×Nat×Value):=(⟨⟨[95,95,110,97,109,101,95,95]⟩⟩,165,.str ⟨⟨[108,97,119,95,109,101,48,48,48,55,95,49,49]⟩⟩ 2249)::M3.tail
noncomputable def M5:List (Str×Nat×Value):=M4 ++ [(⟨⟨[95,108,97,119,95,119,111,114,100,115]⟩⟩,2741,.ref 1523)]
noncomputable def M6:List (Str×Nat×Value):=M5 ++ [(⟨⟨[95,108,97,119,95,116,101,108,108]⟩⟩,2747,.ref 1528)]
noncomputable def M7:List (Str×Nat×Value):=M6 ++ [(⟨⟨[95,108,97,119,95,102,105,108,108,101,100]⟩⟩,2753,.ref 1533)]
noncomputable def M8:List (Str×Nat×Value):=M7 ++ [(⟨⟨[108,97,119]⟩⟩,2759,.ref 1538)]
noncomputable def xR(P:Params):Obj:=qO (zj P M1) 10
noncomputable def Wu(P:Params):Obj:=qO (zj P M2) 10
noncomputable def xS(P:Params):Obj:=qO (zj P M3) 11
noncomputable def xT(P:Params):Obj:=qO (zj P M4) 11
noncomputable def xU(P:Params):Obj:=qO (zj P M5) 12
noncomputable def xV(P:Params):Obj:=qO (zj P M6) 13
noncomputable def xW(P:Params):Obj:=qO (zj P M7) 14
noncomputable def uC(P:Params):Obj:=qO (zj P M8) 15
noncomputable def nH:Obj:=⟨.none,none,.fields #[],#[]⟩
noncomputable def vI:Obj:=⟨.none,none,.fields #[.int 1 0,.int 0 0,.ref 20],#[]⟩
noncomputable def vJ:Obj:=⟨.none,none,.fields #[.int 1 0,.int 0 0,.ref 20],#[]⟩
noncomputable def vK:Obj:=⟨.none,none,.fields #[.int 1 0,.int 0 0,.ref 20,.int 5 0,.int 0 0,.ref 27],#[]⟩
noncomputable def vL:Obj:=⟨.none,none,.fields #[.int 1 0,.int 0 0,.ref 20,.int 5 0,.int 0 0,.ref 27],#[]⟩
noncomputable def vM:Obj:=⟨.none,none,.fields #[.int 1 0,.int 0 0,.ref 20,.int 5 0,.int 0 0,.ref 27],#[]⟩
noncomputable def vN:Obj:=⟨.none,none,.fields #[.int 1 0,.int 0 0,.ref 20,.int 5 0,.int 0 0,.ref 27,.int 1032 0,.int 0 0,.ref 1527],#[]⟩
noncomputable def vO:Obj:=⟨.none,none,.fields #[.int 1 0,.int 0 0,.ref 20,.int 5 0,.int 0 0,.ref 27,.int 1032 0,.int 0 0,.ref 1527,.int 1094 0,.int 0 0,.ref 1532],#[]⟩
noncomputable def vQ:Obj:=⟨.none,none,.fields #[.int 1 0,.int 0 0,.ref 20,.int 5 0,.int 0 0,.ref 27,.int 1032 0,.int 0 0,.ref 1527,.int 1094 0,.int 0 0,.ref 1532,.int 1096 0,.int 0 0,.ref 1537],#[]⟩
noncomputable def Vc:Obj:=⟨.none,none,.fields #[.int 1 0,.int 0 0,.ref 20,.int 5 0,.int 0 0,.ref 27],#[]⟩
noncomputable def wlT:List (List Int×List Int):=[([232],[133,250,8,24,138,105,1,133,251,40,165,250,166,251]),([202],[133,250,8,56,138,233,1,133,251,40,165,250,166,251]),([200],[133,250,8,24,152,105,1,133,251,40,165,250,164,251]),([136],[133,250,8,56,152,233,1,133,251,40,165,250,164,251]),([230,-3],[133,250,8,24,165,-3,105,1,133,-3,133,251,40,165,251,8,165,250,40]),([198,-3],[133,250,8,56,165,-3,233,1,133,-3,133,251,40,165,251,8,165,250,40]),([73,-1],[133,250,8,41,-1,133,251,165,250,9,-1,56,229,251,133,251,40,165,251]),([9,-1],[73,255,41,-2,73,255]),([41,-1],[73,255,9,-2,73,255]),([10],[24,42]),([70,-3],[24,102,-3]),([42],[133,250,8,104,41,64,133,251,165,250,101,250,133,252,8,104,41,191,5,251,72,165,252,40]),([106],[42,42,42,42,42,42,42,42]),([201,-1],[133,250,8,104,41,64,133,251,165,250,56,233,-1,8,104,41,191,5,251,72,165,250,40]),([233,-1],[105,-2]),([101,-3],[133,250,165,-3,73,255,133,251,165,250,229,251]),([170],[133,250,166,250]),([152],[132,250,165,250]),([36,-3],[133,250,8,104,41,61,133,251,165,-3,41,192,5,251,133,251,165,250,37,-3,208,6,165,251,9,2,133,251,165,251,72,165,250,40]),([56],[133,250,8,104,9,1,72,165,250,40]),([184],[133,250,8,104,41,191,72,165,250,40]),([72],[133,250,8,104,133,251,134,252,186,165,250,157,0,1,202,154,166,252,165,251,72,165,250,40]),([104],[8,104,133,251,134,252,186,232,189,0,1,154,133,250,166,252,165,251,72,40,165,250]),([32,0,4],[200]),([134,-3],[8,133,250,138,133,-3,165,250,40]),([162,-1],[133,250,169,-1,170,8,165,250,40]),([224,-1],[133,250,8,104,41,64,133,251,138,56,233,-1,8,104,41,191,5,251,72,165,250,40]),([189,-1,2],[8,138,24,105,-1,133,250,169,2,105,0,133,251,132,252,160,0,177,250,133,250,164,252,40,165,250]),([157,-1,2],[8,133,252,138,24,105,-1,133,250,169,2,105,0,133,251,132,253,160,0,165,252,145,250,164,253,165,252,40]),([177,224],[185,-4,2])]
noncomputable def wiV:Nat->List Int->List Value
 | _,[]=>[]
 | t,.ofNat v::r=>.int (.ofNat v) t::wiV (t+1) r
 | t,.negSucc v::r=>.int (.negSucc v) (t+1)::wiV (t+2) r
noncomputable def wtk:List Int->Nat
 | []=>0
 | .ofNat _::r=>wtk r+1
 | .negSucc _::r=>wtk r+2
noncomputable def wL(t:Nat)(xs:List Int):Obj:=⟨.type "list",none,.seq (wiV t xs).toArray 0,#[]⟩
noncomputable def xy:Nat->Nat->List (List Int×List Int)->List Obj
 | a,t,(xs,ys)::r=>wL t xs::wL (t+wtk xs) ys::⟨.type "tuple",none,.seq #[.ref a,.ref (a+1)] 0,#[]⟩::xy (a+3) (t+wtk xs+wtk ys) r
 | _,_,[]=>[]
noncomputable def wO:List Obj:=xy 1433 2251 wlT
noncomputable def bY:Obj:=⟨.type "tuple",none,.seq #[] 0,#[]⟩
noncomputable def bZ:Obj:=⟨.type "code",none,.fields #[.str ⟨⟨[60,109,111,100,117,108,101,62]⟩⟩ 182,.str ⟨⟨[60,109,111,100,117,108,101,62]⟩⟩ 183,.str ⟨⟨[47,99,108,97,105,109,47,99,117,116,46,112,121]⟩⟩ 184,.int 1 0,.int 0 0,.int 0 0,.int 0 0,.int 0 0,.ref 11,.bool false,.int 181 0,.ref 12,.none,.none,.none,.none,.int 185 0,.int 1 0,.str ⟨⟨[47,99,108,97,105,109,47,99,117,116,46,112,121]⟩⟩ 186],#[]⟩
noncomputable def b6:Obj:=⟨.type "frame",none,.plain,#[some (.ref 13),some (.ref 3),some (.ref 3),none,some (.str ⟨⟨[95,95,109,97,105,110,95,95]⟩⟩ 164),none,some (.ref 0)]⟩
noncomputable def lA:Obj:=⟨.type "tuple",none,.seq #[] 0,#[]⟩
noncomputable def lB:Obj:=⟨.none,none,.fields #[],#[]⟩
noncomputable def lC:Obj:=⟨.type "tuple",none,.seq #[.str ⟨⟨[107]⟩⟩ 190] 0,#[]⟩
noncomputable def lD:Obj:=⟨.type "tuple",none,.seq #[] 0,#[]⟩
noncomputable def lE:Obj:=fob (.none) (tfn 0) ⟨⟨[95,119,97,108,108]⟩⟩ 0 (.none) (.none) (.none)
noncomputable def lF:Obj:=⟨.type "code",none,.fields #[.str ⟨⟨[95,119,97,108,108]⟩⟩ 187,.str ⟨⟨[95,119,97,108,108]⟩⟩ 188,.str ⟨⟨[47,99,108,97,105,109,47,99,117,116,46,112,121]⟩⟩ 189,.int 1 0,.int 1 0,.int 0 0,.int 0 0,.int 3 0,.ref 15,.bool true,.int 181 0,.ref 16,.none,.ref 17,.ref 18,.ref 19,.int 191 0,.int 1 0,.str ⟨⟨[47,99,108,97,105,109,47,99,117,116,46,112,121]⟩⟩ 192],#[]⟩
noncomputable def lG:Obj:=fob (.type "function") (tfn 0) ⟨⟨[95,119,97,108,108]⟩⟩ 3 (.none) (.str ⟨⟨[95,95,109,97,105,110,95,95]⟩⟩ 164) (.ref 20)
noncomputable def vY:Obj:=⟨.type "tuple",none,.seq #[] 0,#[]⟩
noncomputable def vZ:Obj:=⟨.type "builtin_function_or_method",none,.fields #[.builtin "type.__prepare__",.type "type"],#[]⟩
noncomputable def v8:Obj:=⟨.type "tuple",none,.seq #[] 0,#[]⟩
noncomputable def v9:Obj:=⟨.type "code",none,.fields #[.str ⟨⟨[77,80,85]⟩⟩ 198,.str ⟨⟨[77,80,85]⟩⟩ 199,.str ⟨⟨[47,99,108,97,105,109,47,99,117,116,46,112,121]⟩⟩ 200,.int 5 0,.int 0 0,.int 0 0,.int 0 0,.int 0 0,.ref 25,.bool false,.int 181 0,.ref 26,.none,.none,.none,.none,.int 201 0,.int 5 0,.str ⟨⟨[47,99,108,97,105,109,47,99,117,116,46,112,121]⟩⟩ 202],#[]⟩
noncomputable def wf:Obj:=⟨.type "frame",none,.plain,#[some (.ref 27),some (.ref 3),some (.ref 24),none,some (.str ⟨⟨[112,121,54,53,46,100,101,118,105,99,101,115,46,109,112,117,54,53,48,50]⟩⟩ 194),none,some (.ref 0)]⟩
noncomputable def ZA:Obj:=⟨.type "tuple",none,.seq #[.str ⟨⟨[97]⟩⟩ 2225,.str ⟨⟨[97,100,100,99,121,99,108,101,115]⟩⟩ 2226,.str ⟨⟨[97,100,100,114,72,105,103,104,77,97,115,107]⟩⟩ 2227,.str ⟨⟨[97,100,100,114,77,97,115,107]⟩⟩ 2228,.str ⟨⟨[98,121,116,101,77,97,115,107]⟩⟩ 2229,.str ⟨⟨[101,120,99,121,99,108,101,115]⟩⟩ 2230,.str ⟨⟨[109,101,109,111,114,121]⟩⟩ 2231,.str ⟨⟨[110,97,109,101]⟩⟩ 2232,.str ⟨⟨[112]⟩⟩ 2233,.str ⟨⟨[112,99]⟩⟩ 2234,.str ⟨⟨[112,114,111,99,101,115,115,111,114,67,121,99,108,101,115]⟩⟩ 2235,.str ⟨⟨[115,112]⟩⟩ 2236,.str ⟨⟨[115,112,66,97,115,101]⟩⟩ 2237,.str ⟨⟨[115,116,97,114,116,95,112,99]⟩⟩ 2238,.str ⟨⟨[120]⟩⟩ 2239,.str ⟨⟨[121]⟩⟩ 2240] 0,#[]⟩
noncomputable def Xv:Obj:=⟨.type "type",none,.cls { name:=⟨⟨[77,80,85]⟩⟩,bases:=[.type "object"],mro:=[.ref 1428,.type "object"],ns:=1427,qualname:=⟨⟨[77,80,85]⟩⟩ },#[none,none,some (.str ⟨⟨[77,80,85]⟩⟩ 196),some (.str ⟨⟨[77,80,85]⟩⟩ 204),some (.builtin "object.__new__"),some (.bool true)]⟩
noncomputable def ZB:Obj:=⟨.type "getset_descriptor",none,.fields #[.str ⟨⟨[95,95,100,105,99,116,95,95]⟩⟩ 2242,.ref 1428,.builtin "function.__dict__",.builtin "function.__dict__#set"],#[]⟩
noncomputable def ZC:Obj:=⟨.type "getset_descriptor",none,.fields #[.str ⟨⟨[95,95,119,101,97,107,114,101,102,95,95]⟩⟩ 2244,.ref 1428,.builtin "ExceptionGroup.__weakref__",.none],#[]⟩
noncomputable def ZD:Obj:=⟨.type "super",none,.fields #[.ref 1428,.ref 1428,.ref 1428],#[]⟩
noncomputable def ZE:Obj:=⟨.type "builtin_function_or_method",none,.fields #[.builtin "object.__init_subclass__",.ref 1428],#[]⟩
noncomputable def f7:Obj:=⟨.type "list",none,.seq #[.ref 1435,.ref 1438,.ref 1441,.ref 1444,.ref 1447,.ref 1450,.ref 1453,.ref 1456,.ref 1459,.ref 1462,.ref 1465,.ref 1468,.ref 1471,.ref 1474,.ref 1477,.ref 1480,.ref 1483,.ref 1486,.ref 1489,.ref 1492,.ref 1495,.ref 1498,.ref 1501,.ref 1504,.ref 1507,.ref 1510,.ref 1513,.ref 1516,.ref 1519,.ref 1522] 0,#[]⟩
noncomputable def r8:Obj:=⟨.type "tuple",none,.seq #[] 0,#[]⟩
noncomputable def r9:Obj:=⟨.none,none,.fields #[],#[]⟩
noncomputable def se:Obj:=fob (.none) (tfn 5) ⟨⟨[95,108,97,119,95,116,101,108,108]⟩⟩ 0 (.none) (.none) (.none)
noncomputable def f8:Obj:=⟨.type "code",none,.fields #[.str ⟨⟨[95,108,97,119,95,116,101,108,108]⟩⟩ 2742,.str ⟨⟨[95,108,97,119,95,116,101,108,108]⟩⟩ 2743,.str ⟨⟨[47,99,108,97,105,109,47,99,117,116,46,112,121]⟩⟩ 2744,.int 1032 0,.int 6 0,.int 0 0,.int 0 0,.int 3 0,.ref 1524,.bool true,.int 181 0,.ref 1525,.none,.none,.none,.ref 1526,.int 2745 0,.int 1032 0,.str ⟨⟨[47,99,108,97,105,109,47,99,117,116,46,112,121]⟩⟩ 2746],#[]⟩
noncomputable def sf:Obj:=fob (.type "function") (tfn 5) ⟨⟨[95,108,97,119,95,116,101,108,108]⟩⟩ 3 (.none) (.str ⟨⟨[108,97,119,95,109,101,48,48,48,55,95,49,49]⟩⟩ 2249) (.ref 1527)
noncomputable def sj:Obj:=⟨.type "tuple",none,.seq #[] 0,#[]⟩
noncomputable def sm:Obj:=⟨.none,none,.fields #[],#[]⟩
noncomputable def so:Obj:=fob (.none) (tfn 6) ⟨⟨[95,108,97,119,95,102,105,108,108,101,100]⟩⟩ 0 (.none) (.none) (.none)
noncomputable def f9:Obj:=⟨.type "code",none,.fields #[.str ⟨⟨[95,108,97,119,95,102,105,108,108,101,100]⟩⟩ 2748,.str ⟨⟨[95,108,97,119,95,102,105,108,108,101,100]⟩⟩ 2749,.str ⟨⟨[47,99,108,97,105,109,47,99,117,116,46,112,121]⟩⟩ 2750,.int 1094 0,.int 2 0,.int 0 0,.int 0 0,.int 3 0,.ref 1529,.bool true,.int 181 0,.ref 1530,.none,.none,.none,.ref 1531,.int 2751 0,.int 1094 0,.str ⟨⟨[47,99,108,97,105,109,47,99,117,116,46,112,121]⟩⟩ 2752],#[]⟩
noncomputable def sq:Obj:=fob (.type "function") (tfn 6) ⟨⟨[95,108,97,119,95,102,105,108,108,101,100]⟩⟩ 3 (.none) (.str ⟨⟨[108,97,119,95,109,101,48,48,48,55,95,49,49]⟩⟩ 2249) (.ref 1532)
noncomputable def sr:Obj:=⟨.type "tuple",none,.seq #[] 0,#[]⟩
noncomputable def su:Obj:=⟨.none,none,.fields #[],#[]⟩
noncomputable def sx:Obj:=fob (.none) (tfn 7) ⟨⟨[108,97,119]⟩⟩ 0 (.none) (.none) (.none)
noncomputable def ga:Obj:=⟨.type "code",none,.fields #[.str ⟨⟨[108,97,119]⟩⟩ 2754,.str ⟨⟨[108,97,119]⟩⟩ 2755,.str ⟨⟨[47,99,108,97,105,109,47,99,117,116,46,112,121]⟩⟩ 2756,.int 1096 0,.int 1 0,.int 0 0,.int 0 0,.int 3 0,.ref 1534,.bool true,.int 181 0,.ref 1535,.none,.none,.none,.ref 1536,.int 2757 0,.int 1096 0,.str ⟨⟨[47,99,108,97,105,109,47,99,117,116,46,112,121]⟩⟩ 2758],#[]⟩
noncomputable def sy:Obj:=fob (.type "function") (tfn 7) ⟨⟨[108,97,119]⟩⟩ 3 (.none) (.str ⟨⟨[108,97,119,95,109,101,48,48,48,55,95,49,49]⟩⟩ 2249) (.ref 1537)
noncomputable def fr0(P:Params)(d3:Obj):List Obj:=[boot_o_0 P,boot_o_1 P,boot_o_2 P,d3,boot_o_4 P,boot_o_5 P,boot_o_6 P,boot_o_7 P,boot_o_8 P,boot_o_9 P,boot_o_10 P]
noncomputable def st0(P:Params):St:=⟨fr0 P (boot_o_3 P),[],11,boot_toks,0,default⟩
noncomputable def sta(P:Params):St:=⟨fr0 P (boot_o_3 P),[b6,bZ,nH,bY],15,187,11,default⟩
noncomputable def w6(P:Params):St:=⟨fr0 P (boot_o_3 P),[b6,bZ,nH,bY],15,187,12,default⟩
noncomputable def w7(P:Params):St:=⟨fr0 P (xR P),[lG,lF,lE,lD,lC,lB,lA,b6,bZ,vI,bY],22,194,41,je (sAt jb 0)⟩
noncomputable def gI(P:Params):St:=⟨fr0 P (Wu P),[lG,lF,lE,lD,lC,lB,lA,b6,bZ,vJ,bY],22,196,50,je (sAt jb 1)⟩
noncomputable def E0:List (Str×Nat×Value):=[(⟨⟨[95,95,109,111,100,117,108,101,95,95]⟩⟩,203,.str ⟨⟨[112,121,54,53,46,100,101,118,105,99,101,115,46,109,112,117,54,53,48,50]⟩⟩ 194),(⟨⟨[95,95,113,117,97,108,110,97,109,101,95,95]⟩⟩,205,.str ⟨⟨[77,80,85]⟩⟩ 204),(⟨⟨[95,95,102,105,114,115,116,108,105,110,101,110,111,95,95]⟩⟩,207,.int 5 206)]
noncomputable def E1:List (Str×Nat×Value):=[(⟨⟨[82,69,83,69,84]⟩⟩,209,.int 65532 208),(⟨⟨[78,77,73]⟩⟩,211,.int 65530 210),(⟨⟨[73,82,81]⟩⟩,213,.int 65534 212),(⟨⟨[78,69,71,65,84,73,86,69]⟩⟩,215,.int 128 214),(⟨⟨[79,86,69,82,70,76,79,87]⟩⟩,217,.int 64 216),(⟨⟨[85,78,85,83,69,68]⟩⟩,219,.int 32 218),(⟨⟨[66,82,69,65,75]⟩⟩,221,.int 16 220),(⟨⟨[68,69,67,73,77,65,76]⟩⟩,223,.int 8 222),(⟨⟨[73,78,84,69,82,82,85,80,84]⟩⟩,225,.int 4 224),(⟨⟨[90,69,82,79]⟩⟩,227,.int 2 226),(⟨⟨[67,65,82,82,89]⟩⟩,229,.int 1 228),(⟨⟨[66,89,84,69,95,87,73,68,84,72]⟩⟩,231,.int 8 230),(⟨⟨[66,89,84,69,95,70,79,82,77,65,84]⟩⟩,233,.str ⟨⟨[37,48,50,120]⟩⟩ 232),(⟨⟨[65,68,68,82,95,87,73,68,84,72]⟩⟩,235,.int 16 234),(⟨⟨[65,68,68,82,95,70,79,82,77,65,84]⟩⟩,237,.str ⟨⟨[37,48,52,120]⟩⟩ 236)]
noncomputable def Ei:List (Str×Nat×Value):=[(⟨⟨[95,95,105,110,105,116,95,95]⟩⟩,247,.ref 36)]
noncomputable def nmZ:List Stmt->List (Nat×Nat)->List (Str×Nat×Value)
 | st::r,(t,a)::q=>((bG st).name,t,.ref a)::nmZ r q
 | _,_=>[]
noncomputable def E2:List (Str×Nat×Value):=nmZ (zF.drop (iiN+1)) (([255,262,269,276,284,292,302,309,316,323,330,337,344,353,360,369,378,386,394,401,409,417,425,433,443,453,461,469,477,485,493,502,512,520,538,548,556,564,572,582,599,609,619,627,635,643,650,658,665,672,679,686,693,700,707,714,721,728,735,742,749,756,763,770,777,784,791,798,805,812,819,826,833,840,847,854,861,868,875,882,889,896,903,910,917,924,931,938,945,952,959,966,973,980,987,994,1001,1008,1015,1022,1029,1036,1043,1050,1057,1064,1071,1078,1086,1093,1100,1107,1114,1121,1128,1135,1142,1149,1156,1163,1170,1177,1184,1191,1198,1205,1212,1219,1226,1233,1240,1247,1254,1261,1268,1275,1282,1289,1296,1303,1310,1317,1324,1331,1338,1345,1352,1359,1366,1373,1380,1387,1394,1401,1408,1415,1422,1429,1436,1443,1450,1457,1464,1471,1478,1485,1492,1499,1506,1513,1520,1527,1534,1541,1548,1555,1562,1569,1576,1583,1590,1597,1604,1611,1618,1625,1632,1639,1646,1653,1660,1667,1674,1681,1688,1695,1702,1709].zip (List.range' 16 198)).map fun p=>(p.1,7*p.2-69)) ++ [(⟨⟨[105,110,115,116,114,117,99,116]⟩⟩,1710,.ref 1423),(⟨⟨[99,121,99,108,101,116,105,109,101]⟩⟩,1967,.ref 1424),(⟨⟨[101,120,116,114,97,99,121,99,108,101,115]⟩⟩,2224,.ref 1425)]
noncomputable def E3:List (Str×Nat×Value):=[(⟨⟨[95,95,115,116,97,116,105,99,95,97,116,116,114,105,98,117,116,101,115,95,95]⟩⟩,2241,.ref 1426)]
noncomputable def nsE:List (Str×Nat×Value):=E0.take 1++E0.drop 2++E1++Ei++E2++E3 ++ [(⟨⟨[95,95,100,105,99,116,95,95]⟩⟩,2243,.ref 1429),(⟨⟨[95,95,119,101,97,107,114,101,102,95,95]⟩⟩,2245,.ref 1430),(⟨⟨[95,95,100,111,99,95,95]⟩⟩,2246,.none)]
noncomputable def Xu(P:Params):Obj:=qO (zj P nsE) 4
noncomputable def Li:List (Nat×Nat×Nat):=[(22,4,35)]
noncomputable def i2:List Nat:=List.range' 16 198
noncomputable def L2:List (Nat×Nat×Nat):=([37,47,58,61,64,67,70,74,77,80,83,86,89,92,102,105,115,125,137,142,147,151,156,163,167,186,204,210,216,219,222,226,233,256,260,309,331,334,337,340,349,392,409,426,430,434,438,441,449,453,457,461,464,468,471,475,479,482,486,490,494,497,501,505,509,513,517,521,525,529,532,536,539,543,547,551,554,558,562,566,569,573,577,581,585,589,593,597,600,604,607,610,614,618,621,625,629,633,636,640,644,648,652,656,660,664,668,672,675,679,683,687,690,694,698,702,705,709,713,717,721,725,729,733,738,742,746,750,754,757,761,765,769,773,777,781,784,788,792,796,800,804,808,812,816,820,824,828,832,836,839,843,847,851,855,858,862,866,870,874,878,882,886,890,894,898,903,907,912,916,920,924,927,931,935,939,942,946,950,954,958,962,966,970,974,979,983,986,990,994,998,1001,1005,1009,1013,1016,1020,1024].zip i2).map fun p=>(p.1,4,7*p.2-70)
noncomputable def tL:Nat->List Int->List Value
 | t,x::r=>.int x t::tL (t+1) r
 | _,[]=>[]
noncomputable def yU:List Value:=[.ref 372,.ref 379,.ref 365,.ref 365,.ref 365,.ref 386,.ref 393,.ref 365,.ref 400,.ref 407,.ref 414,.ref 365,.ref 365,.ref 421,.ref 428,.ref 365,.ref 435,.ref 442,.ref 365,.ref 365,.ref 365,.ref 449,.ref 456,.ref 365,.ref 463,.ref 470,.ref 365,.ref 365,.ref 365,.ref 477,.ref 484,.ref 365,.ref 491,.ref 498,.ref 365,.ref 365,.ref 505,.ref 512,.ref 519,.ref 365,.ref 526,.ref 533,.ref 540,.ref 365,.ref 547,.ref 554,.ref 561,.ref 365,.ref 568,.ref 575,.ref 365,.ref 365,.ref 365,.ref 582,.ref 589,.ref 365,.ref 596,.ref 603,.ref 365,.ref 365,.ref 365,.ref 610,.ref 617,.ref 365,.ref 624,.ref 631,.ref 365,.ref 365,.ref 365,.ref 638,.ref 645,.ref 365,.ref 652,.ref 659,.ref 666,.ref 365,.ref 673,.ref 680,.ref 687,.ref 365,.ref 694,.ref 701,.ref 365,.ref 365,.ref 365,.ref 708,.ref 715,.ref 365,.ref 722,.ref 729,.ref 365,.ref 365,.ref 365,.ref 736,.ref 743,.ref 365,.ref 750,.ref 757,.ref 365,.ref 365,.ref 365,.ref 764,.ref 771,.ref 365,.ref 778,.ref 785,.ref 792,.ref 365,.ref 799,.ref 806,.ref 813,.ref 365,.ref 820,.ref 827,.ref 365,.ref 365,.ref 365,.ref 834,.ref 841,.ref 365,.ref 848,.ref 855,.ref 365,.ref 365,.ref 365,.ref 862,.ref 869,.ref 365,.ref 365,.ref 876,.ref 365,.ref 365,.ref 883,.ref 890,.ref 897,.ref 365,.ref 904,.ref 365,.ref 911,.ref 365,.ref 918,.ref 925,.ref 932,.ref 365,.ref 939,.ref 946,.ref 365,.ref 365,.ref 953,.ref 960,.ref 967,.ref 365,.ref 974,.ref 981,.ref 988,.ref 365,.ref 365,.ref 995,.ref 365,.ref 365,.ref 1002,.ref 1009,.ref 1016,.ref 365,.ref 1023,.ref 1030,.ref 1037,.ref 365,.ref 1044,.ref 1051,.ref 1058,.ref 365,.ref 1065,.ref 1072,.ref 1079,.ref 365,.ref 1086,.ref 1093,.ref 365,.ref 365,.ref 1100,.ref 1107,.ref 1114,.ref 365,.ref 1121,.ref 1128,.ref 1135,.ref 365,.ref 1142,.ref 1149,.ref 1156,.ref 365,.ref 1163,.ref 1170,.ref 365,.ref 365,.ref 1177,.ref 1184,.ref 1191,.ref 365,.ref 1198,.ref 1205,.ref 1212,.ref 365,.ref 1219,.ref 1226,.ref 1233,.ref 365,.ref 1240,.ref 1247,.ref 365,.ref 365,.ref 365,.ref 1254,.ref 1261,.ref 365,.ref 1268,.ref 1275,.ref 365,.ref 365,.ref 365,.ref 1282,.ref 1289,.ref 365,.ref 1296,.ref 1303,.ref 365,.ref 365,.ref 1310,.ref 1317,.ref 1324,.ref 365,.ref 1331,.ref 1338,.ref 1345,.ref 365,.ref 1352,.ref 1359,.ref 1366,.ref 365,.ref 1373,.ref 1380,.ref 365,.ref 365,.ref 365,.ref 1387,.ref 1394,.ref 365,.ref 1401,.ref 1408,.ref 365,.ref 365,.ref 365,.ref 1415,.ref 1422,.ref 365]
noncomputable def yv:List Value:=tL 1711 [7,6,0,0,0,3,5,0,3,2,2,0,0,4,6,0,2,5,0,0,0,4,6,0,2,4,0,0,0,4,7,0,6,6,0,0,3,3,5,0,4,2,2,0,4,4,6,0,2,5,0,0,0,4,6,0,2,4,0,0,0,4,7,0,6,6,0,0,0,3,5,0,3,2,2,0,3,4,6,0,2,5,0,0,0,4,6,0,2,4,0,0,0,4,7,0,6,6,0,0,0,3,5,0,4,2,2,0,5,4,6,0,2,5,0,0,0,4,6,0,2,4,0,0,0,4,7,0,0,6,0,0,3,3,3,0,2,0,2,0,4,4,4,0,2,6,0,0,4,4,4,0,2,5,2,0,0,5,0,0,2,6,2,0,3,3,3,0,2,2,2,0,4,4,4,0,2,5,0,0,4,4,4,0,2,4,2,0,4,4,4,0,2,6,0,0,3,3,5,0,2,2,2,0,4,4,3,0,2,5,0,0,0,4,6,0,2,4,0,0,0,4,7,0,2,6,0,0,3,3,5,0,2,2,2,0,4,4,6,0,2,5,0,0,0,4,6,0,2,4,0,0,0,4,7,0]
noncomputable def j7:List Value:=tL 1968 [0,0,0,0,0,0,0,0,0,0,0,0,0,0,0,0,2,1,0,0,0,0,0,0,0,1,0,0,0,1,0,0,0,0,0,0,0,0,0,0,0,0,0,0,0,0,0,0,2,1,0,0,0,0,0,0,0,1,0,0,0,1,0,0,0,0,0,0,0,0,0,0,0,0,0,0,0,0,0,0,2,1,0,0,0,0,0,0,0,1,0,0,0,1,0,0,0,0,0,0,0,0,0,0,0,0,0,0,0,0,0,0,2,1,0,0,0,0,0,0,0,1,0,0,0,1,0,0,0,0,0,0,0,0,0,0,0,0,0,0,0,0,0,0,2,0,0,0,0,0,0,0,0,0,0,0,0,0,0,0,0,0,0,0,0,0,0,0,0,0,0,0,0,0,0,0,2,1,0,0,0,0,0,0,0,1,0,0,1,1,1,0,0,0,0,0,0,0,0,0,0,0,0,0,0,0,0,0,2,1,0,0,0,0,0,0,0,1,0,0,0,1,0,0,0,0,0,0,0,0,0,0,0,0,0,0,0,0,0,0,2,1,0,0,0,0,0,0,0,1,0,0,0,1,0,0]
noncomputable def mF:Str->List Value:=fun x=>cond (x==⟨⟨[105,110,115,116,114,117,99,116]⟩⟩) yU (cond (x==⟨⟨[99,121,99,108,101,116,105,109,101]⟩⟩) yv (cond (x==⟨⟨[101,120,116,114,97,99,121,99,108,101,115]⟩⟩) j7 ([])))
noncomputable def stc(P:Params):St:=⟨fr0 P (Wu P),[wf,v9,Vp [],v8,qO (zj P E0) 3,vZ,vY,lG,lF,lE,lD,lC,lB,lA,b6,bZ,Vc,bY],29,208,108,(je yQ)⟩
noncomputable def CBX(P:Params)(d3:Obj)(q12:Obj):CB:=⟨fr0 P d3 ++ [bY,q12,bZ,b6,lA,lB,lC,lD,lE,lF,lG,vY,vZ],v8,v9,wf⟩
noncomputable def gB(P:Params):St:=⟨(CBX P (Wu P) Vc).fr (zj P E0) 3 (z6 []),[],29,208,109,(je yQ)⟩
noncomputable def wR(P:Params):St:=⟨(CBX P (Wu P) Vc).fr (zj P (E0++E1)) 18 (z6 []),[],29,238,259,(je (sAt zF 14))⟩
noncomputable def lH:Obj:=⟨.type "tuple",none,.seq #[.none,.int 0 238] 0,#[]⟩
noncomputable def sz:Obj:=⟨.type "tuple",none,.seq #[] 0,#[]⟩
noncomputable def sA:Obj:=⟨.none,none,.fields #[],#[]⟩
noncomputable def sB:Obj:=⟨.type "tuple",none,.seq #[.str ⟨⟨[115,101,108,102]⟩⟩ 242,.str ⟨⟨[109,101,109,111,114,121]⟩⟩ 243,.str ⟨⟨[112,99]⟩⟩ 244] 0,#[]⟩
noncomputable def sC:Obj:=⟨.type "tuple",none,.seq #[] 0,#[]⟩
noncomputable def sD:Obj:=fob (.none) (cfn 15) ⟨⟨[77,80,85,46,95,95,105,110,105,116,95,95]⟩⟩ 0 (.none) (.none) (.none)
noncomputable def lI:Obj:=⟨.type "code",none,.fields #[.str ⟨⟨[95,95,105,110,105,116,95,95]⟩⟩ 239,.str ⟨⟨[77,80,85,46,95,95,105,110,105,116,95,95]⟩⟩ 240,.str ⟨⟨[47,99,108,97,105,109,47,99,117,116,46,112,121]⟩⟩ 241,.int 22 0,.int 3 0,.int 0 0,.int 0 0,.int 3 0,.ref 30,.bool true,.int 181 0,.ref 31,.none,.ref 32,.ref 33,.ref 34,.int 245 0,.int 22 0,.str ⟨⟨[47,99,108,97,105,109,47,99,117,116,46,112,121]⟩⟩ 246],#[]⟩
noncomputable def sE:Obj:=fob (.type "function") (cfn 15) ⟨⟨[77,80,85,46,95,95,105,110,105,116,95,95]⟩⟩ 3 (.ref 29) (.str ⟨⟨[112,121,54,53,46,100,101,118,105,99,101,115,46,109,112,117,54,53,48,50]⟩⟩ 194) (.ref 35)
noncomputable def wT(P:Params):St:=⟨(CBX P (Wu P) Vc).fr (zj P (E0++E1++Ei)) 19 (z6 Li),[sE,lI,sD,sC,sB,sA,sz,lH],37,248,293,(je (sAt zF 15))⟩
noncomputable def k5:Value:=.str ⟨⟨[112,121,54,53,46,100,101,118,105,99,101,115,46,109,112,117,54,53,48,50]⟩⟩ 194
noncomputable def aU:Str:=⟨⟨[77,80,85,46]⟩⟩
noncomputable def ai:Str:=⟨⟨[47,99,108,97,105,109,47,99,117,116,46,112,121]⟩⟩
noncomputable def dF(i n:Nat):Obj:=(ddS (sAt zF i)).fn aU k5 n
noncomputable def dC(i n t:Nat):Obj:=(ddS (sAt zF i)).cod aU ai 181 n t
noncomputable def dT(i:Nat):Obj:=(ddS (sAt zF i)).tmp aU
noncomputable def d2(i t:Nat):Obj:=Qy (yx (ddS (sAt zF i)).l2 (t+3+(ddS (sAt zF i)).l1.length))
noncomputable def d1(i t:Nat):Obj:=Qy (yx (ddS (sAt zF i)).l1 (t+3))
noncomputable def uu:List (Nat×Nat×Nat)->List Obj
 | (i,n,t)::r=>dF i n::dC i n t::dT i::d2 i t::d1 i t::Vp []::Qy []::uu r
 | []=>[]
noncomputable def tlc:List Obj:=[Vr j7,Vr yv,Vr yU]++uu ((i2.zip [248,256,263,270,277,285,293,303,310,317,324,331,338,345,354,361,370,379,387,395,402,410,418,426,434,444,454,462,470,478,486,494,503,513,521,539,549,557,565,573,583,600,610,620,628,636,644,651,659,666,673,680,687,694,701,708,715,722,729,736,743,750,757,764,771,778,785,792,799,806,813,820,827,834,841,848,855,862,869,876,883,890,897,904,911,918,925,932,939,946,953,960,967,974,981,988,995,1002,1009,1016,1023,1030,1037,1044,1051,1058,1065,1072,1079,1087,1094,1101,1108,1115,1122,1129,1136,1143,1150,1157,1164,1171,1178,1185,1192,1199,1206,1213,1220,1227,1234,1241,1248,1255,1262,1269,1276,1283,1290,1297,1304,1311,1318,1325,1332,1339,1346,1353,1360,1367,1374,1381,1388,1395,1402,1409,1416,1423,1430,1437,1444,1451,1458,1465,1472,1479,1486,1493,1500,1507,1514,1521,1528,1535,1542,1549,1556,1563,1570,1577,1584,1591,1598,1605,1612,1619,1626,1633,1640,1647,1654,1661,1668,1675,1682,1689,1696,1703]).reverse.map fun p=>(p.1,7*p.1-75,p.2)) ++ [sE,lI,sD,sC,sB,sA,sz,lH]
noncomputable def tli:List Obj:=[sE,lI,sD,sC,sB,sA,sz,lH]
noncomputable def cs0:List Nat:=[431248823355935877809518761742855791807000844596170461659454859005697826828494266368095,311846854000228864309485463735024324664531771123125670067155992772703,251237037156773686243929951060111704715154668469709897823]
noncomputable def csx:List Nat:=[129418098408820522123329618,90611010830414,100540980789321,147011578454370138491901859537730895246327886,185362368717307110037561001731000563880296527,116722227855078752985954340700245,115551878271234243237642306,145340629769511257107975772275790381124,199393259707724386893546732859104424567144742518857,109248140067988635738,137121568945246045708812355,190411256645632040873629289736398823750837940291277226050,247495956352901358989392529480993795759810179132210795105550402,190411256645632040873629289736398823768815445718857941057,247495956352901358989392529480993795759810197109716222686265409,202407200937405600210286083991108972375375967]
noncomputable def cs1:List Nat:=csx.take 15
noncomputable def csi:List Nat:=csx.reverse++cs0
noncomputable def cs2:List Nat:=[0x86570720507b40073,0x93d57b925581d306b50072,0x7f9107920069,0x7689073d006e,0x9d12d06d688925582f408090042,0x9d12d06d6887f2480b2075f0057,0x9d12d06d68965706d8107920057,0xfab7332cf80552067a2e6db154f3eb642a0c964d482894248f9b8b77d4f07920050,0xd10f217c0e7bce1df5635cf7f7d40902c21ca3dbb8716b92557b0d073d0049,0xde16526befba2ea20dade6305f9c4f83c8916f458523f80b206b5005a,0xebf7b792aeb5d18c2e88af7628729cf9c4f83c8916f458523f80b206b5005a,0xebf7b792aeb5d18c2e88b115f20f1df9c4f83c8916f458523f80b206b5005a,0xebf7b792aeb5d18c2e88af7629e17c05a2bb0f328648f9df1970e4074e0049,0xebf7b792aeb5d18c2e88b115f37dfd05a2bb0f328648f9df1970e4074e0049,0xde16526befba2ea20dade63060c7901dad78ea374523f81d306820041,0xebf7b792aeb5d18c2e88af7628729d0c7901dad78ea374523f81d306820041,0xebf7b792aeb5d18c2e88b115f20f1e0c7901dad78ea374523f81d306820041,0xebf7b792aeb5d18c2e88cff1e8acb0db8e75df31662b2b3f0e6d8107920042,0x8cd317a8f3bc5655a5007b40073,0x8ebc78523f5a5007b40073,0xac9178c70764c4b992a02c4317a8f3bc5655a5007b40073,0xa26acc069d8c04726be215bc78523f5a5007b40073,0x817beeb3e5408f3ab8b76d81072c0046,0x52d68725b2592f0770006f,0x60db5238e349610770006f,0x6880d838e355cc0770006f,0x60db5105d34a820770006f,0x6b0d5a38e34a820770006f,0x6880d7b28c4ba30770006f,0x6b0d592c355db30770006f,0x56a949d8ee49610770006f,0x6b0d5978f94a820770006f,0x60db51ec1f5c920770006f,0x6880d7ec1f4de50770006f,0x556308190449610770006f,0x6880d7ec1f5c920770006f,0x52d6874c145db30770006f,0x716c9f4c145db30770006f,0x70265e4c145db30770006f,0x6f08e57f455c5bd4ba30770006f,0x556307f2a25db30770006f,0x6f08e4763082c354cc40770006f,0x6f08e476308d8ee52690770006f,0x52d686190455cc0770006f,0x716c9e190455cc0770006f,0x70265d190455cc0770006f,0x13c68f7216da71baa8f0bde94fc83c6a7416e98c9fa4404842643212eb8b55290316e6745e2f471227b23481d3074e0069,0x4df5d1ee2db1d53987efa91227b23481d3074e0069,0x4f959b8aaeb1d53987efa91227b23481d3074e0069,0x5614c1fcb2b1d53987efa91227b23481d3074e0069,0x57b48b9933b1d53987efa91227b23481d3074e0069,0x5af41ed235b1d53987efa91227b23481d3074e0069,0x5c93e86eb6b1d53987efa91227b23481d3074e0069,0x9d8b68e2deb1d53987efa91227b23481d3074e0069,0xa26ac5b861b1d53987efa91227b23481d3074e0069,0xa40a8f54e2b1d53987efa91227b23481d3074e0069,0x4df5d206a2f7463987efa91227b23481d3074e0069,0x4f959ba323f7463987efa91227b23481d3074e0069,0x5614c21527f7463987efa91227b23481d3074e0069,0x57b48bb1a8f7463987efa91227b23481d3074e0069,0x5af41eeaaaf7463987efa91227b23481d3074e0069,0x5c93e8872bf7463987efa91227b23481d3074e0069,0xa26ac5d0d6f7463987efa91227b23481d3074e0069,0xa40a8f6d57f7463987efa91227b23481d3074e0069,0x4df5d21f183cb73987efa91227b23481d3074e0069,0x4f959bbb993cb73987efa91227b23481d3074e0069,0x5474f8911c3cb73987efa91227b23481d3074e0069,0x5614c22d9d3cb73987efa91227b23481d3074e0069,0x57b48bca1e3cb73987efa91227b23481d3074e0069,0x5af41f03203cb73987efa91227b23481d3074e0069,0x5c93e89fa13cb73987efa91227b23481d3074e0069,0x9d8b6913c93cb73987efa91227b23481d3074e0069,0xa0cafc4ccb3cb73987efa91227b23481d3074e0069,0xa26ac5e94c3cb73987efa91227b23481d3074e0069,0xa40a8f85cd3cb73987efa91227b23481d3074e0069,0x4df5d2378d82283987efa91227b23481d3074e0069,0x4f959bd40e82283987efa91227b23481d3074e0069,0x5614c2461282283987efa91227b23481d3074e0069,0x57b48be29382283987efa91227b23481d3074e0069,0x5af41f1b9582283987efa91227b23481d3074e0069,0x5c93e8b81682283987efa91227b23481d3074e0069,0xa26ac601c182283987efa91227b23481d3074e0069,0xa40a8f9e4282283987efa91227b23481d3074e0069,0x4df5d25002c7993987efa91227b23481d3074e0069,0x4f959bec83c7993987efa91227b23481d3074e0069,0x5614c25e87c7993987efa91227b23481d3074e0069,0x57b48bfb08c7993987efa91227b23481d3074e0069,0x5af41f340ac7993987efa91227b23481d3074e0069,0x5c93e8d08bc7993987efa91227b23481d3074e0069,0x9d8b6944b3c7993987efa91227b23481d3074e0069,0xa0cafc7db5c7993987efa91227b23481d3074e0069,0xa26ac61a36c7993987efa91227b23481d3074e0069,0xa40a8fb6b7c7993987efa91227b23481d3074e0069,0x4df5d268780d0a3987efa91227b23481d3074e0069,0x4f959c04f90d0a3987efa91227b23481d3074e0069,0x5614c276fd0d0a3987efa91227b23481d3074e0069,0x57b48c137e0d0a3987efa91227b23481d3074e0069,0x5af41f4c800d0a3987efa91227b23481d3074e0069,0x5c93e8e9010d0a3987efa91227b23481d3074e0069,0xa26ac632ac0d0a3987efa91227b23481d3074e0069,0xa40a8fcf2d0d0a3987efa91227b23481d3074e0069,0x4df5d280ed527b3987efa91227b23481d3074e0069,0x4f959c1d6e527b3987efa91227b23481d3074e0069,0x5614c28f72527b3987efa91227b23481d3074e0069,0x57b48c2bf3527b3987efa91227b23481d3074e0069,0x5af41f64f5527b3987efa91227b23481d3074e0069,0x5c93e90176527b3987efa91227b23481d3074e0069,0x9d8b69759e527b3987efa91227b23481d3074e0069,0xa0cafcaea0527b3987efa91227b23481d3074e0069,0xa26ac64b21527b3987efa91227b23481d3074e0069,0xa40a8fe7a2527b3987efa91227b23481d3074e0069,0x4df5d2996297ec3987efa91227b23481d3074e0069,0x4f959c35e397ec3987efa91227b23481d3074e0069,0x5614c2a7e797ec3987efa91227b23481d3074e0069,0x57b48c446897ec3987efa91227b23481d3074e0069,0x5af41f7d6a97ec3987efa91227b23481d3074e0069,0x5c93e919eb97ec3987efa91227b23481d3074e0069,0xa26ac6639697ec3987efa91227b23481d3074e0069,0xa40a90001797ec3987efa91227b23481d3074e0069,0x4f959c4e58dd5d3987efa91227b23481d3074e0069,0x5474f923dbdd5d3987efa91227b23481d3074e0069,0x5614c2c05cdd5d3987efa91227b23481d3074e0069,0x57b48c5cdddd5d3987efa91227b23481d3074e0069,0x5af41f95dfdd5d3987efa91227b23481d3074e0069,0x9d8b69a688dd5d3987efa91227b23481d3074e0069,0xa0cafcdf8add5d3987efa91227b23481d3074e0069,0xa26ac67c0bdd5d3987efa91227b23481d3074e0069,0xa40a90188cdd5d3987efa91227b23481d3074e0069,0x4df5d2ca4d22ce3987efa91227b23481d3074e0069,0x4f959c66ce22ce3987efa91227b23481d3074e0069,0x5474f93c5122ce3987efa91227b23481d3074e0069,0x5614c2d8d222ce3987efa91227b23481d3074e0069,0x57b48c755322ce3987efa91227b23481d3074e0069,0x5af41fae5522ce3987efa91227b23481d3074e0069,0x5c93e94ad622ce3987efa91227b23481d3074e0069,0x9d8b69befe22ce3987efa91227b23481d3074e0069,0xa26ac6948122ce3987efa91227b23481d3074e0069,0x4df5d69c9ffc763987efa91227b23481d3074e0069,0x4f95a03920fc763987efa91227b23481d3074e0069,0x513569d5a1fc763987efa91227b23481d3074e0069,0x5474fd0ea3fc763987efa91227b23481d3074e0069,0x5614c6ab24fc763987efa91227b23481d3074e0069,0x57b49047a5fc763987efa91227b23481d3074e0069,0x5af42380a7fc763987efa91227b23481d3074e0069,0x5c93ed1d28fc763987efa91227b23481d3074e0069,0x9d8b6d9150fc763987efa91227b23481d3074e0069,0xa0cb00ca52fc763987efa91227b23481d3074e0069,0xa26aca66d3fc763987efa91227b23481d3074e0069,0xa40a940354fc763987efa91227b23481d3074e0069,0x4df5d6b51541e73987efa91227b23481d3074e0069,0x4f95a0519641e73987efa91227b23481d3074e0069,0x5474fd271941e73987efa91227b23481d3074e0069,0x5614c6c39a41e73987efa91227b23481d3074e0069,0x57b490601b41e73987efa91227b23481d3074e0069,0x5af423991d41e73987efa91227b23481d3074e0069,0x5c93ed359e41e73987efa91227b23481d3074e0069,0x9d8b6da9c641e73987efa91227b23481d3074e0069,0xa0cb00e2c841e73987efa91227b23481d3074e0069,0xa26aca7f4941e73987efa91227b23481d3074e0069,0xa40a941bca41e73987efa91227b23481d3074e0069,0x4df5d6cd8a87583987efa91227b23481d3074e0069,0x4f95a06a0b87583987efa91227b23481d3074e0069,0x5474fd3f8e87583987efa91227b23481d3074e0069,0x5614c6dc0f87583987efa91227b23481d3074e0069,0x57b490789087583987efa91227b23481d3074e0069,0x5af423b19287583987efa91227b23481d3074e0069,0x5c93ed4e1387583987efa91227b23481d3074e0069,0x9d8b6dc23b87583987efa91227b23481d3074e0069,0xa0cb00fb3d87583987efa91227b23481d3074e0069,0xa26aca97be87583987efa91227b23481d3074e0069,0xa40a94343f87583987efa91227b23481d3074e0069,0x4df5d6e5ffccc93987efa91227b23481d3074e0069,0x4f95a08280ccc93987efa91227b23481d3074e0069,0x5614c6f484ccc93987efa91227b23481d3074e0069,0x57b4909105ccc93987efa91227b23481d3074e0069,0x5af423ca07ccc93987efa91227b23481d3074e0069,0x5c93ed6688ccc93987efa91227b23481d3074e0069,0xa26acab033ccc93987efa91227b23481d3074e0069,0xa40a944cb4ccc93987efa91227b23481d3074e0069,0x4df5d6fe75123a3987efa91227b23481d3074e0069,0x4f95a09af6123a3987efa91227b23481d3074e0069,0x5474fd7079123a3987efa91227b23481d3074e0069,0x5614c70cfa123a3987efa91227b23481d3074e0069,0x57b490a97b123a3987efa91227b23481d3074e0069,0x5af423e27d123a3987efa91227b23481d3074e0069,0x5c93ed7efe123a3987efa91227b23481d3074e0069,0x9d8b6df326123a3987efa91227b23481d3074e0069,0xa0cb012c28123a3987efa91227b23481d3074e0069,0xa26acac8a9123a3987efa91227b23481d3074e0069,0xa40a94652a123a3987efa91227b23481d3074e0069,0x4df5d716ea57ab3987efa91227b23481d3074e0069,0x4f95a0b36b57ab3987efa91227b23481d3074e0069,0x5614c7256f57ab3987efa91227b23481d3074e0069,0x57b490c1f057ab3987efa91227b23481d3074e0069,0x5af423faf257ab3987efa91227b23481d3074e0069,0x5c93ed977357ab3987efa91227b23481d3074e0069,0xa26acae11e57ab3987efa91227b23481d3074e0069,0xa40a947d9f57ab3987efa91227b23481d3074e0069,0xb152405a2bc69d79648fab23481d3074e0069,0xa40a9528d4282d989a2d34b7ad18ac6fc308090063,0xd2db55edb339164c7bc688c88d39ddce9ea98bd282f407f80065]
noncomputable def hk1:List Nat:=List.range' 0 15
noncomputable def hk2:List Nat:=List.range' 16 201
noncomputable def hin:List (Nat×Nat):=[63,64,62,62,62,65,66,62,67,68,69,62,62,70,71,62,72,73,62,62,62,74,75,62,76,77,62,62,62,78,79,62,80,81,62,62,82,83,84,62,85,86,87,62,88,89,90,62,91,92,62,62,62,93,94,62,95,96,62,62,62,97,98,62,99,100,62,62,62,101,102,62,103,104,105,62,106,107,108,62,109,110,62,62,62,111,112,62,113,114,62,62,62,115,116,62,117,118,62,62,62,119,120,62,121,122,123,62,124,125,126,62,127,128,62,62,62,129,130,62,131,132,62,62,62,133,134,62,62,135,62,62,136,137,138,62,139,62,140,62,141,142,143,62,144,145,62,62,146,147,148,62,149,150,151,62,62,152,62,62,153,154,155,62,156,157,158,62,159,160,161,62,162,163,164,62,165,166,62,62,167,168,169,62,170,171,172,62,173,174,175,62,176,177,62,62,178,179,180,62,181,182,183,62,184,185,186,62,187,188,62,62,62,189,190,62,191,192,62,62,62,193,194,62,195,196,62,62,197,198,199,62,200,201,202,62,203,204,205,62,206,207,62,62,62,208,209,62,210,211,62,62,62,212,213,62].map fun a=>(a,a+3)
noncomputable def JZ(P:Params):St:=⟨(CBX P (Wu P) Vc).fr (zj P (E0++E1++Ei++E2)) 220 (z6 (Li++L2)),tlc,1426,2225,7622,(je (sAt zF 216))⟩
noncomputable def AN:Nat:=1426
noncomputable def AO:Nat:=2225
noncomputable def AM:Nat:=7622
noncomputable def fY:Nat×Nat×Nat:=(37,248,293)
noncomputable def rU:Nat×Nat×Nat:=(29,238,259)
noncomputable def rS:Nat×Nat×Nat:=(29,208,109)
noncomputable def std(P:Params):St:=⟨(CBX P (Wu P) Vc).fr (zj P (E0++E1++Ei++E2)) 220 (z6 (Li++L2)),tlc,1426,2225,7623,(je yQ)⟩
noncomputable def tI(P:Params):St:=⟨(CBX P (xS P) vK).fr (zj P (E0++E1++Ei++E2++E3)) 221 (z6 (Li++L2)),ZE::ZD::ZC::ZB::Xv::Xu P::ZA::tlc,1433,2249,7970,je (sAt jb 2)⟩
noncomputable def w8(P:Params):St:=⟨(CBX P (xT P) vL).fr (zj P (E0++E1++Ei++E2++E3)) 221 (z6 (Li++L2)),ZE::ZD::ZC::ZB::Xv::Xu P::ZA::tlc,1433,2251,7979,je (sAt jb 3)⟩
noncomputable def tlw(P:Params):List Obj:=wO.reverse++(ZE::ZD::ZC::ZB::Xv::Xu P::ZA::tlc)
noncomputable def xj(P:Params):List Obj:=f7::tlw P
noncomputable def w9(P:Params):St:=⟨(CBX P (xU P) vM).fr (zj P (E0++E1++Ei++E2++E3)) 221 (z6 (Li++L2)),xj P,1524,2742,8799,je (sAt jb 4)⟩
noncomputable def xk(P:Params):List Obj:=sf::f8::se::r9::r8::xj P
noncomputable def xa(P:Params):St:=⟨(CBX P (xV P) vN).fr (zj P (E0++E1++Ei++E2++E3)) 221 (z6 (Li++L2)),xk P,1529,2748,8825,je (sAt jb 5)⟩
noncomputable def xl(P:Params):List Obj:=sq::f9::so::sm::sj::xk P
noncomputable def xb(P:Params):St:=⟨(CBX P (xW P) vO).fr (zj P (E0++E1++Ei++E2++E3)) 221 (z6 (Li++L2)),xl P,1534,2754,8851,je (sAt jb 6)⟩
noncomputable def A8(P:Params):List Obj:=sy::ga::sx::su::sr::xl P
noncomputable def Je(P:Params):St:=⟨(CBX P (uC P) vQ).fr (zj P (E0++E1++Ei++E2++E3)) 221 (z6 (Li++L2)),A8 P,1539,2760,8877,je (sAt jb 7)⟩
noncomputable def de:Code:=.builtin "claim.caller" {}
noncomputable def qN:Code:=.body jb KG
noncomputable def qV:List (Code×Pos):=[(de,default)]
noncomputable def kBC(x:Option (BC α×St)):Result->Sem α:=match x with | some (b,_)=>b.k | none=>fun _=>.unsupported ""
noncomputable def k0(P:Params):Result->Sem Fin:=kBC (yf pw P (hcF pw P 20) de [] (topStub pw).cur (st0 P))
theorem t0(P:Params):yf pw P (hcF pw P 20) de [] (topStub pw).cur (st0 P)=some (⟨jb,KG,none,false,[],k0 P⟩,sta P):=by kernel_rfl
theorem s0(P:Params):zo pw P (hcF pw P 20) qN qV (exec (sAt jb 0) KG) (w6 P)=some (.next,w7 P):=by kernel_rfl
theorem s1(P:Params):zo pw P (hcF pw P 20) qN qV (exec (sAt jb 1) KG) (w7 P)=some (.next,gI P):=by kernel_rfl
noncomputable def XX(P:Params):BC Flow:=match yf pw P (hcF pw P 20) qN qV (exec yQ KG) (gI P) with | some (b,_)=>b | none=>⟨[],KG,none,false,[],fun _=>.unsupported ""⟩
theorem tc(P:Params):yf pw P (hcF pw P 20) qN qV (exec yQ KG) (gI P)=some (⟨zF,Ja,(XX P).h,(XX P).g,(XX P).l,(XX P).k⟩,stc P):=by kernel_rfl
theorem Kb:(Ja.scope.names.all fun e=>e.2==.local)=true:=by kernel_rfl
theorem xO:bx jB.names mF hin rU.1 rU.2.1 rU.2.2 (je (sAt zF (iiN-1))) (zF.take iiN) E1 [] hk1 cs1 E0.reverse cs0 0 rS.1 rS.2.1 rS.2.2 (je yQ)=true:=by kernel_rfl
theorem xP:bx jB.names mF hin AN AO AM (je (sAt zF (zF.length-1))) (zF.drop (iiN+1)) E2 L2 hk2 cs2 (E0++E1++Ei).reverse csi 22 fY.1 fY.2.1 fY.2.2 (je (sAt zF iiN))=true:=by kernel_rfl
theorem tO:cTl aU ai 181 k5 mF (zF.drop (iiN+1)) E2 fY.2.1 tli=tlc:=by kernel_rfl
theorem A4(P:Params):zo pw P (hcF pw P 20) (.body zF Ja) ((qN,je yQ)::qV) (exec (sAt zF iiN) Ja) (wR P)=some (.next,wT P):=by kernel_rfl
theorem w4(P:Params):zo pw P (hcF pw P 20) qN qV ((XX P).k (.ok .next)) (std P)=some (.next,tI P):=by kernel_rfl
theorem s3(P:Params):zo pw P (hcF pw P 20) qN qV (exec (sAt jb 3) KG) (tI P)=some (.next,w8 P):=by kernel_rfl
theorem s4(P:Params):zo pw P (hcF pw P 20) qN qV (exec (sAt jb 4) KG) (w8 P)=some (.next,w9 P):=by kernel_rfl
theorem s5(P:Params):zo pw P (hcF pw P 20) qN qV (exec (sAt jb 5) KG) (w9 P)=some (.next,xa P):=by kernel_rfl
theorem s6(P:Params):zo pw P (hcF pw P 20) qN qV (exec (sAt jb 6) KG) (xa P)=some (.next,xb P):=by kernel_rfl
theorem s7(P:Params):zo pw P (hcF pw P 20) qN qV (exec (sAt jb 7) KG) (xb P)=some (.next,Je P):=by kernel_rfl
end
end MH
section
noncomputable abbrev pwM:=PySem.Challenge.pw_me0007_11
noncomputable def om:List Stmt:=match (pwM.main.body.drop 2).head? with | some (Stmt.ClassDef _ _ _ b _ _ _ _ _ _ _)=>b | _=>[]
noncomputable def cfn(i:Nat):FD:=bG (om.drop i).head?
noncomputable def tfn(i:Nat):FD:=bG (pwM.main.body.drop i).head?
noncomputable def mts:List (Nat×Nat×String)->Frag
 | (i,t,q)::r=>(7*i-70,MH.dC i (7*i-75) t)::(7*i-69,Vq (cfn i) q .none (.str "py65.devices.mpu6502" 194) (7*i-70))::mts r
 | []=>[]
noncomputable def wKs:Nat->List Obj->Frag
 | a,o::r=>(a,o)::wKs (a+1) r
 | _,[]=>[]
noncomputable def KM(P:Params):Frag:=[(3,MH.uC P),(29,MH.lH),(35,MH.lI),(36,Vq (cfn 15) "MPU.__init__" (.ref 29) (.str "py65.devices.mpu6502" 194) 35)]++mts [(16,248, "MPU.step"),(17,256, "MPU.reset"),(20,277, "MPU.ByteAt"),(21,285, "MPU.WordAt"),(22,293, "MPU.WrapAt"),(23,303, "MPU.ProgramCounter"),(24,310, "MPU.ImmediateByte"),(25,317, "MPU.ZeroPageAddr"),(29,345, "MPU.IndirectYAddr"),(31,361, "MPU.AbsoluteXAddr"),(32,370, "MPU.AbsoluteYAddr"),(33,379, "MPU.BranchRelAddr"),(34,387, "MPU.stPush"),(35,395, "MPU.stPop"),(36,402, "MPU.stPushWord"),(37,410, "MPU.stPopWord"),(38,418, "MPU.FlagsNZ"),(39,426, "MPU.opORA"),(40,434, "MPU.opASL"),(41,444, "MPU.opLSR"),(42,454, "MPU.opBCL"),(44,470, "MPU.opCLR"),(45,478, "MPU.opSET"),(46,486, "MPU.opAND"),(47,494, "MPU.opBIT"),(48,503, "MPU.opROL"),(49,513, "MPU.opEOR"),(50,521, "MPU.opADC"),(51,539, "MPU.opROR"),(52,549, "MPU.opSTA"),(53,557, "MPU.opSTY"),(54,565, "MPU.opSTX"),(55,573, "MPU.opCMPR"),(56,583, "MPU.opSBC"),(57,600, "MPU.opDECR"),(58,610, "MPU.opINCR"),(59,620, "MPU.opLDA"),(60,628, "MPU.opLDY"),(61,636, "MPU.opLDX"),(65,666, "MPU.inst_0x05"),(67,680, "MPU.inst_0x08"),(68,687, "MPU.inst_0x09"),(69,694, "MPU.inst_0x0a"),(76,743, "MPU.inst_0x18"),(80,771, "MPU.inst_0x20"),(82,785, "MPU.inst_0x24"),(83,792, "MPU.inst_0x25"),(85,806, "MPU.inst_0x28"),(86,813, "MPU.inst_0x29"),(87,820, "MPU.inst_0x2a"),(95,876, "MPU.inst_0x38"),(102,925, "MPU.inst_0x46"),(103,932, "MPU.inst_0x48"),(104,939, "MPU.inst_0x49"),(117,1030, "MPU.inst_0x60"),(119,1044, "MPU.inst_0x65"),(120,1051, "MPU.inst_0x66"),(121,1058, "MPU.inst_0x68"),(122,1065, "MPU.inst_0x69"),(123,1072, "MPU.inst_0x6a"),(136,1164, "MPU.inst_0x84"),(137,1171, "MPU.inst_0x85"),(138,1178, "MPU.inst_0x86"),(139,1185, "MPU.inst_0x88"),(140,1192, "MPU.inst_0x8a"),(145,1227, "MPU.inst_0x91"),(149,1255, "MPU.inst_0x98"),(151,1269, "MPU.inst_0x9a"),(152,1276, "MPU.inst_0x9d"),(153,1283, "MPU.inst_0xa0"),(155,1297, "MPU.inst_0xa2"),(156,1304, "MPU.inst_0xa4"),(157,1311, "MPU.inst_0xa5"),(158,1318, "MPU.inst_0xa6"),(160,1332, "MPU.inst_0xa9"),(161,1339, "MPU.inst_0xaa"),(166,1374, "MPU.inst_0xb1"),(170,1402, "MPU.inst_0xb8"),(171,1409, "MPU.inst_0xb9"),(172,1416, "MPU.inst_0xba"),(174,1430, "MPU.inst_0xbd"),(180,1472, "MPU.inst_0xc6"),(181,1479, "MPU.inst_0xc8"),(182,1486, "MPU.inst_0xc9"),(183,1493, "MPU.inst_0xca"),(187,1521, "MPU.inst_0xd0"),(195,1577, "MPU.inst_0xe0"),(198,1598, "MPU.inst_0xe5"),(199,1605, "MPU.inst_0xe6"),(200,1612, "MPU.inst_0xe8"),(201,1619, "MPU.inst_0xe9")] ++ [(1423,Vr MH.yU),(1424,Vr MH.yv),(1425,Vr MH.j7),(1427,MH.Xu P),(1428,MH.Xv)]++wKs 1433 MH.wO ++ [(1523,MH.f7),(1527,MH.f8),(1528,Vq (tfn 5) "_law_tell" (.none) (.str "law_me0007_11" 2249) 1527),(1532,MH.f9),(1533,Vq (tfn 6) "_law_filled" (.none) (.str "law_me0007_11" 2249) 1532),(1537,MH.ga),(1538,Vq (tfn 7) "law" (.none) (.str "law_me0007_11" 2249) 1537)]
noncomputable def AA:List Addr:=[3,29,35,36]++([16,17,20,21,22,23,24,25,29,31,32,33,34,35,36,37,38,39,40,41,42,44,45,46,47,48,49,50,51,52,53,54,55,56,57,58,59,60,61,65,67,68,69,76,80,82,83,85,86,87,95,102,103,104,117,119,120,121,122,123,136,137,138,139,140,145,149,151,152,153,155,156,157,158,160,161,166,170,171,172,174,180,181,182,183,187,195,198,199,200,201].flatMap fun i=>[7*i-70,7*i-69])++([1423,1424,1425,1427,1428]++(List.range' 1433 90 ++ [1523,1527,1528,1532,1533,1537,1538]))
noncomputable def KMt(P:Params):Frag:=(80,tabObj #[])::KM P
noncomputable def AB:List Addr:=80::AA
noncomputable def ixd(d:Nat):Nat:=cond (Nat.ble d 9) (d+48) (d+87)
noncomputable def ix(n:Nat):Str:=⟨⟨[105,110,115,116,95,48,120,ixd (n/16),ixd (n%16)]⟩⟩
noncomputable def nmL:List Str:=[⟨⟨[115,101,108,102]⟩⟩,⟨⟨[109,101,109,111,114,121]⟩⟩,⟨⟨[112,99]⟩⟩,⟨⟨[110,97,109,101]⟩⟩,⟨⟨[98,121,116,101,77,97,115,107]⟩⟩,⟨⟨[97,100,100,114,77,97,115,107]⟩⟩,⟨⟨[97,100,100,114,72,105,103,104,77,97,115,107]⟩⟩,⟨⟨[115,112,66,97,115,101]⟩⟩,⟨⟨[101,120,99,121,99,108,101,115]⟩⟩,⟨⟨[97,100,100,99,121,99,108,101,115]⟩⟩,⟨⟨[112,114,111,99,101,115,115,111,114,67,121,99,108,101,115]⟩⟩,⟨⟨[115,116,97,114,116,95,112,99]⟩⟩,⟨⟨[66,89,84,69,95,87,73,68,84,72]⟩⟩,⟨⟨[114,101,115,101,116]⟩⟩,⟨⟨[65,68,68,82,95,87,73,68,84,72]⟩⟩,⟨⟨[105,110,115,116,114,117,99,116,67,111,100,101]⟩⟩,⟨⟨[101,120,116,114,97,99,121,99,108,101,115]⟩⟩,⟨⟨[105,110,115,116,114,117,99,116]⟩⟩,⟨⟨[99,121,99,108,101,116,105,109,101]⟩⟩,⟨⟨[115,112]⟩⟩,⟨⟨[97]⟩⟩,⟨⟨[120]⟩⟩,⟨⟨[121]⟩⟩,⟨⟨[112]⟩⟩,⟨⟨[66,82,69,65,75]⟩⟩,⟨⟨[85,78,85,83,69,68]⟩⟩,⟨⟨[87,111,114,100,65,116]⟩⟩,⟨⟨[82,69,83,69,84]⟩⟩,⟨⟨[95,119,97,108,108]⟩⟩,⟨⟨[97,100,100,114]⟩⟩,⟨⟨[66,121,116,101,65,116]⟩⟩,⟨⟨[119,114,97,112]⟩⟩,⟨⟨[87,114,97,112,65,116]⟩⟩,⟨⟨[97,49]⟩⟩,⟨⟨[97,50]⟩⟩,⟨⟨[73,109,109,101,100,105,97,116,101,66,121,116,101]⟩⟩,⟨⟨[78,69,71,65,84,73,86,69]⟩⟩,⟨⟨[122]⟩⟩,⟨⟨[115,116,80,117,115,104]⟩⟩,⟨⟨[115,116,80,111,112]⟩⟩,⟨⟨[118,97,108,117,101]⟩⟩,⟨⟨[90,69,82,79]⟩⟩,⟨⟨[70,108,97,103,115,78,90]⟩⟩,⟨⟨[116,98,121,116,101]⟩⟩,⟨⟨[67,65,82,82,89]⟩⟩,⟨⟨[66,114,97,110,99,104,82,101,108,65,100,100,114]⟩⟩,⟨⟨[79,86,69,82,70,76,79,87]⟩⟩,⟨⟨[100,97,116,97]⟩⟩,⟨⟨[68,69,67,73,77,65,76]⟩⟩,⟨⟨[104,97,108,102,99,97,114,114,121]⟩⟩,⟨⟨[100,101,99,105,109,97,108,99,97,114,114,121]⟩⟩,⟨⟨[97,100,106,117,115,116,48]⟩⟩,⟨⟨[97,100,106,117,115,116,49]⟩⟩,⟨⟨[110,105,98,98,108,101,48]⟩⟩,⟨⟨[110,105,98,98,108,101,49]⟩⟩,⟨⟨[97,108,117,114,101,115,117,108,116]⟩⟩,⟨⟨[114,101,115,117,108,116]⟩⟩,⟨⟨[116,109,112]⟩⟩,⟨⟨[103,101,116,95,97,100,100,114,101,115,115]⟩⟩,⟨⟨[114,101,103,105,115,116,101,114,95,118,97,108,117,101]⟩⟩,⟨⟨[73,78,84,69,82,82,85,80,84]⟩⟩,⟨⟨[115,116,80,117,115,104,87,111,114,100]⟩⟩,⟨⟨[73,82,81]⟩⟩,⟨⟨[111,112,79,82,65]⟩⟩,⟨⟨[73,110,100,105,114,101,99,116,88,65,100,100,114]⟩⟩,⟨⟨[90,101,114,111,80,97,103,101,65,100,100,114]⟩⟩,⟨⟨[111,112,65,83,76]⟩⟩,⟨⟨[80,114,111,103,114,97,109,67,111,117,110,116,101,114]⟩⟩,⟨⟨[65,98,115,111,108,117,116,101,65,100,100,114]⟩⟩,⟨⟨[111,112,66,67,76]⟩⟩,⟨⟨[73,110,100,105,114,101,99,116,89,65,100,100,114]⟩⟩,⟨⟨[90,101,114,111,80,97,103,101,88,65,100,100,114]⟩⟩,⟨⟨[111,112,67,76,82]⟩⟩,⟨⟨[65,98,115,111,108,117,116,101,89,65,100,100,114]⟩⟩,⟨⟨[65,98,115,111,108,117,116,101,88,65,100,100,114]⟩⟩,⟨⟨[111,112,65,78,68]⟩⟩,⟨⟨[111,112,66,73,84]⟩⟩,⟨⟨[111,112,82,79,76]⟩⟩,⟨⟨[111,112,66,83,84]⟩⟩,⟨⟨[111,112,83,69,84]⟩⟩,⟨⟨[115,116,80,111,112,87,111,114,100]⟩⟩,⟨⟨[111,112,69,79,82]⟩⟩,⟨⟨[111,112,76,83,82]⟩⟩,⟨⟨[111,112,65,68,67]⟩⟩,⟨⟨[111,112,82,79,82]⟩⟩,⟨⟨[116,97]⟩⟩,⟨⟨[111,112,83,84,65]⟩⟩,⟨⟨[111,112,83,84,89]⟩⟩,⟨⟨[111,112,83,84,88]⟩⟩,⟨⟨[90,101,114,111,80,97,103,101,89,65,100,100,114]⟩⟩,⟨⟨[111,112,76,68,89]⟩⟩,⟨⟨[111,112,76,68,65]⟩⟩,⟨⟨[111,112,76,68,88]⟩⟩,⟨⟨[111,112,67,77,80,82]⟩⟩,⟨⟨[111,112,68,69,67,82]⟩⟩,⟨⟨[111,112,83,66,67]⟩⟩,⟨⟨[111,112,73,78,67,82]⟩⟩,⟨⟨[78,77,73]⟩⟩,⟨⟨[95,95,105,110,105,116,95,95]⟩⟩,⟨⟨[115,116,101,112]⟩⟩,⟨⟨[105,114,113]⟩⟩,⟨⟨[110,109,105]⟩⟩,⟨⟨[105,110,115,116,95,110,111,116,95,105,109,112,108,101,109,101,110,116,101,100]⟩⟩]++([0,1,5,6,8,9,10,13,14,16,17,21,22,24,25,29,30,32,33,36,37,38,40,41,42,44,45,46,48,49,53,54,56,57,61,62,64,65,69,70,72,73,74,76,77,78,80,81,85,86,88,89,93,94,96,97,101,102,104,105,106,108,109,110,112,113,117,118,120,121,125,126,129,132,133,134,136,138,140,141,142,144,145,148,149,150,152,153,154,157,160,161,162,164,165,166,168,169,170,172,173,174,176,177,180,181,182,184,185,186,188,189,190,192,193,196,197,198,200,201,202,204,205,206,208,209,213,214,216,217,221,222,224,225,228,229,230,232,233,234,236,237,238,240,241,245,246,248,249,253,254].map ix ++ [⟨⟨[108,101,110]⟩⟩,⟨⟨[115,117,109]⟩⟩,⟨⟨[109,97,120]⟩⟩,⟨⟨[109,105,110]⟩⟩,⟨⟨[100,105,118,109,111,100]⟩⟩,⟨⟨[114,97,110,103,101]⟩⟩,⟨⟨[101,110,117,109,101,114,97,116,101]⟩⟩,⟨⟨[122,105,112]⟩⟩,⟨⟨[77,80,85]⟩⟩,⟨⟨[100,114,97,119,110]⟩⟩,⟨⟨[115,99,114,105,112,116]⟩⟩,⟨⟨[115,101,101,100]⟩⟩,⟨⟨[114,111,119]⟩⟩,⟨⟨[112,108,97,99,101]⟩⟩,⟨⟨[111,116,104,101,114]⟩⟩,⟨⟨[111,110,101]⟩⟩,⟨⟨[116,119,111]⟩⟩,⟨⟨[115,116,111,112,115]⟩⟩,⟨⟨[110,101,97,114]⟩⟩,⟨⟨[102,97,114]⟩⟩,⟨⟨[100,101,112,116,104]⟩⟩,⟨⟨[110,117,109,98,101,114]⟩⟩,⟨⟨[107,105,110,100]⟩⟩,⟨⟨[102,105,108,108]⟩⟩,⟨⟨[95,108,97,119,95,119,111,114,100,115]⟩⟩,⟨⟨[114,105,99,104]⟩⟩,⟨⟨[112,111,111,114]⟩⟩,⟨⟨[111,99,116,101,116]⟩⟩,⟨⟨[95,108,97,119,95,102,105,108,108,101,100]⟩⟩,⟨⟨[112,108,97,105,110]⟩⟩,⟨⟨[115,116,97,116,101]⟩⟩,⟨⟨[109,97,99,104,105,110,101]⟩⟩,⟨⟨[115,116,111,112]⟩⟩,⟨⟨[116,117,114,110]⟩⟩,⟨⟨[95,108,97,119,95,116,101,108,108]⟩⟩,⟨⟨[110]⟩⟩,⟨⟨[118]⟩⟩,⟨⟨[99]⟩⟩,⟨⟨[115]⟩⟩,⟨⟨[115,112,111,116]⟩⟩,⟨⟨[116,111,108,100]⟩⟩,⟨⟨[112,97,105,114,115]⟩⟩,⟨⟨[98,105,116]⟩⟩,⟨⟨[112,97,105,114]⟩⟩,⟨⟨[114,101,115,116]⟩⟩,⟨⟨[115,105,103,110,101,100]⟩⟩,⟨⟨[111,99,116,101,116,115]⟩⟩])
noncomputable def nmM(i:Nat):Str:=bW nmL i
noncomputable def vP(v:Value):PV:=match v with
 | .ref a=>.top a
 | .int i _=>.int i
 | _=>.none
noncomputable def nW:List (Addr×List PV):=[(1424,MH.yv.map vP),(1425,MH.j7.map vP),(1423,MH.yU.map vP),(1523,(List.range' 0 30).map fun i=>.top (1435+3*i))]++(List.range' 0 30).map fun i=>(1435+3*i,[.top (1433+3*i),.top (1434+3*i)])
noncomputable def cq:Addr->List PV:=Vi nW
noncomputable def wFL:Nat->List (List Int×List Int)->List (Addr×List PV)
 | a,(xs,ys)::r=>(a,xs.map .int)::(a+1,ys.map .int)::wFL (a+3) r
 | _,[]=>[]
noncomputable def gN:List (Addr×List PV):=wFL 1433 MH.wlT
noncomputable def Jv:Addr->List PV:=Vi gN
noncomputable def fnL:List Addr:=[1538,1528,1533,43,50,36,386,400,407,414,463,491,505,512,526,533,540,596,645,652,659,750,764,771,778,785,792,883,890,897,904,911,946,974,988,995,1002,1016,1023,1030,1037,1051,1058,1093,1121,1128,1135,1149,1191,1198,1205,1212,1240,1296,1317,1324,1331,1338,78,204,106,169,92,211,239,183,260,253,176,267,246,218,274,190,281,288,197,302,295,309,134,148,351,358,344,155,330,316,225,323,337,71,85,162,99]
noncomputable def pmM(cels:List (Nat×Nat)):Pm where
 atts:=[20,9,6,5,4,8,1,3,23,2,10,19,7,11,21,22]
 cis:=[(14,16),(24,16),(12,8),(44,1),(48,8),(36,128),(46,64),(27,65532),(25,32),(41,2)]
 cts:=[(18,1424),(16,1425),(17,1423)]
 mths:=[(74,148),(73,155),(45,162),(30,71),(42,197),(35,99),(70,134),(67,92),(26,78),(32,85),(65,106),(83,281),(75,253),(66,211),(69,225),(76,260),(72,239),(93,316),(94,330),(81,274),(96,337),(91,344),(92,358),(90,351),(82,218),(63,204),(77,267),(84,288),(95,323),(79,246),(86,295),(88,309),(87,302),(13,50),(39,176),(80,190),(38,169),(61,183),(99,43)]
 tops:=[(262,1428),(282,1533),(288,1528),(278,1523)]
 gis:=[]
 blts:=[(258,.divmod),(254,.len),(256,.maxT),(257,.minT),(255,.sum),(255,.sumT)]
 rngs:=[259]
 enms:=[260]
 zips:=[]
 cels:=cels
 n1 := "memory"
 n2 := "pc"
noncomputable def piM(cels:List (Nat×Nat))(base:Nat)(arg:PV->Option (List Int))(ctr:List PV->List PO->(PV->List PO->Prop)->Prop):Pi where
 toPm:=pmM cels
 tab:=cq
 tabL:=Jv
 fnT:=fun a=>fnL.any (Nat.beq a)
 base:=base
 cvs:=[]
 arg:=arg
 ctr:=ctr
 C:=1428
noncomputable def Jk:List IS:=[.name 263 (.bin (.add false) .Add (.slice false (.loc 264) none (some (.int 9))) (.list false [.bin .i .Add (.int 11) (.bin .i .Mod (.argL 254 264) (.int 5))])),.cel 265 0 (.bin .i .Mod (.blt .sum 255 [.loc 263]) (.int 65536)),.rowR 266 267 (.bin .i .Mod (.bin .i .Add (.bin .i .Mult (.int 29) (.cv 267)) (.cel 265 0)) (.int 256)) 259 [.int 64],.name 1 (.bin (.add true) .Add (.bin (.add false) .Add (.bin (.add false) .Add (.bin (.mul false) .Mult (.loc 266) (.int 4)) (.bin (.mul false) .Mult (.list false [.int 0]) (.int 256))) (.bin (.mul false) .Mult (.rev false (.loc 266)) (.int 8))) (.bin (.mul false) .Mult (.list false [.int 0]) (.int 512))),.slp (.loc 1) (some (.int 224)) (some (.int 226)) (.list false [.bin .i .Mod (.cel 265 0) (.int 256),.int 2]),.slp (.loc 1) (some (.int 1024)) (some (.int 1026)) (.list false [.int 200,.int 96]),.name 268 (.slice true (.loc 1) none none),.name 23 (.bin .i .Add (.bin .i .Add (.int 48) (.bin .i .Mod (.cel 265 0) (.int 8))) (.bin .i .Mult (.int 64) (.bin .i .Mod (.bin .i .FloorDiv (.cel 265 0) (.int 8)) (.int 4)))),.name 269 (.ctor (.top 262 1428) (.loc 1) (.int 1040)),.name 270 (.ctor (.top 262 1428) (.loc 268) (.int 1040)),.tup [.attr 269 20,.attr 269 21,.attr 269 22,.attr 269 23] (.tup [.bin .i .Mod (.cel 265 0) (.int 256),.bin .i .Mod (.bin .i .FloorDiv (.cel 265 0) (.int 3)) (.int 256),.bin .i .Mod (.bin .i .FloorDiv (.cel 265 0) (.int 7)) (.int 256),.loc 23]),.tup [.attr 270 20,.attr 270 21,.attr 270 22,.attr 270 23] (.tup [.bin .i .Mod (.cel 265 0) (.int 256),.bin .i .Mod (.bin .i .FloorDiv (.cel 265 0) (.int 3)) (.int 256),.bin .i .Mod (.bin .i .FloorDiv (.cel 265 0) (.int 7)) (.int 256),.loc 23]),.name 271 (.list true []),.tup [.name 272,.name 273,.name 274] (.tup [.int 1040,.int 1040,.int 0])]
noncomputable def US:List IS:=[.keep [263,1,268,269,270,271,272,273,274],.forS (.name 275) (.loc 263) [.name 276 (.bin .i .Mod (.loc 275) (.int 30)),.name 40 (.bin .i .Mod (.bin .i .FloorDiv (.loc 275) (.int 30)) (.int 256)),.ite (.and [.cmp .i .Eq (.loc 276) (.int 22),.cmp .i .Eq (.loc 274) (.int 0)]) [.name 276 (.int 21)] [],.ite (.cmp .i .Eq (.loc 276) (.int 21)) [.aname 274 .Add (.int 1)] [],.ite (.cmp .i .Eq (.loc 276) (.int 22)) [.aname 274 .Sub (.int 1)] [],.name 277 (.list false [.loc 40,.bin .i .Sub (.int 255) (.loc 40),.bin .i .Mod (.loc 40) (.int 128),.bin .i .Mod (.cel 265 0) (.int 256)]),.tupG [.name 279,.name 280] (.sub (.top 278 1523) (.loc 276)),.forS (.name 281) (.callv (.top 282 1533) [.loc 279,.loc 277]) [.put (.loc 1) (.loc 272) (.loc 281),.aname 272 .Add (.int 1)],.forS (.name 281) (.callv (.top 282 1533) [.loc 280,.loc 277]) [.put (.loc 268) (.loc 273) (.loc 281),.aname 273 .Add (.int 1)],.expr (.append (.loc 271) (.tup [.loc 272,.loc 273,.loc 276,.loc 40])),.keep [263,1,268,269,270,271,272,273,274]]]
noncomputable def Jl:List IS:=[.name 283 (.slice true (.loc 1) none none),.name 284 (.list false [.bin .i .Mod (.cel 265 0) (.int 256),.bin .i .Mod (.bin .i .FloorDiv (.cel 265 0) (.int 3)) (.int 256),.bin .i .Mod (.bin .i .FloorDiv (.cel 265 0) (.int 7)) (.int 256),.int 255,.bin .i .Mod (.bin .i .FloorDiv (.cel 265 0) (.int 16)) (.int 2),.bin .i .Mod (.bin .i .FloorDiv (.cel 265 0) (.int 8)) (.int 2),.bin .i .Mod (.bin .i .FloorDiv (.cel 265 0) (.int 2)) (.int 2),.bin .i .Mod (.cel 265 0) (.int 2)])]
noncomputable def y6:List IS:=[.frz 271,.keep [1,268,269,270,283,284,271],.forT [.name 272,.name 273,.name 276,.name 40] (.loc 271) [.forT [.name 285,.name 286] (.list false [.tup [.loc 269,.loc 272],.tup [.loc 270,.loc 273]]) [.forR (.name 287) 259 [.int 30] [.ite (.cmp .i .Eq (.attr 285 2) (.loc 286)) [.brk] [],.expr (.mcall 285 99 43 [])],.ite (.cmp .i .NotEq (.attr 285 2) (.loc 286)) [.ret (.bool false)] []],.ite (.cmp .t .NotEq (.tup [.attr 269 20,.attr 269 21,.attr 269 22,.attr 269 19,.attr 269 23]) (.tup [.attr 270 20,.attr 270 21,.attr 270 22,.attr 270 19,.attr 270 23])) [.ret (.bool false)] [],.name 284 (.callv (.top 288 1528) [.loc 284,.loc 283,.loc 276,.loc 40,.loc 272,.cel 265 0]),.tup [.name 289,.name 290,.name 37,.name 291] (.slice false (.loc 284) (some (.int 4)) none),.ite (.cmp .l .NotEq (.list false [.attr 269 20,.attr 269 21,.attr 269 22,.attr 269 19,.attr 269 23]) (.bin (.add false) .Add (.slice false (.loc 284) none (some (.int 4))) (.list false [.bin .i .Add (.bin .i .Add (.bin .i .Add (.bin .i .Add (.bin .i .Add (.int 48) (.bin .i .Mult (.int 4) (.bin .i .Mod (.bin .i .FloorDiv (.cel 265 0) (.int 4)) (.int 2)))) (.bin .i .Mult (.int 128) (.loc 289))) (.bin .i .Mult (.int 64) (.loc 290))) (.bin .i .Mult (.int 2) (.loc 37))) (.loc 291)]))) [.ret (.bool false)] [],.ite (.or [.cmp .l .NotEq (.slice false (.loc 1) none (some (.int 250))) (.slice false (.loc 268) none (some (.int 250))),.cmp .l .NotEq (.slice false (.loc 1) (some (.int 254)) (some (.int 256))) (.slice false (.loc 268) (some (.int 254)) (some (.int 256)))]) [.ret (.bool false)] [],.ite (.or [.cmp .l .NotEq (.slice false (.loc 1) (some (.bin .i .Add (.int 257) (.attr 269 19))) (some (.int 512))) (.slice false (.loc 268) (some (.bin .i .Add (.int 257) (.attr 269 19))) (some (.int 512))),.cmp .l .NotEq (.slice false (.loc 1) (some (.int 512)) (some (.int 1026))) (.slice false (.loc 268) (some (.int 512)) (some (.int 1026)))]) [.ret (.bool false)] [],.keep [1,268,269,270,283,284]]]
noncomputable def yj:List IS:=[.ret (.cmp .l .Eq (.loc 1) (.loc 283))]
noncomputable def UR:List IS:=Jk++(US++(Jl++(y6++(yj))))
noncomputable def zX:List IS:=[.tup [.cel 20 1,.name 21,.name 22,.name 292,.name 289,.name 290,.name 37,.name 291] (.loc 284),.cel 293 0 (.bin .i .Mod (.cel 40 2) (.int 128)),.name 294 .none,.ite (.cmp .i .Lt (.cel 276 3) (.int 2)) [.two (.name 21) (.name 294) (.bin .i .Mod (.bin .i .Sub (.bin .i .Add (.loc 21) (.int 1)) (.bin .i .Mult (.int 2) (.cel 276 3))) (.int 256))] [.ite (.cmp .i .Lt (.cel 276 3) (.int 4)) [.two (.name 22) (.name 294) (.bin .i .Mod (.bin .i .Sub (.bin .i .Add (.loc 22) (.int 5)) (.bin .i .Mult (.int 2) (.cel 276 3))) (.int 256))] [.ite (.cmp .i .Lt (.cel 276 3) (.int 6)) [.two (.sub (.cel 283 4) (.cel 293 0)) (.name 294) (.bin .i .Mod (.bin .i .Sub (.bin .i .Add (.sub (.cel 283 4) (.cel 293 0)) (.int 9)) (.bin .i .Mult (.int 2) (.cel 276 3))) (.int 256))] [.ite (.cmp .i .Lt (.cel 276 3) (.int 9)) [.rowT 295 296 (.tup [.bin .i .Mod (.bin .i .FloorDiv (.cel 20 1) (.bin .i .Pow (.int 2) (.cv 296))) (.int 2),.bin .i .Mod (.bin .i .FloorDiv (.cel 40 2) (.bin .i .Pow (.int 2) (.cv 296))) (.int 2)]) 259 [.int 8],.two (.cel 20 1) (.name 294) (.blt .sum 255 [.compE false 296 297 (.bin .i .Mult (.sub (.list false [.bin .i .Mod (.blt .sumT 255 [.cv 297]) (.int 2),.blt .maxT 256 [.cv 297],.blt .minT 257 [.cv 297]]) (.bin .i .Sub (.cel 276 3) (.int 6))) (.bin .i .Pow (.int 2) (.cv 296))) 260 [.loc 295]])] [.ite (.or [.cmp .i .Eq (.cel 276 3) (.int 9),.cmp .i .Eq (.cel 276 3) (.int 11)]) [.tup [.name 291,.cel 20 1] (.blt .divmod 258 [.bin .i .Add (.bin .i .Mult (.int 2) (.cel 20 1)) (.ite (.cmp .i .Eq (.cel 276 3) (.int 11)) (.loc 291) (.int 0)),.int 256]),.name 294 (.cel 20 1)] [.ite (.cmp .i .Eq (.cel 276 3) (.int 10)) [.tup [.sub (.cel 283 4) (.cel 293 0),.name 291] (.blt .divmod 258 [.sub (.cel 283 4) (.cel 293 0),.int 2]),.name 294 (.sub (.cel 283 4) (.cel 293 0))] [.ite (.cmp .i .Eq (.cel 276 3) (.int 12)) [.swap [294,291] (.tup [.bin .i .Add (.bin .i .FloorDiv (.cel 20 1) (.int 2)) (.bin .i .Mult (.int 128) (.loc 291)),.bin .i .Mod (.cel 20 1) (.int 2)]),.cel 20 1 (.loc 294)] [.ite (.or [.cmp .i .Eq (.cel 276 3) (.int 13),.cmp .i .Eq (.cel 276 3) (.int 26)]) [.name 298 (.bin .i .Sub (.ite (.cmp .i .Eq (.cel 276 3) (.int 13)) (.cel 20 1) (.loc 21)) (.cel 40 2)),.swap [294,291] (.tup [.bin .i .Mod (.loc 298) (.int 256),.ite (.cmp .i .GtE (.loc 298) (.int 0)) (.int 1) (.int 0)])] [.ite (.cmp .i .Lt (.cel 276 3) (.int 16)) [.name 268 (.ite (.cmp .i .Eq (.cel 276 3) (.int 14)) (.bin .i .Sub (.int 255) (.cel 40 2)) (.sub (.cel 283 4) (.cel 293 0))),.name 299 (.bin .i .Add (.blt .sum 255 [.compL false 281 (.ite (.cmp .i .Gt (.cv 281) (.int 127)) (.bin .i .Sub (.cv 281) (.int 256)) (.cv 281)) (.list false [.cel 20 1,.loc 268])]) (.loc 291)),.name 290 (.ite (.chain .Lt .Lt (.un .USub (.int 129)) (.loc 299) (.int 128)) (.int 0) (.int 1)),.tup [.name 291,.cel 20 1] (.blt .divmod 258 [.bin .i .Add (.bin .i .Add (.cel 20 1) (.loc 268)) (.loc 291),.int 256]),.name 294 (.cel 20 1)] [.ite (.cmp .i .Eq (.cel 276 3) (.int 16)) [.two (.name 21) (.name 294) (.cel 20 1)] [.ite (.cmp .i .Eq (.cel 276 3) (.int 17)) [.two (.cel 20 1) (.name 294) (.loc 22)] [.ite (.cmp .i .Eq (.cel 276 3) (.int 18)) [.swap [289,290] (.tup [.bin .i .FloorDiv (.sub (.cel 283 4) (.cel 293 0)) (.int 128),.bin .i .Mod (.bin .i .FloorDiv (.sub (.cel 283 4) (.cel 293 0)) (.int 64)) (.int 2)]),.name 37 (.ite (.compT false 296 (.cmp .i .Eq (.bin .i .Add (.bin .i .Mod (.bin .i .FloorDiv (.cel 20 1) (.bin .i .Pow (.int 2) (.cv 296))) (.int 2)) (.bin .i .Mod (.bin .i .FloorDiv (.sub (.cel 283 4) (.cel 293 0)) (.bin .i .Pow (.int 2) (.cv 296))) (.int 2))) (.int 2)) (.cv 296) 259 [.int 8]) (.int 0) (.int 1))] [.ite (.cmp .i .Eq (.cel 276 3) (.int 19)) [.name 291 (.int 1)] [.ite (.cmp .i .Eq (.cel 276 3) (.int 20)) [.name 290 (.int 0)] [.ite (.cmp .i .Eq (.cel 276 3) (.int 21)) [.put (.cel 283 4) (.bin .i .Add (.int 256) (.loc 292)) (.cel 20 1),.name 292 (.bin .i .Sub (.loc 292) (.int 1))] [.ite (.cmp .i .Eq (.cel 276 3) (.int 22)) [.name 292 (.bin .i .Add (.loc 292) (.int 1)),.two (.cel 20 1) (.name 294) (.sub (.cel 283 4) (.bin .i .Add (.int 256) (.loc 292)))] [.ite (.cmp .i .Eq (.cel 276 3) (.int 23)) [.tup [.sub (.cel 283 4) (.bin .i .Add (.int 256) (.loc 292)),.sub (.cel 283 4) (.bin .i .Add (.int 255) (.loc 292))] (.tup [.bin .i .FloorDiv (.bin .i .Sub (.loc 272) (.int 1)) (.int 256),.bin .i .Mod (.bin .i .Sub (.loc 272) (.int 1)) (.int 256)]),.two (.name 22) (.name 294) (.bin .i .Mod (.bin .i .Add (.loc 22) (.int 1)) (.int 256))] [.ite (.cmp .i .Eq (.cel 276 3) (.int 24)) [.put (.cel 283 4) (.cel 293 0) (.loc 21)] [.ite (.cmp .i .Eq (.cel 276 3) (.int 25)) [.two (.name 21) (.name 294) (.cel 40 2)] [.ite (.cmp .i .Eq (.cel 276 3) (.int 28)) [.put (.cel 283 4) (.bin .i .Add (.bin .i .Add (.int 512) (.cel 40 2)) (.loc 21)) (.cel 20 1)] [.two (.cel 20 1) (.name 294) (.sub (.cel 283 4) (.bin .i .Add (.int 512) (.ite (.cmp .i .Eq (.cel 276 3) (.int 27)) (.bin .i .Add (.cel 40 2) (.loc 21)) (.bin .i .Add (.bin .i .Mod (.loc 265) (.int 256)) (.loc 22)))))]]]]]]]]]]]]]]]]]]]],.ite (.cmp .i .IsNot (.loc 294) .none) [.swap [289,37] (.tup [.bin .i .FloorDiv (.loc 294) (.int 128),.ite (.cmp .i .Eq (.loc 294) (.int 0)) (.int 1) (.int 0)])] [],.ret (.list false [.cel 20 1,.loc 21,.loc 22,.loc 292,.loc 289,.loc 290,.loc 37,.loc 291])]
noncomputable def yi:List IS:=[.ret (.compG false 281 (.ite (.cmp .i .GtE (.cv 281) (.int 0)) (.cv 281) (.sub (.cel 277 0) (.bin .i .Sub (.un .USub (.cv 281)) (.int 1)))) (.loc 300))]
noncomputable def Xh:List IS:=[.name 15 (.sub (.attr 0 1) (.attr 0 2)),.attr 0 2 (.bin .i .BitAnd (.bin .i .Add (.attr 0 2) (.int 1)) (.attr 0 5)),.attr 0 8 (.int 0),.attr 0 9 (.sub (.ctop 0 16 1425) (.loc 15)),.expr (.callv (.sub (.ctop 0 17 1423) (.loc 15)) [.loc 0]),.aattr 0 2 .BitAnd (.attr 0 5),.aattr 0 10 .Add (.bin .i .Add (.sub (.ctop 0 18 1424) (.loc 15)) (.attr 0 8)),.ret (.loc 0)]
noncomputable def Yp:List IS:=[.attr 0 2 (.attr 0 11),.ite (.cmp .i .Is (.attr 0 2) .none) [.attr 0 2 (.mcall 0 26 78 [.cint 0 27 65532])] [],.attr 0 19 (.attr 0 4),.attr 0 20 (.int 0),.attr 0 21 (.int 0),.attr 0 22 (.int 0),.attr 0 23 (.bin .i .BitOr (.cint 0 24 16) (.cint 0 25 32)),.attr 0 10 (.int 0)]
noncomputable def QL:List IS:=[.attr 0 3 (.str "6502"),.attr 0 4 (.bin .i .Sub (.bin .i .LShift (.int 1) (.cint 0 12 8)) (.int 1)),.attr 0 5 (.bin .i .Sub (.bin .i .LShift (.int 1) (.cint 0 14 16)) (.int 1)),.attr 0 6 (.bin .i .LShift (.attr 0 4) (.cint 0 12 8)),.attr 0 7 (.bin .i .LShift (.int 1) (.cint 0 12 8)),.attr 0 8 (.int 0),.attr 0 9 (.bool false),.attr 0 10 (.int 0),.ite (.cmp .i .Is (.loc 1) .none) [.name 1 (.bin (.mul false) .Mult (.int 65536) (.list false [.int 0]))] [],.attr 0 1 (.loc 1),.attr 0 11 (.loc 2),.expr (.mcall 0 13 50 [])]
noncomputable def WN:List IS:=[.expr (.mcall 0 63 204 [.meth 0 65 106]),.aattr 0 2 .Add (.int 1)]
noncomputable def Kd:List IS:=[.expr (.mcall 0 38 169 [.bin .i .BitOr (.bin .i .BitOr (.attr 0 23) (.cint 0 24 16)) (.cint 0 25 32)])]
noncomputable def WO:List IS:=[.expr (.mcall 0 63 204 [.meth 0 67 92]),.aattr 0 2 .Add (.int 1)]
noncomputable def Ke:List IS:=[.expr (.mcall 0 66 211 [.none])]
noncomputable def Kf:List IS:=[.expr (.mcall 0 72 239 [.cint 0 44 1])]
noncomputable def Kg:List IS:=[.expr (.mcall 0 61 183 [.bin .i .BitAnd (.bin .i .Add (.attr 0 2) (.int 1)) (.attr 0 5)]),.attr 0 2 (.mcall 0 26 78 [.attr 0 2])]
noncomputable def WP:List IS:=[.expr (.mcall 0 76 260 [.meth 0 65 106]),.aattr 0 2 .Add (.int 1)]
noncomputable def WQ:List IS:=[.expr (.mcall 0 75 253 [.meth 0 65 106]),.aattr 0 2 .Add (.int 1)]
noncomputable def Kh:List IS:=[.attr 0 23 (.bin .i .BitOr (.bin .i .BitOr (.mcall 0 39 176 []) (.cint 0 24 16)) (.cint 0 25 32))]
noncomputable def WR:List IS:=[.expr (.mcall 0 75 253 [.meth 0 67 92]),.aattr 0 2 .Add (.int 1)]
noncomputable def Ki:List IS:=[.expr (.mcall 0 77 267 [.none])]
noncomputable def Kj:List IS:=[.expr (.mcall 0 79 246 [.cint 0 44 1])]
noncomputable def WS:List IS:=[.expr (.mcall 0 82 218 [.meth 0 65 106]),.aattr 0 2 .Add (.int 1)]
noncomputable def Kk:List IS:=[.expr (.mcall 0 38 169 [.attr 0 20])]
noncomputable def WT:List IS:=[.expr (.mcall 0 81 274 [.meth 0 67 92]),.aattr 0 2 .Add (.int 1)]
noncomputable def Kl:List IS:=[.attr 0 2 (.mcall 0 80 190 []),.aattr 0 2 .Add (.int 1)]
noncomputable def WU:List IS:=[.expr (.mcall 0 83 281 [.meth 0 65 106]),.aattr 0 2 .Add (.int 1)]
noncomputable def WV:List IS:=[.expr (.mcall 0 84 288 [.meth 0 65 106]),.aattr 0 2 .Add (.int 1)]
noncomputable def Km:List IS:=[.attr 0 20 (.mcall 0 39 176 []),.expr (.mcall 0 42 197 [.attr 0 20])]
noncomputable def WW:List IS:=[.expr (.mcall 0 83 281 [.meth 0 67 92]),.aattr 0 2 .Add (.int 1)]
noncomputable def Kn:List IS:=[.expr (.mcall 0 84 288 [.none])]
noncomputable def WX:List IS:=[.expr (.mcall 0 87 302 [.meth 0 65 106]),.aattr 0 2 .Add (.int 1)]
noncomputable def WY:List IS:=[.expr (.mcall 0 86 295 [.meth 0 65 106]),.aattr 0 2 .Add (.int 1)]
noncomputable def WZ:List IS:=[.expr (.mcall 0 88 309 [.meth 0 65 106]),.aattr 0 2 .Add (.int 1)]
noncomputable def Ko:List IS:=[.aattr 0 22 .Sub (.int 1),.aattr 0 22 .BitAnd (.attr 0 4),.expr (.mcall 0 42 197 [.attr 0 22])]
noncomputable def Kp:List IS:=[.attr 0 20 (.attr 0 21),.expr (.mcall 0 42 197 [.attr 0 20])]
noncomputable def W0:List IS:=[.expr (.mcall 0 86 295 [.meth 0 70 134]),.aattr 0 2 .Add (.int 1)]
noncomputable def Kq:List IS:=[.attr 0 20 (.attr 0 22),.expr (.mcall 0 42 197 [.attr 0 20])]
noncomputable def Kr:List IS:=[.attr 0 19 (.attr 0 21)]
noncomputable def W3:List IS:=[.expr (.mcall 0 86 295 [.meth 0 74 148]),.aattr 0 2 .Add (.int 2)]
noncomputable def W4:List IS:=[.expr (.mcall 0 90 351 [.meth 0 67 92]),.aattr 0 2 .Add (.int 1)]
noncomputable def W5:List IS:=[.expr (.mcall 0 92 358 [.meth 0 67 92]),.aattr 0 2 .Add (.int 1)]
noncomputable def W6:List IS:=[.expr (.mcall 0 90 351 [.meth 0 65 106]),.aattr 0 2 .Add (.int 1)]
noncomputable def W7:List IS:=[.expr (.mcall 0 91 344 [.meth 0 65 106]),.aattr 0 2 .Add (.int 1)]
noncomputable def W8:List IS:=[.expr (.mcall 0 92 358 [.meth 0 65 106]),.aattr 0 2 .Add (.int 1)]
noncomputable def W9:List IS:=[.expr (.mcall 0 91 344 [.meth 0 67 92]),.aattr 0 2 .Add (.int 1)]
noncomputable def Ks:List IS:=[.attr 0 21 (.attr 0 20),.expr (.mcall 0 42 197 [.attr 0 21])]
noncomputable def Xa:List IS:=[.expr (.mcall 0 91 344 [.meth 0 70 134]),.aattr 0 2 .Add (.int 1)]
noncomputable def Kt:List IS:=[.expr (.mcall 0 72 239 [.cint 0 46 64])]
noncomputable def Xb:List IS:=[.expr (.mcall 0 91 344 [.meth 0 73 155]),.aattr 0 2 .Add (.int 2)]
noncomputable def Ku:List IS:=[.attr 0 21 (.attr 0 19),.expr (.mcall 0 42 197 [.attr 0 21])]
noncomputable def Xc:List IS:=[.expr (.mcall 0 91 344 [.meth 0 74 148]),.aattr 0 2 .Add (.int 2)]
noncomputable def Xd:List IS:=[.expr (.mcall 0 94 330 [.meth 0 65 106]),.aattr 0 2 .Add (.int 1)]
noncomputable def Kv:List IS:=[.aattr 0 22 .Add (.int 1),.aattr 0 22 .BitAnd (.attr 0 4),.expr (.mcall 0 42 197 [.attr 0 22])]
noncomputable def Kw:List IS:=[.expr (.mcall 0 93 316 [.meth 0 67 92,.attr 0 20]),.aattr 0 2 .Add (.int 1)]
noncomputable def Kx:List IS:=[.aattr 0 21 .Sub (.int 1),.aattr 0 21 .BitAnd (.attr 0 4),.expr (.mcall 0 42 197 [.attr 0 21])]
noncomputable def Ky:List IS:=[.expr (.mcall 0 69 225 [.cint 0 41 2])]
noncomputable def Kz:List IS:=[.expr (.mcall 0 93 316 [.meth 0 67 92,.attr 0 21]),.aattr 0 2 .Add (.int 1)]
noncomputable def Xe:List IS:=[.expr (.mcall 0 95 323 [.meth 0 65 106]),.aattr 0 2 .Add (.int 1)]
noncomputable def Xf:List IS:=[.expr (.mcall 0 96 337 [.meth 0 65 106]),.aattr 0 2 .Add (.int 1)]
noncomputable def KA:List IS:=[.aattr 0 21 .Add (.int 1),.aattr 0 21 .BitAnd (.attr 0 4),.expr (.mcall 0 42 197 [.attr 0 21])]
noncomputable def Xg:List IS:=[.expr (.mcall 0 95 323 [.meth 0 67 92]),.aattr 0 2 .Add (.int 1)]
noncomputable def VI:List IS:=[.ret (.bin .i .Add (.mcall 0 30 71 [.loc 29]) (.bin .i .LShift (.mcall 0 30 71 [.bin .i .Add (.loc 29) (.int 1)]) (.cint 0 12 8)))]
noncomputable def Yk:List IS:=[.aattr 0 20 .BitOr (.mcall 0 30 71 [.callv (.loc 21) []]),.expr (.mcall 0 42 197 [.attr 0 20])]
noncomputable def q5:List IS:=[.ret (.mcall 0 30 71 [.attr 0 2])]
noncomputable def VJ:List IS:=[.put (.attr 0 1) (.bin .i .Add (.attr 0 19) (.attr 0 7)) (.bin .i .BitAnd (.loc 37) (.attr 0 4)),.aattr 0 19 .Sub (.int 1),.aattr 0 19 .BitAnd (.attr 0 4)]
noncomputable def qp:List IS:=[.ret (.attr 0 2)]
noncomputable def UU:List IS:=[.ite (.cmp .i .Is (.loc 21) .none) [.name 43 (.attr 0 20)] [.name 29 (.callv (.loc 21) []),.name 43 (.mcall 0 30 71 [.loc 29])],.aattr 0 23 .BitAnd (.un .Invert (.bin .i .BitOr (.bin .i .BitOr (.cint 0 44 1) (.cint 0 36 128)) (.cint 0 41 2))),.ite (.bin .i .BitAnd (.loc 43) (.cint 0 36 128)) [.aattr 0 23 .BitOr (.cint 0 44 1)] [],.name 43 (.bin .i .BitAnd (.bin .i .LShift (.loc 43) (.int 1)) (.attr 0 4)),.ite (.loc 43) [.aattr 0 23 .BitOr (.bin .i .BitAnd (.loc 43) (.cint 0 36 128))] [.aattr 0 23 .BitOr (.cint 0 41 2)],.ite (.cmp .i .Is (.loc 21) .none) [.attr 0 20 (.loc 43)] [.put (.attr 0 1) (.loc 29) (.loc 43)]]
noncomputable def Ye:List IS:=[.aattr 0 23 .BitAnd (.un .Invert (.loc 21))]
noncomputable def JI:List IS:=[.expr (.mcall 0 38 169 [.bin .i .BitAnd (.bin .i .RShift (.loc 37) (.cint 0 12 8)) (.attr 0 4)]),.expr (.mcall 0 38 169 [.bin .i .BitAnd (.loc 37) (.attr 0 4)])]
noncomputable def UV:List IS:=[.name 43 (.mcall 0 30 71 [.callv (.loc 21) []]),.aattr 0 23 .BitAnd (.un .Invert (.bin .i .BitOr (.bin .i .BitOr (.cint 0 41 2) (.cint 0 36 128)) (.cint 0 46 64))),.ite (.cmp .i .Eq (.bin .i .BitAnd (.attr 0 20) (.loc 43)) (.int 0)) [.aattr 0 23 .BitOr (.cint 0 41 2)] [],.aattr 0 23 .BitOr (.bin .i .BitAnd (.loc 43) (.bin .i .BitOr (.cint 0 36 128) (.cint 0 46 64)))]
noncomputable def Yc:List IS:=[.aattr 0 20 .BitAnd (.mcall 0 30 71 [.callv (.loc 21) []]),.expr (.mcall 0 42 197 [.attr 0 20])]
noncomputable def Yq:List IS:=[.aattr 0 19 .Add (.int 1),.aattr 0 19 .BitAnd (.attr 0 4),.ret (.mcall 0 30 71 [.bin .i .Add (.attr 0 19) (.attr 0 7)])]
noncomputable def UX:List IS:=[.ite (.cmp .i .Is (.loc 21) .none) [.name 43 (.attr 0 20)] [.name 29 (.callv (.loc 21) []),.name 43 (.mcall 0 30 71 [.loc 29])],.ite (.bin .i .BitAnd (.attr 0 23) (.cint 0 44 1)) [.ite (.bin .i .BitAnd (.loc 43) (.cint 0 36 128)) [.pass] [.aattr 0 23 .BitAnd (.un .Invert (.cint 0 44 1))],.name 43 (.bin .i .BitOr (.bin .i .LShift (.loc 43) (.int 1)) (.int 1))] [.ite (.bin .i .BitAnd (.loc 43) (.cint 0 36 128)) [.aattr 0 23 .BitOr (.cint 0 44 1)] [],.name 43 (.bin .i .LShift (.loc 43) (.int 1))],.aname 43 .BitAnd (.attr 0 4),.expr (.mcall 0 42 197 [.loc 43]),.ite (.cmp .i .Is (.loc 21) .none) [.attr 0 20 (.loc 43)] [.put (.attr 0 1) (.loc 29) (.loc 43)]]
noncomputable def Yl:List IS:=[.aattr 0 23 .BitOr (.loc 21)]
noncomputable def UW:List IS:=[.ite (.cmp .i .Is (.loc 21) .none) [.name 43 (.attr 0 20)] [.name 29 (.callv (.loc 21) []),.name 43 (.mcall 0 30 71 [.loc 29])],.aattr 0 23 .BitAnd (.un .Invert (.bin .i .BitOr (.bin .i .BitOr (.cint 0 44 1) (.cint 0 36 128)) (.cint 0 41 2))),.aattr 0 23 .BitOr (.bin .i .BitAnd (.loc 43) (.int 1)),.name 43 (.bin .i .RShift (.loc 43) (.int 1)),.ite (.loc 43) [.pass] [.aattr 0 23 .BitOr (.cint 0 41 2)],.ite (.cmp .i .Is (.loc 21) .none) [.attr 0 20 (.loc 43)] [.put (.attr 0 1) (.loc 29) (.loc 43)]]
noncomputable def Yg:List IS:=[.aattr 0 20 .BitXor (.mcall 0 30 71 [.callv (.loc 21) []]),.expr (.mcall 0 42 197 [.attr 0 20])]
noncomputable def KD:List IS:=[.name 37 (.mcall 0 39 176 []),.aname 37 .Add (.bin .i .LShift (.mcall 0 39 176 []) (.cint 0 12 8)),.ret (.loc 37)]
noncomputable def UT:List IS:=[.name 47 (.mcall 0 30 71 [.callv (.loc 21) []]),.ite (.bin .i .BitAnd (.attr 0 23) (.cint 0 48 8)) [.name 49 (.int 0),.name 50 (.int 0),.name 51 (.int 0),.name 52 (.int 0),.name 53 (.bin .i .Add (.bin .i .Add (.bin .i .BitAnd (.loc 47) (.int 15)) (.bin .i .BitAnd (.attr 0 20) (.int 15))) (.bin .i .BitAnd (.attr 0 23) (.cint 0 44 1))),.ite (.cmp .i .Gt (.loc 53) (.int 9)) [.name 51 (.int 6),.name 49 (.int 1)] [],.name 54 (.bin .i .Add (.bin .i .Add (.bin .i .BitAnd (.bin .i .RShift (.loc 47) (.int 4)) (.int 15)) (.bin .i .BitAnd (.bin .i .RShift (.attr 0 20) (.int 4)) (.int 15))) (.loc 49)),.ite (.cmp .i .Gt (.loc 54) (.int 9)) [.name 52 (.int 6),.name 50 (.int 1)] [],.name 53 (.bin .i .BitAnd (.loc 53) (.int 15)),.name 54 (.bin .i .BitAnd (.loc 54) (.int 15)),.name 55 (.bin .i .Add (.bin .i .LShift (.loc 54) (.int 4)) (.loc 53)),.name 53 (.bin .i .BitAnd (.bin .i .Add (.loc 53) (.loc 51)) (.int 15)),.name 54 (.bin .i .BitAnd (.bin .i .Add (.loc 54) (.loc 52)) (.int 15)),.aattr 0 23 .BitAnd (.un .Invert (.bin .i .BitOr (.bin .i .BitOr (.bin .i .BitOr (.cint 0 44 1) (.cint 0 46 64)) (.cint 0 36 128)) (.cint 0 41 2))),.ite (.cmp .i .Eq (.loc 55) (.int 0)) [.aattr 0 23 .BitOr (.cint 0 41 2)] [.aattr 0 23 .BitOr (.bin .i .BitAnd (.loc 55) (.cint 0 36 128))],.ite (.cmp .i .Eq (.loc 50) (.int 1)) [.aattr 0 23 .BitOr (.cint 0 44 1)] [],.ite (.bin .i .BitAnd (.bin .i .BitAnd (.un .Invert (.bin .i .BitXor (.attr 0 20) (.loc 47))) (.bin .i .BitXor (.attr 0 20) (.loc 55))) (.cint 0 36 128)) [.aattr 0 23 .BitOr (.cint 0 46 64)] [],.attr 0 20 (.bin .i .Add (.bin .i .LShift (.loc 54) (.int 4)) (.loc 53))] [.ite (.bin .i .BitAnd (.attr 0 23) (.cint 0 44 1)) [.name 57 (.int 1)] [.name 57 (.int 0)],.name 56 (.bin .i .Add (.bin .i .Add (.loc 47) (.attr 0 20)) (.loc 57)),.aattr 0 23 .BitAnd (.un .Invert (.bin .i .BitOr (.bin .i .BitOr (.bin .i .BitOr (.cint 0 44 1) (.cint 0 46 64)) (.cint 0 36 128)) (.cint 0 41 2))),.ite (.bin .i .BitAnd (.bin .i .BitAnd (.un .Invert (.bin .i .BitXor (.attr 0 20) (.loc 47))) (.bin .i .BitXor (.attr 0 20) (.loc 56))) (.cint 0 36 128)) [.aattr 0 23 .BitOr (.cint 0 46 64)] [],.name 47 (.loc 56),.ite (.cmp .i .Gt (.loc 47) (.attr 0 4)) [.aattr 0 23 .BitOr (.cint 0 44 1),.aname 47 .BitAnd (.attr 0 4)] [],.ite (.cmp .i .Eq (.loc 47) (.int 0)) [.aattr 0 23 .BitOr (.cint 0 41 2)] [.aattr 0 23 .BitOr (.bin .i .BitAnd (.loc 47) (.cint 0 36 128))],.attr 0 20 (.loc 47)]]
noncomputable def KC:List IS:=[.ite (.cmp .i .Is (.loc 21) .none) [.name 43 (.attr 0 20)] [.name 29 (.callv (.loc 21) []),.name 43 (.mcall 0 30 71 [.loc 29])],.ite (.bin .i .BitAnd (.attr 0 23) (.cint 0 44 1)) [.ite (.bin .i .BitAnd (.loc 43) (.int 1)) [.pass] [.aattr 0 23 .BitAnd (.un .Invert (.cint 0 44 1))],.name 43 (.bin .i .BitOr (.bin .i .RShift (.loc 43) (.int 1)) (.cint 0 36 128))] [.ite (.bin .i .BitAnd (.loc 43) (.int 1)) [.aattr 0 23 .BitOr (.cint 0 44 1)] [],.name 43 (.bin .i .RShift (.loc 43) (.int 1))],.expr (.mcall 0 42 197 [.loc 43]),.ite (.cmp .i .Is (.loc 21) .none) [.attr 0 20 (.loc 43)] [.put (.attr 0 1) (.loc 29) (.loc 43)]]
noncomputable def UQ:List IS:=[.aattr 0 23 .BitAnd (.un .Invert (.bin .i .BitOr (.cint 0 41 2) (.cint 0 36 128))),.ite (.cmp .i .Eq (.loc 40) (.int 0)) [.aattr 0 23 .BitOr (.cint 0 41 2)] [.aattr 0 23 .BitOr (.bin .i .BitAnd (.loc 40) (.cint 0 36 128))]]
noncomputable def Yo:List IS:=[.put (.attr 0 1) (.callv (.loc 21) []) (.attr 0 22)]
noncomputable def Ym:List IS:=[.put (.attr 0 1) (.callv (.loc 21) []) (.attr 0 20)]
noncomputable def Yn:List IS:=[.put (.attr 0 1) (.callv (.loc 22) []) (.attr 0 21)]
noncomputable def qH:List IS:=[.ite (.attr 0 9) [.name 33 (.mcall 0 32 85 [.mcall 0 30 71 [.attr 0 2]]),.name 34 (.bin .i .BitAnd (.bin .i .Add (.loc 33) (.attr 0 22)) (.attr 0 5)),.ite (.cmp .i .NotEq (.bin .i .BitAnd (.loc 33) (.attr 0 6)) (.bin .i .BitAnd (.loc 34) (.attr 0 6))) [.aattr 0 8 .Add (.int 1)] [],.ret (.loc 34)] [.ret (.bin .i .BitAnd (.bin .i .Add (.mcall 0 32 85 [.mcall 0 30 71 [.attr 0 2]]) (.attr 0 22)) (.attr 0 5))]]
noncomputable def qC:List IS:=[.ite (.attr 0 9) [.name 33 (.mcall 0 26 78 [.attr 0 2]),.name 34 (.bin .i .BitAnd (.bin .i .Add (.loc 33) (.attr 0 21)) (.attr 0 5)),.ite (.cmp .i .NotEq (.bin .i .BitAnd (.loc 33) (.attr 0 6)) (.bin .i .BitAnd (.loc 34) (.attr 0 6))) [.aattr 0 8 .Add (.int 1)] [],.ret (.loc 34)] [.ret (.bin .i .BitAnd (.bin .i .Add (.mcall 0 26 78 [.attr 0 2]) (.attr 0 21)) (.attr 0 5))]]
noncomputable def Yj:List IS:=[.attr 0 22 (.mcall 0 30 71 [.callv (.loc 21) []]),.expr (.mcall 0 42 197 [.attr 0 22])]
noncomputable def Yi:List IS:=[.attr 0 21 (.mcall 0 30 71 [.callv (.loc 22) []]),.expr (.mcall 0 42 197 [.attr 0 21])]
noncomputable def Yh:List IS:=[.attr 0 20 (.mcall 0 30 71 [.callv (.loc 21) []]),.expr (.mcall 0 42 197 [.attr 0 20])]
noncomputable def qD:List IS:=[.ite (.attr 0 9) [.name 33 (.mcall 0 26 78 [.attr 0 2]),.name 34 (.bin .i .BitAnd (.bin .i .Add (.loc 33) (.attr 0 22)) (.attr 0 5)),.ite (.cmp .i .NotEq (.bin .i .BitAnd (.loc 33) (.attr 0 6)) (.bin .i .BitAnd (.loc 34) (.attr 0 6))) [.aattr 0 8 .Add (.int 1)] [],.ret (.loc 34)] [.ret (.bin .i .BitAnd (.bin .i .Add (.mcall 0 26 78 [.attr 0 2]) (.attr 0 22)) (.attr 0 5))]]
noncomputable def Qj:List IS:=[.ite (.cmp .i .Is (.loc 21) .none) [.name 43 (.attr 0 20)] [.name 29 (.callv (.loc 21) []),.name 43 (.mcall 0 30 71 [.loc 29])],.aattr 0 23 .BitAnd (.un .Invert (.bin .i .BitOr (.cint 0 41 2) (.cint 0 36 128))),.name 43 (.bin .i .BitAnd (.bin .i .Sub (.loc 43) (.int 1)) (.attr 0 4)),.ite (.loc 43) [.aattr 0 23 .BitOr (.bin .i .BitAnd (.loc 43) (.cint 0 36 128))] [.aattr 0 23 .BitOr (.cint 0 41 2)],.ite (.cmp .i .Is (.loc 21) .none) [.attr 0 20 (.loc 43)] [.put (.attr 0 1) (.loc 29) (.loc 43)]]
noncomputable def Qi:List IS:=[.name 43 (.mcall 0 30 71 [.callv (.loc 58) []]),.aattr 0 23 .BitAnd (.un .Invert (.bin .i .BitOr (.bin .i .BitOr (.cint 0 44 1) (.cint 0 41 2)) (.cint 0 36 128))),.ite (.cmp .i .Eq (.loc 59) (.loc 43)) [.aattr 0 23 .BitOr (.bin .i .BitOr (.cint 0 44 1) (.cint 0 41 2))] [.ite (.cmp .i .Gt (.loc 59) (.loc 43)) [.aattr 0 23 .BitOr (.cint 0 44 1)] []],.aattr 0 23 .BitOr (.bin .i .BitAnd (.bin .i .Sub (.loc 59) (.loc 43)) (.cint 0 36 128))]
noncomputable def Yd:List IS:=[.ite (.bin .i .BitAnd (.attr 0 23) (.loc 21)) [.aattr 0 2 .Add (.int 1)] [.expr (.mcall 0 45 162 [])]]
noncomputable def UY:List IS:=[.name 47 (.mcall 0 30 71 [.callv (.loc 21) []]),.ite (.bin .i .BitAnd (.attr 0 23) (.cint 0 48 8)) [.name 49 (.int 1),.name 50 (.int 0),.name 51 (.int 0),.name 52 (.int 0),.name 53 (.bin .i .Add (.bin .i .Add (.bin .i .BitAnd (.attr 0 20) (.int 15)) (.bin .i .BitAnd (.un .Invert (.loc 47)) (.int 15))) (.bin .i .BitAnd (.attr 0 23) (.cint 0 44 1))),.ite (.cmp .i .LtE (.loc 53) (.int 15)) [.name 49 (.int 0),.name 51 (.int 10)] [],.name 54 (.bin .i .Add (.bin .i .Add (.bin .i .BitAnd (.bin .i .RShift (.attr 0 20) (.int 4)) (.int 15)) (.bin .i .BitAnd (.bin .i .RShift (.un .Invert (.loc 47)) (.int 4)) (.int 15))) (.loc 49)),.ite (.cmp .i .LtE (.loc 54) (.int 15)) [.name 52 (.bin .i .LShift (.int 10) (.int 4))] [],.name 55 (.bin .i .Add (.bin .i .Add (.attr 0 20) (.bin .i .BitAnd (.un .Invert (.loc 47)) (.attr 0 4))) (.bin .i .BitAnd (.attr 0 23) (.cint 0 44 1))),.ite (.cmp .i .Gt (.loc 55) (.attr 0 4)) [.name 50 (.int 1)] [],.aname 55 .BitAnd (.attr 0 4),.name 53 (.bin .i .BitAnd (.bin .i .Add (.loc 55) (.loc 51)) (.int 15)),.name 54 (.bin .i .BitAnd (.bin .i .RShift (.bin .i .Add (.loc 55) (.loc 52)) (.int 4)) (.int 15)),.aattr 0 23 .BitAnd (.un .Invert (.bin .i .BitOr (.bin .i .BitOr (.bin .i .BitOr (.cint 0 44 1) (.cint 0 41 2)) (.cint 0 36 128)) (.cint 0 46 64))),.ite (.cmp .i .Eq (.loc 55) (.int 0)) [.aattr 0 23 .BitOr (.cint 0 41 2)] [.aattr 0 23 .BitOr (.bin .i .BitAnd (.loc 55) (.cint 0 36 128))],.ite (.cmp .i .Eq (.loc 50) (.int 1)) [.aattr 0 23 .BitOr (.cint 0 44 1)] [],.ite (.bin .i .BitAnd (.bin .i .BitAnd (.bin .i .BitXor (.attr 0 20) (.loc 47)) (.bin .i .BitXor (.attr 0 20) (.loc 55))) (.cint 0 36 128)) [.aattr 0 23 .BitOr (.cint 0 46 64)] [],.attr 0 20 (.bin .i .Add (.bin .i .LShift (.loc 54) (.int 4)) (.loc 53))] [.name 56 (.bin .i .Add (.bin .i .Add (.attr 0 20) (.bin .i .BitAnd (.un .Invert (.loc 47)) (.attr 0 4))) (.bin .i .BitAnd (.attr 0 23) (.cint 0 44 1))),.aattr 0 23 .BitAnd (.un .Invert (.bin .i .BitOr (.bin .i .BitOr (.bin .i .BitOr (.cint 0 44 1) (.cint 0 41 2)) (.cint 0 46 64)) (.cint 0 36 128))),.ite (.bin .i .BitAnd (.bin .i .BitAnd (.bin .i .BitXor (.attr 0 20) (.loc 47)) (.bin .i .BitXor (.attr 0 20) (.loc 56))) (.cint 0 36 128)) [.aattr 0 23 .BitOr (.cint 0 46 64)] [],.name 47 (.bin .i .BitAnd (.loc 56) (.attr 0 4)),.ite (.cmp .i .Eq (.loc 47) (.int 0)) [.aattr 0 23 .BitOr (.cint 0 41 2)] [],.ite (.cmp .i .Gt (.loc 56) (.attr 0 4)) [.aattr 0 23 .BitOr (.cint 0 44 1)] [],.aattr 0 23 .BitOr (.bin .i .BitAnd (.loc 47) (.cint 0 36 128)),.attr 0 20 (.loc 47)]]
noncomputable def Qk:List IS:=[.ite (.cmp .i .Is (.loc 21) .none) [.name 43 (.attr 0 20)] [.name 29 (.callv (.loc 21) []),.name 43 (.mcall 0 30 71 [.loc 29])],.aattr 0 23 .BitAnd (.un .Invert (.bin .i .BitOr (.cint 0 41 2) (.cint 0 36 128))),.name 43 (.bin .i .BitAnd (.bin .i .Add (.loc 43) (.int 1)) (.attr 0 4)),.ite (.loc 43) [.aattr 0 23 .BitOr (.bin .i .BitAnd (.loc 43) (.cint 0 36 128))] [.aattr 0 23 .BitOr (.cint 0 41 2)],.ite (.cmp .i .Is (.loc 21) .none) [.attr 0 20 (.loc 43)] [.put (.attr 0 1) (.loc 29) (.loc 43)]]
noncomputable def VH:List IS:=[.ret (.sub (.attr 0 1) (.loc 29))]
noncomputable def qF:List IS:=[.aattr 0 8 .Add (.int 1),.name 29 (.mcall 0 35 99 []),.aattr 0 2 .Add (.int 1),.ite (.bin .i .BitAnd (.loc 29) (.cint 0 36 128)) [.name 29 (.bin .i .Sub (.bin .i .Sub (.attr 0 2) (.bin .i .BitXor (.loc 29) (.attr 0 4))) (.int 1))] [.name 29 (.bin .i .Add (.attr 0 2) (.loc 29))],.ite (.cmp .i .NotEq (.bin .i .BitAnd (.attr 0 2) (.attr 0 6)) (.bin .i .BitAnd (.loc 29) (.attr 0 6))) [.aattr 0 8 .Add (.int 1)] [],.attr 0 2 (.bin .i .BitAnd (.loc 29) (.attr 0 5))]
noncomputable def qG:List IS:=[.ret (.mcall 0 30 71 [.attr 0 2])]
end
structure Os where
 o0:PO
 o3:PO
 tl:List PO
noncomputable def yH(c:Cpu):List (Nat×PV):=[(3,c.nm),(4,.int 255),(5,.int 65535),(6,.int 65280),(7,.int 256),(8,.int c.ex),(9,c.ac),(10,.int c.cyc),(1,.ref 2),(11,c.st),(2,.int c.pc),(19,.int c.sp),(20,.int c.a),(21,.int c.x),(22,.int c.y),(23,.int (pk c.f))]
noncomputable def shp(c:Cpu)(mem:Mem)(o:Os):List PO:=o.o0::.tab 80::.il mem::o.o3::.inst (yH c)::o.tl
noncomputable def pi0:Pi:=piM [] 0 (fun _=>none) (fun _ _ _=>False)
theorem kc{k:PV->List PO->Prop}{v:PV}{mem':Mem}{o:Os}{c:Cpu}{sp a x y p ex cyc:Int}{ac nm st:PV}(h:k v (shp c mem o))(em:mem=mem')(e1:c.pc=pc)(e2:c.sp=sp)(e3:c.a=a)(e4:c.x=x)(e5:c.y=y)(e6:pk c.f=p)(e7:c.ex=ex)(e8:c.cyc=cyc)(e9:c.ac=ac)(e10:c.nm=nm)(e11:c.st=st):k v (o.o0::.tab 80::PO.il mem'::o.o3::PO.inst [(3,nm),(4,.int 255),(5,.int 65535),(6,.int 65280),(7,.int 256),(8,.int ex),(9,ac),(10,.int cyc),(1,.ref 2),(11,st),(2,.int pc),(19,.int sp),(20,.int a),(21,.int x),(22,.int y),(23,.int p)]::o.tl):=by
 subst em e1 e2 e3 e4 e5 e6 e7 e8 e9 e10 e11;exact h
theorem cs{b:Bool}{P Q:Prop}(h1:b=true->P)(h2:b=false->Q):cond b P Q:=by cases b;exact h2 rfl;exact h1 rfl
theorem cs2{b b':Bool}{P Q:Prop}(e:b=b')(h1:b'=true->P)(h2:b'=false->Q):cond b P Q:=by subst e;exact cs h1 h2
theorem okp{a b:Int}(h:jC mem a)(e:b=a):jC mem b:=e▸h
theorem wg{s:Int}(h:Ju mem)(b:isB s):jC mem (s+256):=⟨Dx b.1 (by decide),Cf (Int.add_lt_add_right b.2 256) h,Dk (Int.add_lt_add_right b.2 256) (by decide)⟩
section
variable {P:Pi}{σ':PS}{τ:Bool->PS}{a b:List IS}{i:IS}{t:IE}{k:KF}{c d:Bool}{v w:Int}
theorem m_1(h1:∀k:KF,k .next σ'->pS P H i O k)(h:pSs P H is σ' k):pSs P H (i::is) O k:=h1 _ h
theorem yJ(ht:∀κ:KB,κ d O->pT P H t O κ)(e:d=c)(h1:c=true->∀k:KF,k .next (τ true)->pSs P H a O k)(h2:c=false->∀k:KF,k .next (τ false)->pSs P H b O k)(h:pSs P H is (τ c) k):pSs P H (.ite t a b::is) O k:=ht _ (by
 subst e
 induction d
 ·exact h2 rfl _ h
 ·exact h1 rfl _ h)
theorem aF(ht:∀κ:KB,κ d O->pT P H t O κ)(e:d = !c)(h1:c=false->∀k:KF,k .next (τ false)->pSs P H a O k)(h2:c=true->∀k:KF,k .next (τ true)->pSs P H b O k)(h:pSs P H is (τ c) k):pSs P H (.ite t a b::is) O k:=ht _ (by
 subst e
 induction c
 ·exact h1 rfl _ h
 ·exact h2 rfl _ h)
theorem lQ(h:pS P H i O k):pSs P H [i] O k:=by
 have e:k=fun f B4=>match f with
  | .next=>pSs P H [] B4 k
  | .brk=>k .brk B4
  | .ret v=>k (.ret v) B4:=funext fun f=>funext fun B4=>by cases f<;>rfl
 show pS P H i O _;rw[e] at h;exact h
theorem m_v(h1:∀k:KF,k .next ⟨st x (.int v) O.loc,O.hp⟩->pS P H i O k)(q:v=w)(h:pSs P H is ⟨st x (.int w) O.loc,O.hp⟩ k):pSs P H (i::is) O k:=h1 _ (q▸h)
end
noncomputable def fwK(k:PV->List PO->Prop):KF:=fun f O=>match f with
  | .ret v=>k v O.hp
  | .next=>k .none O.hp
  | .brk=>False
noncomputable def shq(c:Cpu)(p:Int)(mem:Mem)(o:Os):List PO:=o.o0::.tab 80::PO.il mem::o.o3::PO.inst [(3,c.nm),(4,.int 255),(5,.int 65535),(6,.int 65280),(7,.int 256),(8,.int c.ex),(9,c.ac),(10,.int c.cyc),(1,.ref 2),(11,c.st),(2,.int c.pc),(19,.int c.sp),(20,.int c.a),(21,.int c.x),(22,.int c.y),(23,.int p)]::o.tl
section
variable {c c':Cpu}{o:Os}{L:List (Nat×PV)}{k:KF}{f:Fl}{p:Int}
theorem kp(h:pk f=p)(hk:k .next ⟨L,shp { c with f:=f } mem o⟩):k .next ⟨L,shq c p mem o⟩:=by subst h;exact hk
theorem kf(h:c'=c)(hk:k .next ⟨L,shp c mem o⟩):k .next ⟨L,shp c' mem o⟩:=by subst h;exact hk
theorem m_p{P:Pi}{i:IS}(h1:∀k:KF,k .next ⟨L,shq c p mem o⟩->pS P H i ⟨L,shp c mem o⟩ k)(e:pk f=p)(h:pSs P H is ⟨L,shp { c with f:=f } mem o⟩ k):pSs P H (i::is) ⟨L,shp c mem o⟩ k:=h1 _ (by subst e;exact h)
end
theorem bz{v:Int}(h:decide (v=0)=true):bt 7 v=false:=by rw[of_decide_eq_true h];rfl
theorem bH{f:Fl}{b:Bool}(h:f.c=b):pk { f with c:=b } = pk f:=by subst h;rfl
noncomputable def H0:Hd:=fun _ _ _ _=>False
noncomputable def XN:Sp:=fun args hp k=>∃c mem o ad,args = [.ref 4,.int ad]/\hp=shp c mem o/\jC mem ad/\k (.int (rd mem ad)) hp
theorem dX:∀args hp k,XN args hp k->jc [0,29] (pSs pi0 H0 VH) args hp k:=by
 rintro args hp k ⟨c,mem,o,ad,rfl,rfl,h1,h2⟩
 refine⟨rfl,?_⟩
 conv=>whnf
 exact⟨h1,h2⟩
noncomputable def n5:Sp:=fun args hp k=>∃c mem o v,args = [.ref 4,.int v]/\hp=shp c mem o/\k .none (shp { c with f:=nzF c.f v } mem o)
theorem bF:∀args hp k,n5 args hp k->jc [0,40] (pSs pi0 H0 UQ) args hp k:=by
 rintro args hp k ⟨c,mem,o,v,rfl,rfl,h2⟩
 refine⟨rfl,?_⟩
 conv=>whnf
 have hz:=vH c.f v;refine cs (fun e=>?_) (fun e=>?_)<;>rw[e] at hz<;>exact kc h2 rfl rfl rfl rfl rfl rfl hz.symm rfl rfl rfl rfl rfl
noncomputable def cD:Sp:=fun args hp k=>∃c mem o v,args = [.ref 4,.int v]/\hp=shp c mem o/\Ju mem/\isB c.sp/\isB v/\k .none (shp (yN c) (QO c mem v) o)
theorem ef:∀args hp k,cD args hp k->jc [0,37] (pSs pi0 H0 VJ) args hp k:=by
 rintro args hp k ⟨c,mem,o,v,rfl,rfl,h1,h3,h4,h2⟩
 refine⟨rfl,?_⟩
 have ha:jC mem (c.sp+256):=wg h1 h3;have hv:zx v 255=v:=by rw[jA];exact Bu h4.1 h4.2
 conv=>whnf
 refine⟨okp ha (zy ..),?_⟩
 refine kc h2 ?_ rfl ?_ rfl rfl rfl rfl rfl rfl rfl rfl rfl
 ·show(mem.set _ _)=mem.set _ _
  rw[hv,zy]
 ·show(c.sp-1)%256=_
  rw[jA,jQ]
noncomputable def H1:Hd:=((H0.ext 71 XN).ext 197 n5).ext 169 cD
noncomputable def cA:Sp:=fun args hp k=>∃c mem o,args = [.ref 4]/\hp=shp c mem o/\Ju mem/\k (.int (yL c mem)) (shp (Jc c) mem o)
theorem ah:∀args hp k,cA args hp k->jc [0] (pSs pi0 H1 Yq) args hp k:=by
 rintro args hp k ⟨c,mem,o,rfl,rfl,h1,h2⟩
 refine⟨rfl,?_⟩
 have e1:zx (jK c.sp 1) 255=(c.sp+1)%256:=by rw[jA,zy]
 conv=>whnf
 rw[e1,zy]
 refine⟨Jc c,mem,o,(c.sp+1)%256+256,rfl,rfl,wg h1 (JJ _),?_⟩
 exact h2
noncomputable def ZX:Sp:=fun args hp k=>∃c mem o v,args = [.ref 4,.int v]/\hp=shp c mem o/\Ju mem/\isB c.sp/\k .none (shp (yN (yN c)) (Jr c mem v) o)
theorem WD:∀args hp k,ZX args hp k->jc [0,37] (pSs pi0 H1 JI) args hp k:=by
 rintro args hp k ⟨c,mem,o,v,rfl,rfl,h1,h3,h2⟩
 refine⟨rfl,?_⟩
 have e1:zx (bL v 8) 255=v/256%256:=by rw[jA,Ua,Int.fdiv_eq_ediv_of_nonneg _ (by decide)];rfl
 have e2:zx v 255=v%256:=jA v;conv=>whnf
 rw[e1]
 refine⟨c,mem,o,v/256%256,rfl,rfl,h1,h3,JJ _,?_⟩
 conv=>whnf
 rw[e2]
 refine⟨yN c,_,o,v%256,rfl,rfl,?_,JJ _,JJ _,h2⟩
 show _<=((List.set _ _ _).length:Int);rw[List.length_set];exact h1
noncomputable def Y5:Sp:=fun args hp k=>∃c mem o ad,args = [.ref 4,.int ad]/\hp=shp c mem o/\gU mem ad/\Bts mem/\k (.int (wd mem ad)) hp
theorem dY:∀args hp k,Y5 args hp k->jc [0,29] (pSs pi0 H1 VI) args hp k:=by
 rintro args hp k ⟨c,mem,o,ad,rfl,rfl,⟨h1,h3⟩,hb,h2⟩
 refine⟨rfl,?_⟩
 conv=>whnf
 refine⟨c,mem,o,ad,rfl,rfl,h1,?_⟩
 conv=>whnf
 refine⟨c,mem,o,jK ad 1,rfl,rfl,okp h3 (zy ..),?_⟩
 have e:jK (rd mem ad) (Qf (rd mem (jK ad 1)) 8)=wd mem ad:=by rw[zy,yu,zy];rfl
 rw[zy] at e ⊢;rw[zy] at e;conv=>whnf
 refine⟨(hb.rd _).n64,?_⟩
 conv=>whnf
 rw[zy,e];exact h2
theorem XV{n:Nat}{k:KE}{v:PV}(e:O.hp[n]?=some (.cell (some v)))(h:k v O):ql n O k:=by unfold ql;rw[e];exact h
theorem aD{o:PO}:(hp ++ [o])[hp.length]?=some o:=by rw[Cy (Cg _),Nat.sub_self];rfl
section
variable {k:KE}{fs:List (Nat×PV)}{v:PV}
theorem fh(e:lk x O.loc=some v)(h:k v O):jS x O k:=by unfold jS;rw[e];exact h
theorem og(e:O.hp[i]?=some (.inst fs))(e2:lk x fs=some v)(h:k v O):QC x (.ref i) O k:=by show VG O.hp[i]? _;rw[e];show opt _ _;rw[e2];exact h
theorem xN(e:O.hp[i]?=some (.inst fs))(e2:Ql (lk x fs)=true)(h:k v O):Uw x v (.ref i) O k:=by show VG O.hp[i]? _;rw[e];show cond _ _ _;rw[e2];exact h
theorem uh{a b:Int}(h:k (.int (zx a b)) O):JO .BitAnd (.int a) (.int b) O k:=h
theorem ug{a b:Int}(h:k (.int (jK a b)) O):JO .Add (.int a) (.int b) O k:=h
theorem mcG(e:O.hp[i]?=some (.inst fs))(e2:Ql (lk x fs)=true)(h:XQ H f [.ref i] Wa O k):U6 H x f Wa (.ref i) O k:=by show VG O.hp[i]? _;rw[e];show cond _ _ _;rw[e2];exact h
end
noncomputable def ZY:Sp:=fun args hp k=>∃c mem o ad,args = [.ref 4,.int ad]/\hp=shp c mem o/\isB ad/\cr mem ad/\Bts mem/\k (.int (wp mem ad)) (hp ++ [.cell (some (.ref 4))])
noncomputable def n6:Sp:=fun args hp k=>∃c mem o ad,args = [.ref 4,.int ad]/\hp=shp c mem o/\isB ad/\cr mem ad/\Bts mem/\k (.int (wp mem ad)) hp
theorem dZ:∀args hp k,ZY args hp k->VE [0,29] [0] (fun n=>nY 29 31 21 30 6 4 12 H1 71 80 8 n) args hp k:=by
 rintro args hp k ⟨c,mem,o,ad,rfl,rfl,hb,⟨h1,h3⟩,hB,h2⟩
 have g:=aD (hp:=shp c mem o) (o:=.cell (some (.ref 4)));have e:jK (zx ad 65280) (zx (jK ad 1) 255)=wq ad:=by rw[Uo,jA,zy,zy];rfl
 refine⟨rfl,⟨1,rfl⟩,fun f=>?_⟩
 refine XV g (mcG rfl rfl (fh rfl ⟨c,mem,⟨o.o0,o.o3,o.tl ++ [.cell (some (.ref 4))]⟩,ad,rfl,rfl,h1,?_⟩));refine XV g (mcG rfl rfl ?_);unfold XQ;refine fh rfl ⟨rfl,fh rfl ?_⟩;unfold kK;refine fh rfl (XV g (og rfl rfl ?_));refine uh (fh rfl (ug ?_));refine XV g (og rfl rfl (uh (ug ?_)));rw[show jK (zx ad 65280) (zx (jK ad 1) 255)=wq ad from e]
 refine⟨c,mem,⟨o.o0,o.o3,o.tl ++ [.cell (some (.ref 4))]⟩,wq ad,rfl,rfl,h3,?_⟩
 refine XV g (xN rfl rfl ⟨(hB.rd _).n64,?_⟩);have e:jK (rd mem ad) (Qf (rd mem (wq ad)) 8)=wp mem ad:=by rw[yu,zy];rfl
 show k (.int (jK (rd mem ad) (Qf (rd mem (wq ad)) 8))) _;rw[e];exact h2
noncomputable def H1p:Hd:=H1.ext 176 cA
noncomputable def cC:Sp:=fun args hp k=>∃c mem o,args = [.ref 4]/\hp=shp c mem o/\Ju mem/\Bts mem/\k (.int (yL c mem+yL (Jc c) mem*256)) (shp (Jc (Jc c)) mem o)
theorem X5:∀args hp k,cC args hp k->jc [0] (pSs pi0 H1p KD) args hp k:=by
 rintro args hp k ⟨c,mem,o,rfl,rfl,h1,hb,h2⟩
 refine⟨rfl,?_⟩
 conv=>whnf
 refine⟨c,mem,o,rfl,rfl,h1,?_⟩
 conv=>whnf
 refine⟨Jc c,mem,o,rfl,rfl,h1,?_⟩
 have e:jK (yL c mem) (Qf (yL (Jc c) mem) 8)=yL c mem+yL (Jc c) mem*256:=by rw[zy,yu];rfl
 conv=>whnf
 refine⟨(hb.rd _).n64,?_⟩
 conv=>whnf
 rw[e];exact h2
noncomputable def mdA:Md->Addr
 | .pc=>92 | .zp=>106 | .zpx=>0 | .zpy=>0 | .ab=>0 | .abx=>148 | .aby=>155 | .inx=>0 | .iny=>134
noncomputable def qI(m:Md):Bool:=!Nat.beq (mdA m) 0
noncomputable def Uk(m:Md):Sp:=fun args hp k=>∃c mem o,args = [.ref 4]/\hp=shp c mem o/\qP m c mem/\Ok c mem/\k (.int (eaA m c mem)) (shp { c with ex:=eaX m c mem } mem o)
theorem fw{m:Md}{W:PS->KF->Prop}(h:∀c mem o k,qP m c mem->Ok c mem->k (.int (eaA m c mem)) (shp { c with ex:=eaX m c mem } mem o)->W ⟨[(0,.ref 4)],shp c mem o⟩ (fwK k)):∀args hp k,Uk m args hp k->jc [0] W args hp k:=by
 rintro args hp k ⟨c,mem,o,rfl,rfl,h1,h3,h2⟩
 exact⟨rfl,h c mem o k h1 h3 h2⟩
noncomputable def H1w:Hd:=((H1).ext 78 Y5).cut 85 n6
theorem Qa:∀args hp k,Uk .pc args hp k->jc [0] (pSs pi0 H1w qp) args hp k:=by
 rintro args hp k ⟨c,mem,o,rfl,rfl,h1,h3,h2⟩
 exact⟨rfl,h2⟩
theorem UJ:∀args hp k,Uk .zp args hp k->jc [0] (pSs pi0 H1w q5) args hp k:=by
 rintro args hp k ⟨c,mem,o,rfl,rfl,h1,h3,h2⟩
 exact⟨rfl,c,mem,o,c.pc,rfl,rfl,h1,h2⟩
theorem crs(a b:Int):(zx a 65280 !=zx b 65280)=Jh a b:=by
 rw[Uo,Uo];unfold Jh
 by_cases h:a/256%256=b/256%256
 ·simp[h]
 ·have:a/256%256*256≠b/256%256*256:=by omega
  simp[h,this]
theorem cL{B:List IS}{c:Cpu}{o:Os}{k:KF}{e:Int}(he:c.ac=.int e)(h1:(e !=0)=true->pSs pi0 H A ⟨[(0,.ref 4)],shp c mem o⟩ k)(h2:(e !=0)=false->pSs pi0 H B ⟨[(0,.ref 4)],shp c mem o⟩ k):pSs pi0 H [.ite (.attr 0 9) A B] ⟨[(0,.ref 4)],shp c mem o⟩ k:=by
 obtain⟨pc,sp,a,x,y,f,ex,ac,cyc,nm,st⟩:=c
 cases (show ac=.int e from he)
 have q:∀b:Bool,(b=true->pSs pi0 H A ⟨[(0,.ref 4)],shp ⟨pc,sp,a,x,y,f,ex,.int e,cyc,nm,st⟩ mem o⟩ k)->(b=false->pSs pi0 H B ⟨[(0,.ref 4)],shp ⟨pc,sp,a,x,y,f,ex,.int e,cyc,nm,st⟩ mem o⟩ k)->cond b (pSs pi0 H A ⟨[(0,.ref 4)],shp ⟨pc,sp,a,x,y,f,ex,.int e,cyc,nm,st⟩ mem o⟩ k) (pSs pi0 H B ⟨[(0,.ref 4)],shp ⟨pc,sp,a,x,y,f,ex,.int e,cyc,nm,st⟩ mem o⟩ k):=fun b h1 h2=>cs h1 h2
 exact lQ (q (e !=0) h1 h2)
theorem QT:∀args hp k,Uk .abx args hp k->jc [0] (pSs pi0 H1w qC) args hp k:=
 fw fun c mem o k ⟨h1,e,he⟩ h3 h2=>by
  have hk:∀z,z=eaX .abx c mem->k (.int ((wd mem c.pc+c.x)%65536)) (shp { c with ex:=z } mem o):=fun z hz=>hz▸h2
  have q:eaX .abx c mem=c.ex+b2 ((e !=0)&&Jh (wd mem c.pc) ((wd mem c.pc+c.x)%65536)):=by show _+b2 (acB c.ac&&_)=_;rw[he];rfl
  have q2:zx (jK (wd mem c.pc) c.x) 65535=((wd mem c.pc+c.x)%65536):=by rw[yW,zy]
  refine cL he (fun e1=>?_) fun e1=>?_
  ·refine m_1 (σ':=⟨[(0,.ref 4),(33,.int (wd mem c.pc))],shp c mem o⟩) (fun k hk=>⟨c,mem,o,c.pc,rfl,rfl,h1,h3.mem,hk⟩) ?_
   refine m_v (x:=34) (fun k hk=>hk) q2 ?_
   refine yJ (τ:=fun b=>⟨[(0,.ref 4),(33,.int (wd mem c.pc)),(34,.int ((wd mem c.pc+c.x)%65536))],shp { c with ex:=c.ex+b2 b } mem o⟩) (fun κ h=>h) (crs ..) (fun Z k hk=>kf (c':={ c with ex:=jK c.ex 1 }) (by rw[zy];rfl) hk) (fun Z k hk=>kf (c':={ c with ex:=c.ex }) (by show _ = { c with ex:=c.ex+0 };rw[Ch]) hk) ?_
   exact hk _ (by rw[q,e1];rfl)
  ·refine⟨c,mem,o,c.pc,rfl,rfl,h1,h3.mem,?_⟩
   have:=hk c.ex (by rw[q,e1];exact(Ch _).symm)
   rw[<- q2] at this;exact this
theorem QU:∀args hp k,Uk .aby args hp k->jc [0] (pSs pi0 H1w qD) args hp k:=
 fw fun c mem o k ⟨h1,e,he⟩ h3 h2=>by
  have hk:∀z,z=eaX .aby c mem->k (.int ((wd mem c.pc+c.y)%65536)) (shp { c with ex:=z } mem o):=fun z hz=>hz▸h2
  have q:eaX .aby c mem=c.ex+b2 ((e !=0)&&Jh (wd mem c.pc) ((wd mem c.pc+c.y)%65536)):=by show _+b2 (acB c.ac&&_)=_;rw[he];rfl
  have q2:zx (jK (wd mem c.pc) c.y) 65535=((wd mem c.pc+c.y)%65536):=by rw[yW,zy]
  refine cL he (fun e1=>?_) fun e1=>?_
  ·refine m_1 (σ':=⟨[(0,.ref 4),(33,.int (wd mem c.pc))],shp c mem o⟩) (fun k hk=>⟨c,mem,o,c.pc,rfl,rfl,h1,h3.mem,hk⟩) ?_
   refine m_v (x:=34) (fun k hk=>hk) q2 ?_
   refine yJ (τ:=fun b=>⟨[(0,.ref 4),(33,.int (wd mem c.pc)),(34,.int ((wd mem c.pc+c.y)%65536))],shp { c with ex:=c.ex+b2 b } mem o⟩) (fun κ h=>h) (crs ..) (fun Z k hk=>kf (c':={ c with ex:=jK c.ex 1 }) (by rw[zy];rfl) hk) (fun Z k hk=>kf (c':={ c with ex:=c.ex }) (by show _ = { c with ex:=c.ex+0 };rw[Ch]) hk) ?_
   exact hk _ (by rw[q,e1];rfl)
  ·refine⟨c,mem,o,c.pc,rfl,rfl,h1,h3.mem,?_⟩
   have:=hk c.ex (by rw[q,e1];exact(Ch _).symm)
   rw[<- q2] at this;exact this
theorem QX:∀args hp k,Uk .iny args hp k->jc [0] (pSs pi0 H1w qH) args hp k:=
 fw fun c mem o k ⟨h1,h4,e,he⟩ h3 h2=>by
  have hb:=h3.mem.rd c.pc;have hk:∀z,z=eaX .iny c mem->k (.int ((wp mem (rd mem c.pc)+c.y)%65536)) (shp { c with ex:=z } mem o):=fun z hz=>hz▸h2
  have q:eaX .iny c mem=c.ex+b2 ((e !=0)&&Jh (wp mem (rd mem c.pc)) ((wp mem (rd mem c.pc)+c.y)%65536)):=by show _+b2 (acB c.ac&&_)=_;rw[he];rfl
  have q2:zx (jK (wp mem (rd mem c.pc)) c.y) 65535=((wp mem (rd mem c.pc)+c.y)%65536):=by rw[yW,zy]
  refine cL he (fun e1=>?_) fun e1=>?_
  ·refine m_1 (σ':=⟨[(0,.ref 4),(33,.int (wp mem (rd mem c.pc)))],shp c mem o⟩) (fun k hk=>⟨c,mem,o,c.pc,rfl,rfl,h1,c,mem,o,rd mem c.pc,rfl,rfl,hb,h4,h3.mem,hk⟩) ?_
   refine m_v (x:=34) (fun k hk=>hk) q2 ?_
   refine yJ (τ:=fun b=>⟨[(0,.ref 4),(33,.int (wp mem (rd mem c.pc))),(34,.int ((wp mem (rd mem c.pc)+c.y)%65536))],shp { c with ex:=c.ex+b2 b } mem o⟩) (fun κ h=>h) (crs ..) (fun Z k hk=>kf (c':={ c with ex:=jK c.ex 1 }) (by rw[zy];rfl) hk) (fun Z k hk=>kf (c':={ c with ex:=c.ex }) (by show _ = { c with ex:=c.ex+0 };rw[Ch]) hk) ?_
   exact hk _ (by rw[q,e1];rfl)
  ·refine⟨c,mem,o,c.pc,rfl,rfl,h1,c,mem,o,rd mem c.pc,rfl,rfl,hb,h4,h3.mem,?_⟩
   have:=hk c.ex (by rw[q,e1];exact(Ch _).symm)
   rw[<- q2] at this;exact this
noncomputable def ud:Sp:=fun args hp k=>∃c mem o,args = [.ref 4]/\hp=shp c mem o/\jC mem c.pc/\k (.int (rd mem c.pc)) hp
theorem QW:∀args hp k,ud args hp k->jc [0] (pSs pi0 H1w qG) args hp k:=by
 rintro args hp k ⟨c,mem,o,rfl,rfl,h1,h2⟩
 exact⟨rfl,c,mem,o,c.pc,rfl,rfl,h1,h2⟩
noncomputable def H2:Hd:=(((((((((H1w).ext 99 ud).ext 176 cA).ext 183 ZX).ext 190 cC).ext 92 (Uk .pc)).ext 106 (Uk .zp)).ext 148 (Uk .abx)).ext 155 (Uk .aby)).ext 134 (Uk .iny)
theorem J7{m:Md}{c:Cpu}{o:Os}{k:PV->List PO->Prop}(hm:qI m=true)(h:qP m c mem)(hO:Ok c mem)(hk:k (.int (eaA m c mem)) (shp { c with ex:=eaX m c mem } mem o)):(pi0.fnT (mdA m)=true/\true=true)/\H2 (mdA m) [.ref 4] (shp c mem o) k:=by
 cases m<;>first | (cases hm;done) | exact⟨⟨rfl,rfl⟩,c,mem,o,rfl,rfl,h,hO,hk⟩
def NzH(H:Hd):Prop:=∀args hp k,n5 args hp k->H 197 args hp k
theorem nz2:NzH H2:=fun Z Z Z h=>h
section
variable {c:Cpu}{o:Os}{L:List (Nat×PV)}{k:KF}{v:Int}{m:Md}{e:IE}
theorem JG(l0:lk 0 L=some (.ref 4))(lx:lk x L=some (.bound (.ref 4) (mdA m)))(hm:qI m=true)(h1:qP m c mem)(h3:jC mem (eaA m c mem))(hO:Ok c mem){κ:KE}(hκ:κ (.int (rd mem (eaA m c mem))) ⟨L,shp { c with ex:=eaX m c mem } mem o⟩):
  pE pi0 H2 (.mcall 0 30 71 [.callv (.loc x) []]) ⟨L,shp c mem o⟩ κ:=by
 conv=>whnf
 rw[l0];conv=>whnf
 rw[lx];conv=>whnf
 exact J7 hm h1 hO ⟨_,mem,o,_,rfl,rfl,h3,hκ⟩
theorem yn(hN:NzH H)(l0:lk 0 L=some (.ref 4))(he:∀κ:KE,κ (.int v) ⟨L,shp c mem o⟩->pE pi0 H e ⟨L,shp c mem o⟩ κ)(hk:k .next ⟨L,shp { c with f:=nzF c.f v } mem o⟩):pS pi0 H (.expr (.mcall 0 42 197 [e])) ⟨L,shp c mem o⟩ k:=by
 conv=>whnf
 rw[l0];conv=>whnf
 exact he _ (hN _ _ _ ⟨c,mem,o,v,rfl,rfl,hk⟩)
theorem aat{c':Cpu}{op:Operator}{u:Int}(l0:lk 0 L=some (.ref 4))(hy:lk y (yH c)=some (.int u))(he:∀κ:KE,κ (.int v) ⟨L,shp c' mem o⟩->pE pi0 H2 e ⟨L,shp c mem o⟩ κ)(hk:kE op u v fun w=>YR y (.ref 4) (.int w) ⟨L,shp c' mem o⟩ fun O=>k .next O):pS pi0 H2 (.aattr 0 y op e) ⟨L,shp c mem o⟩ k:=by
 conv=>whnf
 rw[l0];show opt (lk y (yH c)) _;rw[hy];exact he _ hk
end
noncomputable def Lb(x:Nat)(m:Md):List (Nat×PV):=[(0,.ref 4),(x,.bound (.ref 4) (mdA m))]
theorem Ok.ex{c:Cpu}{mem:Mem}(h:Ok c mem)(e:Int):Ok { c with ex:=e } mem:=⟨h.pc,h.sp,h.a,h.x,h.y,h.mem⟩
noncomputable def qy(r:Rd):Sp:=fun args hp k=>∃c mem o m,args = [.ref 4,.bound (.ref 4) (mdA m)]/\hp=shp c mem o/\qI m=true/\qP m c mem/\(jC mem (eaA m c mem)/\rdD r c.f)/\Ok c mem/\k .none (shp (rdF r { c with ex:=eaX m c mem } (rd mem (eaA m c mem))) mem o)
theorem KO{r:Rd}{W:PS->KF->Prop}(h:∀c mem o m k,qI m=true->qP m c mem->jC mem (eaA m c mem)->rdD r c.f->Ok c mem->k .none (shp (rdF r { c with ex:=eaX m c mem } (rd mem (eaA m c mem))) mem o)->W ⟨Lb x m,shp c mem o⟩ (fwK k)):∀args hp k,qy r args hp k->jc [0,x] W args hp k:=by
 rintro args hp k ⟨c,mem,o,m,rfl,rfl,hm,h1,⟨h3,hd⟩,hO,h2⟩
 exact⟨rfl,h c mem o m k hm h1 h3 hd hO h2⟩
theorem iZ:∀args hp k,qy .lda args hp k->jc [0,21] (pSs pi0 H2 Yh) args hp k:=
 KO fun c mem o m k hm h1 h3 hd hO h2=>m_1 (σ':=⟨Lb 21 m,shp { c with ex:=eaX m c mem,a:=(rd mem (eaA m c mem)) } mem o⟩) (fun k hk=>JG (L:=Lb 21 m) (x:=21) rfl rfl hm h1 h3 hO hk) (m_1 (fun k hk=>yn nz2 (L:=Lb 21 m) rfl (fun κ h=>h) hk) h2)
theorem i3:∀args hp k,qy .ldx args hp k->jc [0,22] (pSs pi0 H2 Yi) args hp k:=
 KO fun c mem o m k hm h1 h3 hd hO h2=>m_1 (σ':=⟨Lb 22 m,shp { c with ex:=eaX m c mem,x:=(rd mem (eaA m c mem)) } mem o⟩) (fun k hk=>JG (L:=Lb 22 m) (x:=22) rfl rfl hm h1 h3 hO hk) (m_1 (fun k hk=>yn nz2 (L:=Lb 22 m) rfl (fun κ h=>h) hk) h2)
theorem i4:∀args hp k,qy .ldy args hp k->jc [0,21] (pSs pi0 H2 Yj) args hp k:=
 KO fun c mem o m k hm h1 h3 hd hO h2=>m_1 (σ':=⟨Lb 21 m,shp { c with ex:=eaX m c mem,y:=(rd mem (eaA m c mem)) } mem o⟩) (fun k hk=>JG (L:=Lb 21 m) (x:=21) rfl rfl hm h1 h3 hO hk) (m_1 (fun k hk=>yn nz2 (L:=Lb 21 m) rfl (fun κ h=>h) hk) h2)
theorem i6:∀args hp k,qy .ora args hp k->jc [0,21] (pSs pi0 H2 Yk) args hp k:=
 KO fun c mem o m k hm h1 h3 hd hO h2=>m_1 (σ':=⟨Lb 21 m,shp { c with ex:=eaX m c mem,a:=iOr c.a (rd mem (eaA m c mem)) } mem o⟩) (fun k hk=>aat (L:=Lb 21 m) rfl rfl (fun κ h=>JG (L:=Lb 21 m) (x:=21) rfl rfl hm h1 h3 hO h) hk) (m_1 (fun k hk=>yn nz2 (L:=Lb 21 m) rfl (fun κ h=>h) hk) h2)
theorem iT:∀args hp k,qy .and args hp k->jc [0,21] (pSs pi0 H2 Yc) args hp k:=
 KO fun c mem o m k hm h1 h3 hd hO h2=>m_1 (σ':=⟨Lb 21 m,shp { c with ex:=eaX m c mem,a:=zx c.a (rd mem (eaA m c mem)) } mem o⟩) (fun k hk=>aat (L:=Lb 21 m) rfl rfl (fun κ h=>JG (L:=Lb 21 m) (x:=21) rfl rfl hm h1 h3 hO h) hk) (m_1 (fun k hk=>yn nz2 (L:=Lb 21 m) rfl (fun κ h=>h) hk) h2)
theorem iY:∀args hp k,qy .eor args hp k->jc [0,21] (pSs pi0 H2 Yg) args hp k:=
 KO fun c mem o m k hm h1 h3 hd hO h2=>m_1 (σ':=⟨Lb 21 m,shp { c with ex:=eaX m c mem,a:=jR c.a (rd mem (eaA m c mem)) } mem o⟩) (fun k hk=>aat (L:=Lb 21 m) rfl rfl (fun κ h=>JG (L:=Lb 21 m) (x:=21) rfl rfl hm h1 h3 hO h) hk) (m_1 (fun k hk=>yn nz2 (L:=Lb 21 m) rfl (fun κ h=>h) hk) h2)
theorem ul{c:Cpu}{o:Os}{t:Int}{k:PV->List PO->Prop}(h2:k .none (shp { c with f:={ c.f with n:=bt 7 t,z:=decide (zx c.a t=0),v:=bt 6 t } } mem o)):pSs pi0 H2 (UV.drop 1) ⟨[(0,.ref 4),(21,bv),(43,.int t)],shp c mem o⟩ (fwK k):=by
 refine m_p (f:={ c.f with n:=false,z:=false,v:=false }) (fun k hk=>hk) (ot _).symm ?_
 refine yJ (c:=decide (zx c.a t=0)) (τ:=fun b=>⟨[(0,.ref 4),(21,bv),(43,.int t)],shp { c with f:={ c.f with n:=false,z:=b,v:=false } } mem o⟩) (fun κ h=>h) rfl (fun Z k hk=>kp (XA _).symm hk) (fun Z k hk=>hk) ?_
 refine m_p (f:={ c.f with n:=bt 7 t,z:=decide (zx c.a t=0),v:=bt 6 t }) (fun k hk=>hk) (wY { c.f with n:=false,z:=decide (zx c.a t=0),v:=false } t).symm ?_
 exact h2
theorem iW:∀args hp k,qy .bit args hp k->jc [0,21] (pSs pi0 H2 UV) args hp k:=
 KO fun c mem o m k hm h1 h3 hd hO h2=>m_1 (σ':=⟨[(0,.ref 4),(21,.bound (.ref 4) (mdA m)),(43,.int (rd mem (eaA m c mem)))],shp { c with ex:=eaX m c mem } mem o⟩) (fun k hk=>JG (L:=Lb 21 m) (x:=21) rfl rfl hm h1 h3 hO hk) (ul h2)
theorem sI(a d r:Int):(zx (zx (yg (jR a d)) (jR a r)) 128 !=0)=ovA a d r:=by
 rw[V3,jV,JQ,yY,yY];unfold ovA
 cases bt 7 a<;>cases bt 7 d<;>cases bt 7 r<;>rfl
theorem uf{c:Cpu}{o:Os}{t r:Int}{k:PV->List PO->Prop}(hd:c.f.d=false)(r0:0<=r)(er:jK (jK t c.a) (b2 c.f.c)=r)(h2:k .none (shp { c with a:=r%256,f:={ c.f with n:=bt 7 (r%256),z:=decide (r%256=0),c:=decide (255<r),v:=ovA c.a t r } } mem o)):pSs pi0 H2 (UT.drop 1) ⟨[(0,.ref 4),(21,bv),(47,.int (t))],shp c mem o⟩ (fwK k):=by
 refine cs2 (xh _) (fun ed=>nomatch ed.symm.trans hd) fun Z=>?_
 refine yJ (τ:=fun b=>⟨[(0,.ref 4),(21,bv),(47,.int (t)),(57,.int (b2 b))],shp c mem o⟩) (fun κ h=>h) (mH c.f) (fun Z k hk=>hk) (fun Z k hk=>hk) ?_
 refine m_v (x:=56) (fun k hk=>hk) er ?_
 refine m_p (f:={ c.f with n:=false,z:=false,v:=false,c:=false }) (fun k hk=>hk) (iy _).symm ?_
 refine yJ (τ:=fun b=>⟨[(0,.ref 4),(21,bv),(47,.int (t)),(57,.int (b2 c.f.c)),(56,.int (r))],shp { c with f:={ c.f with n:=false,z:=false,v:=b,c:=false } } mem o⟩) (fun κ h=>h) (sI ..) (fun Z k hk=>kp (mi _).symm hk) (fun Z k hk=>hk) ?_
 refine m_1 (σ':=⟨[(0,.ref 4),(21,bv),(47,.int (r)),(57,.int (b2 c.f.c)),(56,.int (r))],shp { c with f:={ c.f with n:=false,z:=false,v:=ovA c.a t r,c:=false } } mem o⟩) (fun k hk=>hk) ?_
 refine yJ (c:=decide (255<r)) (τ:=fun b=>⟨[(0,.ref 4),(21,bv),(47,.int (r%256)),(57,.int (b2 c.f.c)),(56,.int (r))],shp { c with f:={ c.f with n:=false,z:=false,v:=ovA c.a t r,c:=b } } mem o⟩) (fun κ h=>h) rfl (fun Z k hk=>?_) (fun e k hk=>?_) ?_
 ·rw[<- jA] at hk
  exact kp (Vu _).symm hk
 ·rw[Bu (b:=256) r0 (Int.lt_add_one_of_le (Int.not_lt.mp (of_decide_eq_false e)))] at hk
  exact hk
 refine yJ (c:=decide (r%256=0)) (τ:=fun b=>⟨[(0,.ref 4),(21,bv),(47,.int (r%256)),(57,.int (b2 c.f.c)),(56,.int (r))],shp { c with f:={ c.f with n:=bt 7 (r%256),z:=b,v:=ovA c.a t r,c:=decide (255<r) } } mem o⟩) (fun κ h=>h) rfl (fun e k hk=>?_) (fun Z k hk=>kp (ZL _ _).symm hk) h2
 rw[bz e] at hk;exact kp (XA _).symm hk
theorem iS:∀args hp k,qy .adc args hp k->jc [0,21] (pSs pi0 H2 UT) args hp k:=
 KO fun c mem o m k hm h1 h3 hd hO h2=>m_1 (σ':=⟨[(0,.ref 4),(21,.bound (.ref 4) (mdA m)),(47,.int (rd mem (eaA m c mem)))],shp { c with ex:=eaX m c mem } mem o⟩) (fun k hk=>JG (L:=Lb 21 m) (x:=21) rfl rfl hm h1 h3 hO hk) (uf hd (Dx (Dx hO.a.1 (hO.mem.rd _).1) (QD _).1) (by rw[zy,zy,Dv (rd mem _)]) h2)
theorem sJ(a d r:Int):(zx (zx (jR a d) (jR a r)) 128 !=0)=ovS a d r:=by
 rw[V3,jV,yY,yY];rfl
theorem wU{c:Cpu}{o:Os}{t r:Int}{k:PV->List PO->Prop}(hd:c.f.d=false)(er:jK (jK c.a (zx (yg t) 255)) (zx (pk c.f) 1)=r)(h2:k .none (shp { c with a:=r%256,f:={ c.f with n:=bt 7 (r%256),z:=decide (r%256=0),c:=decide (255<r),v:=ovS c.a t r } } mem o)):pSs pi0 H2 (UY.drop 1) ⟨[(0,.ref 4),(21,bv),(47,.int (t))],shp c mem o⟩ (fwK k):=by
 refine cs2 (xh _) (fun ed=>nomatch ed.symm.trans hd) fun Z=>?_
 refine m_v (x:=56) (fun k hk=>hk) er ?_
 refine m_p (f:={ c.f with n:=false,z:=false,v:=false,c:=false }) (fun k hk=>hk) (iz _).symm ?_
 refine yJ (τ:=fun b=>⟨[(0,.ref 4),(21,bv),(47,.int (t)),(56,.int (r))],shp { c with f:={ c.f with n:=false,z:=false,v:=b,c:=false } } mem o⟩) (fun κ h=>h) (sJ ..) (fun Z k hk=>kp (mi _).symm hk) (fun Z k hk=>hk) ?_
 refine m_v (x:=47) (fun k hk=>hk) (jA r) ?_
 refine yJ (c:=decide (r%256=0)) (τ:=fun b=>⟨[(0,.ref 4),(21,bv),(47,.int (r%256)),(56,.int (r))],shp { c with f:={ c.f with n:=false,z:=b,v:=ovS c.a t r,c:=false } } mem o⟩) (fun κ h=>h) rfl (fun Z k hk=>kp (XA _).symm hk) (fun Z k hk=>hk) ?_
 refine yJ (c:=decide (255<r)) (τ:=fun b=>⟨[(0,.ref 4),(21,bv),(47,.int (r%256)),(56,.int (r))],shp { c with f:={ c.f with n:=false,z:=decide (r%256=0),v:=ovS c.a t r,c:=b } } mem o⟩) (fun κ h=>h) rfl (fun Z k hk=>kp (Vu _).symm hk) (fun Z k hk=>hk) ?_
 refine m_p (f:={ c.f with n:=bt 7 (r%256),z:=decide (r%256=0),v:=ovS c.a t r,c:=decide (255<r) }) (fun k hk=>hk) (ZL { c.f with n:=false,z:=decide (r%256=0),v:=ovS c.a t r,c:=decide (255<r) } (r%256)).symm ?_
 refine m_1 (σ':=⟨[(0,.ref 4),(21,bv),(47,.int (r%256)),(56,.int (r))],shp { c with a:=r%256,f:={ c.f with n:=bt 7 (r%256),z:=decide (r%256=0),v:=ovS c.a t r,c:=decide (255<r) } } mem o⟩) (fun k hk=>hk) ?_
 exact h2
theorem i9:∀args hp k,qy .sbc args hp k->jc [0,21] (pSs pi0 H2 UY) args hp k:=
 KO fun c mem o m k hm h1 h3 hd hO h2=>m_1 (σ':=⟨[(0,.ref 4),(21,.bound (.ref 4) (mdA m)),(47,.int (rd mem (eaA m c mem)))],shp { c with ex:=eaX m c mem } mem o⟩) (fun k hk=>JG (L:=Lb 21 m) (x:=21) rfl rfl hm h1 h3 hO hk) (wU hd (by rw[fV (hO.mem.rd _),zy,zy,AL]) h2)
noncomputable def cF:Sp:=fun args hp k=>∃c mem o m r,args = [.ref 4,.bound (.ref 4) (mdA m),.int r]/\hp=shp c mem o/\qI m=true/\qP m c mem/\jC mem (eaA m c mem)/\Ok c mem/\k .none (shp (dq { c with ex:=eaX m c mem } r (rd mem (eaA m c mem))) mem o)
theorem ox{W:PS->KF->Prop}(h:∀c mem o m r k,qI m=true->qP m c mem->jC mem (eaA m c mem)->Ok c mem->k .none (shp (dq { c with ex:=eaX m c mem } r (rd mem (eaA m c mem))) mem o)->W ⟨[(0,.ref 4),(x,.bound (.ref 4) (mdA m)),(y,.int r)],shp c mem o⟩ (fwK k)):∀args hp k,cF args hp k->jc [0,x,y] W args hp k:=by
 rintro args hp k ⟨c,mem,o,m,r,rfl,rfl,hm,h1,h3,hO,h2⟩
 exact⟨rfl,h c mem o m r k hm h1 h3 hO h2⟩
theorem wX(f:Fl):iOr (pk f) (iOr 1 2)=pk { f with c:=true,z:=true }:=by
 rw[show iOr 1 2=3 by rw[yI];decide]
 refine sL (KL (y9 _).1 (y9 _).2 (by decide) (by decide)).1 (KL (y9 _).1 (y9 _).2 (by decide) (by decide)).2 ?_
 simp only[unp,jV,Vw,JQ,K4,Uu,Wj,Uv,c8,c9,Wk,Wm];simp[bt]
theorem uy{c:Cpu}{o:Os}{t r:Int}{k:PV->List PO->Prop}(h2:k .none (shp { c with f:={ c.f with n:=bt 7 (r-t),z:=decide (r=t),c:=decide (t<=r) } } mem o)):pSs pi0 H2 (Qi.drop 1) ⟨[(0,.ref 4),(58,bv),(59,.int r),(43,.int t)],shp c mem o⟩ (fwK k):=by
 refine m_p (f:={ c.f with n:=false,z:=false,c:=false }) (fun k hk=>hk) (oq _).symm ?_
 refine yJ (c:=decide (r=t)) (τ:=fun b=>⟨[(0,.ref 4),(58,bv),(59,.int r),(43,.int t)],shp { c with f:={ c.f with n:=false,z:=b,c:=decide (t<=r) } } mem o⟩) (fun κ h=>h) rfl (fun e k hk=>?_) (fun e k hk=>?_) ?_
 ·rw[decide_eq_true (Int.le_of_eq (of_decide_eq_true e).symm)] at hk
  exact kp (wX _).symm hk
 ·have q:decide (t<r)=decide (t<=r):=decide_eq_decide.mpr ⟨Int.le_of_lt,fun h=>Int.lt_iff_le_and_ne.mpr ⟨h,fun q=>of_decide_eq_false e q.symm⟩⟩
  exact yJ (τ:=fun b=>⟨[(0,.ref 4),(58,bv),(59,.int r),(43,.int t)],shp { c with f:={ c.f with n:=false,z:=false,c:=b } } mem o⟩) (fun κ h=>h) q (fun Z k hk=>kp (Vu _).symm hk) (fun Z k hk=>hk) hk
 ·refine m_p (f:={ c.f with n:=bt 7 (r-t),z:=decide (r=t),c:=decide (t<=r) }) (fun k hk=>hk) (by rw[jQ];exact(ZL { c.f with n:=false,z:=decide (r=t),c:=decide (t<=r) } (r-t)).symm) ?_
  exact h2
theorem d7:∀args hp k,cF args hp k->jc [0,58,59] (pSs pi0 H2 Qi) args hp k:=
 ox fun c mem o m r k hm h1 h3 hO h2=>m_1 (σ':=⟨[(0,.ref 4),(58,.bound (.ref 4) (mdA m)),(59,.int r),(43,.int (rd mem (eaA m c mem)))],shp { c with ex:=eaX m c mem } mem o⟩) (fun k hk=>JG (L:=[(0,.ref 4),(58,.bound (.ref 4) (mdA m)),(59,.int r)]) (x:=58) rfl rfl hm h1 h3 hO hk) (uy h2)
noncomputable def rmM:Rm->Bool
 | .lsr=>true
 | .ror=>true
 | .dec=>true
 | .inc=>true
 | _=>false
noncomputable def rmA:Rm->Bool
 | .asl=>true
 | .rol=>true
 | .ror=>true
 | _=>false
noncomputable def J2(r:Rm):Sp:=fun args hp k=>(∃c mem o m,args = [.ref 4,.bound (.ref 4) (mdA m)]/\hp=shp c mem o/\(rmM r&&qI m)=true/\qP m c mem/\jC mem (eaA m c mem)/\Ok c mem/\k .none (shp { c with ex:=eaX m c mem,f:=rmF r c.f (rd mem (eaA m c mem)) } (wr mem (eaA m c mem) (rmT r c.f (rd mem (eaA m c mem)))) o)) ∨
 (∃c mem o,args = [.ref 4,.none]/\hp=shp c mem o/\rmA r=true/\Ok c mem/\k .none (shp { c with f:=rmF r c.f c.a,a:=rmT r c.f c.a } mem o))
theorem VV{r:Rm}{W:PS->KF->Prop}(hM:rmM r=true->∀c mem o m k,qI m=true->qP m c mem->jC mem (eaA m c mem)->Ok c mem->k .none (shp { c with ex:=eaX m c mem,f:=rmF r c.f (rd mem (eaA m c mem)) } (wr mem (eaA m c mem) (rmT r c.f (rd mem (eaA m c mem)))) o)->W ⟨Lb 21 m,shp c mem o⟩ (fwK k))(hA:rmA r=true->∀c mem o k,Ok c mem->k .none (shp { c with f:=rmF r c.f c.a,a:=rmT r c.f c.a } mem o)->W ⟨[(0,.ref 4),(21,.none)],shp c mem o⟩ (fwK k)):∀args hp k,J2 r args hp k->jc [0,21] W args hp k:=by
 rintro args hp k (⟨c,mem,o,m,rfl,rfl,hm,h1,h3,hO,h2⟩ | ⟨c,mem,o,rfl,rfl,hA',hO,h2⟩)
 ·exact⟨rfl,hM (Bool.and_eq_true_iff.mp hm).1 c mem o m k (Bool.and_eq_true_iff.mp hm).2 h1 h3 hO h2⟩
 ·exact⟨rfl,hA hA' c mem o k hO h2⟩
theorem aV{m:Md}{c:Cpu}{o:Os}{k:KF}(hm:qI m=true)(h1:qP m c mem)(h3:jC mem (eaA m c mem))(hO:Ok c mem)(hk:k .next ⟨[(0,.ref 4),(21,.bound (.ref 4) (mdA m)),(29,.int (eaA m c mem)),(43,.int (rd mem (eaA m c mem)))],shp { c with ex:=eaX m c mem } mem o⟩):
  pS pi0 H2 (.ite (.cmp .i .Is (.loc 21) .none) [.name 43 (.attr 0 20)] [.name 29 (.callv (.loc 21) []),.name 43 (.mcall 0 30 71 [.loc 29])]) ⟨Lb 21 m,shp c mem o⟩ k:=by
 conv=>whnf
 exact J7 hm h1 hO ⟨_,mem,o,_,rfl,rfl,h3,hk⟩
theorem tu(t:Int):Qf t 1=2*t:=by rw[yu];show t*2=_;omega
theorem mj(t:Int):bL t 1=t/2:=by rw[Ua,Int.fdiv_eq_ediv_of_nonneg _ (by decide)];rfl
theorem or1(t:Int):iOr (Qf t 1) 1=2*t+b2 true:=by
 rw[tu];show _=2*t+1;rw[yI,bitOr_and,bitAnd_m1];omega
theorem nL{t:Int}(h:isB t):iOr (bL t 1) 128=t/2+128*b2 true:=by
 obtain⟨h0,h9⟩:=h;have h1:zx (t/2) 128=0:=by rw[Y7,bt7 (by omega) (by omega),decide_eq_false (by omega)];rfl
 rw[jk] at h1;rw[mj,yI,bitOr_and,h1];show t/2+128-0=t/2+128*1;omega
theorem ui{c:Cpu}{o:Os}{t:Int}{k:PV->List PO->Prop}(hv:isB t)(h2:k .none (shp { c with a:=2*t%256,f:={ c.f with n:=bt 7 (2*t%256),z:=decide (2*t%256=0),c:=bt 7 t } } mem o)):pSs pi0 H2 (UU.drop 1) ⟨[(0,.ref 4),(21,.none),(43,.int (t))],shp c mem o⟩ (fwK k):=by
 refine m_p (f:={ c.f with n:=false,z:=false,c:=false }) (fun k hk=>hk) (dj _).symm ?_
 refine yJ (τ:=fun b=>⟨[(0,.ref 4),(21,.none),(43,.int (t))],shp { c with f:={ c.f with n:=false,z:=false,c:=b } } mem o⟩) (fun κ h=>h) (V3 t) (fun Z k hk=>kp (Vu _).symm hk) (fun Z k hk=>hk) ?_
 refine m_v (x:=43) (fun k hk=>⟨hv.n64,hk⟩) (w:=2*t%256) (by rw[jA,tu]) ?_
 refine aF (c:=decide (2*t%256=0)) (τ:=fun b=>⟨[(0,.ref 4),(21,.none),(43,.int (2*t%256))],shp { c with f:={ c.f with n:=bt 7 (2*t%256),z:=b,c:=bt 7 t } } mem o⟩) (fun κ h=>h) rfl (fun Z k hk=>kp (ZL { c.f with n:=false,z:=false,c:=bt 7 t } (2*t%256)).symm hk) (fun e k hk=>?_) ?_
 ·rw[bz e] at hk
  exact kp (XA { c.f with n:=false,z:=false,c:=bt 7 t }).symm hk
 refine m_1 (σ':=⟨[(0,.ref 4),(21,.none),(43,.int (2*t%256))],shp { c with a:=2*t%256,f:={ c.f with n:=bt 7 (2*t%256),z:=decide (2*t%256=0),c:=bt 7 t } } mem o⟩) (fun k hk=>hk) ?_
 exact h2
theorem iU:∀args hp k,J2 .asl args hp k->jc [0,21] (pSs pi0 H2 UU) args hp k:=
 VV (fun h=>ft h) (fun Z c mem o k hO h2=>m_1 (σ':=⟨[(0,.ref 4),(21,.none),(43,.int c.a)],shp c mem o⟩) (fun k hk=>hk) (ui hO.a (h2)))
theorem vA(f:Fl)(t:Int)(hv:isB t):rmF .lsr f t = { f with n:=false,z:=decide (t/2=0),c:=bt 0 t }:=by
 have h7:bt 7 (t/2)=false:=by rw[bt7 (by have:=hv.1;omega) (by have:=hv.2;omega)];have:=hv.2;simp;omega
 show Fl.mk (bt 7 (t/2)) _ _ _ _ _ _ _=_;rw[h7];rfl
theorem vB{c:Cpu}{o:Os}{t:Int}{k:PV->List PO->Prop}(hv:isB t)(h3:jC mem ad)(h2:k .none (shp { c with f:={ c.f with n:=false,z:=decide (t/2=0),c:=bt 0 t } } (wr mem ad (t/2)) o)):pSs pi0 H2 (UW.drop 1) ⟨[(0,.ref 4),(21,.bound u g),(29,.int ad),(43,.int (t))],shp c mem o⟩ (fwK k):=by
 refine m_p (f:={ c.f with n:=false,z:=false,c:=false }) (fun k hk=>hk) (dj _).symm ?_
 refine m_p (f:={ c.f with n:=false,z:=false,c:=bt 0 t }) (fun k hk=>hk) (wW { c.f with n:=false,z:=false,c:=false } t).symm ?_
 refine m_v (x:=43) (fun k hk=>hk) (mj t) ?_
 refine aF (c:=decide (t/2=0)) (τ:=fun b=>⟨[(0,.ref 4),(21,.bound u g),(29,.int ad),(43,.int (t/2))],shp { c with f:={ c.f with n:=false,z:=b,c:=bt 0 t } } mem o⟩) (fun κ h=>h) rfl (fun Z k hk=>hk) (fun Z k hk=>kp (XA _).symm hk) ?_
 refine m_1 (σ':=⟨[(0,.ref 4),(21,.bound u g),(29,.int ad),(43,.int (t/2))],shp { c with f:={ c.f with n:=false,z:=decide (t/2=0),c:=bt 0 t } } (wr mem ad (t/2)) o⟩) (fun k hk=>⟨h3,hk⟩) ?_
 exact h2
theorem i5:∀args hp k,J2 .lsr args hp k->jc [0,21] (pSs pi0 H2 UW) args hp k:=
 VV (fun Z c mem o m k hm h1 h3 hO h2=>m_1 (σ':=⟨[(0,.ref 4),(21,.bound (.ref 4) (mdA m)),(29,.int (eaA m c mem)),(43,.int (rd mem (eaA m c mem)))],shp { c with ex:=eaX m c mem } mem o⟩) (fun k hk=>aV hm h1 h3 hO hk) (vB (hO.mem.rd _) h3 (by rw[vA _ _ (hO.mem.rd _)] at h2;exact h2))) (fun h=>ft h)
theorem wx{c:Cpu}{o:Os}{t:Int}{k:PV->List PO->Prop}(hv:isB t)(h2:k .none (shp { c with a:=(2*t+b2 c.f.c)%256,f:=nzF { c.f with c:=bt 7 t } ((2*t+b2 c.f.c)%256) } mem o)):pSs pi0 H2 (UX.drop 1) ⟨[(0,.ref 4),(21,.none),(43,.int (t))],shp c mem o⟩ (fwK k):=by
 refine yJ (τ:=fun b=>⟨[(0,.ref 4),(21,.none),(43,.int (2*t+b2 b))],shp { c with f:={ c.f with c:=bt 7 t } } mem o⟩) (fun κ h=>h) (mH c.f) (fun e k hk=>?_) (fun e k hk=>?_) ?_
 ·refine yJ (τ:=fun b=>⟨[(0,.ref 4),(21,.none),(43,.int (t))],shp { c with f:={ c.f with c:=b } } mem o⟩) (fun κ h=>h) (V3 t) (fun Z k hk=>kp (bH e) hk) (fun Z k hk=>kp (iw _).symm hk) ?_
  exact m_v (x:=43) (fun k hk=>⟨hv.n64,hk⟩) (w:=2*t+b2 true) (or1 t) hk
 ·refine yJ (τ:=fun b=>⟨[(0,.ref 4),(21,.none),(43,.int (t))],shp { c with f:={ c.f with c:=b } } mem o⟩) (fun κ h=>h) (V3 t) (fun Z k hk=>kp (Vu _).symm hk) (fun Z k hk=>kp (bH e) hk) ?_
  exact m_v (x:=43) (fun k hk=>⟨hv.n64,hk⟩) (w:=2*t+b2 false) (by rw[tu];exact(Ch _).symm) hk
 refine m_v (x:=43) (fun k hk=>hk) (jA _) ?_
 refine m_1 (σ':=⟨[(0,.ref 4),(21,.none),(43,.int ((2*t+b2 c.f.c)%256))],shp { c with f:=nzF { c.f with c:=bt 7 t } ((2*t+b2 c.f.c)%256) } mem o⟩) (fun k hk=>yn nz2 (L:=[(0,.ref 4),(21,.none),(43,.int ((2*t+b2 c.f.c)%256))]) rfl (fun κ h=>h) hk) ?_
 refine m_1 (σ':=⟨[(0,.ref 4),(21,.none),(43,.int ((2*t+b2 c.f.c)%256))],shp { c with a:=(2*t+b2 c.f.c)%256,f:=nzF { c.f with c:=bt 7 t } ((2*t+b2 c.f.c)%256) } mem o⟩) (fun k hk=>hk) ?_
 exact h2
theorem i7:∀args hp k,J2 .rol args hp k->jc [0,21] (pSs pi0 H2 UX) args hp k:=
 VV (fun h=>ft h) (fun Z c mem o k hO h2=>m_1 (σ':=⟨[(0,.ref 4),(21,.none),(43,.int c.a)],shp c mem o⟩) (fun k hk=>hk) (wx hO.a (h2)))
theorem wA{c:Cpu}{o:Os}{t:Int}{k:PV->List PO->Prop}(hv:isB t)(h3:jC mem ad)(h2:k .none (shp { c with f:=nzF { c.f with c:=bt 0 t } (t/2+128*b2 c.f.c) } (wr mem ad (t/2+128*b2 c.f.c)) o)):pSs pi0 H2 (KC.drop 1) ⟨[(0,.ref 4),(21,.bound u g),(29,.int ad),(43,.int (t))],shp c mem o⟩ (fwK k):=by
 refine yJ (τ:=fun b=>⟨[(0,.ref 4),(21,.bound u g),(29,.int ad),(43,.int (t/2+128*b2 b))],shp { c with f:={ c.f with c:=bt 0 t } } mem o⟩) (fun κ h=>h) (mH c.f) (fun e k hk=>?_) (fun e k hk=>?_) ?_
 ·refine yJ (τ:=fun b=>⟨[(0,.ref 4),(21,.bound u g),(29,.int ad),(43,.int (t))],shp { c with f:={ c.f with c:=b } } mem o⟩) (fun κ h=>h) (te1 t) (fun Z k hk=>kp (bH e) hk) (fun Z k hk=>kp (iw _).symm hk) ?_
  exact m_v (x:=43) (fun k hk=>hk) (w:=t/2+128*b2 true) (nL hv) hk
 ·refine yJ (τ:=fun b=>⟨[(0,.ref 4),(21,.bound u g),(29,.int ad),(43,.int (t))],shp { c with f:={ c.f with c:=b } } mem o⟩) (fun κ h=>h) (te1 t) (fun Z k hk=>kp (Vu _).symm hk) (fun Z k hk=>kp (bH e) hk) ?_
  exact m_v (x:=43) (fun k hk=>hk) (w:=t/2+128*b2 false) (by rw[mj];exact(Ch _).symm) hk
 refine m_1 (σ':=⟨[(0,.ref 4),(21,.bound u g),(29,.int ad),(43,.int (t/2+128*b2 c.f.c))],shp { c with f:=nzF { c.f with c:=bt 0 t } (t/2+128*b2 c.f.c) } mem o⟩) (fun k hk=>yn nz2 (L:=[(0,.ref 4),(21,.bound u g),(29,.int ad),(43,.int (t/2+128*b2 c.f.c))]) rfl (fun κ h=>h) hk) ?_
 refine m_1 (σ':=⟨[(0,.ref 4),(21,.bound u g),(29,.int ad),(43,.int (t/2+128*b2 c.f.c))],shp { c with f:=nzF { c.f with c:=bt 0 t } (t/2+128*b2 c.f.c) } (wr mem ad (t/2+128*b2 c.f.c)) o⟩) (fun k hk=>⟨h3,hk⟩) ?_
 exact h2
theorem wy{c:Cpu}{o:Os}{t:Int}{k:PV->List PO->Prop}(hv:isB t)(h2:k .none (shp { c with a:=t/2+128*b2 c.f.c,f:=nzF { c.f with c:=bt 0 t } (t/2+128*b2 c.f.c) } mem o)):pSs pi0 H2 (KC.drop 1) ⟨[(0,.ref 4),(21,.none),(43,.int (t))],shp c mem o⟩ (fwK k):=by
 refine yJ (τ:=fun b=>⟨[(0,.ref 4),(21,.none),(43,.int (t/2+128*b2 b))],shp { c with f:={ c.f with c:=bt 0 t } } mem o⟩) (fun κ h=>h) (mH c.f) (fun e k hk=>?_) (fun e k hk=>?_) ?_
 ·refine yJ (τ:=fun b=>⟨[(0,.ref 4),(21,.none),(43,.int (t))],shp { c with f:={ c.f with c:=b } } mem o⟩) (fun κ h=>h) (te1 t) (fun Z k hk=>kp (bH e) hk) (fun Z k hk=>kp (iw _).symm hk) ?_
  exact m_v (x:=43) (fun k hk=>hk) (w:=t/2+128*b2 true) (nL hv) hk
 ·refine yJ (τ:=fun b=>⟨[(0,.ref 4),(21,.none),(43,.int (t))],shp { c with f:={ c.f with c:=b } } mem o⟩) (fun κ h=>h) (te1 t) (fun Z k hk=>kp (Vu _).symm hk) (fun Z k hk=>kp (bH e) hk) ?_
  exact m_v (x:=43) (fun k hk=>hk) (w:=t/2+128*b2 false) (by rw[mj];exact(Ch _).symm) hk
 refine m_1 (σ':=⟨[(0,.ref 4),(21,.none),(43,.int (t/2+128*b2 c.f.c))],shp { c with f:=nzF { c.f with c:=bt 0 t } (t/2+128*b2 c.f.c) } mem o⟩) (fun k hk=>yn nz2 (L:=[(0,.ref 4),(21,.none),(43,.int (t/2+128*b2 c.f.c))]) rfl (fun κ h=>h) hk) ?_
 refine m_1 (σ':=⟨[(0,.ref 4),(21,.none),(43,.int (t/2+128*b2 c.f.c))],shp { c with a:=t/2+128*b2 c.f.c,f:=nzF { c.f with c:=bt 0 t } (t/2+128*b2 c.f.c) } mem o⟩) (fun k hk=>hk) ?_
 exact h2
theorem i8:∀args hp k,J2 .ror args hp k->jc [0,21] (pSs pi0 H2 KC) args hp k:=
 VV (fun Z c mem o m k hm h1 h3 hO h2=>m_1 (σ':=⟨[(0,.ref 4),(21,.bound (.ref 4) (mdA m)),(29,.int (eaA m c mem)),(43,.int (rd mem (eaA m c mem)))],shp { c with ex:=eaX m c mem } mem o⟩) (fun k hk=>aV hm h1 h3 hO hk) (wA (hO.mem.rd _) h3 (h2))) (fun Z c mem o k hO h2=>m_1 (σ':=⟨[(0,.ref 4),(21,.none),(43,.int c.a)],shp c mem o⟩) (fun k hk=>hk) (wy hO.a (h2)))
theorem uD{c:Cpu}{o:Os}{t:Int}{k:PV->List PO->Prop}(hv:isB t)(h3:jC mem ad)(h2:k .none (shp { c with f:={ c.f with n:=bt 7 ((t-1)%256),z:=decide ((t-1)%256=0) } } (wr mem ad ((t-1)%256)) o)):pSs pi0 H2 (Qj.drop 1) ⟨[(0,.ref 4),(21,.bound u g),(29,.int ad),(43,.int (t))],shp c mem o⟩ (fwK k):=by
 refine m_p (f:={ c.f with n:=false,z:=false }) (fun k hk=>hk) (dm _).symm ?_
 refine m_v (x:=43) (fun k hk=>hk) (w:=(t-1)%256) (by rw[jA,jQ]) ?_
 refine aF (c:=decide ((t-1)%256=0)) (τ:=fun b=>⟨[(0,.ref 4),(21,.bound u g),(29,.int ad),(43,.int ((t-1)%256))],shp { c with f:={ c.f with n:=bt 7 ((t-1)%256),z:=b } } mem o⟩) (fun κ h=>h) rfl (fun Z k hk=>kp (ZL { c.f with n:=false,z:=false } ((t-1)%256)).symm hk) (fun e k hk=>?_) ?_
 ·rw[bz e] at hk
  exact kp (XA { c.f with n:=false,z:=false }).symm hk
 refine m_1 (σ':=⟨[(0,.ref 4),(21,.bound u g),(29,.int ad),(43,.int ((t-1)%256))],shp { c with f:={ c.f with n:=bt 7 ((t-1)%256),z:=decide ((t-1)%256=0) } } (wr mem ad ((t-1)%256)) o⟩) (fun k hk=>⟨h3,hk⟩) ?_
 exact h2
theorem d8:∀args hp k,J2 .dec args hp k->jc [0,21] (pSs pi0 H2 Qj) args hp k:=
 VV (fun Z c mem o m k hm h1 h3 hO h2=>m_1 (σ':=⟨[(0,.ref 4),(21,.bound (.ref 4) (mdA m)),(29,.int (eaA m c mem)),(43,.int (rd mem (eaA m c mem)))],shp { c with ex:=eaX m c mem } mem o⟩) (fun k hk=>aV hm h1 h3 hO hk) (uD (hO.mem.rd _) h3 (h2))) (fun h=>ft h)
theorem ve{c:Cpu}{o:Os}{t:Int}{k:PV->List PO->Prop}(hv:isB t)(h3:jC mem ad)(h2:k .none (shp { c with f:={ c.f with n:=bt 7 ((t+1)%256),z:=decide ((t+1)%256=0) } } (wr mem ad ((t+1)%256)) o)):pSs pi0 H2 (Qk.drop 1) ⟨[(0,.ref 4),(21,.bound u g),(29,.int ad),(43,.int (t))],shp c mem o⟩ (fwK k):=by
 refine m_p (f:={ c.f with n:=false,z:=false }) (fun k hk=>hk) (dm _).symm ?_
 refine m_v (x:=43) (fun k hk=>hk) (w:=(t+1)%256) (by rw[jA,zy]) ?_
 refine aF (c:=decide ((t+1)%256=0)) (τ:=fun b=>⟨[(0,.ref 4),(21,.bound u g),(29,.int ad),(43,.int ((t+1)%256))],shp { c with f:={ c.f with n:=bt 7 ((t+1)%256),z:=b } } mem o⟩) (fun κ h=>h) rfl (fun Z k hk=>kp (ZL { c.f with n:=false,z:=false } ((t+1)%256)).symm hk) (fun e k hk=>?_) ?_
 ·rw[bz e] at hk
  exact kp (XA { c.f with n:=false,z:=false }).symm hk
 refine m_1 (σ':=⟨[(0,.ref 4),(21,.bound u g),(29,.int ad),(43,.int ((t+1)%256))],shp { c with f:={ c.f with n:=bt 7 ((t+1)%256),z:=decide ((t+1)%256=0) } } (wr mem ad ((t+1)%256)) o⟩) (fun k hk=>⟨h3,hk⟩) ?_
 exact h2
theorem d9:∀args hp k,J2 .inc args hp k->jc [0,21] (pSs pi0 H2 Qk) args hp k:=
 VV (fun Z c mem o m k hm h1 h3 hO h2=>m_1 (σ':=⟨[(0,.ref 4),(21,.bound (.ref 4) (mdA m)),(29,.int (eaA m c mem)),(43,.int (rd mem (eaA m c mem)))],shp { c with ex:=eaX m c mem } mem o⟩) (fun k hk=>aV hm h1 h3 hO hk) (ve (hO.mem.rd _) h3 (h2))) (fun h=>ft h)
noncomputable def Um(g:Rg):Sp:=fun args hp k=>∃c mem o m,args = [.ref 4,.bound (.ref 4) (mdA m)]/\hp=shp c mem o/\qI m=true/\qP m c mem/\jC mem (eaA m c mem)/\Ok c mem/\k .none (shp { c with ex:=eaX m c mem } (wr mem (eaA m c mem) (c.rg g)) o)
noncomputable def mk:Nat->Int
 | 0=>1 | 1=>2 | 2=>4 | 3=>8 | 6=>64 | 7=>128 | _=>0
def rC(b:Nat):Prop:=b=1
def fG(b:Nat):Prop:=b=0∨b=6
theorem A6{b:Nat}(f:Fl)(h:rC b):(zx (pk f) (mk b) !=0)=f.at b:=by
 subst h
 ·exact A7 f
theorem kb:∀args hp k,Um .a args hp k->jc [0,21] (pSs pi0 H2 Ym) args hp k:=by
 rintro args hp k ⟨c,mem,o,m,rfl,rfl,hm,h1,h3,hO,h2⟩
 refine⟨rfl,?_⟩
 conv=>whnf
 refine J7 hm h1 hO ?_;conv=>whnf
 exact⟨h3,h2⟩
theorem ke:∀args hp k,Um .x args hp k->jc [0,22] (pSs pi0 H2 Yn) args hp k:=by
 rintro args hp k ⟨c,mem,o,m,rfl,rfl,hm,h1,h3,hO,h2⟩
 refine⟨rfl,?_⟩
 conv=>whnf
 refine J7 hm h1 hO ?_;conv=>whnf
 exact⟨h3,h2⟩
theorem kg:∀args hp k,Um .y args hp k->jc [0,21] (pSs pi0 H2 Yo) args hp k:=by
 rintro args hp k ⟨c,mem,o,m,rfl,rfl,hm,h1,h3,hO,h2⟩
 refine⟨rfl,?_⟩
 conv=>whnf
 refine J7 hm h1 hO ?_;conv=>whnf
 exact⟨h3,h2⟩
noncomputable def m3:Sp:=fun args hp k=>∃c mem o b,args = [.ref 4,.int (mk b)]/\hp=shp c mem o/\fG b/\k .none (shp { c with f:=c.f.to false b } mem o)
theorem iX:∀args hp k,m3 args hp k->jc [0,21] (pSs pi0 H2 Ye) args hp k:=by
 rintro args hp k ⟨c,mem,o,b,rfl,rfl,hb,h2⟩
 refine⟨rfl,?_⟩
 conv=>whnf
 refine kc h2 rfl rfl rfl rfl rfl rfl ?_ rfl rfl rfl rfl rfl
 rcases hb with rfl | rfl
 ·exact(iw c.f).symm
 ·exact(xQ c.f).symm
noncomputable def m6:Sp:=fun args hp k=>∃c mem o b,args = [.ref 4,.int (mk b)]/\hp=shp c mem o/\fG b/\k .none (shp { c with f:=c.f.to true b } mem o)
theorem ka:∀args hp k,m6 args hp k->jc [0,21] (pSs pi0 H2 Yl) args hp k:=by
 rintro args hp k ⟨c,mem,o,b,rfl,rfl,hb,h2⟩
 refine⟨rfl,?_⟩
 conv=>whnf
 refine kc h2 rfl rfl rfl rfl rfl rfl ?_ rfl rfl rfl rfl rfl
 rcases hb with rfl | rfl
 ·exact(Vu c.f).symm
 ·exact(mi c.f).symm
noncomputable def m0:Sp:=fun args hp k=>∃c mem o,args = [.ref 4]/\hp=shp c mem o/\jC mem c.pc/\Bts mem/\k .none (shp (c6 c (rd mem c.pc)) mem o)
theorem QV:∀args hp k,m0 args hp k->jc [0] (pSs pi0 H2 qF) args hp k:=by
 rintro args hp k ⟨c,mem,o,rfl,rfl,h1,hB,h2⟩
 have hv:=hB.rd c.pc;have qa:Qg (Qg (c.pc+1) (jR (rd mem c.pc) 255)) 1=c.pc+1+rd mem c.pc-256*b2 true:=by rw[jQ,jQ,ua _ hv.1 hv.2];show _=_-256*1;omega
 have qb:jK (c.pc+1) (rd mem c.pc)=c.pc+1+rd mem c.pc-256*b2 false:=by rw[zy];exact(Int.sub_zero _).symm
 refine⟨rfl,?_⟩
 refine m_1 (σ':=⟨[(0,.ref 4)],shp { c with ex:=c.ex+1 } mem o⟩) (fun k hk=>kf (c':={ c with ex:=jK c.ex 1 }) (by rw[zy]) hk) ?_
 refine m_1 (σ':=⟨[(0,.ref 4),(29,.int (rd mem c.pc))],shp { c with ex:=c.ex+1 } mem o⟩) (fun k hk=>⟨{ c with ex:=c.ex+1 },mem,o,rfl,rfl,h1,hk⟩) ?_
 refine m_1 (σ':=⟨[(0,.ref 4),(29,.int (rd mem c.pc))],shp { c with pc:=c.pc+1,ex:=c.ex+1 } mem o⟩) (fun k hk=>kf (c':={ c with pc:=jK c.pc 1,ex:=c.ex+1 }) (by rw[zy]) hk) ?_
 refine yJ (τ:=fun b=>⟨[(0,.ref 4),(29,.int (c.pc+1+rd mem c.pc-256*b2 b))],shp { c with pc:=c.pc+1,ex:=c.ex+1 } mem o⟩) (fun κ h=>h) (V3 _) (fun Z k hk=>m_v (x:=29) (fun k hk=>hk) qa hk) (fun Z k hk=>m_v (x:=29) (fun k hk=>hk) qb hk) ?_
 refine yJ (τ:=fun b=>⟨[(0,.ref 4),(29,.int (c.pc+1+rd mem c.pc-256*b2 (bt 7 (rd mem c.pc))))],shp { c with pc:=c.pc+1,ex:=c.ex+1+b2 b } mem o⟩) (fun κ h=>h) (crs ..) (fun Z k hk=>kf (c':={ c with pc:=c.pc+1,ex:=jK (c.ex+1) 1 }) (by rw[zy];rfl) hk) (fun Z k hk=>kf (c':={ c with pc:=c.pc+1,ex:=c.ex+1 }) (by show _ = { c with pc:=c.pc+1,ex:=c.ex+1+0 };rw[Ch]) hk) ?_
 refine m_1 (σ':=⟨[(0,.ref 4),(29,.int (c.pc+1+rd mem c.pc-256*b2 (bt 7 (rd mem c.pc))))],shp { c with pc:=(c.pc+1+rd mem c.pc-256*b2 (bt 7 (rd mem c.pc)))%65536,ex:=c.ex+1+b2 (Jh (c.pc+1) (c.pc+1+rd mem c.pc-256*b2 (bt 7 (rd mem c.pc)))) } mem o⟩) (fun k hk=>kf (c':={ c with pc:=zx (c.pc+1+rd mem c.pc-256*b2 (bt 7 (rd mem c.pc))) 65535,ex:=c.ex+1+b2 (Jh (c.pc+1) (c.pc+1+rd mem c.pc-256*b2 (bt 7 (rd mem c.pc)))) }) (by rw[yW]) hk) ?_
 exact h2
noncomputable def H3b:Hd:=(H2).ext 162 m0
noncomputable def ue(on:Bool):Sp:=fun args hp k=>∃c mem o b,args = [.ref 4,.int (mk b)]/\hp=shp c mem o/\rC b/\jC mem c.pc/\Bts mem/\k .none (shp (cond (c.f.at b==on) (c6 c (rd mem c.pc)) { c with pc:=c.pc+1 }) mem o)
theorem iV:∀args hp k,ue false args hp k->jc [0,21] (pSs pi0 H3b Yd) args hp k:=by
 rintro args hp k ⟨c,mem,o,b,rfl,rfl,hb,h1,hB,h2⟩
 refine⟨rfl,?_⟩
 conv=>whnf
 refine cs2 (A6 c.f hb) (fun e1=>?_) (fun e1=>?_)<;>rw[e1] at h2
 ·exact kc h2 rfl (zy ..).symm rfl rfl rfl rfl rfl rfl rfl rfl rfl rfl
 ·exact⟨c,mem,o,rfl,rfl,h1,hB,h2⟩
noncomputable def H4:Hd:=((((((((((((((((((((((H3b).ext 344 (qy .lda)).ext 358 (qy .ldx)).ext 351 (qy .ldy)).ext 204 (qy .ora)).ext 253 (qy .and)).ext 274 (qy .eor)).ext 260 (qy .bit)).ext 281 (qy .adc)).ext 323 (qy .sbc)).ext 316 cF).ext 211 (J2 .asl)).ext 218 (J2 .lsr)).ext 267 (J2 .rol)).ext 288 (J2 .ror)).ext 330 (J2 .dec)).ext 337 (J2 .inc)).ext 295 (Um .a)).ext 309 (Um .x)).ext 302 (Um .y)).ext 239 m3).ext 246 m6).ext 225 (ue false)
theorem s8(r:Rd)(c:Cpu)(v:Int):(rdF r c v).pc=c.pc:=by
 cases r<;>rfl
noncomputable def zH(op:Op):Sp:=fun args hp k=>∃c mem o,args = [.ref 4]/\hp=shp c mem o/\YE op c mem/\Ok c mem/\k .none (shp (xop op c mem).1 (xop op c mem).2 o)
def cz(H:Hd)(op:Op)(ir:List IS):Prop:=∀args hp k,zH op args hp k->jc [0] (pSs pi0 H ir) args hp k
theorem jh{op:Op}(h:∀c mem o k,YE op c mem->Ok c mem->k .none (shp (xop op c mem).1 (xop op c mem).2 o)->pSs pi0 H ir ⟨[(0,.ref 4)],shp c mem o⟩ (fwK k)):cz H op ir:=by
 rintro args hp k ⟨c,mem,o,rfl,rfl,h1,hO,h2⟩
 exact⟨rfl,h c mem o k h1 hO h2⟩
theorem nz4:NzH H4:=fun Z Z Z h=>h
noncomputable abbrev Ins:=cz H4
noncomputable def ir2(x f y a:Nat)(n:Int):List IS:=[.expr (.mcall 0 x f [.meth 0 y a]),.aattr 0 2 .Add (.int n)]
theorem xX{r:Rd}{m:Md}{f a:Nat}{n:Int}(hm:qI m=true)(ha:mdA m=a)(hn:mdL m=n)(hx:∀c,Ql (lk x (yH c))=true)(hy:∀c,Ql (lk y (yH c))=true)(hH:∀args hp k,qy r args hp k->H f args hp k):cz H (.rd r m) (ir2 x f y a n):=by
 subst ha hn
 rintro args hp k ⟨c,mem,o,rfl,rfl,h1,hO,h2⟩
 refine⟨rfl,?_⟩
 conv=>whnf
 rw[hx];conv=>whnf
 rw[hy];conv=>whnf
 refine hH _ _ _ (⟨c,mem,o,m,rfl,rfl,hm,h1.1,h1.2,hO,?_⟩);exact kc h2 rfl (by rw[zy,s8];rfl) rfl rfl rfl rfl rfl rfl rfl rfl rfl rfl
theorem xY{r:Rm}{m:Md}{f a:Nat}{n:Int}(hm:(rmM r&&qI m)=true)(ha:mdA m=a)(hn:mdL m=n)(hx:∀c,Ql (lk x (yH c))=true)(hy:∀c,Ql (lk y (yH c))=true)(hH:∀args hp k,J2 r args hp k->H f args hp k):cz H (.rmw r m) (ir2 x f y a n):=by
 subst ha hn
 rintro args hp k ⟨c,mem,o,rfl,rfl,h1,hO,h2⟩
 refine⟨rfl,?_⟩
 conv=>whnf
 rw[hx];conv=>whnf
 rw[hy];conv=>whnf
 refine hH _ _ _ (.inl ⟨c,mem,o,m,rfl,rfl,hm,h1.1,h1.2,hO,?_⟩);exact kc h2 rfl (by rw[zy];rfl) rfl rfl rfl rfl rfl rfl rfl rfl rfl rfl
theorem uP{r:Rg}{m:Md}{f a:Nat}{n:Int}(hm:qI m=true)(ha:mdA m=a)(hn:mdL m=n)(hx:∀c,Ql (lk x (yH c))=true)(hy:∀c,Ql (lk y (yH c))=true)(hH:∀args hp k,Um r args hp k->H f args hp k):cz H (.sto r m) (ir2 x f y a n):=by
 subst ha hn
 rintro args hp k ⟨c,mem,o,rfl,rfl,h1,hO,h2⟩
 refine⟨rfl,?_⟩
 conv=>whnf
 rw[hx];conv=>whnf
 rw[hy];conv=>whnf
 refine hH _ _ _ (⟨c,mem,o,m,rfl,rfl,hm,h1.1,h1.2,hO,?_⟩);exact kc h2 rfl (by rw[zy];rfl) rfl rfl rfl rfl rfl rfl rfl rfl rfl rfl
theorem i_8:Ins .php Kd:=by
 refine jh fun c mem o k h1 hO h2=>?_
 conv=>whnf
 rw[wV,wZ]
 exact⟨c,mem,o,_,rfl,rfl,h1,hO.sp,y9 _,h2⟩
theorem x5:Ins (.acc .asl) Ke:=
 jh fun c mem o k h1 hO h2=>.inr ⟨c,mem,o,rfl,rfl,rfl,hO,h2⟩
theorem x6:Ins (.flag 0 false) Kf:=by
 refine jh fun c mem o k h1 hO h2=>?_
 exact⟨c,mem,o,0,rfl,rfl,by unfold fG;decide,h2⟩
theorem x7:Ins .jsr Kg:=by
 refine jh fun c mem o k h1 hO h2=>?_
 have hs1:isB (yN c).sp:=JJ _;have hs2:isB (yN (yN c)).sp:=JJ _;have ep:zx (jK c.pc 1) 65535=(c.pc+1)%65536:=by rw[yW,zy]
 have hB:∀z,Bts (Jr c mem z):=fun z=>(hO.mem.wr _ (JJ _)).wr _ (JJ _)
 have hL:∀z,(Jr c mem z).length=mem.length:=fun z=>by unfold Jr QO;rw[zB,zB]
 have hA:∀z ad,jC mem ad->jC (Jr c mem z) ad:=fun z ad h=>⟨h.1,by rw[hL];exact h.2.1,h.2.2⟩
 conv=>whnf
 rw[ep]
 refine⟨c,mem,o,_,rfl,rfl,h1.1,hO.sp,?_⟩
 conv=>whnf
 refine⟨yN (yN c),_,o,c.pc,rfl,rfl,⟨hA _ _ h1.2.1,hA _ _ h1.2.2⟩,hB _,?_⟩
 exact h2
theorem x8:Ins .plp Kh:=by
 refine jh fun c mem o k h1 hO h2=>?_
 have e:iOr (iOr (yL c mem) 16) 32=pk (plF (yL c mem)):=by
  have hv:=hO.mem.rd ((c.sp+1)%256+256);conv=>lhs;rw[show yL c mem=pk (unp (yL c mem)) from(Qu hv.1 hv.2).symm]
  rw[wV,wZ];rfl
 refine⟨c,mem,o,rfl,rfl,h1,?_⟩
 exact kc h2 rfl rfl rfl rfl rfl rfl e.symm rfl rfl rfl rfl rfl
theorem x9:Ins (.acc .rol) Ki:=
 jh fun c mem o k h1 hO h2=>.inr ⟨c,mem,o,rfl,rfl,rfl,hO,h2⟩
theorem Aa:Ins (.flag 0 true) Kj:=by
 refine jh fun c mem o k h1 hO h2=>?_
 exact⟨c,mem,o,0,rfl,rfl,by unfold fG;decide,h2⟩
theorem Ab:Ins .pha Kk:=
 jh fun c mem o k h1 hO h2=>⟨c,mem,o,_,rfl,rfl,h1,hO.sp,hO.a,h2⟩
theorem Ac:Ins .rts Kl:=by
 refine jh fun c mem o k h1 hO h2=>?_
 refine⟨c,mem,o,rfl,rfl,h1,hO.mem,?_⟩
 exact kc h2 rfl (by rw[zy];rfl) rfl rfl rfl rfl rfl rfl rfl rfl rfl rfl
theorem uU:Ins .pla Km:=
 jh fun c mem o k h1 hO h2=>m_1 (σ':=⟨[(0,.ref 4)],shp { Jc c with a:=yL c mem } mem o⟩) (fun k hk=>⟨c,mem,o,rfl,rfl,h1,hk⟩) (m_1 (fun k hk=>yn nz4 (L:=[(0,.ref 4)]) rfl (fun κ h=>h) hk) h2)
theorem uV:Ins (.acc .ror) Kn:=
 jh fun c mem o k h1 hO h2=>.inr ⟨c,mem,o,rfl,rfl,rfl,hO,h2⟩
theorem uW:Ins .dny Ko:=
 jh fun c mem o k h1 hO h2=>m_1 (σ':=⟨[(0,.ref 4)],shp { c with y:=Qg c.y 1 } mem o⟩) (fun k hk=>hk) (m_1 (σ':=⟨[(0,.ref 4)],shp { c with y:=(c.y-1)%256 } mem o⟩) (fun k hk=>kf (c':={ c with y:=zx (Qg c.y 1) 255 }) (by rw[jA,jQ]) hk) (m_1 (fun k hk=>yn nz4 (L:=[(0,.ref 4)]) rfl (fun κ h=>h) hk) h2))
theorem uX:Ins (.tr .x .a) Kp:=
 jh fun c mem o k h1 hO h2=>m_1 (σ':=⟨[(0,.ref 4)],shp { c with a:=c.x } mem o⟩) (fun k hk=>hk) (m_1 (fun k hk=>yn nz4 (L:=[(0,.ref 4)]) rfl (fun κ h=>h) hk) h2)
theorem uY:Ins (.tr .y .a) Kq:=
 jh fun c mem o k h1 hO h2=>m_1 (σ':=⟨[(0,.ref 4)],shp { c with a:=c.y } mem o⟩) (fun k hk=>hk) (m_1 (fun k hk=>yn nz4 (L:=[(0,.ref 4)]) rfl (fun κ h=>h) hk) h2)
theorem uZ:Ins .txs Kr:=
 jh fun c mem o k h1 hO h2=>h2
theorem u3:Ins (.tr .a .x) Ks:=
 jh fun c mem o k h1 hO h2=>m_1 (σ':=⟨[(0,.ref 4)],shp { c with x:=c.a } mem o⟩) (fun k hk=>hk) (m_1 (fun k hk=>yn nz4 (L:=[(0,.ref 4)]) rfl (fun κ h=>h) hk) h2)
theorem u4:Ins (.flag 6 false) Kt:=by
 refine jh fun c mem o k h1 hO h2=>?_
 exact⟨c,mem,o,6,rfl,rfl,by unfold fG;decide,h2⟩
theorem u5:Ins .tsx Ku:=
 jh fun c mem o k h1 hO h2=>m_1 (σ':=⟨[(0,.ref 4)],shp { c with x:=c.sp } mem o⟩) (fun k hk=>hk) (m_1 (fun k hk=>yn nz4 (L:=[(0,.ref 4)]) rfl (fun κ h=>h) hk) h2)
theorem u6:Ins .upy Kv:=
 jh fun c mem o k h1 hO h2=>m_1 (σ':=⟨[(0,.ref 4)],shp { c with y:=jK c.y 1 } mem o⟩) (fun k hk=>hk) (m_1 (σ':=⟨[(0,.ref 4)],shp { c with y:=(c.y+1)%256 } mem o⟩) (fun k hk=>kf (c':={ c with y:=zx (jK c.y 1) 255 }) (by rw[jA,zy]) hk) (m_1 (fun k hk=>yn nz4 (L:=[(0,.ref 4)]) rfl (fun κ h=>h) hk) h2))
theorem u7:Ins (.cmp .a .pc) Kw:=by
 refine jh fun c mem o k h1 hO h2=>?_
 refine⟨c,mem,o,.pc,_,rfl,rfl,rfl,h1.1,h1.2,hO,?_⟩
 exact kc h2 rfl (by rw[zy];rfl) rfl rfl rfl rfl rfl rfl rfl rfl rfl rfl
theorem u8:Ins .dnx Kx:=
 jh fun c mem o k h1 hO h2=>m_1 (σ':=⟨[(0,.ref 4)],shp { c with x:=Qg c.x 1 } mem o⟩) (fun k hk=>hk) (m_1 (σ':=⟨[(0,.ref 4)],shp { c with x:=(c.x-1)%256 } mem o⟩) (fun k hk=>kf (c':={ c with x:=zx (Qg c.x 1) 255 }) (by rw[jA,jQ]) hk) (m_1 (fun k hk=>yn nz4 (L:=[(0,.ref 4)]) rfl (fun κ h=>h) hk) h2))
theorem u9:Ins (.bra 1 false) Ky:=by
 refine jh fun c mem o k h1 hO h2=>?_
 exact⟨c,mem,o,1,rfl,rfl,by unfold rC;decide,h1,hO.mem,h2⟩
theorem vc:Ins (.cmp .x .pc) Kz:=by
 refine jh fun c mem o k h1 hO h2=>?_
 refine⟨c,mem,o,.pc,_,rfl,rfl,rfl,h1.1,h1.2,hO,?_⟩
 exact kc h2 rfl (by rw[zy];rfl) rfl rfl rfl rfl rfl rfl rfl rfl rfl rfl
theorem vd:Ins .upx KA:=
 jh fun c mem o k h1 hO h2=>m_1 (σ':=⟨[(0,.ref 4)],shp { c with x:=jK c.x 1 } mem o⟩) (fun k hk=>hk) (m_1 (σ':=⟨[(0,.ref 4)],shp { c with x:=(c.x+1)%256 } mem o⟩) (fun k hk=>kf (c':={ c with x:=zx (jK c.x 1) 255 }) (by rw[jA,zy]) hk) (m_1 (fun k hk=>yn nz4 (L:=[(0,.ref 4)]) rfl (fun κ h=>h) hk) h2))
noncomputable def H5:Hd:=((((((((((((((((((((((((((((((((((((((((((((((((((((H4).ext 386 (zH (.rd .ora .zp))).ext 400 (zH .php)).ext 407 (zH (.rd .ora .pc))).ext 414 (zH (.acc .asl))).ext 463 (zH (.flag 0 false))).ext 491 (zH .jsr)).ext 505 (zH (.rd .bit .zp))).ext 512 (zH (.rd .and .zp))).ext 526 (zH .plp)).ext 533 (zH (.rd .and .pc))).ext 540 (zH (.acc .rol))).ext 596 (zH (.flag 0 true))).ext 645 (zH (.rmw .lsr .zp))).ext 652 (zH .pha)).ext 659 (zH (.rd .eor .pc))).ext 750 (zH .rts)).ext 764 (zH (.rd .adc .zp))).ext 771 (zH (.rmw .ror .zp))).ext 778 (zH .pla)).ext 785 (zH (.rd .adc .pc))).ext 792 (zH (.acc .ror))).ext 883 (zH (.sto .y .zp))).ext 890 (zH (.sto .a .zp))).ext 897 (zH (.sto .x .zp))).ext 904 (zH .dny)).ext 911 (zH (.tr .x .a))).ext 946 (zH (.sto .a .iny))).ext 974 (zH (.tr .y .a))).ext 988 (zH .txs)).ext 995 (zH (.sto .a .abx))).ext 1002 (zH (.rd .ldy .pc))).ext 1016 (zH (.rd .ldx .pc))).ext 1023 (zH (.rd .ldy .zp))).ext 1030 (zH (.rd .lda .zp))).ext 1037 (zH (.rd .ldx .zp))).ext 1051 (zH (.rd .lda .pc))).ext 1058 (zH (.tr .a .x))).ext 1093 (zH (.rd .lda .iny))).ext 1121 (zH (.flag 6 false))).ext 1128 (zH (.rd .lda .aby))).ext 1135 (zH .tsx)).ext 1149 (zH (.rd .lda .abx))).ext 1191 (zH (.rmw .dec .zp))).ext 1198 (zH .upy)).ext 1205 (zH (.cmp .a .pc))).ext 1212 (zH .dnx)).ext 1240 (zH (.bra 1 false))).ext 1296 (zH (.cmp .x .pc))).ext 1317 (zH (.rd .sbc .zp))).ext 1324 (zH (.rmw .inc .zp))).ext 1331 (zH .upx)).ext 1338 (zH (.rd .sbc .pc))
noncomputable def opL:List Nat:=[5,8,9,10,24,32,36,37,40,41,42,56,70,72,73,96,101,102,104,105,106,132,133,134,136,138,145,152,154,157,160,162,164,165,166,169,170,177,184,185,186,189,198,200,201,202,208,224,229,230,232,233]
noncomputable def xcT:Nat->Int:=fun n=>cond (Nat.beq n 208) 2 (cond (Nat.beq n 189) 1 (cond (Nat.beq n 185) 1 (cond (Nat.beq n 177) 1 (0))))
noncomputable def cyT:Nat->Int:=fun n=>cond (Nat.beq n 233) 2 (cond (Nat.beq n 232) 2 (cond (Nat.beq n 230) 5 (cond (Nat.beq n 229) 3 (cond (Nat.beq n 224) 2 (cond (Nat.beq n 208) 2 (cond (Nat.beq n 202) 2 (cond (Nat.beq n 201) 2 (cond (Nat.beq n 200) 2 (cond (Nat.beq n 198) 5 (cond (Nat.beq n 189) 4 (cond (Nat.beq n 186) 2 (cond (Nat.beq n 185) 4 (cond (Nat.beq n 184) 2 (cond (Nat.beq n 177) 5 (cond (Nat.beq n 170) 2 (cond (Nat.beq n 169) 2 (cond (Nat.beq n 166) 3 (cond (Nat.beq n 165) 3 (cond (Nat.beq n 164) 3 (cond (Nat.beq n 162) 2 (cond (Nat.beq n 160) 2 (cond (Nat.beq n 157) 5 (cond (Nat.beq n 154) 2 (cond (Nat.beq n 152) 2 (cond (Nat.beq n 145) 6 (cond (Nat.beq n 138) 2 (cond (Nat.beq n 136) 2 (cond (Nat.beq n 134) 3 (cond (Nat.beq n 133) 3 (cond (Nat.beq n 132) 3 (cond (Nat.beq n 106) 2 (cond (Nat.beq n 105) 2 (cond (Nat.beq n 104) 4 (cond (Nat.beq n 102) 5 (cond (Nat.beq n 101) 3 (cond (Nat.beq n 96) 6 (cond (Nat.beq n 73) 2 (cond (Nat.beq n 72) 3 (cond (Nat.beq n 70) 5 (cond (Nat.beq n 56) 2 (cond (Nat.beq n 42) 2 (cond (Nat.beq n 41) 2 (cond (Nat.beq n 40) 4 (cond (Nat.beq n 37) 3 (cond (Nat.beq n 36) 3 (cond (Nat.beq n 32) 6 (cond (Nat.beq n 24) 2 (cond (Nat.beq n 10) 2 (cond (Nat.beq n 9) 2 (cond (Nat.beq n 8) 3 (cond (Nat.beq n 5) 3 (0))))))))))))))))))))))))))))))))))))))))))))))))))))
noncomputable def stp(n:Nat)(op:Op)(c:Cpu)(mem:Mem):Cpu×Mem:=(st2 (xop op (st1 c (xcT n)) mem).1 (cyT n),(xop op (st1 c (xcT n)) mem).2)
structure StpOk(n:Nat)(op:Op)(c:Cpu)(mem:Mem):Prop where
 ad:jC mem c.pc
 cd:rd mem c.pc=(n:Int)
 has:n∈opL
 opk:Qt n=some op
 ok:YE op (st1 c (xcT n)) mem
 cok:Ok c mem
theorem Ok.st1{c:Cpu}(h:Ok c mem)(e:Int):Ok (Mine.st1 c e) mem:=⟨by show 0<=(c.pc+1)%65536;omega,h.sp,h.a,h.x,h.y,h.mem⟩
noncomputable def Ul:Sp:=fun args hp k=>∃c mem o n op,args = [.ref 4]/\hp=shp c mem o/\StpOk n op c mem/\k (.ref 4) (shp (stp n op c mem).1 (stp n op c mem).2 o)
theorem fa{P:Nat->Prop}{a:Nat}{l:List Nat}(h:P a)(k:∀n,n∈l->P n):∀n,n∈a::l->P n:=fun n m=>by
 cases m with
 | head=>exact h
 | tail _ m=>exact k n m
structure OpTb(n:Nat)(op:Op)(f:Addr):Prop where
 xc:(pi0.tab 1425)[((n:Nat):Int).toNat]?=some (.int (xcT n))
 fn:(pi0.tab 1423)[((n:Nat):Int).toNat]?=some (.top f)
 cy:(pi0.tab 1424)[((n:Nat):Int).toNat]?=some (.int (cyT n))
 ft:pi0.fnT f=true
 hd:∀args hp k,zH op args hp k->H5 f args hp k
 lt:Dg n 256=true
theorem mA{n:Nat}{op:Op}(T:OpTb n op f){c:Cpu}{o:Os}{k:PV->List PO->Prop}(h1:jC mem c.pc)(h3:rd mem c.pc=(n:Int))(hI:YE op (st1 c (xcT n)) mem)(hO:Ok c mem)(h2:k (.ref 4) (shp (stp n op c mem).1 (stp n op c mem).2 o)):
  jc [0] (pSs pi0 H5 Xh) [.ref 4] (shp c mem o) k:=by
 have hn:0<=(n:Int)/\(n:Int)<2 ^ 63:=⟨Dt n,Cf (Int.ofNat_lt.mpr (Bs T.lt)) (by decide)⟩
 refine⟨rfl,?_⟩
 conv=>whnf
 refine⟨h1,?_⟩
 rw[show mem.getD c.pc.toNat 0=(n:Int) from h3]
 conv=>whnf
 refine⟨hn,?_⟩
 rw[T.xc];conv=>whnf
 refine⟨hn,?_⟩
 rw[T.fn];conv=>whnf
 refine⟨T.ft,?_⟩
 conv=>whnf
 refine T.hd _ _ _ ⟨st1 c (xcT n),mem,o,rfl,(by rw[yW,zy];rfl),hI,hO.st1 _,?_⟩
 conv=>whnf
 refine⟨hn,?_⟩
 rw[T.cy];exact kc h2 rfl (yW _).symm rfl rfl rfl rfl rfl rfl (by rw[zy,zy];rfl) rfl rfl rfl
def TbP(n:Nat):Prop:=∀op,Qt n=some op->∃f,OpTb n op f
theorem tz{n:Nat}{op:Op}(e:Qt n=some op)(T:OpTb n op f):TbP n:=fun op' h=>⟨f,Di (e.symm.trans h)▸T⟩
theorem tb:∀n,n∈opL->TbP n:=by
 refine fa ?_ (fa ?_ (fa ?_ (fa ?_ (fa ?_ (fa ?_ (fa ?_ (fa ?_ (fa ?_ (fa ?_ (fa ?_ (fa ?_ (fa ?_ (fa ?_ (fa ?_ (fa ?_ (fa ?_ (fa ?_ (fa ?_ (fa ?_ (fa ?_ (fa ?_ (fa ?_ (fa ?_ (fa ?_ (fa ?_ (fa ?_ (fa ?_ (fa ?_ (fa ?_ (fa ?_ (fa ?_ (fa ?_ (fa ?_ (fa ?_ (fa ?_ (fa ?_ (fa ?_ (fa ?_ (fa ?_ (fa ?_ (fa ?_ (fa ?_ (fa ?_ (fa ?_ (fa ?_ (fa ?_ (fa ?_ (fa ?_ (fa ?_ (fa ?_ (fa ?_ (fun _ h=>nomatch h))))))))))))))))))))))))))))))))))))))))))))))))))))<;>exact tz rfl ⟨rfl,rfl,rfl,rfl,fun _ _ _ h=>h,rfl⟩
theorem pe:∀args hp k,Ul args hp k->jc [0] (pSs pi0 H5 Xh) args hp k:=by
 rintro args hp k ⟨c,mem,o,n,op,rfl,rfl,⟨h1,h3,hN,hT,hI,hO⟩,h2⟩
 obtain⟨f,T⟩:=tb n hN op hT;exact mA T h1 h3 hI hO h2
theorem ei1:Qg (Qf 1 8) 1=255:=by rw[jQ,yu];decide
theorem ei2:Qg (Qf 1 16) 1=65535:=by rw[jQ,yu];decide
theorem ei3:Qf 255 8=65280:=by rw[yu];decide
theorem ei4:Qf 1 8=256:=by rw[yu];decide
noncomputable def fl0:Fl:=⟨false,false,true,true,false,false,false,false⟩
theorem ei5:iOr 16 32=pk fl0:=by rw[yI];decide
noncomputable def c0(pc:Int):Cpu:=⟨pc,255,0,0,0,fl0,0,.bool false,0,.str "6502",.int pc⟩
noncomputable def ZZ:Sp:=fun args hp k=>∃mem o pc,args = [.ref 4]/\hp=(o.o0::.tab 80::PO.il mem::o.o3::PO.inst [(3,.str "6502"),(4,.int 255),(5,.int 65535),(6,.int 65280),(7,.int 256),(8,.int 0),(9,.bool false),(10,.int 0),(1,.ref 2),(11,.int pc)]::o.tl)/\k .none (shp (c0 pc) mem o)
theorem kh:∀args hp k,ZZ args hp k->jc [0] (pSs pi0 H0 Yp) args hp k:=by
 rintro args hp k ⟨mem,o,pc,rfl,rfl,h2⟩
 refine⟨rfl,?_⟩
 conv=>whnf
 exact kc h2 rfl rfl rfl rfl rfl rfl ei5.symm rfl rfl rfl rfl rfl
noncomputable def HI:Hd:=H0.ext 50 ZZ
noncomputable def V7:Sp:=fun args hp k=>∃mem o pc,args = [.ref 4,.ref 2,.int pc]/\hp=(o.o0::.tab 80::PO.il mem::o.o3::PO.inst []::o.tl)/\k .none (shp (c0 pc) mem o)
theorem pd:∀args hp k,V7 args hp k->jc [0,1,2] (pSs pi0 HI QL) args hp k:=by
 rintro args hp k ⟨mem,o,pc,rfl,rfl,h2⟩
 refine⟨rfl,?_⟩
 conv=>whnf
 refine⟨by decide,?_⟩
 conv=>whnf
 refine⟨by decide,?_⟩
 conv=>whnf
 refine⟨by rw[ei1];decide,?_⟩
 conv=>whnf
 refine⟨by decide,?_⟩
 conv=>whnf
 rw[ei1,ei2,ei3,ei4]
 exact⟨mem,o,pc,rfl,rfl,h2⟩
theorem j5(x:Int):isB (x%256):=JJ x
theorem qR{x y:Int}(h:isB x):isB (zx x y):=⟨(Up h.1).1,Dz (Up h.1).2 h.2⟩
theorem UZ{x y:Int}(h:isB x)(h2:isB y):isB (iOr x y):=KL h.1 h.2 h2.1 h2.2
theorem qS{x y:Int}(h:isB x)(h2:isB y):isB (jR x y):=V6 h.1 h.2 h2.1 h2.2
theorem Ok.setf{c:Cpu}(h:Ok c mem)(f:Fl):Ok { c with f:=f } mem:=⟨h.pc,h.sp,h.a,h.x,h.y,h.mem⟩
theorem Ok.seta{c:Cpu}(h:Ok c mem){v:Int}(hv:isB v)(f:Fl):Ok { c with a:=v,f:=f } mem:=⟨h.pc,h.sp,hv,h.x,h.y,h.mem⟩
theorem Ok.setx{c:Cpu}(h:Ok c mem){v:Int}(hv:isB v)(f:Fl):Ok { c with x:=v,f:=f } mem:=⟨h.pc,h.sp,h.a,hv,h.y,h.mem⟩
theorem Ok.sety{c:Cpu}(h:Ok c mem){v:Int}(hv:isB v)(f:Fl):Ok { c with y:=v,f:=f } mem:=⟨h.pc,h.sp,h.a,h.x,hv,h.mem⟩
theorem sZ{r:Rd}{c:Cpu}{v:Int}(h:Ok c mem)(hv:isB v):Ok (rdF r c v) mem:=by
 induction r
 ·exact h.seta (UZ h.a hv) _
 ·exact h.seta (qR h.a) _
 ·exact h.seta (qS h.a hv) _
 ·exact h.seta (j5 _) _
 ·exact h.seta (j5 _) _
 ·exact h.seta hv _
 ·exact h.setx hv _
 ·exact h.sety hv _
 ·exact h.setf _
theorem Ok.pushed{c:Cpu}(h:Ok c mem){v:Int}(hv:isB v):Ok (yN c) (QO c mem v):=⟨h.pc,j5 _,h.a,h.x,h.y,h.mem.wr _ hv⟩
theorem ru(m:Md):0<=mdL m:=by induction m<;>decide
theorem xA(h:Bts mem)(ad:Int):0<=wd mem ad:=Dx (h.rd ad).1 (Int.mul_nonneg (h.rd (ad+1)).1 (by decide))
theorem wt{c:Cpu}(h:Ok c mem)(g:Rg):isB (c.rg g):=by induction g;exact h.a;exact h.x;exact h.y
theorem Ve{c:Cpu}(h:Ok c mem)(g:Rg){v:Int}(hv:isB v):Ok (c.put g v) mem:=by induction g;exact h.seta hv _;exact h.setx hv _;exact h.sety hv _
theorem t9{o:Op}{c:Cpu}(h:Ok c mem):Ok (xop o c mem).1 (xop o c mem).2:=by
 have hp:=h.pc;have hm:∀m,0<=c.pc+mdL m:=fun m=>Dx hp (ru m)
 induction o with
 | rd r m =>
  have:=sZ (r:=r) (c:={ c with ex:=eaX m c mem }) (v:=rd mem (eaA m c mem)) ⟨h.pc,h.sp,h.a,h.x,h.y,h.mem⟩ (h.mem.rd _)
  exact⟨hm m,this.sp,this.a,this.x,this.y,h.mem⟩
 | cmp g m=>exact⟨hm m,h.sp,h.a,h.x,h.y,h.mem⟩
 | rmw r m=>exact⟨hm m,h.sp,h.a,h.x,h.y,h.mem.wr _ (nQ (h.mem.rd _))⟩
 | acc r=>exact⟨h.pc,h.sp,nQ h.a,h.x,h.y,h.mem⟩
 | sto g m=>exact⟨hm m,h.sp,h.a,h.x,h.y,h.mem.wr _ (wt h g)⟩
 | bra b on =>
  show Ok (cond _ _ _) mem
  cases (c.f.at b==on)
  ·exact⟨Dx hp (by decide),h.sp,h.a,h.x,h.y,h.mem⟩
  ·exact⟨Dq _ (by decide),h.sp,h.a,h.x,h.y,h.mem⟩
 | flag b on=>exact⟨h.pc,h.sp,h.a,h.x,h.y,h.mem⟩
 | tr g k=>exact Ve h _ (wt h g)
 | tsx=>exact⟨h.pc,h.sp,h.a,h.sp,h.y,h.mem⟩
 | txs=>exact⟨h.pc,h.x,h.a,h.x,h.y,h.mem⟩
 | upx=>exact Ve h .x (j5 (c.x+1))
 | upy=>exact Ve h .y (j5 (c.y+1))
 | dnx=>exact Ve h .x (j5 (c.x-1))
 | dny=>exact Ve h .y (j5 (c.y-1))
 | pha=>exact h.pushed h.a
 | php=>exact h.pushed (y9 _)
 | pla=>exact⟨h.pc,j5 _,h.mem.rd _,h.x,h.y,h.mem⟩
 | plp=>exact⟨h.pc,j5 _,h.a,h.x,h.y,h.mem⟩
 | jsr =>
  have:=(h.pushed (v:=(c.pc+1)%65536/256%256) (j5 _)).pushed (v:=(c.pc+1)%65536%256) (j5 _)
  exact⟨xA this.mem _,this.sp,h.a,h.x,h.y,this.mem⟩
 | rts =>
  have h1:=(h.mem.rd ((c.sp+1)%256+256)).1;have h2:=(h.mem.rd (((Jc c).sp+1)%256+256)).1
  exact⟨Dx (Dx h1 (Int.mul_nonneg h2 (by decide))) (by decide),j5 _,h.a,h.x,h.y,h.mem⟩
theorem tG{c:Cpu}(h:Ok c mem)(e:Int):Ok (st1 c e) mem:=⟨Dq _ (by decide),h.sp,h.a,h.x,h.y,h.mem⟩
theorem tH{c:Cpu}(h:Ok c mem)(e:Int):Ok (st2 c e) mem:=⟨Dq _ (by decide),h.sp,h.a,h.x,h.y,h.mem⟩
inductive Run(V:Int->Prop):Nat->Cpu->Mem->Cpu->Mem->Prop
 | z {c m}:Run V 0 c m c m
 | s {n op c m k c' m'}:StpOk n op c m->V c.pc->Run V k (stp n op c m).1 (stp n op c m).2 c' m'->Run V (k+1) c m c' m'
theorem Run.app{V:Int->Prop}{k l:Nat}{c c' c'':Cpu}{m m' m'':Mem}(h:Run V k c m c' m')(h2:Run V l c' m' c'' m''):Run V (l+k) c m c'' m'':=by
 induction h with
 | z=>exact h2
 | s a v _ ih=>exact .s a v (ih h2)
theorem tK{n:Nat}{op:Op}{c:Cpu}{m:Mem}(h:Ok c m):Ok (stp n op c m).1 (stp n op c m).2:=tH (t9 (tG h _)) _
structure Ms where
 s:Int
 v:Option Int
 t0:Int
 t1:Int
 t2:Int
 t3:Int
 P:Mem
noncomputable def Ms.t(k:Ms):Nat->Int
 | 0=>k.t0 | 1=>k.t1 | 2=>k.t2 | _=>k.t3
noncomputable def Ms.setT(k:Ms)(z:Int):Nat->Ms
 | 0=>{ k with t0:=z } | 1=>{ k with t1:=z } | 2=>{ k with t2:=z } | _=>{ k with t3:=z }
structure M2(k:Ms)(m:Mem):Prop where
 pln:∀u,0<=u->u<1026->(u<250∨(254<=u/\u<256)∨256+k.s<u)->rd m u=rd k.P u
 tm:∀i:Nat,i<4->rd m (250+(i:Int))=k.t i
 tv:∀z,k.v=some z->rd m (256+k.s)=z
structure M(e:Bool)(k:Ms)(m:Mem):Prop where
 lp:k.P.length=1536
 lm:m.length=1536
 s0:1<=k.s
 s1:k.s<=255
 mem:cond e (m=k.P) (M2 k m)
section
variable {e:Bool}{k:Ms}{m:Mem}{u z:Int}
theorem jm(h:m.length=1536)(h0:0<=u)(h1:u<1536):jC m u:=⟨h0,by rw[h];exact h1,Dk h1 (by decide)⟩
theorem rw1(h:m.length=1536)(h0:0<=u)(h1:u<1536):rd (wr m u z) u=z:=by rw[VT (jm h h0 h1) h0,if_pos rfl]
theorem rw2{w:Int}(h:m.length=1536)(h0:0<=u)(h1:u<1536)(hw:0<=w)(hn:w≠u):rd (wr m u z) w=rd m w:=by rw[VT (jm h h0 h1) hw,if_neg hn]
theorem ne6{s:Int}(s0:1<=s)(h:u<250∨(254<=u/\u<256)∨256+s<u):u≠256+s:=h.elim (fun h=>Int.ne_of_lt (Cf h (zi (zt (zf s0)) rfl))) fun h=>h.elim (fun h=>Int.ne_of_lt (Cf h.2 (zi (zt (zf s0)) rfl))) Int.ne_of_gt
theorem ne5{s:Int}(s0:1<=s)(h:u<250∨(254<=u/\u<256)∨256+s<u):u≠255+s:=h.elim (fun h=>Int.ne_of_lt (Cf h (zi (zt (zf s0)) rfl))) fun h=>h.elim (fun h=>Int.ne_of_lt (Cf h.2 (zi (zt (zf s0)) rfl))) fun h=>Int.ne_of_gt (Dk (Int.add_lt_add_right (by decide) _) h)
theorem M.rdP(h:M e k m)(h0:0<=u)(h1:u<250∨(254<=u/\u<256)∨(512<=u/\u<1026)):rd m u=rd k.P u:=by
 obtain⟨_,_,a,b,h⟩:=h
 induction e with
 | true=>exact congrArg (rd · u) h
 | false=>exact h.pln u h0 (h1.elim (fun h=>zn (zz h) rfl) fun h=>h.elim (fun h=>zn (zz h.2) rfl) (·.2)) (h1.imp_right (Or.imp_right fun h=>Cf (zn (zt (zS b)) rfl) h.1))
theorem M.wrP(h:M e k m)(h0:0<=u)(h1:u<250∨(512<=u/\u<1024)):M e { k with P:=wr k.P u z } (wr m u z):=by
 obtain⟨lp,lm,a,b,h⟩:=h;have hu:u<1536:=h1.elim (fun h=>zn (zz h) rfl) fun h=>zn (zz h.2) rfl
 refine⟨zB.trans lp,zB.trans lm,a,b,?_⟩
 induction e with
 | true=>exact congrArg (wr · u z) h
 | false =>
  refine⟨fun w w0 w1 w2=>?_,fun i hi=>?_,fun y hy=>?_⟩
  ·show rd (wr m u z) w=rd (wr k.P u z) w
   rw[VT (jm lm h0 hu) w0,VT (jm lp h0 hu) w0,h.pln w w0 w1 w2]
  ·show _=k.t i
   rw[rw2 lm h0 hu (zi (zt qK) rfl) (h1.elim (fun h=>Int.ne_of_gt (Cf h (zi (zt qK) rfl))) fun h=>Int.ne_of_lt (Cf (zn (zt (q9 hi)) rfl) h.1))];exact h.tm i hi
  ·show rd _ (256+k.s)=y
   rw[rw2 lm h0 hu (zi (zt (zf a)) rfl) (h1.elim (fun h=>Int.ne_of_gt (Cf h (zi (zt (zf a)) rfl))) fun h=>Int.ne_of_lt (Cf (zn (zt (zS b)) rfl) h.1))];exact h.tv y hy
theorem M.wrT(h:M false k m)(hi:i<4):M false (k.setT z i) (wr m (250+(i:Int)) z):=by
 obtain⟨lp,lm,a,b,h⟩:=h;have e:(k.setT z i).s=k.s/\(k.setT z i).v=k.v/\(k.setT z i).P=k.P /\ ∀j:Nat,j<4->(k.setT z i).t j=if j=i then z else k.t j:=by
  match i,hi with
  | 0,_ | 1,_ | 2,_ | 3,_=>exact⟨rfl,rfl,rfl,fun j hj=>by match j,hj with | 0,_ | 1,_ | 2,_ | 3,_=>rfl⟩
 refine yC e fun e1 e2 e3 e4=>?_
 refine⟨by rw[e3];exact lp,zB.trans lm,by rw[e1];exact a,by rw[e1];exact b,⟨fun w w0 w1 w2=>?_,fun j hj=>?_,fun y hy=>?_⟩⟩
 ·rw[e1] at w2
  rw[e3,rw2 lm (zi (zt qK) rfl) (zn (zt (q9 hi)) rfl) w0 (w2.elim (fun h=>Int.ne_of_lt (Cf h (zi (zt qK) rfl))) fun h=>h.elim (fun h=>Int.ne_of_gt (Cf (zn (zt (q9 hi)) rfl) h.1)) fun h=>Int.ne_of_gt (Dk (zn (zt (q9 hi)) rfl:_<(254:Int)) (Dk (AT (zt (zf a)) rfl) h)))];exact h.pln w w0 w1 w2
 ·rw[e4 j hj,VT (jm lm (zi (zt qK) rfl) (zn (zt (q9 hi)) rfl)) (zi (zt qK) rfl)]
  by_cases q:j=i
  ·rw[if_pos q,if_pos (by rw[q])]
  ·rw[if_neg q,if_neg fun e=>q (Int.ofNat_inj.mp (Int.add_left_cancel e))];exact h.tm j hj
 ·rw[e2] at hy
  rw[e1,rw2 lm (zi (zt qK) rfl) (zn (zt (q9 hi)) rfl) (zi (zt (zf a)) rfl) (Vt (zt (zf a)) (zt (q9 hi)) rfl)];exact h.tv y hy
theorem M.wrV(h:M false k m):M false { k with v:=some z } (wr m (256+k.s) z):=by
 obtain⟨lp,lm,a,b,h⟩:=h
 refine⟨lp,zB.trans lm,a,b,⟨fun w w0 w1 w2=>?_,fun j hj=>?_,fun y hy=>?_⟩⟩
 ·replace w2:w<250∨(254<=w/\w<256)∨256+k.s<w:=w2
  rw[rw2 lm (zi (zt (zf a)) rfl) (zn (zt (zS b)) rfl) w0 (ne6 a w2)];exact h.pln w w0 w1 w2
 ·rw[rw2 lm (zi (zt (zf a)) rfl) (zn (zt (zS b)) rfl) (zi (zt qK) rfl) (lU (zt (q9 hj)) (zt (zf a)) rfl)];exact h.tm j hj
 ·cases hy
  exact rw1 lm (zi (zt (zf a)) rfl) (zn (zt (zS b)) rfl)
end
structure As where
 a:Int
 x:Int
 y:Int
 f:Fl
 d:Bool
 k:Ms
variable {B:As}
noncomputable def As.sp(A:As):Int:=cond A.d (A.k.s-1) A.k.s
noncomputable def As.cp(A:As)(pc ex:Int)(ac:PV)(cy:Int)(nm st:PV):Cpu:=⟨pc,A.sp,A.a,A.x,A.y,A.f,ex,ac,cy,nm,st⟩
noncomputable def As.rg(A:As):Rg->Int
 | .a=>A.a | .x=>A.x | .y=>A.y
section
variable (K:Int->Int)
structure Is(e:Bool)(A:As)(pc:Int)(c:Cpu)(m:Mem):Prop where
 ok:Ok c m
 rg:∃ex ac cy nm st,c=A.cp pc ex ac cy nm st
 mem:M e A.k m
 cd:∀u,1040<=u->u<1536->rd m u=K u
noncomputable def At:Int->List Int->Prop
 | _,[]=>True
 | p,b::r=>K p=b/\At (p+1) r
def St1(e:Bool)(A:As)(pc:Int)(B:As)(pc':Int):Prop:=∀c m,Is K e A pc c m->∃n op,StpOk n op c m/\Is K e B pc' (stp n op c m).1 (stp n op c m).2
structure Go(e:Bool)(A:As)(pc:Int)(n:Nat)(op:Op)(B:As)(pc':Int):Prop where
 run:∀m ex ac cy nm st,M e A.k m->(∀u,1040<=u->u<1536->rd m u=K u)->YE op (A.cp (pc+1) ex (.int ac) cy nm st) m/\(∃ex',(xop op (A.cp (pc+1) ex (.int ac) cy nm st) m).1=B.cp pc' ex' (.int ac) cy nm st) /\
  M e B.k (xop op (A.cp (pc+1) ex (.int ac) cy nm st) m).2 /\ ∀u,1040<=u->u<1536->rd (xop op (A.cp (pc+1) ex (.int ac) cy nm st) m).2 u=rd m u
variable {K}
theorem go0{e:Bool}{A:As}{n:Nat}{op:Op}(hn:n∈opL/\Qt n=some op)(hk:∀m,M e A.k m->(∀u,1040<=u->u<1536->rd m u=K u)->rd m pc=n)(h0:0<=pc)(h1:pc<1530)(h2:0<=pc')(h3:pc'<65536)(h:Go K e A pc n op B pc'):St1 K e A pc B pc':=fun c m i=>by
 obtain⟨o,⟨ex,ac,cy,nm,st,rfl⟩,hm,hc⟩:=i;have e1:(pc+1)%65536=pc+1:=Bu (zi (zm (zf h0)) rfl) (zn (zm (zz h1)) rfl);refine byc fun Ea=>?_
 refine yC (h.run m 0 (xcT n) cy nm st hm hc) fun g1 Cd g3 g4=>?_;obtain⟨ex',g2⟩:=Cd
 refine Ea ?_;have es:st1 (A.cp pc ex ac cy nm st) (xcT n)=A.cp (pc+1) 0 (.int (xcT n)) cy nm st:=by
  show Cpu.mk _ _ _ _ _ _ _ _ _ _ _=_;rw[show(A.cp pc ex ac cy nm st).pc=pc from rfl,e1];rfl
 refine(yA n op ⟨jm hm.lm (by show 0<=pc;exact h0) (by show pc<1536;exact zn (zz h1) rfl),hk m hm hc,hn.1,hn.2,by rw[es];exact g1,o⟩ ⟨tK o,?_,?_,?_⟩)
 ·unfold stp
  rw[es,g2];refine(zk ex' (.int (xcT n)) (cy+(cyT n+ex')) (Kc nm st ?_));show Cpu.mk _ _ _ _ _ _ _ _ _ _ _=_;rw[show(B.cp pc' ex' (.int (xcT n)) cy nm st).pc=pc' from rfl,Bu h2 h3];rfl
 ·unfold stp;rw[es];exact g3
 ·intro u u0 u1
  unfold stp;rw[es];exact(g4 u u0 u1).trans (hc u u0 u1)
theorem go{e:Bool}{A:As}{n:Nat}{op:Op}(hn:n∈opL/\Qt n=some op)(hk:K pc=n)(h0:1040<=pc)(h1:pc<1530)(h2:0<=pc')(h3:pc'<65536)(h:Go K e A pc n op B pc'):St1 K e A pc B pc':=go0 hn (fun m Z hc=>(hc pc h0 (zn (zz h1) rfl)).trans hk) (zi (zf h0) rfl) h1 h2 h3 h
end
section
set_option genCtorIdx false in
inductive F where
 | rI (r:Rd) (v:Int)
 | rT (r:Rd) (i:Nat)
 | rP (r:Rd)
 | sT (g:Rg) (i:Nat)
 | sP (g:Rg)
 | mP (r:Rm)
 | ac (r:Rm)
 | cI (g:Rg) (v:Int)
 | fl (b:Nat) (on:Bool)
 | tr (g h:Rg)
 | up (g:Rg)
 | dn (g:Rg)
 | tsx
 | txs
 | php
 | plp
 | pha
 | pla
 | sS
 | lS
noncomputable def oI:Rd->Nat
 | .ora=>9 | .and=>41 | .eor=>73 | .adc=>105 | .sbc=>233 | .lda=>169 | .ldx=>162 | .ldy=>160 | .bit=>0
noncomputable def oZ:Rd->Nat
 | .ora=>5 | .and=>37 | .eor=>0 | .adc=>101 | .sbc=>229 | .lda=>165 | .ldx=>166 | .ldy=>164 | .bit=>36
noncomputable def oS:Rg->Nat
 | .a=>133 | .x=>134 | .y=>132
noncomputable def oM:Rm->Nat
 | .asl=>0 | .lsr=>70 | .rol=>0 | .ror=>102 | .dec=>198 | .inc=>230
noncomputable def oA:Rm->Nat
 | .asl=>10 | .rol=>42 | .ror=>106 | _=>0
noncomputable def oC:Rg->Nat
 | .a=>201 | .x=>224 | .y=>0
noncomputable def oF:Nat->Bool->Nat
 | 0,false=>24 | 0,true=>56 | 6,false=>184 | _,_=>0
noncomputable def oT:Rg->Rg->Nat
 | .x,.a=>138 | .y,.a=>152 | .a,.x=>170 | _,_=>0
noncomputable def oU:Rg->Nat
 | .x=>232 | .y=>200 | .a=>0
noncomputable def oD:Rg->Nat
 | .x=>202 | .y=>136 | .a=>0
variable (w:Int)
noncomputable def F.by:F->List Int
 | .rI r v=>[(oI r:Int),v]
 | .rT r i=>[(oZ r:Int),250+(i:Int)]
 | .rP r=>[(oZ r:Int),w]
 | .sT g i=>[(oS g:Int),250+(i:Int)]
 | .sP g=>[(oS g:Int),w]
 | .mP r=>[(oM r:Int),w]
 | .ac r=>[(oA r:Int)]
 | .cI g v=>[(oC g:Int),v]
 | .fl b on=>[(oF b on:Int)]
 | .tr g h=>[(oT g h:Int)]
 | .up g=>[(oU g:Int)]
 | .dn g=>[(oD g:Int)]
 | .tsx=>[186] | .txs=>[154] | .php=>[8] | .plp=>[40] | .pha=>[72] | .pla=>[104]
 | .sS=>[157,0,1] | .lS=>[189,0,1]
noncomputable def As.ofC(A:As)(c:Cpu):As:=⟨c.a,c.x,c.y,c.f,A.d,A.k⟩
noncomputable def As.c0(A:As):Cpu:=A.cp 0 0 .none 0 .none .none
noncomputable def As.rd(A:As)(r:Rd)(v:Int):As:=A.ofC (rdF r A.c0 v)
noncomputable def As.put(A:As)(g:Rg)(v:Int):As:=A.ofC (A.c0.put g v)
noncomputable def F.ex(A:As):F->As
 | .rI r v=>A.rd r v
 | .rT r i=>A.rd r (A.k.t i)
 | .rP r=>A.rd r (Mine.rd A.k.P w)
 | .sT g i=>{ A with k:=A.k.setT (A.rg g) i }
 | .sP g=>{ A with k:={ A.k with P:=wr A.k.P w (A.rg g) } }
 | .mP r=>{ A with f:=rmF r A.f (Mine.rd A.k.P w),k:={ A.k with P:=wr A.k.P w (rmT r A.f (Mine.rd A.k.P w)) } }
 | .ac r=>{ A with f:=rmF r A.f A.a,a:=rmT r A.f A.a }
 | .cI g v=>A.ofC (dq A.c0 (A.rg g) v)
 | .fl b on=>{ A with f:=A.f.to on b }
 | .tr g h=>A.put h (A.rg g)
 | .up g=>A.put g ((A.rg g+1)%256)
 | .dn g=>A.put g ((A.rg g-1)%256)
 | .tsx=>{ A with x:=A.k.s,f:=nzF A.f A.k.s }
 | .txs=>{ A with k:={ A.k with s:=A.x,P:=cond (decide (A.x<A.k.s)) (wr A.k.P (256+A.k.s) (A.k.v.getD 0)) A.k.P,v:=none } }
 | .php=>{ A with d:=true,k:={ A.k with v:=some (pk { A.f with b:=true,u:=true }) } }
 | .plp=>{ A with d:=false,f:=plF (A.k.v.getD 0) }
 | .pha=>{ A with d:=true,k:={ A.k with v:=some A.a } }
 | .pla=>{ A with d:=false,a:=A.k.v.getD 0,f:=nzF A.f (A.k.v.getD 0) }
 | .sS=>{ A with k:={ A.k with v:=some A.a } }
 | .lS=>A.rd .lda (Mine.rd A.k.P (256+A.x))
noncomputable def F.ok(e:Bool)(A:As):F->Prop
 | .rI r _=>r≠.bit/\rdD r A.f
 | .rT r i=>e=false/\r≠.eor/\i<4/\rdD r A.f
 | .rP r=>r≠.eor/\rdD r A.f
 | .sT _ i=>e=false/\i<4
 | .sP _=>True
 | .mP r=>oM r≠0
 | .ac r=>oA r≠0
 | .cI g _=>oC g≠0
 | .fl b on=>oF b on≠0
 | .tr g h=>oT g h≠0
 | .up g=>oU g≠0
 | .dn g=>oD g≠0
 | .tsx=>A.d=false
 | .txs=>e=false/\A.d=false/\((A.x=A.k.s-1/\1<=A.x /\ ∃z,A.k.v=some z)∨(A.x=A.k.s+1/\A.x<=255))
 | .php=>e=false/\A.d=false
 | .plp=>e=false/\A.d=true /\ ∃z,A.k.v=some z
 | .pha=>e=false/\A.d=false
 | .pla=>e=false/\A.d=true /\ ∃z,A.k.v=some z
 | .sS=>e=false/\A.d=false/\A.x=A.k.s
 | .lS=>e=false/\A.d=false/\A.x=A.k.s+1/\A.x<=255
section
variable {w:Int}{K:Int->Int}{e:Bool}{A:As}
theorem sY{r:Rd}{v ex cy:Int}{ac nm st:PV}(A:As):({ rdF r (A.cp pc ex ac cy nm st) v with pc:=pc' }:Cpu)=(A.rd r v).cp pc' ex ac cy nm st:=by induction r<;>rfl
theorem UM{r:Rd}{m:Md}{u v l:Int}{n:Nat}(h:∀mem ex ac cy nm st,M e A.k mem->(∀u,1040<=u->u<1536->rd mem u=K u)->qP m (A.cp (pc+1) ex (.int ac) cy nm st) mem/\eaA m (A.cp (pc+1) ex (.int ac) cy nm st) mem=u/\jC mem u/\rd mem u=v)(hd:rdD r A.f)(hl:pc+1+mdL m=l):Go K e A pc n (.rd r m) (A.rd r v) l:=⟨fun mem ex ac cy nm st hm hc=>by
 refine byc fun Ea=>?_
 refine yC (h mem ex ac cy nm st hm hc) fun h1 h2 h3 h4=>?_
 refine Ea ?_
 refine⟨⟨h1,by rw[h2];exact h3,hd⟩,⟨eaX m (A.cp (pc+1) ex (.int ac) cy nm st) mem,?_⟩,hm,fun Z Z Z=>rfl⟩
 show({ rdF r { A.cp (pc+1) ex (.int ac) cy nm st with ex:=eaX m (A.cp (pc+1) ex (.int ac) cy nm st) mem } (rd mem (eaA m (A.cp (pc+1) ex (.int ac) cy nm st) mem)) with pc:=pc+1+mdL m }:Cpu)=_
 rw[h2,h4,hl];exact sY (pc:=pc+1) A⟩
theorem WH{g:Rg}{m:Md}{u l:Int}{n:Nat}{k:Ms}(h:∀mem ex ac cy nm st,M e A.k mem->(∀u,1040<=u->u<1536->rd mem u=K u)->qP m (A.cp (pc+1) ex (.int ac) cy nm st) mem/\eaA m (A.cp (pc+1) ex (.int ac) cy nm st) mem=u/\M e k (wr mem u (A.rg g)))(h0:0<=u)(h1:u<1040)(hl:pc+1+mdL m=l)(hB:B = { A with k:=k })(hs:k.s=A.k.s):Go K e A pc n (.sto g m) B l:=⟨fun mem ex ac cy nm st hm hc=>by
 refine jn (h mem ex ac cy nm st hm hc) fun g1 g2 g3=>?_
 subst hB;have ad:=jm hm.lm h0 (Dk h1 (by decide))
 have er:(A.cp (pc+1) ex (.int ac) cy nm st).rg g=A.rg g:=by induction g<;>rfl
 refine⟨⟨g1,by rw[g2];exact ad⟩,⟨eaX m (A.cp (pc+1) ex (.int ac) cy nm st) mem,?_⟩,?_,fun w w0 w1=>?_⟩
 ·show Cpu.mk (pc+1+mdL m) A.sp _ _ _ _ _ _ _ _ _=Cpu.mk l (cond A.d (k.s-1) k.s) _ _ _ _ _ _ _ _ _
  rw[hl,hs];rfl
 ·show M e k (wr mem (eaA m _ mem) _)
  rw[g2,er];exact g3
 ·show rd (wr mem (eaA m _ mem) _) w=_
  rw[g2];exact rw2 hm.lm h0 (Dk h1 (by decide)) (zi (zf w0) rfl) (Vt (zf w0) (zz h1) rfl)⟩
theorem nh{v:Int}(hk:K (pc+1)=v)(h0:1040<=pc)(h1:pc<1530)(mem:Mem)(ex ac cy:Int)(nm st:PV)(hm:M e A.k mem)(hc:∀u,1040<=u->u<1536->rd mem u=K u):qP .pc (A.cp (pc+1) ex (.int ac) cy nm st) mem/\eaA .pc (A.cp (pc+1) ex (.int ac) cy nm st) mem=pc+1/\jC mem (pc+1)/\rd mem (pc+1)=v:=
 ⟨trivial,rfl,jm hm.lm (zi (zm (zf h0)) rfl) (zn (zm (zz h1)) rfl),(hc _ (zi (zm (zf h0)) rfl) (zn (zm (zz h1)) rfl)).trans hk⟩
theorem dK{u:Int}(hk:K (pc+1)=u)(h0:1040<=pc)(h1:pc<1530)(ex ac cy:Int)(nm st:PV)(hm:M e A.k mem)(hc:∀u,1040<=u->u<1536->rd mem u=K u):qP .zp (A.cp (pc+1) ex (.int ac) cy nm st) mem/\eaA .zp (A.cp (pc+1) ex (.int ac) cy nm st) mem=u:=
 ⟨jm hm.lm (by show 0<=pc+1;lia) (by show pc+1<1536;lia),(hc (pc+1) (by lia) (by lia)).trans hk⟩
theorem wfI{r:Rd}(h:r≠.bit):oI r∈opL/\Qt (oI r)=some (.rd r .pc):=by induction r<;>first | exact absurd rfl h | exact⟨by decide,rfl⟩
theorem wfZ{r:Rd}(h:r≠.eor):oZ r∈opL/\Qt (oZ r)=some (.rd r .zp):=by induction r<;>first | exact absurd rfl h | exact⟨by decide,rfl⟩
theorem wfS{g:Rg}:oS g∈opL/\Qt (oS g)=some (.sto g .zp):=by induction g<;>exact⟨by decide,rfl⟩
theorem wfM{r:Rm}(h:oM r≠0):oM r∈opL/\Qt (oM r)=some (.rmw r .zp):=by induction r<;>first | exact absurd rfl h | exact⟨by decide,rfl⟩
theorem wfA{r:Rm}(h:oA r≠0):oA r∈opL/\Qt (oA r)=some (.acc r):=by induction r<;>first | exact absurd rfl h | exact⟨by decide,rfl⟩
theorem wfC{g:Rg}(h:oC g≠0):oC g∈opL/\Qt (oC g)=some (.cmp g .pc):=by induction g<;>first | exact absurd rfl h | exact⟨by decide,rfl⟩
theorem wfF:∀{b:Nat} {on:Bool},oF b on≠0->oF b on∈opL/\Qt (oF b on)=some (.flag b on)
 | 0,false,_ | 0,true,_ | 6,false,_=>⟨by decide,rfl⟩
 | 6,true,h | 1,_,h | 2,_,h | 3,_,h | 4,_,h | 5,_,h | _+7,_,h=>absurd rfl h
theorem wfT{g h:Rg}(q:oT g h≠0):oT g h∈opL/\Qt (oT g h)=some (.tr g h):=by induction g<;>induction h<;>first | exact absurd rfl q | exact⟨by decide,rfl⟩
theorem qQ{op:Op}{n:Nat}(hB:B.k=A.k)(h:∀m ex ac cy nm st,YE op (A.cp (pc+1) ex (.int ac) cy nm st) m/\xop op (A.cp (pc+1) ex (.int ac) cy nm st) m=(B.cp (pc+1) ex (.int ac) cy nm st,m)):Go K e A pc n op B (pc+1):=⟨fun m ex ac cy nm st hm hc=>by
 obtain⟨h1,h2⟩:=h m ex ac cy nm st;rw[h2,hB]
 exact⟨h1,⟨ex,rfl⟩,hm,fun Z Z Z=>rfl⟩⟩
end
end
section
variable {w:Int}{K:Int->Int}{e:Bool}{A:As}
theorem M.rdT{k:Ms}{m:Mem}(h:M false k m)(hi:i<4):rd m (250+(i:Int))=k.t i:=h.mem.tm i hi
theorem M.sp0{k:Ms}{m:Mem}(h:M e k m):(k.s-1)%256=k.s-1:=Bu (by have:=h.s0;exact zi (ZG (zf this)) rfl) (by have:=h.s1;exact zn (ZG (zS this)) rfl)
theorem M.sp1{k:Ms}{m:Mem}(h:M e k m):(k.s-1+1)%256=k.s:=by rw[Int.sub_add_cancel];exact Bu (by have:=h.s0;exact zi (zf this) rfl) (by have:=h.s1;exact zn (zS this) rfl)
theorem Q1(h:A.d=false):A.sp=A.k.s:=by unfold As.sp;rw[h];rfl
theorem A5(h:A.d=true):A.sp=A.k.s-1:=by unfold As.sp;rw[h];rfl
theorem Qx{k:Ms}{m:Mem}(h:M e k m):Ju m:=by unfold Ju;rw[h.lm];decide
theorem eH{op:Op}{n:Nat}{z:Int}(hd:A.d=false)(hop:∀m ex ac cy nm st,(Ju m->YE op (A.cp (pc+1) ex (.int ac) cy nm st) m)/\xop op (A.cp (pc+1) ex (.int ac) cy nm st) m=(yN (A.cp (pc+1) ex (.int ac) cy nm st),QO (A.cp (pc+1) ex (.int ac) cy nm st) m z)):Go K false A pc n op { A with d:=true,k:={ A.k with v:=some z } } (pc+1):=⟨fun m ex ac cy nm st hm hc=>by
 obtain⟨h1,h2⟩:=hop m ex ac cy nm st;have e1:(A.sp-1)%256=A.k.s-1:=by rw[Q1 hd];exact hm.sp0
 have e2:A.sp+256=256+A.k.s:=by rw[Q1 hd,Dv]
 rw[h2]
 refine⟨h1 (Qx hm),⟨ex,?_⟩,?_,fun u u0 u1=>?_⟩
 ·show Cpu.mk _ ((A.sp-1)%256) _ _ _ _ _ _ _ _ _=_
  rw[e1];rfl
 ·show M false _ (wr m (A.sp+256) z)
  rw[e2];exact hm.wrV
 ·show rd (wr m (A.sp+256) z) u=_
  have:=hm.s0;have:=hm.s1
  rw[e2];exact rw2 hm.lm (zi (zt (zf ‹_›)) rfl) (zn (zt (zS this)) rfl) (zi (zf u0) rfl) (Vt (zf u0) (zt (zS this)) rfl)⟩
theorem eI{op:Op}{n:Nat}{z:Int}{a:Int}{f:Fl}(hd:A.d=true)(hz:A.k.v=some z)(hop:∀m ex ac cy nm st,(Ju m->YE op (A.cp (pc+1) ex (.int ac) cy nm st) m)/\(yL (A.cp (pc+1) ex (.int ac) cy nm st) m=z->xop op (A.cp (pc+1) ex (.int ac) cy nm st) m=({ Jc (A.cp (pc+1) ex (.int ac) cy nm st) with a:=a,f:=f },m))):Go K false A pc n op { A with d:=false,a:=a,f:=f } (pc+1):=⟨fun m ex ac cy nm st hm hc=>by
 obtain⟨h1,h2⟩:=hop m ex ac cy nm st;have e1:(A.sp+1)%256=A.k.s:=by rw[A5 hd];exact hm.sp1
 have e2:yL (A.cp (pc+1) ex (.int ac) cy nm st) m=z:=by
  show rd m ((A.sp+1)%256+256)=z;rw[e1,Dv];exact hm.mem.tv z hz
 rw[h2 e2]
 refine⟨h1 (Qx hm),⟨ex,?_⟩,hm,fun Z Z Z=>rfl⟩
 show Cpu.mk _ ((A.sp+1)%256) _ _ _ _ _ _ _ _ _=_;rw[e1];rfl⟩
theorem F.sound(q:F)(ho:q.ok e A)(hk:At K pc (q.by w))(h0:1040<=pc)(h1:pc<1530)(w0:0<=w)(w1:w<128):St1 K e A pc (q.ex w A) (pc+(q.by w).length):=by
 have p1:0<=pc+1/\pc+1<65536:=⟨zi (zm (zf h0)) rfl,zn (zm (zz h1)) rfl⟩;have p2:0<=pc+2/\pc+2<65536:=⟨zi (zm (zf h0)) rfl,zn (zm (zz h1)) rfl⟩;have e2:pc+1+1=pc+2:=Ct _ _ _
 induction q with
 | rI r v=>exact go (wfI ho.1) hk.1 h0 h1 p2.1 p2.2 (UM (nh hk.2.1 h0 h1) ho.2 e2)
 | rT r i =>
  refine yC ho fun eZ11 h2 h3 h4=>?_;subst eZ11
  refine go (wfZ h2) hk.1 h0 h1 p2.1 p2.2 (UM (u:=250+(i:Int)) (fun mem ex ac cy nm st hm hc=>?_) h4 e2)
  refine zd (dK hk.2.1 h0 h1 ex ac cy nm st hm hc) fun q1 q2=>?_
  exact⟨q1,q2,jm hm.lm (zi (zt qK) rfl) (zn (zt (q9 h3)) rfl),hm.rdT h3⟩
 | rP r =>
  refine go (wfZ ho.1) hk.1 h0 h1 p2.1 p2.2 (UM (u:=w) (fun mem ex ac cy nm st hm hc=>?_) ho.2 e2)
  refine zd (dK hk.2.1 h0 h1 ex ac cy nm st hm hc) fun q1 q2=>?_
  exact⟨q1,q2,jm hm.lm w0 (zn (zz w1) rfl),hm.rdP w0 (Or.inl (zn (zz w1) rfl))⟩
 | sT g i =>
  refine zd ho fun eZ10 h3=>?_;subst eZ10
  refine go wfS hk.1 h0 h1 p2.1 p2.2 (WH (u:=250+(i:Int)) (k:=A.k.setT (A.rg g) i) (fun mem ex ac cy nm st hm hc=>?_) (zi (zt qK) rfl) (zn (zt (q9 h3)) rfl) e2 rfl ?_)
  ·refine zd (dK hk.2.1 h0 h1 ex ac cy nm st hm hc) fun q1 q2=>?_
   exact⟨q1,q2,hm.wrT h3⟩
  ·match i,h3 with
   | 0,_ | 1,_ | 2,_ | 3,_=>rfl
 | sP g =>
  refine go wfS hk.1 h0 h1 p2.1 p2.2 (WH (u:=w) (fun mem ex ac cy nm st hm hc=>?_) w0 (zn (zz w1) rfl) e2 rfl rfl)
  refine zd (dK hk.2.1 h0 h1 ex ac cy nm st hm hc) fun q1 q2=>?_
  exact⟨q1,q2,hm.wrP w0 (Or.inl (zn (zz w1) rfl))⟩
 | mP r =>
  refine go (wfM ho) hk.1 h0 h1 p2.1 p2.2 ⟨fun m ex ac cy nm st hm hc=>?_⟩
  refine zd (dK hk.2.1 h0 h1 ex ac cy nm st hm hc) fun q1 q2=>?_
  have hr:rd m w=rd A.k.P w:=hm.rdP w0 (Or.inl (zn (zz w1) rfl))
  refine⟨⟨q1,by rw[q2];exact jm hm.lm w0 (zn (zz w1) rfl)⟩,⟨ex,?_⟩,?_,fun u u0 u1=>?_⟩
  ·show Cpu.mk (pc+1+1) _ _ _ _ (rmF r A.f (rd m (eaA .zp _ m))) _ _ _ _ _=_
   rw[q2,hr,e2];rfl
  ·show M e _ (wr m (eaA .zp _ m) (rmT r A.f (rd m (eaA .zp _ m))))
   rw[q2,hr];exact hm.wrP w0 (Or.inl (zn (zz w1) rfl))
  ·show rd (wr m (eaA .zp _ m) _) u=_
   rw[q2];exact rw2 hm.lm w0 (zn (zz w1) rfl) (zi (zf u0) rfl) (Vt (zf u0) (zz w1) rfl)
 | ac r=>exact go (wfA ho) hk.1 h0 h1 p1.1 p1.2 (qQ rfl fun m ex ac cy nm st=>⟨trivial,rfl⟩)
 | cI g v =>
  refine go (wfC ho) hk.1 h0 h1 p2.1 p2.2 ⟨fun m ex ac cy nm st hm hc=>?_⟩
  refine yC (nh hk.2.1 h0 h1 m ex ac cy nm st hm hc) fun Z Z q3 q4=>?_
  refine⟨⟨trivial,q3⟩,⟨ex,?_⟩,hm,fun Z Z Z=>rfl⟩
  show({ dq _ ((A.cp (pc+1) ex (.int ac) cy nm st).rg g) (rd m (pc+1)) with pc:=pc+1+1 }:Cpu)=_
  rw[q4,e2]
  induction g<;>rfl
 | fl b on=>exact go (wfF ho) hk.1 h0 h1 p1.1 p1.2 (qQ rfl fun m ex ac cy nm st=>⟨trivial,rfl⟩)
 | tr g h=>exact go (wfT ho) hk.1 h0 h1 p1.1 p1.2 (qQ rfl fun m ex ac cy nm st=>⟨trivial,by induction g<;>induction h<;>rfl⟩)
 | up g =>
  induction g with
  | a=>exact absurd rfl ho
  | x=>exact go ⟨by decide,rfl⟩ hk.1 h0 h1 p1.1 p1.2 (op:=.upx) (qQ rfl fun m ex ac cy nm st=>⟨trivial,rfl⟩)
  | y=>exact go ⟨by decide,rfl⟩ hk.1 h0 h1 p1.1 p1.2 (op:=.upy) (qQ rfl fun m ex ac cy nm st=>⟨trivial,rfl⟩)
 | dn g =>
  induction g with
  | a=>exact absurd rfl ho
  | x=>exact go ⟨by decide,rfl⟩ hk.1 h0 h1 p1.1 p1.2 (op:=.dnx) (qQ rfl fun m ex ac cy nm st=>⟨trivial,rfl⟩)
  | y=>exact go ⟨by decide,rfl⟩ hk.1 h0 h1 p1.1 p1.2 (op:=.dny) (qQ rfl fun m ex ac cy nm st=>⟨trivial,rfl⟩)
 | tsx=>exact go ⟨by decide,rfl⟩ hk.1 h0 h1 p1.1 p1.2 (op:=.tsx) (qQ rfl fun m ex ac cy nm st=>⟨trivial,by show(Cpu.mk _ _ _ A.sp _ (nzF A.f A.sp) _ _ _ _ _,m)=_;rw[Q1 ho];rfl⟩)
 | txs =>
  refine jn ho fun eZ9 hd hx=>?_;subst eZ9
  refine go ⟨by decide,rfl⟩ hk.1 h0 h1 p1.1 p1.2 (op:=.txs) ⟨fun m ex ac cy nm st hm hc=>⟨trivial,⟨ex,?_⟩,?_,fun Z Z Z=>rfl⟩⟩
  ·show Cpu.mk _ A.x _ _ _ _ _ _ _ _ _=Cpu.mk _ (cond A.d (A.x-1) A.x) _ _ _ _ _ _ _ _ _
   rw[hd];rfl
  ·show M false { A.k with s:=A.x,P:=cond (decide (A.x<A.k.s)) (wr A.k.P (256+A.k.s) (A.k.v.getD 0)) A.k.P,v:=none } m
   obtain⟨lp,lm,s0,s1,h⟩:=hm
   rcases hx with ⟨h2,h3,z,h4⟩ | ⟨h2,h3⟩
   ·rw[decide_eq_true (show A.x<A.k.s from Int.lt_of_le_sub_one (Int.le_of_eq h2))]
    refine⟨zB.trans lp,lm,h3,Int.le_of_lt (Cf (Int.lt_of_le_sub_one (Int.le_of_eq h2)) s1),⟨fun u u0 u1 u2=>?_,h.tm,fun y hy=>nomatch hy⟩⟩
    replace u2:u<250∨(254<=u/\u<256)∨256+A.x<u:=u2;show rd m u=rd (wr A.k.P (256+A.k.s) (A.k.v.getD 0)) u;rw[VT (jm lp (zi (zt (zf s0)) rfl) (zn (zt (zS s1)) rfl)) u0,h4]
    by_cases q:u=256+A.k.s
    ·rw[if_pos q,q];exact h.tv z h4
    ·rw[if_neg q];exact h.pln u u0 u1 (u2.imp_right (Or.imp_right fun h=>Std.lt_of_le_of_ne (by rw[<- Int.sub_add_cancel A.k.s 1,<- h2,<- Ct];exact h) (Ne.symm q)))
   ·rw[decide_eq_false (show ¬A.x<A.k.s from Int.not_lt.mpr (Dp (Int.le_add_one (Ce _)) (Int.le_of_eq h2.symm)))]
    refine⟨lp,lm,Dp s0 (Dp (Int.le_add_one (Ce _)) (Int.le_of_eq h2.symm)),h3,⟨fun u u0 u1 u2=>?_,h.tm,fun y hy=>nomatch hy⟩⟩
    replace u2:u<250∨(254<=u/\u<256)∨256+A.x<u:=u2;exact h.pln u u0 u1 (u2.imp_right (Or.imp_right (Dz (Int.add_le_add_left (Dp (Int.le_add_one (Ce _)) (Int.le_of_eq h2.symm)) 256))))
 | php =>
  refine zd ho fun eZ8 hd=>?_;subst eZ8
  exact go ⟨by decide,rfl⟩ hk.1 h0 h1 p1.1 p1.2 (op:=.php) (eH hd fun m ex ac cy nm st=>⟨fun h=>h,rfl⟩)
 | pha =>
  refine zd ho fun eZ7 hd=>?_;subst eZ7
  exact go ⟨by decide,rfl⟩ hk.1 h0 h1 p1.1 p1.2 (op:=.pha) (eH hd fun m ex ac cy nm st=>⟨fun h=>h,rfl⟩)
 | plp =>
  refine jn ho fun Eh hd Eg=>?_;subst Eh;obtain⟨z,hz⟩:=Eg
  refine go ⟨by decide,rfl⟩ hk.1 h0 h1 p1.1 p1.2 (op:=.plp) ?_
  show Go K false A pc 40 .plp { A with d:=false,f:=plF (A.k.v.getD 0) } (pc+1)
  rw[hz];exact eI hd hz fun m ex ac cy nm st=>⟨fun h=>h,fun q=>by show(({ Jc _ with f:=plF (yL _ m) }:Cpu),m)=_;rw[q];rfl⟩
 | pla =>
  refine jn ho fun Ek hd Ej=>?_;subst Ek;obtain⟨z,hz⟩:=Ej
  refine go ⟨by decide,rfl⟩ hk.1 h0 h1 p1.1 p1.2 (op:=.pla) ?_
  show Go K false A pc 104 .pla { A with d:=false,a:=A.k.v.getD 0,f:=nzF A.f (A.k.v.getD 0) } (pc+1)
  rw[hz];exact eI hd hz fun m ex ac cy nm st=>⟨fun h=>h,fun q=>by show(({ Jc _ with a:=yL _ m,f:=nzF A.f (yL _ m) }:Cpu),m)=_;rw[q];rfl⟩
 | sS =>
  refine jn ho fun Dm hd hx=>?_;subst Dm
  have p3:0<=pc+3/\pc+3<65536:=⟨zi (zm (zf h0)) rfl,zn (zm (zz h1)) rfl⟩;refine go (op:=.sto .a .abx) ⟨by decide,rfl⟩ hk.1 h0 h1 p3.1 p3.2 ⟨fun m ex ac cy nm st hm hc=>?_⟩
  have s0:=hm.s0;have s1:=hm.s1;have w0:wd m (pc+1)=256:=by unfold wd;rw[hc _ (zi (zm (zf h0)) rfl) (zn (zm (zz h1)) rfl),hc _ (zi (zm (zm (zf h0))) rfl) (zn (zm (zm (zz h1))) rfl),hk.2.1,hk.2.2.1];decide
  have q2:eaA .abx (A.cp (pc+1) ex (.int ac) cy nm st) m=256+A.k.s:=by
   show(wd m (pc+1)+A.x)%65536=_
   rw[w0,hx];exact Bu (zi (zt (zf s0)) rfl) (zn (zt (zS s1)) rfl)
  have ad:=jm hm.lm (u:=256+A.k.s) (zi (zt (zf s0)) rfl) (zn (zt (zS s1)) rfl)
  refine⟨⟨⟨⟨jm hm.lm (u:=pc+1) (zi (zm (zf h0)) rfl) (zn (zm (zz h1)) rfl),jm hm.lm (u:=pc+1+1) (zi (zm (zm (zf h0))) rfl) (zn (zm (zm (zz h1))) rfl)⟩,ac,rfl⟩,by rw[q2];exact ad⟩,⟨eaX .abx (A.cp (pc+1) ex (.int ac) cy nm st) m,?_⟩,?_,fun u u0 u1=>?_⟩
  ·show Cpu.mk (pc+1+2) _ _ _ _ _ _ _ _ _ _=Cpu.mk (pc+3) _ _ _ _ _ _ _ _ _ _
   rw[Ct];rfl
  ·show M false _ (wr m (eaA .abx _ m) A.a)
   rw[q2];exact hm.wrV
  ·show rd (wr m (eaA .abx _ m) A.a) u=_
   rw[q2];exact rw2 hm.lm (zi (zt (zf s0)) rfl) (zn (zt (zS s1)) rfl) (zi (zf u0) rfl) (Vt (zf u0) (zt (zS s1)) rfl)
 | lS =>
  refine yC ho fun Cd hd hx hx1=>?_;subst Cd
  have p3:0<=pc+3/\pc+3<65536:=⟨zi (zm (zf h0)) rfl,zn (zm (zz h1)) rfl⟩;refine go (op:=.rd .lda .abx) ⟨by decide,rfl⟩ hk.1 h0 h1 p3.1 p3.2 (UM (u:=256+A.x) (fun m ex ac cy nm st hm hc=>?_) trivial (Ct pc 1 2))
  have s0:=hm.s0;have w0:wd m (pc+1)=256:=by unfold wd;rw[hc _ (zi (zm (zf h0)) rfl) (zn (zm (zz h1)) rfl),hc _ (zi (zm (zm (zf h0))) rfl) (zn (zm (zm (zz h1))) rfl),hk.2.1,hk.2.2.1];decide
  refine⟨⟨⟨jm hm.lm (u:=pc+1) (zi (zm (zf h0)) rfl) (zn (zm (zz h1)) rfl),jm hm.lm (u:=pc+1+1) (zi (zm (zm (zf h0))) rfl) (zn (zm (zm (zz h1))) rfl)⟩,ac,rfl⟩,?_,jm hm.lm (by lia) (zn (zt (zS hx1)) rfl),hm.mem.pln _ (by lia) (zn (zt (zS hx1)) rfl) (by lia)⟩
  show(wd m (pc+1)+A.x)%65536=_
  rw[w0];exact Bu (by lia) (zn (zt (zS hx1)) rfl)
end
section
variable {w:Int}{K:Int->Int}{e:Bool}{A:As}
theorem wJ(hd:A.d=false)(hs:2<=A.k.s)(hk:K pc=72)(h0:1040<=pc)(h1:pc<1530):St1 K true A pc { A with k:={ A.k with s:=A.k.s-1,P:=wr A.k.P (256+A.k.s) A.a } } (pc+1):=by
 refine go (op:=.pha) ⟨by decide,rfl⟩ hk h0 h1 (zi (zm (zf h0)) rfl) (zn (zm (zz h1)) rfl) ⟨fun m ex ac cy nm st hm hc=>⟨Qx hm,⟨ex,?_⟩,?_,fun u u0 u1=>?_⟩⟩
 ·show Cpu.mk _ ((A.sp-1)%256) _ _ _ _ _ _ _ _ _=Cpu.mk _ (cond A.d (A.k.s-1-1) (A.k.s-1)) _ _ _ _ _ _ _ _ _
  rw[Q1 hd,hm.sp0,hd];rfl
 ·show M true { A.k with s:=A.k.s-1,P:=wr A.k.P (256+A.k.s) A.a } (wr m (A.sp+256) A.a)
  obtain⟨lp,lm,s0,s1,h⟩:=hm;rw[Q1 hd,Dv,show m=A.k.P from h]
  exact⟨zB.trans lp,zB.trans lp,by show 1<=A.k.s-1;exact Int.le_sub_right_of_add_le hs,by show A.k.s-1<=255;exact yd (ZG (zS s1)) rfl,rfl⟩
 ·show rd (wr m (A.sp+256) A.a) u=_
  have:=hm.s0;have:=hm.s1
  rw[Q1 hd];exact rw2 hm.lm (zi (zm (zf ‹_›)) rfl) (zn (zm (zS this)) rfl) (zi (zf u0) rfl) (Vt (zf u0) (zm (zS this)) rfl)
theorem wM(hd:A.d=false)(hs:A.k.s<=254)(hk:K pc=104)(h0:1040<=pc)(h1:pc<1530):St1 K true A pc { A with a:=rd A.k.P (257+A.k.s),f:=nzF A.f (rd A.k.P (257+A.k.s)),k:={ A.k with s:=A.k.s+1 } } (pc+1):=by
 refine go (op:=.pla) ⟨by decide,rfl⟩ hk h0 h1 (zi (zm (zf h0)) rfl) (zn (zm (zz h1)) rfl) ⟨fun m ex ac cy nm st hm hc=>?_⟩
 have s0:=hm.s0;have e1:(A.sp+1)%256=A.k.s+1:=by rw[Q1 hd];exact Bu (zi (zm (zf s0)) rfl) (zn (zm (zS hs)) rfl)
 have e2:yL (A.cp (pc+1) ex (.int ac) cy nm st) m=rd A.k.P (257+A.k.s):=by
  show rd m ((A.sp+1)%256+256)=_;rw[e1,show m=A.k.P from hm.mem,show A.k.s+1+256=257+A.k.s from(Ct _ 1 256).trans (Dv _ 257)]
 refine⟨Qx hm,⟨ex,?_⟩,⟨hm.lp,hm.lm,by show 1<=A.k.s+1;exact zi (zm (zf s0)) rfl,by show A.k.s+1<=255;exact yd (zm (zS hs)) rfl,hm.mem⟩,fun Z Z Z=>rfl⟩
 show Cpu.mk _ ((A.sp+1)%256) (yL _ m) _ _ (nzF A.f (yL _ m)) _ _ _ _ _=Cpu.mk _ (cond A.d (A.k.s+1-1) (A.k.s+1)) _ _ _ _ _ _ _ _ _;rw[e1,e2,hd];rfl
noncomputable def Qn(P:Mem)(s pc:Int):Mem:=wr (wr P (256+s) ((pc+2)/256)) (255+s) ((pc+2)%256)
theorem wG(hd:A.d=false)(hs:3<=A.k.s)(hk:At K pc [32,0,4])(h0:1040<=pc)(h1:pc<1530):St1 K true A pc { A with k:={ A.k with s:=A.k.s-2,P:=Qn A.k.P A.k.s pc } } 1024:=by
 refine go (op:=.jsr) ⟨by decide,rfl⟩ hk.1 h0 h1 (by decide) (by decide) ⟨fun m ex ac cy nm st hm hc=>?_⟩
 have s0:=hm.s0;have s1:=hm.s1;have e0:(pc+1+1)%65536=pc+2:=by rw[Ct];exact Bu (zi (zN (zf h0) (zm (Ce _))) rfl) (zn (zN (zz h1) (zm (Ce _))) rfl)
 have e1:(A.k.s-1-1)%256=A.k.s-2:=by rw[Int.sub_sub];exact Bu (Int.sub_nonneg.mpr (zi (zf hs) rfl)) (zn (gt (zS s1) (zm (Ce _))) rfl)
 have ep:Jr (A.cp (pc+1) ex (.int ac) cy nm st) m (pc+2)=Qn m A.k.s pc:=by
  show wr (wr m (A.sp+256) ((pc+2)/256%256)) ((A.sp-1)%256+256) ((pc+2)%256)=_;rw[Q1 hd,hm.sp0,Bu (a:=(pc+2)/256) (sU (zi (zm (zf h0)) rfl) rfl) (Int.ediv_lt_of_lt_mul (of_decide_eq_true rfl) (zn (zm (zz h1)) rfl)),show A.k.s-1+256=255+A.k.s by lia,Dv A.k.s 256];rfl
 have k3:∀u,1040<=u->u<1536->rd (Qn m A.k.s pc) u=rd m u:=fun u u0 u1=>by
  unfold Qn;rw[rw2 (zB.trans hm.lm) (zi (zt (zf s0)) rfl) (zn (zt (zS s1)) rfl) (zi (zf u0) rfl) (Vt (zf u0) (zt (zS s1)) rfl),rw2 hm.lm (zi (zt (zf s0)) rfl) (zn (zt (zS s1)) rfl) (zi (zf u0) rfl) (Vt (zf u0) (zt (zS s1)) rfl)]
 refine⟨⟨Qx hm,jm hm.lm (u:=pc+1) (zi (zm (zf h0)) rfl) (zn (zm (zz h1)) rfl),jm hm.lm (u:=pc+1+1) (zi (zm (zm (zf h0))) rfl) (zn (zm (zm (zz h1))) rfl)⟩,⟨ex,?_⟩,?_,fun u u0 u1=>?_⟩
 ·show Cpu.mk (wd (Jr _ m ((pc+1+1)%65536)) (pc+1)) (((A.sp-1)%256-1)%256) _ _ _ _ _ _ _ _ _=Cpu.mk _ (cond A.d (A.k.s-2-1) (A.k.s-2)) _ _ _ _ _ _ _ _ _
  rw[Q1 hd,hm.sp0,e1,hd,e0,ep];unfold wd;rw[k3 _ (zi (zm (zf h0)) rfl) (zn (zm (zz h1)) rfl),k3 _ (zi (zm (zm (zf h0))) rfl) (zn (zm (zm (zz h1))) rfl),hc _ (zi (zm (zf h0)) rfl) (zn (zm (zz h1)) rfl),hc _ (zi (zm (zm (zf h0))) rfl) (zn (zm (zm (zz h1))) rfl),hk.2.1,hk.2.2.1];rfl
 ·show M true { A.k with s:=A.k.s-2,P:=Qn A.k.P A.k.s pc } (Jr _ m ((pc+1+1)%65536))
  rw[e0,ep,show m=A.k.P from hm.mem]
  exact⟨zB.trans (zB.trans hm.lp),zB.trans (zB.trans hm.lp),by show 1<=A.k.s-2;exact Int.le_sub_right_of_add_le hs,by show A.k.s-2<=255;exact yd (ZG (zS s1)) rfl,rfl⟩
 ·show rd (Jr _ m ((pc+1+1)%65536)) u=_
  rw[e0,ep];exact k3 u u0 u1
theorem wF(h:rd A.k.P 1024=200):St1 K true A 1024 (A.put .y ((A.y+1)%256)) 1025:=
 go0 (op:=.upy) ⟨by decide,rfl⟩ (fun m hm Z=>(congrArg (rd · 1024) (show m=A.k.P from hm.mem)).trans h) (by decide) (by decide) (by decide) (by decide) (qQ (pc:=1024) rfl fun m ex ac cy nm st=>⟨trivial,rfl⟩)
theorem wN{q:Int}(hd:A.d=false)(hs:A.k.s<=253)(h:rd A.k.P 1025=96)(hq:rd A.k.P (257+A.k.s)+rd A.k.P (258+A.k.s)*256+1=q)(q0:0<=q)(q1:q<65536):St1 K true A 1025 { A with k:={ A.k with s:=A.k.s+2 } } q:=by
 refine go0 (op:=.rts) ⟨by decide,rfl⟩ (fun m hm Z=>(congrArg (rd · 1025) (show m=A.k.P from hm.mem)).trans h) (by decide) (by decide) q0 q1 ⟨fun m ex ac cy nm st hm hc=>?_⟩
 have s0:=hm.s0;have e1:(A.sp+1)%256=A.k.s+1:=by rw[Q1 hd];exact Bu (zi (zm (zf s0)) rfl) (zn (zm (zS hs)) rfl)
 have e2:(A.k.s+1+1)%256=A.k.s+2:=by rw[Ct];exact Bu (zi (zN (zf s0) (zm (Ce _))) rfl) (zn (zN (zS hs) (zm (Ce _))) rfl)
 refine⟨Qx hm,⟨ex,?_⟩,⟨hm.lp,hm.lm,by show 1<=A.k.s+2;exact zi (zm (zf s0)) rfl,by show A.k.s+2<=255;exact yd (zm (zS hs)) rfl,hm.mem⟩,fun Z Z Z=>rfl⟩
 show Cpu.mk (rd m ((A.sp+1)%256+256)+rd m (((A.sp+1)%256+1)%256+256)*256+1) (((A.sp+1)%256+1)%256) _ _ _ _ _ _ _ _ _=Cpu.mk _ (cond A.d (A.k.s+2-1) (A.k.s+2)) _ _ _ _ _ _ _ _ _;rw[e1,e2,hd,show m=A.k.P from hm.mem,show A.k.s+1+256=257+A.k.s from(Ct _ 1 256).trans (Dv _ 257),show A.k.s+2+256=258+A.k.s from(Ct _ 2 256).trans (Dv _ 258),hq];rfl
theorem t7{m:Mem}{l h:Int}(hc:∀u,1040<=u->u<1536->rd m u=K u)(hl:K (pc+1)=l)(hh:K (pc+1+1)=h)(h0:1040<=pc)(h1:pc<1530):wd m (pc+1)=l+h*256:=by unfold wd;rw[hc _ (zi (zm (zf h0)) rfl) (zn (zm (zz h1)) rfl),hc _ (zi (zm (zm (zf h0))) rfl) (zn (zm (zm (zz h1))) rfl),hl,hh]
theorem gV{m:Mem}(hl:m.length=1536)(h0:1040<=pc)(h1:pc<1530):gU m (pc+1):=⟨jm hl (u:=pc+1) (zi (zm (zf h0)) rfl) (zn (zm (zz h1)) rfl),jm hl (u:=pc+1+1) (zi (zm (zm (zf h0))) rfl) (zn (zm (zm (zz h1))) rfl)⟩
theorem wH{v:Int}(hv:isB v)(hx:isB A.x)(hk:At K pc [189,v,2])(h0:1040<=pc)(h1:pc<1530):St1 K e A pc (A.rd .lda (rd A.k.P (512+v+A.x))) (pc+3):=by
 refine zd hv fun v0 v1=>?_
 refine zd hx fun x0 x1=>?_
 refine go (op:=.rd .lda .abx) ⟨by decide,rfl⟩ hk.1 h0 h1 (zi (zm (zf h0)) rfl) (zn (zm (zz h1)) rfl) (UM (u:=512+v+A.x) (fun m ex ac cy nm st hm hc=>⟨⟨gV hm.lm h0 h1,ac,rfl⟩,?_,jm hm.lm (zi (zN (zt (zf v0)) (zf x0)) rfl) (zn (zN (zt (zz v1)) (zz x1)) rfl),hm.rdP (zi (zN (zt (zf v0)) (zf x0)) rfl) (Or.inr (Or.inr ⟨zi (zN (zt (zf hv.1)) (zf hx.1)) rfl,zn (zN (zt (zz hv.2)) (zz hx.2)) rfl⟩))⟩) trivial (Ct pc 1 2))
 show(wd m (pc+1)+A.x)%65536=_
 rw[t7 hc hk.2.1 hk.2.2.1 h0 h1,Bu (zi (zN (zN (zf v0) (YK (Ce _))) (zf x0)) rfl) (zn (zN (zN (zz v1) (YK (Ce _))) (zz x1)) rfl)];exact congrArg (· + A.x) (Dv v 512)
theorem wI{v:Int}(hv:isB v)(hx:isB A.y)(hk:At K pc [185,v,2])(h0:1040<=pc)(h1:pc<1530):St1 K e A pc (A.rd .lda (rd A.k.P (512+v+A.y))) (pc+3):=by
 refine zd hv fun v0 v1=>?_
 refine zd hx fun x0 x1=>?_
 refine go (op:=.rd .lda .aby) ⟨by decide,rfl⟩ hk.1 h0 h1 (zi (zm (zf h0)) rfl) (zn (zm (zz h1)) rfl) (UM (u:=512+v+A.y) (fun m ex ac cy nm st hm hc=>⟨⟨gV hm.lm h0 h1,ac,rfl⟩,?_,jm hm.lm (zi (zN (zt (zf v0)) (zf x0)) rfl) (zn (zN (zt (zz v1)) (zz x1)) rfl),hm.rdP (zi (zN (zt (zf v0)) (zf x0)) rfl) (Or.inr (Or.inr ⟨zi (zN (zt (zf hv.1)) (zf hx.1)) rfl,zn (zN (zt (zz hv.2)) (zz hx.2)) rfl⟩))⟩) trivial (Ct pc 1 2))
 show(wd m (pc+1)+A.y)%65536=_
 rw[t7 hc hk.2.1 hk.2.2.1 h0 h1,Bu (zi (zN (zN (zf v0) (YK (Ce _))) (zf x0)) rfl) (zn (zN (zN (zz v1) (YK (Ce _))) (zz x1)) rfl)];exact congrArg (· + A.y) (Dv v 512)
theorem wP{v:Int}(hv:isB v)(hx:isB A.x)(hk:At K pc [157,v,2])(h0:1040<=pc)(h1:pc<1530):St1 K e A pc { A with k:={ A.k with P:=wr A.k.P (512+v+A.x) A.a } } (pc+3):=by
 refine zd hv fun v0 v1=>?_
 refine zd hx fun x0 x1=>?_
 refine go (op:=.sto .a .abx) ⟨by decide,rfl⟩ hk.1 h0 h1 (zi (zm (zf h0)) rfl) (zn (zm (zz h1)) rfl) (WH (u:=512+v+A.x) (fun m ex ac cy nm st hm hc=>⟨⟨gV hm.lm h0 h1,ac,rfl⟩,?_,hm.wrP (zi (zN (zt (zf v0)) (zf x0)) rfl) (Or.inr ⟨zi (zN (zt (zf hv.1)) (zf hx.1)) rfl,zn (zN (zt (zz hv.2)) (zz hx.2)) rfl⟩)⟩) (zi (zN (zt (zf v0)) (zf x0)) rfl) (zn (zN (zt (zz v1)) (zz x1)) rfl) (Ct pc 1 2) rfl rfl)
 show(wd m (pc+1)+A.x)%65536=_
 rw[t7 hc hk.2.1 hk.2.2.1 h0 h1,Bu (zi (zN (zN (zf v0) (YK (Ce _))) (zf x0)) rfl) (zn (zN (zN (zz v1) (YK (Ce _))) (zz x1)) rfl)];exact congrArg (· + A.x) (Dv v 512)
theorem ni{l h b u:Int}(hb:K (pc+1)=b)(h0:1040<=pc)(h1:pc<1530)(b0:0<=b)(b1:b<255)(hu:l+h*256+A.y=u)(u0:0<=u)(u1:u<65536){m:Mem}(hl:rd m b=l)(hh:rd m (b+1)=h)(ex ac cy:Int)(nm st:PV)(hm:M e A.k m)(hc:∀u,1040<=u->u<1536->rd m u=K u):
  qP .iny (A.cp (pc+1) ex (.int ac) cy nm st) m/\eaA .iny (A.cp (pc+1) ex (.int ac) cy nm st) m=u:=by
 have e1:rd m (pc+1)=b:=(hc _ (zi (zm (zf h0)) rfl) (zn (zm (zz h1)) rfl)).trans hb;have e2:wq b=b+1:=by unfold wq;rw[Int.ediv_eq_zero_of_lt b0 (zn (zz b1) rfl),Bu (zi (zm (zf b0)) rfl) (zn (zm (zz b1)) rfl)];exact Int.zero_add _
 refine⟨⟨jm hm.lm (u:=pc+1) (zi (zm (zf h0)) rfl) (zn (zm (zz h1)) rfl),?_,ac,rfl⟩,?_⟩
 ·show cr m (rd m (pc+1))
  unfold cr;rw[e1,e2];exact⟨jm hm.lm b0 (zn (zz b1) rfl),jm hm.lm (zi (zm (zf b0)) rfl) (zn (zm (zz b1)) rfl)⟩
 ·show(wp m (rd m (pc+1))+A.y)%65536=u
  unfold wp;rw[e1,e2,hl,hh,hu];exact Bu u0 u1
theorem nV{l h b u:Int}(hk:At K pc [177,b])(h0:1040<=pc)(h1:pc<1530)(b0:0<=b)(b1:b<255)(hp:∀m,M e A.k m->rd m b=l/\rd m (b+1)=h)(hu:l+h*256+A.y=u)(u0:512<=u)(u1:u<1026):St1 K e A pc (A.rd .lda (rd A.k.P u)) (pc+2):=
 go (op:=.rd .lda .iny) ⟨by decide,rfl⟩ hk.1 h0 h1 (zi (zm (zf h0)) rfl) (zn (zm (zz h1)) rfl) (UM (u:=u) (fun m ex ac cy nm st hm hc=>by
  obtain⟨q1,q2⟩:=ni hk.2.1 h0 h1 b0 b1 hu (zi (zf u0) rfl) (zn (zz u1) rfl) (hp m hm).1 (hp m hm).2 ex ac cy nm st hm hc
  exact⟨q1,q2,jm hm.lm (zi (zf u0) rfl) (zn (zz u1) rfl),hm.rdP (zi (zf u0) rfl) (Or.inr (Or.inr ⟨u0,u1⟩))⟩) trivial (Ct pc 1 1))
theorem wQ{l h b u:Int}(hk:At K pc [145,b])(h0:1040<=pc)(h1:pc<1530)(b0:0<=b)(b1:b<255)(hp:∀m,M e A.k m->rd m b=l/\rd m (b+1)=h)(hu:l+h*256+A.y=u)(u0:512<=u)(u1:u<1024):St1 K e A pc { A with k:={ A.k with P:=wr A.k.P u A.a } } (pc+2):=
 go (op:=.sto .a .iny) ⟨by decide,rfl⟩ hk.1 h0 h1 (zi (zm (zf h0)) rfl) (zn (zm (zz h1)) rfl) (WH (u:=u) (fun m ex ac cy nm st hm hc=>by
  obtain⟨q1,q2⟩:=ni hk.2.1 h0 h1 b0 b1 hu (zi (zf u0) rfl) (zn (zz u1) rfl) (hp m hm).1 (hp m hm).2 ex ac cy nm st hm hc
  exact⟨q1,q2,hm.wrP (zi (zf u0) rfl) (Or.inr ⟨u0,u1⟩)⟩) (zi (zf u0) rfl) (zn (zz u1) rfl) (Ct pc 1 1) rfl rfl)
theorem AV{t:Int}(hk:At K pc [208,t])(h0:1040<=pc)(h1:pc<1500)(t0:0<=t)(t1:t<20):St1 K e A pc A (pc+2+cond A.f.z 0 t):=by
 have hc':0<=(cond A.f.z 0 t:Int)/\cond A.f.z 0 t<20:=by
  cases A.f.z with
  | true=>exact⟨Ce 0,(by decide:(0:Int)<20)⟩
  | false=>exact⟨t0,t1⟩
 refine go (op:=.bra 1 false) ⟨by decide,rfl⟩ hk.1 h0 (zn (zz h1) rfl) (zi (zN (zm (zf h0)) (zf hc'.1)) rfl) (zn (zN (zm (zz h1)) (zz hc'.2)) rfl) ⟨fun m ex ac cy nm st hm hc=>?_⟩
 have e1:rd m (pc+1)=t:=(hc _ (zi (zm (zf h0)) rfl) (zn (zm (zz h1)) rfl)).trans hk.2.1
 refine⟨jm hm.lm (u:=pc+1) (zi (zm (zf h0)) rfl) (zn (zm (zz h1)) rfl),?_,hm,fun Z Z Z=>rfl⟩
 show ∃ex',cond (A.f.z==false) (c6 (A.cp (pc+1) ex (.int ac) cy nm st) (rd m (pc+1))) ({ A.cp (pc+1) ex (.int ac) cy nm st with pc:=pc+1+1 }:Cpu)=_
 rw[e1]
 cases A.f.z with
 | true=>exact⟨ex,by show Cpu.mk (pc+1+1) _ _ _ _ _ _ _ _ _ _=Cpu.mk (pc+2+0) _ _ _ _ _ _ _ _ _ _;rw[Ct,Ch];rfl⟩
 | false =>
  refine⟨(c6 (A.cp (pc+1) ex (.int ac) cy nm st) t).ex,?_⟩
  show Cpu.mk ((pc+1+1+t-256*b2 (bt 7 t))%65536) _ _ _ _ _ _ _ _ _ _=Cpu.mk (pc+2+t) _ _ _ _ _ _ _ _ _ _;have ep:(pc+1+1+t-256*b2 (bt 7 t))%65536=pc+2+t:=by
   rw[show bt 7 t=false from Ka (n:=20) (P:=fun t=>bt 7 t=false) (by decide +kernel) t0 t1,show(256:Int)*b2 false=0 from rfl,Int.sub_zero,Ct pc,Bu (zi (zN (zN (zf h0) (zm (Ce _))) (zf t0)) rfl) (zn (zN (zN (zz h1) (zm (Ce _))) (zz t1)) rfl)];rfl
  rw[ep];rfl
end
section
variable (K:Int->Int)(e:Bool)(stop:Int)
def Rn(n:Nat)(A:As)(pc:Int)(B:As)(pc':Int):Prop:=∀c m,Is K e A pc c m->∃c' m',Run (fun p=>p≠stop) n c m c' m'/\Is K e B pc' c' m'
end
section
variable {K:Int->Int}{e:Bool}{stop w q r:Int}{A C:As}{n l:Nat}
theorem Rn.nil:Rn K e stop 0 A pc A pc:=fun c m i=>(yA c m .z i)
theorem Is.pcE{c:Cpu}{m:Mem}(i:Is K e A pc c m):c.pc=pc:=by
 refine zh i.rg fun Z Z Z Ee=>JK Ee fun Z Z Cd=>?_;subst Cd;rfl
theorem Rn.cons(h:St1 K e A pc B q)(hp:pc≠stop)(t:Rn K e stop n B q C r):Rn K e stop (n+1) A pc C r:=fun c m i=>by
 refine byc fun Ea=>?_
 refine jj (h c m i) fun k op s j=>?_
 refine jj (t _ _ j) fun c' m' u i'=>?_
 refine Ea ?_;exact(yA c' m' (.s s (by rw[i.pcE];exact hp) u) i')
theorem Rn.app(h:Rn K e stop n A pc B q)(t:Rn K e stop l B q C r):Rn K e stop (l+n) A pc C r:=fun c m i=>by
 refine byc fun Ea=>?_
 refine jj (h c m i) fun c' m' u i'=>?_
 refine jj (t _ _ i') fun c2 m2 u2 i2=>?_
 refine Ea ?_;exact(yA c2 m2 (u.app u2) i2)
noncomputable def Jd(w:Int):As->List F->As
 | A,[]=>A
 | A,q::r=>Jd w (q.ex w A) r
noncomputable def byL(w:Int):List F->List Int
 | []=>[]
 | q::r=>q.by w++byL w r
noncomputable def okL(w:Int)(e:Bool):As->List F->Prop
 | _,[]=>True
 | A,q::r=>q.ok e A/\okL w e (q.ex w A) r
theorem Xw:∀{l r:List F} {A:As},okL w e A l->okL w e (Jd w A l) r->okL w e A (l++r)
 | [],_,_,_,h=>h
 | _::_,_,_,h,h2=>⟨h.1,Xw h.2 h2⟩
theorem At.app:∀{l r:List Int} {pc:Int},At K pc (l++r)->At K pc l/\At K (pc+l.length) r
 | [],r,pc,h=>⟨trivial,by show At K (pc+0) r;rw[Ch];exact h⟩
 | b::l,r,pc,h=>by
  obtain⟨h1,h2⟩:=At.app (l:=l) h.2
  refine⟨⟨h.1,h1⟩,?_⟩
  rw[show pc+((b::l).length:Int)=pc+1+(l.length:Int) by rw[Cu];lia]
  exact h2
theorem da(q:F):1<=(q.by w).length:=by induction q<;>exact Nat.le_add_left 1 _
theorem F.run:∀(l:List F) {A:As} {pc:Int},okL w e A l->At K pc (byL w l)->1040<=pc->pc+(byL w l).length<=1500->0<=w->w<128->pc+(byL w l).length<=stop->Rn K e stop l.length A pc (Jd w A l) (pc+(byL w l).length)
 | [],A,pc,_,_,_,_,_,_,_=>by show Rn K e stop 0 A pc A (pc+0);rw[Ch];exact .nil
 | q::l,A,pc,ho,hk,h0,h1,w0,w1,hs=>by
  have e1:((byL w (q::l)).length:Int)=(q.by w).length+(byL w l).length:=by show((q.by w++byL w l).length:Int)=_;rw[Bz];lia
  have p:=da (w:=w) q;obtain⟨k1,k2⟩:=hk.app;rw[e1] at h1 hs ⊢;rw[<- Ct];exact .cons (F.sound q ho.1 k1 h0 (by lia) w0 w1) (by lia) (F.run l ho.2 k2 (zi (zN (zf h0) qK) rfl) (by lia) w0 w1 (by lia))
noncomputable def nk:Rd->Bool | .bit=>true | _=>false
noncomputable def dOk:Rd->Fl->Bool | .adc,f=>!f.d | .sbc,f=>!f.d | _,_=>true
noncomputable def eS:Rd->Bool | .eor=>true | _=>false
noncomputable def F.okB(A:As):F->Bool
 | .rI r _=>!nk r&&dOk r A.f
 | .rT r i=>Dg i 4&&(!eS r&&dOk r A.f)
 | .rP r=>!eS r&&dOk r A.f
 | .sT _ i=>Dg i 4
 | .sP _=>true
 | .mP r=>Dg 0 (oM r)
 | .ac r=>Dg 0 (oA r)
 | .cI g _=>Dg 0 (oC g)
 | .fl b on=>Dg 0 (oF b on)
 | .tr g h=>Dg 0 (oT g h)
 | .up g=>Dg 0 (oU g)
 | .dn g=>Dg 0 (oD g)
 | .tsx=>!A.d
 | .php | .pha=>!A.d
 | .plp | .pla=>A.d&&A.k.v.isSome
 | .txs | .sS | .lS=>false
theorem b0{n:Nat}(h:Dg 0 n=true):n≠0:=Nat.ne_of_gt (Bs h)
theorem ZH{r:Rd}{f:Fl}(h:dOk r f=true):rdD r f:=by induction r<;>first | exact trivial | exact(Cq _).mp h
theorem gg{q:F}(h:q.okB A=true):q.ok false A:=by
 have nb:∀{r},(!nk r)=true->r≠.bit:=fun h e=>by subst e;cases h
 have ne:∀{r},(!eS r)=true->r≠.eor:=fun h e=>by subst e;cases h
 have nd:∀{b:Bool},(!b)=true->b=false:=fun h=>(Cq _).mp h
 induction q with
 | rI r v=>refine zd (za h) fun h1 h2=>?_;exact⟨nb h1,ZH h2⟩
 | rT r i=>refine zd (za h) fun h1 h2=>?_;refine zd (za h2) fun h2 h3=>?_;exact⟨rfl,ne h2,Bs h1,ZH h3⟩
 | rP r=>refine zd (za h) fun h1 h2=>?_;exact⟨ne h1,ZH h2⟩
 | sT g i=>exact⟨rfl,Bs h⟩
 | sP g=>exact trivial
 | tsx=>exact nd h
 | php | pha=>exact⟨rfl,nd h⟩
 | plp | pla=>refine zd (za h) fun h1 h2=>?_;exact⟨rfl,h1,Option.isSome_iff_exists.mp h2⟩
 | txs | sS | lS=>cases h
 | _=>exact b0 h
noncomputable def lJ(w:Int):As->List F->Bool
 | _,[]=>true
 | A,q::r=>q.okB A&&lJ w (q.ex w A) r
theorem jD:∀{l:List F} {A:As},lJ w A l=true->okL w false A l
 | [],_,_=>trivial
 | _::_,_,h=>let h:=za h;⟨gg h.1,jD h.2⟩
end
structure Co where
 a:Int
 x:Int
 y:Int
 s:Int
 f:Fl
 P:Mem
noncomputable def As.co(A:As):Co:=⟨A.a,A.x,A.y,A.k.s,A.f,A.k.P⟩
noncomputable def Co.toA(C:Co):As:=⟨C.a,C.x,C.y,C.f,false,⟨C.s,none,0,0,0,0,C.P⟩⟩
noncomputable def KQ(v:Int):Nat->F
 | 0=>.up .x | 1=>.dn .x | 2=>.up .y | 3=>.dn .y | 4=>.mP .inc | 5=>.mP .dec | 6=>.rI .eor v | 7=>.rI .ora v | 8=>.rI .and v | 9=>.ac .asl | 10=>.mP .lsr | 11=>.ac .rol | 12=>.ac .ror
 | 13=>.cI .a v | 14=>.rI .sbc v | 15=>.rP .adc | 16=>.tr .a .x | 17=>.tr .y .a | 18=>.rP .bit | 19=>.fl 0 true | 20=>.fl 6 false | 24=>.sP .x | 25=>.rI .ldx v | 26=>.cI .x v | _=>.tsx
noncomputable def big(k:Nat):Bool:=[21,22,23,27,28,29].any (Nat.beq k)
noncomputable def eff(v q near:Int)(k:Nat)(C:Co):Co:=match k with
 | 21=>{ C with s:=C.s-1,P:=wr C.P (256+C.s) C.a }
 | 22=>{ C with a:=rd C.P (257+C.s),f:=nzF C.f (rd C.P (257+C.s)),s:=C.s+1 }
 | 23=>{ C with y:=(C.y+1)%256,f:=nzF C.f ((C.y+1)%256),P:=wr (wr C.P (256+C.s) ((near-1)/256)) (255+C.s) ((near-1)%256) }
 | 27=>{ C with a:=rd C.P (512+v+C.x),f:=nzF C.f (rd C.P (512+v+C.x)) }
 | 28=>{ C with P:=wr C.P (512+v+C.x) C.a }
 | 29=>{ C with a:=rd C.P (512+q+C.y),f:=nzF C.f (rd C.P (512+q+C.y)) }
 | k=>((KQ v k).ex (v%128) C.toA).co
noncomputable def fC(n v i z c:Bool):Fl:=⟨n,v,true,true,false,i,z,c⟩
theorem JL(f:Fl):plF (pk f) = { f with b:=true,u:=true }:=by unfold plF;rw[qW]
noncomputable def jT(v:Int):Nat->List F
 | 0=>[.sT .a 0,.php,.fl 0 false,.tr .x .a,.rI .adc 1,.sT .a 1,.plp,.rT .lda 0,.rT .ldx 1]
 | 1=>[.sT .a 0,.php,.fl 0 true,.tr .x .a,.rI .sbc 1,.sT .a 1,.plp,.rT .lda 0,.rT .ldx 1]
 | 2=>[.sT .a 0,.php,.fl 0 false,.tr .y .a,.rI .adc 1,.sT .a 1,.plp,.rT .lda 0,.rT .ldy 1]
 | 3=>[.sT .a 0,.php,.fl 0 true,.tr .y .a,.rI .sbc 1,.sT .a 1,.plp,.rT .lda 0,.rT .ldy 1]
 | 4=>[.sT .a 0,.php,.fl 0 false,.rP .lda,.rI .adc 1,.sP .a,.sT .a 1,.plp,.rT .lda 1,.php,.rT .lda 0,.plp]
 | 5=>[.sT .a 0,.php,.fl 0 true,.rP .lda,.rI .sbc 1,.sP .a,.sT .a 1,.plp,.rT .lda 1,.php,.rT .lda 0,.plp]
 | 6=>[.sT .a 0,.php,.rI .and v,.sT .a 1,.rT .lda 0,.rI .ora v,.fl 0 true,.rT .sbc 1,.sT .a 1,.plp,.rT .lda 1]
 | 7=>[.rI .eor 255,.rI .and (255-v),.rI .eor 255]
 | 8=>[.rI .eor 255,.rI .ora (255-v),.rI .eor 255]
 | 9=>[.fl 0 false,.ac .rol]
 | 10=>[.fl 0 false,.mP .ror]
 | 11=>[.sT .a 0,.php,.pla,.rI .and 64,.sT .a 1,.rT .lda 0,.rT .adc 0,.sT .a 2,.php,.pla,.rI .and 191,.rT .ora 1,.pha,.rT .lda 2,.plp]
 | 12=>[.ac .rol,.ac .rol,.ac .rol,.ac .rol,.ac .rol,.ac .rol,.ac .rol,.ac .rol]
 | 13=>[.sT .a 0,.php,.pla,.rI .and 64,.sT .a 1,.rT .lda 0,.fl 0 true,.rI .sbc v,.php,.pla,.rI .and 191,.rT .ora 1,.pha,.rT .lda 0,.plp]
 | 14=>[.rI .adc (255-v)]
 | 15=>[.sT .a 0,.rP .lda,.rI .eor 255,.sT .a 1,.rT .lda 0,.rT .sbc 1]
 | 16=>[.sT .a 0,.rT .ldx 0]
 | 17=>[.sT .y 0,.rT .lda 0]
 | 18=>[.sT .a 0,.php,.pla,.rI .and 61,.sT .a 1,.rP .lda,.rI .and 192,.rT .ora 1,.sT .a 1,.rT .lda 0,.rP .and]
 | 19=>[.sT .a 0,.php,.pla,.rI .ora 1,.pha,.rT .lda 0,.plp]
 | 20=>[.sT .a 0,.php,.pla,.rI .and 191,.pha,.rT .lda 0,.plp]
 | 21=>[.sT .a 0,.php,.pla,.sT .a 1,.sT .x 2,.tsx,.rT .lda 0]
 | 22=>[.php,.pla,.sT .a 1,.sT .x 2,.tsx,.up .x]
 | 23=>[.up .y]
 | 24=>[.php,.sT .a 0,.tr .x .a,.sP .a,.rT .lda 0,.plp]
 | 25=>[.sT .a 0,.rI .lda v,.tr .a .x,.php,.rT .lda 0,.plp]
 | 26=>[.sT .a 0,.php,.pla,.rI .and 64,.sT .a 1,.tr .x .a,.fl 0 true,.rI .sbc v,.php,.pla,.rI .and 191,.rT .ora 1,.pha,.rT .lda 0,.plp]
 | 27=>[.php,.tr .x .a,.fl 0 false,.rI .adc v,.sT .a 0,.rI .lda 2,.rI .adc 0,.sT .a 1,.sT .y 2,.rI .ldy 0]
 | 28=>[.php,.sT .a 2,.tr .x .a,.fl 0 false,.rI .adc v,.sT .a 0,.rI .lda 2,.rI .adc 0,.sT .a 1,.sT .y 3,.rI .ldy 0,.rT .lda 2]
 | _=>[]
noncomputable def qc:Nat->List F
 | 18=>[.rT .lda 1,.pha,.rT .lda 0,.plp]
 | 21=>[.sS,.dn .x,.txs,.rT .ldx 2,.rT .lda 1,.pha,.rT .lda 0,.plp]
 | 22=>[.lS,.txs,.sT .a 0,.rT .ldx 2,.rT .lda 1,.pha,.plp,.rT .lda 0]
 | 27=>[.sT .a 0,.rT .ldy 2,.plp,.rT .lda 0]
 | 28=>[.rT .ldy 3,.rT .lda 2,.plp]
 | _=>[]
theorem jw{a x y s a' x' y' s':Int}{f f':Fl}(h1:a=a')(h2:x=x')(h3:y=y')(h4:s=s')(h5:f=f')(h6:P=P'):Co.mk a x y s f P=Co.mk a' x' y' s' f' P':=by subst h1 h2 h3 h4 h5 h6;rfl
structure Hy(v:Int)(A:As):Prop where
 a:isB A.a
 x:isB A.x
 y:isB A.y
 P:Bts A.k.P
 v:isB v
 fb:A.f.b=true
 fu:A.f.u=true
 fd:A.f.d=false
 d:A.d=false
def Pk(v q near:Int)(k:Nat):Prop:=∀A,Hy v A->lJ (v%128) A (jT v k)=true/\(Jd (v%128) A (jT v k)).co=eff v q near k A.co/\(Jd (v%128) A (jT v k)).d=false
theorem Pk.of{v q:Int}{k:Nat}(h:∀(a x y:Int) (n vv i z c:Bool) (K:Ms),isB a->isB x->isB y->Bts K.P->isB v->lJ (v%128) ⟨a,x,y,fC n vv i z c,false,K⟩ (jT v k)=true/\(Jd (v%128) ⟨a,x,y,fC n vv i z c,false,K⟩ (jT v k)).co=eff v q near k ⟨a,x,y,K.s,fC n vv i z c,K.P⟩/\(Jd (v%128) ⟨a,x,y,fC n vv i z c,false,K⟩ (jT v k)).d=false):Pk v q near k:=by
 rintro⟨a,x,y,⟨n,vv,u,b,d,i,z,c⟩,dd,K⟩ ⟨h1,h2,h3,h4,h5,h6,h7,h8,h9⟩
 cases (show b=true from h6)
 cases (show u=true from h7)
 cases (show d=false from h8)
 cases (show dd=false from h9)
 exact h a x y n vv i z c K h1 h2 h3 h4 h5
theorem plC{n v i z c:Bool}:plF (pk (fC n v i z c))=fC n v i z c:=JL _
theorem gp(f g:Fl):plF (iOr (zx (pk f) 191) (zx (pk g) 64)) = { f with v:=g.v,b:=true,u:=true }:=by
 unfold plF unp;simp only[Vw,jV,K4,Uu,Wj,Uv,Wk,Wm,show bt 0 191=true by decide,show bt 1 191=true by decide,show bt 2 191=true by decide,show bt 3 191=true by decide,show bt 6 191=false by decide,show bt 7 191=true by decide,show bt 0 64=false by decide,show bt 1 64=false by decide,show bt 2 64=false by decide,show bt 3 64=false by decide,show bt 6 64=true by decide,show bt 7 64=false by decide,Bool.and_true,Dd,Bool.or_false,Bool.false_or]
theorem sM(f:Fl):plF (zx (pk f) 191) = { f with v:=false,b:=true,u:=true }:=by
 unfold plF unp;simp only[jV,K4,Uu,Wj,Uv,Wk,Wm,show bt 0 191=true by decide,show bt 1 191=true by decide,show bt 2 191=true by decide,show bt 3 191=true by decide,show bt 6 191=false by decide,show bt 7 191=true by decide,Bool.and_true,Dd]
theorem AR(f:Fl):plF (iOr (pk f) 1) = { f with c:=true,b:=true,u:=true }:=by rw[Vu,JL]
section
variable {v q:Int}
theorem i1(x:Int):(x+1+b2 false)%256=(x+1)%256:=by rw[show b2 false=0 from rfl,Ch]
theorem rr(a v:Int):(a+(255-v)+b2 true)%256=(a-v)%256:=by
 show(a+(255-v)+1)%256=_
 rw[show a+(255-v)+1=a-v+256 by lia,Int.add_emod_right]
theorem d1(x:Int):(x+(255-1)+b2 true)%256=(x-1)%256:=rr x 1
theorem p0:Pk v q near 0:=.of fun a x y n vv i z c K ha hx hy hP hv=>⟨rfl,jw rfl (i1 x) rfl rfl (by show nzF (plF (pk (fC n vv i z c))) ((x+1+b2 false)%256)=_;rw[plC,i1];rfl) rfl,rfl⟩
theorem p1:Pk v q near 1:=.of fun a x y n vv i z c K ha hx hy hP hv=>⟨rfl,jw rfl (d1 x) rfl rfl (by show nzF (plF (pk (fC n vv i z c))) ((x+(255-1)+b2 true)%256)=_;rw[plC,d1];rfl) rfl,rfl⟩
theorem p2:Pk v q near 2:=.of fun a x y n vv i z c K ha hx hy hP hv=>⟨rfl,jw rfl rfl (i1 y) rfl (by show nzF (plF (pk (fC n vv i z c))) ((y+1+b2 false)%256)=_;rw[plC,i1];rfl) rfl,rfl⟩
theorem p3:Pk v q near 3:=.of fun a x y n vv i z c K ha hx hy hP hv=>⟨rfl,jw rfl rfl (d1 y) rfl (by show nzF (plF (pk (fC n vv i z c))) ((y+(255-1)+b2 true)%256)=_;rw[plC,d1];rfl) rfl,rfl⟩
theorem p4:Pk v q near 4:=.of fun a x y n vv i z c K ha hx hy hP hv=>⟨rfl,jw rfl rfl rfl rfl (by show plF (pk { nzF (plF (pk (fC n vv i z c))) ((rd K.P (v%128)+1+b2 false)%256) with b:=true,u:=true })=_;rw[plC,i1,JL];rfl) (by show wr K.P _ ((rd K.P (v%128)+1+b2 false)%256)=_;rw[i1];rfl),rfl⟩
theorem p5:Pk v q near 5:=.of fun a x y n vv i z c K ha hx hy hP hv=>⟨rfl,jw rfl rfl rfl rfl (by show plF (pk { nzF (plF (pk (fC n vv i z c))) ((rd K.P (v%128)+(255-1)+b2 true)%256) with b:=true,u:=true })=_;rw[plC,d1,JL];rfl) (by show wr K.P _ ((rd K.P (v%128)+(255-1)+b2 true)%256)=_;rw[d1];rfl),rfl⟩
theorem xo{a b:Int}(ha:isB a)(hb:isB b):(iOr a b+(255-zx a b)+b2 true)%256=jR a b:=by
 have h:=V6 ha.1 ha.2 hb.1 hb.2;have e:jR a b=iOr a b-zx a b:=by rw[qn,yI,jk];rfl
 rw[rr,<- e];exact Bu h.1 h.2
theorem p6:Pk v q near 6:=.of fun a x y n vv i z c K ha hx hy hP hv=>⟨rfl,jw (xo ha hv) rfl rfl rfl (by show nzF (plF (pk (fC n vv i z c))) ((iOr a v+(255-zx a v)+b2 true)%256)=_;rw[plC,xo ha hv];rfl) rfl,rfl⟩
theorem mD(k:Nat)(hk:k<8):bt k 255=true:=(by decide:∀i:Fin 8,bt i.val 255=true) ⟨k,hk⟩
theorem bn{a:Int}(ha:isB a)(k:Nat)(hk:k<8):bt k (255-a) = !bt k a:=by
 have e:255-a=zx (yg a) 255:=(fV ha).symm;rw[e,jV,JQ];rw[mD k hk,Bool.and_true]
theorem io{a b:Int}(ha:isB a)(hb:isB b)(h:∀k,k<8->bt k a=bt k b):a=b:=db ha.1 ha.2 hb.1 hb.2 (by unfold unp;rw[h 0 (by decide),h 1 (by decide),h 2 (by decide),h 3 (by decide),h 4 (by decide),h 5 (by decide),h 6 (by decide),h 7 (by decide)])
theorem cQ:isB 255:=⟨by decide,by decide⟩
theorem iu{a:Int}(h:isB a):isB (255-a):=⟨by have:=h.2;exact zi (gt (Ce _) (zz this)) rfl,by have:=h.1;exact zn (gt (Ce _) (zf this)) rfl⟩
theorem dm7{a v:Int}(ha:isB a)(hv:isB v):jR (zx (jR a 255) (255-v)) 255=iOr a v:=by
 refine io (qS (qR (qS ha cQ)) cQ) (UZ ha hv) fun k hk=>?_
 rw[yY,jV,yY,Vw,mD k hk,bn hv k hk]
 cases bt k a<;>cases bt k v<;>rfl
theorem dm8{a v:Int}(ha:isB a)(hv:isB v):jR (iOr (jR a 255) (255-v)) 255=zx a v:=by
 refine io (qS (UZ (qS ha cQ) (iu hv)) cQ) (qR ha) fun k hk=>?_
 rw[yY,Vw,yY,jV,mD k hk,bn hv k hk]
 cases bt k a<;>cases bt k v<;>rfl
theorem p7:Pk v q near 7:=.of fun a x y n vv i z c K ha hx hy hP hv=>⟨rfl,jw (dm7 ha hv) rfl rfl rfl (by show nzF _ (jR (zx (jR a 255) (255-v)) 255)=_;rw[dm7 ha hv];rfl) rfl,rfl⟩
theorem p8:Pk v q near 8:=.of fun a x y n vv i z c K ha hx hy hP hv=>⟨rfl,jw (dm8 ha hv) rfl rfl rfl (by show nzF _ (jR (iOr (jR a 255) (255-v)) 255)=_;rw[dm8 ha hv];rfl) rfl,rfl⟩
theorem z0(t:Int):(2*t+b2 false)%256=2*t%256:=by rw[show b2 false=0 from rfl,Ch]
theorem z1(t:Int):t/2+128*b2 false=t/2:=Ch (t/2)
theorem p9:Pk v q near 9:=.of fun a x y n vv i z c K ha hx hy hP hv=>⟨rfl,jw (z0 a) rfl rfl rfl (by show nzF { (fC n vv i z c) with c:=bt 7 a } ((2*a+b2 false)%256)=_;rw[z0];rfl) rfl,rfl⟩
theorem p10:Pk v q near 10:=.of fun a x y n vv i z c K ha hx hy hP hv=>⟨rfl,jw rfl rfl rfl rfl (by show nzF { (fC n vv i z c) with c:=bt 0 (rd K.P (v%128)) } (rd K.P (v%128)/2+128*b2 false)=_;rw[z1];rfl) (by show wr K.P _ (rd K.P (v%128)/2+128*b2 false)=_;rw[z1];rfl),rfl⟩
theorem s2(a:Int)(c:Bool):(a+a+b2 c)%256=(2*a+b2 c)%256:=by rw[Int.two_mul]
theorem c7{a:Int}(ha:isB a)(c:Bool):decide (255<a+a+b2 c)=bt 7 a:=by
 induction c
 ·exact Ka (n:=256) (P:=fun a=>decide (255<a+a+b2 false)=bt 7 a) (by decide +kernel) ha.1 ha.2
 ·exact Ka (n:=256) (P:=fun a=>decide (255<a+a+b2 true)=bt 7 a) (by decide +kernel) ha.1 ha.2
theorem p11:Pk v q near 11:=.of fun a x y n vv i z c K ha hx hy hP hv=>⟨rfl,jw (s2 a c) rfl rfl rfl (by
  show plF (iOr (zx (pk { (⟨bt 7 ((a+a+b2 c)%256),ovA a a (a+a+b2 c),true,true,false,i,decide ((a+a+b2 c)%256=0),decide (255<a+a+b2 c)⟩:Fl) with b:=true,u:=true }) 191) (zx (pk { fC n vv i z c with b:=true,u:=true }) 64))=_
  rw[gp,s2,c7 ha];rfl) rfl,rfl⟩
end
theorem aO{P:Int->Bool}(h:jG (fun n:Nat=>P (n:Int)) (List.range 256)=true){a:Int}(ha:isB a):P a=true:=by
 have:=zP h a.toNat (List.mem_range.mpr ((Int.toNat_lt ha.1).mpr ha.2))
 rwa [Int.toNat_of_nonneg ha.1] at this
noncomputable def rl:Nat->Int->Bool->Int×Bool
 | 0,a,c=>(a,c)
 | n+1,a,c=>rl n ((2*a+b2 c)%256) (bt 7 a)
theorem rl8{a:Int}(ha:isB a)(c:Bool):rl 8 a c=(a/2+128*b2 c,bt 0 a):=by
 have h:(decide ((rl 8 a c).1=a/2+128*b2 c)&&((rl 8 a c).2==bt 0 a))=true:=by
  induction c
  ·exact aO (P:=fun a=>decide ((rl 8 a false).1=a/2+128*b2 false)&&((rl 8 a false).2==bt 0 a)) (by kernel_rfl) ha
  ·exact aO (P:=fun a=>decide ((rl 8 a true).1=a/2+128*b2 true)&&((rl 8 a true).2==bt 0 a)) (by kernel_rfl) ha
 obtain⟨h1,h2⟩:=za h;exact Prod.ext (of_decide_eq_true h1) (eq_of_beq h2)
section
variable {v q:Int}
theorem p12:Pk v q near 12:=.of fun a x y n vv i z c K ha hx hy hP hv=>⟨rfl,jw (congrArg Prod.fst (rl8 ha c)) rfl rfl rfl (by show nzF { (fC n vv i z c) with c:=(rl 8 a c).2 } (rl 8 a c).1=_;rw[rl8 ha];rfl) rfl,rfl⟩
theorem uq(x:Int):bt 7 (x%256)=bt 7 x:=by rw[<- jA,jV];exact Bool.and_true _
theorem cmv{a v:Int}(ha:isB a)(hv:isB v):bt 7 ((a-v)%256)=bt 7 (a-v)/\decide ((a-v)%256=0)=decide (a=v)/\decide (0<=a-v)=decide (v<=a):=
 ⟨uq _,decide_eq_decide.mpr ⟨fun h=>(Bu ha.1 ha.2).symm.trans ((Int.emod_eq_emod_iff_emod_sub_eq_zero.mpr h).trans (Bu hv.1 hv.2)),fun h=>by rw[h,Int.sub_self];rfl⟩,decide_eq_decide.mpr Int.sub_nonneg⟩
theorem cm{a v:Int}(ha:isB a)(hv:isB v):decide ((a+(255-v)+b2 true)%256=0)=decide (a=v)/\decide (255<a+(255-v)+b2 true)=decide (v<=a)/\bt 7 ((a+(255-v)+b2 true)%256)=bt 7 (a-v):=by
 rw[rr]
 exact⟨(cmv ha hv).2.1,decide_eq_decide.mpr (by show 255<a+(255-v)+1↔v<=a;lia),uq _⟩
theorem cmf{a v:Int}(ha:isB a)(hv:isB v)(n vv i z c:Bool)(o:Bool):plF (iOr (zx (pk ⟨bt 7 ((a+(255-v)+b2 true)%256),o,true,true,false,i,decide ((a+(255-v)+b2 true)%256=0),decide (255<a+(255-v)+b2 true)⟩) 191) (zx (pk (fC n vv i z c)) 64))=⟨bt 7 (a-v),vv,true,true,false,i,decide (a=v),decide (v<=a)⟩:=by
 refine byc fun Ea=>?_
 refine jn (cm ha hv) fun h1 h2 h3=>?_
 refine Ea ?_;rw[gp,h1,h2,h3];rfl
theorem p13:Pk v q near 13:=.of fun a x y n vv i z c K ha hx hy hP hv=>⟨rfl,jw rfl rfl rfl rfl (cmf ha hv n vv i z c (ovS a v (a+(255-v)+b2 true))) rfl,rfl⟩
theorem p26:Pk v q near 26:=.of fun a x y n vv i z c K ha hx hy hP hv=>⟨rfl,jw rfl rfl rfl rfl (cmf hx hv n vv i z c (ovS x v (x+(255-v)+b2 true))) rfl,rfl⟩
theorem ov1{a v r:Int}(hv:isB v):ovA a (255-v) r=ovS a v r:=by
 unfold ovA ovS;rw[bn hv 7 (by decide)]
 cases bt 7 a<;>cases bt 7 v<;>rfl
theorem p14:Pk v q near 14:=.of fun a x y n vv i z c K ha hx hy hP hv=>⟨rfl,jw rfl rfl rfl rfl (by show Fl.mk _ (ovA a (255-v) (a+(255-v)+b2 c)) _ _ _ _ _ _=_;rw[ov1 hv];rfl) rfl,rfl⟩
theorem Bl{p:Int}(h:isB p):jR p 255=255-p:=io (qS h cQ) (iu h) fun k hk=>by
 rw[yY,mD k hk,bn h k hk]
 cases bt k p<;>rfl
theorem p15:Pk v q near 15:=.of fun a x y n vv i z c K ha hx hy hP hv=>by
 have e:=Bl (hP.rd (v%128));have e2:(255:Int)-(255-rd K.P (v%128))=rd K.P (v%128):=Int.sub_sub_self _ _;have e3:∀r,ovS a (255-rd K.P (v%128)) r=ovA a (rd K.P (v%128)) r:=fun r=>by rw[<- ov1 (iu (hP.rd _)),e2]
 refine⟨rfl,jw ?_ rfl rfl rfl ?_ rfl,rfl⟩
 ·show(a+(255-jR (rd K.P (v%128)) 255)+b2 c)%256=_
  rw[e,e2];rfl
 ·show Fl.mk (bt 7 ((a+(255-jR (rd K.P (v%128)) 255)+b2 c)%256)) (ovS a (jR (rd K.P (v%128)) 255) (a+(255-jR (rd K.P (v%128)) 255)+b2 c)) true true false i (decide ((a+(255-jR (rd K.P (v%128)) 255)+b2 c)%256=0)) (decide (255<a+(255-jR (rd K.P (v%128)) 255)+b2 c))=_
  rw[e,e2,e3];rfl
theorem p16:Pk v q near 16:=.of fun a x y n vv i z c K ha hx hy hP hv=>⟨rfl,rfl,rfl⟩
theorem p17:Pk v q near 17:=.of fun a x y n vv i z c K ha hx hy hP hv=>⟨rfl,rfl,rfl⟩
theorem p19:Pk v q near 19:=.of fun a x y n vv i z c K ha hx hy hP hv=>⟨rfl,jw rfl rfl rfl rfl (AR (fC n vv i z c)) rfl,rfl⟩
theorem p20:Pk v q near 20:=.of fun a x y n vv i z c K ha hx hy hP hv=>⟨rfl,jw rfl rfl rfl rfl (sM (fC n vv i z c)) rfl,rfl⟩
theorem p24:Pk v q near 24:=.of fun a x y n vv i z c K ha hx hy hP hv=>⟨rfl,jw rfl rfl rfl rfl (JL (fC n vv i z c)) rfl,rfl⟩
theorem p25:Pk v q near 25:=.of fun a x y n vv i z c K ha hx hy hP hv=>⟨rfl,jw rfl rfl rfl rfl (JL (nzF (fC n vv i z c) v)) rfl,rfl⟩
end
noncomputable def aI:List F:=[.rT .lda 1,.rI .ora 2,.sT .a 1]
noncomputable def pby(v q:Int)(k:Nat):List Int:=match k with
 | 18=>byL (v%128) (jT v 18)++([208,6]++(byL (v%128) aI++byL (v%128) (qc 18)))
 | 27=>byL (v%128) (jT v 27)++([177,250]++byL (v%128) (qc 27))
 | 28=>byL (v%128) (jT v 28)++([145,250]++byL (v%128) (qc 28))
 | 29=>[185,q,2]
 | k=>byL (v%128) (jT v k)++byL (v%128) (qc k)
def Two(v q near:Int)(k:Nat):Prop:=∀{K:Int->Int} {A:As} {pc:Int},Hy v A->16<=A.k.s->A.k.s<=255->(k=22->A.k.s<=254)->isB q->At K pc (pby v q k)->1040<=pc->pc+(pby v q k).length<=1490 ->
 ∃n,n<=29 /\ ∃B,Rn K false (pc+(pby v q k).length) n A pc B (pc+(pby v q k).length)/\B.co=eff v q near k A.co/\B.d=false
theorem jp(v:Int):0<=v%128/\v%128<128:=⟨Dq v (by decide),Int.emod_lt_of_pos v (by decide)⟩
theorem Two.of{v q:Int}{k:Nat}(h:Pk v q near k)(e:pby v q k=byL (v%128) (jT v k) ++ [])(hl:Nat.ble (jT v k).length 29=true):Two v q near k:=by
 intro K A pc hy s0 s1 _ hq hk h0 h1;rw[e,Cn] at *;refine jn (h A hy) fun h2 h3 h4=>?_
 exact(zA _ (Bs hl) ⟨_,F.run _ (jD h2) hk h0 (yd (zS h1) rfl) (jp v).1 (jp v).2 (Ce _),h3,h4⟩)
section
variable {v q:Int}
theorem Two.lit {k:Nat} (h:∀{K:Int->Int} {pc:Int} (a x y:Int) (n vv i z c:Bool) (k':Ms),isB a->isB x->isB y->Bts k'.P->isB v->isB q->16<=k'.s->k'.s<=255->(k=22->k'.s<=254)->At K pc (pby v q k)->1040<=pc->pc+(pby v q k).length<=1490 ->
  ∃n',n'<=29 /\ ∃B,Rn K false (pc+(pby v q k).length) n' ⟨a,x,y,fC n vv i z c,false,k'⟩ pc B (pc+(pby v q k).length)/\B.co=eff v q near k ⟨a,x,y,k'.s,fC n vv i z c,k'.P⟩/\B.d=false):Two v q near k:=by
 rintro K ⟨a,x,y,⟨n,vv,u,b,d,i,z,c⟩,dd,k'⟩ pc ⟨h1,h2,h3,h4,h5,h6,h7,h8,h9⟩ s0 s1 s2 hq hk p0 p1
 cases (show b=true from h6)
 cases (show u=true from h7)
 cases (show d=false from h8)
 cases (show dd=false from h9)
 exact h a x y n vv i z c k' h1 h2 h3 h4 h5 hq s0 s1 s2 hk p0 p1
theorem t21:Two v q near 21:=Two.lit fun{K pc} a x y n vv i z c k ha hx hy hP hv hq s0 s1 _ hk p0 p1=>by
 have e:(k.s-1)%256=k.s-1:=Bu (zi (ZG (zf s0)) rfl) (zn (ZG (zS s1)) rfl);have hk':At K pc (byL (v%128) (jT v 21++qc 21)):=hk
 refine⟨15,by decide,_,F.run (jT v 21++qc 21) (Xw (jD rfl) ⟨⟨rfl,rfl,rfl⟩,(show(202:Nat)≠0 by decide),⟨rfl,rfl,.inl ⟨e,by show 1<=(k.s-1)%256;rw[e];exact Int.le_sub_right_of_add_le (zi (zf s0) rfl),_,rfl⟩⟩,jD rfl⟩) hk' p0 (by show pc+24<=1500;have:pc+24<=1490:=p1;exact yd (zS this) rfl) (jp v).1 (jp v).2 (Ce _),?_,rfl⟩
 refine jw rfl rfl rfl e (JL (fC n vv i z c)) ?_;show cond (decide ((k.s-1)%256<k.s)) (wr k.P (256+k.s) a) k.P=_;rw[e,decide_eq_true (show k.s-1<k.s from Int.sub_lt_self _ (by decide))];rfl
theorem t22:Two v q near 22:=Two.lit fun{K pc} a x y n vv i z c k ha hx hy hP hv hq s0 s1 h22 hk p0 p1=>by
 have s2:=h22 rfl;have e:(k.s+1)%256=k.s+1:=Bu (zi (zm (zf s0)) rfl) (zn (zm (zS s2)) rfl);have e2:256+(k.s+1)=257+k.s:=by lia
 have hk':At K pc (byL (v%128) (jT v 22++qc 22)):=hk;have hx:(k.s+1)%256<=255:=yd (wk rfl) rfl
 refine⟨14,by decide,_,F.run (jT v 22++qc 22) (Xw (jD rfl) ⟨⟨rfl,rfl,e,hx⟩,⟨rfl,rfl,.inr ⟨e,hx⟩⟩,jD rfl⟩) hk' p0 (by show pc+22<=1500;have:pc+22<=1490:=p1;exact yd (zS this) rfl) (jp v).1 (jp v).2 (Ce _),?_,rfl⟩
 refine jw ?_ rfl rfl e ?_ ?_
 ·show rd k.P (256+(k.s+1)%256)=_
  rw[e,e2]
 ·show nzF (plF (pk (fC n vv i z c))) (rd k.P (256+(k.s+1)%256))=_
  rw[plC,e,e2]
 ·show cond (decide ((k.s+1)%256<k.s)) _ k.P=_
  rw[e,decide_eq_false (show ¬k.s+1<k.s from Int.not_lt.mpr (Int.le_add_one (Ce _)))];rfl
theorem Rn.weak{K:Int->Int}{stop:Int}{n:Nat}{A C:As}(h:Rn K false stop n A pc B pc')(hw:∀c m,Is K false B pc' c m->Is K false C pc' c m):Rn K false stop n A pc C pc':=fun c m i=>by
 refine jj (h c m i) fun c' m' u j=>?_
 exact(yA c' m' u (hw _ _ j))
theorem Is.under{K:Int->Int}{A:As}{c:Cpu}{m:Mem}{z z':Int}(i:Is K false A pc c m):Is K false { A with k:={ A.k with P:=wr (wr A.k.P (256+A.k.s) z) (255+A.k.s) z' } } pc c m:=by
 obtain⟨h1,h2,⟨lp,lm,s0,s1,h⟩,h4⟩:=i
 refine⟨h1,h2,⟨zB.trans (zB.trans lp),lm,s0,s1,⟨fun u u0 u1 u2=>?_,h.tm,h.tv⟩⟩,h4⟩
 replace u2:u<250∨(254<=u/\u<256)∨256+A.k.s<u:=u2;rw[h.pln u u0 u1 u2];show rd A.k.P u=rd (wr (wr A.k.P (256+A.k.s) z) (255+A.k.s) z') u;rw[rw2 (zB.trans lp) (zi (zt (zf s0)) rfl) (zn (zt (zS s1)) rfl) u0 (ne5 s0 u2),rw2 lp (zi (zt (zf s0)) rfl) (zn (zt (zS s1)) rfl) u0 (ne6 s0 u2)]
theorem t23:Two v q near 23:=Two.lit fun{K pc} a x y n vv i z c k ha hx hy hP hv hq s0 s1 _ hk p0 p1=>by
 have hk':At K pc (byL (v%128) (jT v 23)):=hk
 exact⟨1,by decide,_,(F.run (jT v 23) (jD rfl) hk' p0 (by show pc+1<=1500;have:pc+1<=1490:=p1;exact yd (zS this) rfl) (jp v).1 (jp v).2 (Ce _)).weak fun c m j=>j.under (z:=(near-1)/256) (z':=(near-1)%256),rfl,rfl⟩
theorem t29:Two v q near 29:=Two.lit fun{K pc} a x y n vv i z c k ha hx hy hP hv hq s0 s1 _ hk p0 p1=>by
 have hk':At K pc [185,q,2]:=hk;have p2:pc+3<=1490:=p1
 exact⟨1,by decide,_,.cons (wI hq hy hk' p0 (zn (qL p2) rfl)) (by show pc≠pc+3;exact ZF rfl) .nil,rfl,rfl⟩
theorem ptr{x v:Int}(hx:isB x)(hv:isB v):(x+v+b2 false)%256+(2+0+b2 (decide (255<x+v+b2 false)))%256*256+0=512+v+x:=by
 refine byc fun Ea=>?_
 obtain⟨x0,x1⟩:=hx;obtain⟨v0,v1⟩:=hv;refine Ea ?_;simp only[show b2 false=0 from rfl,Ch]
 by_cases h:255<x+v
 ·rw[decide_eq_true h,show b2 true=1 from rfl];lia
 ·rw[decide_eq_false h,show b2 false=0 from rfl];lia
theorem t27:Two v q near 27:=Two.lit fun{K pc} a x y n vv i z c k ha hx hy hP hv hq s0 s1 _ hk p0 p1=>by
 have hk':At K pc (byL (v%128) (jT v 27)++([177,250]++byL (v%128) (qc 27))):=hk;have p2:pc+26<=1490:=p1;refine byc fun Ea=>?_
 obtain⟨k1,k2⟩:=hk'.app;obtain⟨k2,k3⟩:=k2.app;have hx':=hx;have hv':=hv;obtain⟨x0,x1⟩:=hx';obtain⟨v0,v1⟩:=hv';have r1:=F.run (stop:=pc+26) (jT v 27) (A:=⟨a,x,y,fC n vv i z c,false,k⟩) (jD rfl) k1 p0 (by show pc+17<=1500;exact yd (zm (qL p2)) rfl) (jp v).1 (jp v).2 (by show pc+17<=_;exact sX rfl)
 have r2:=nV (u:=512+v+x) (A:=Jd (v%128) ⟨a,x,y,fC n vv i z c,false,k⟩ (jT v 27)) (e:=false) k2 (by show 1040<=pc+17;exact zi (zm (zf p0)) rfl) (by show pc+17<1530;exact zn (zm (qL p2)) rfl) (by decide) (by decide) (fun m hm=>⟨hm.rdT (i:=0) (by decide),hm.rdT (i:=1) (by decide)⟩) (ptr hx hv) (zi (zN (zt (zf v0)) (zf x0)) rfl) (zn (zN (zt (zz v1)) (zz x1)) rfl)
 have r3:=F.run (stop:=pc+26) (qc 27) (A:=(Jd (v%128) ⟨a,x,y,fC n vv i z c,false,k⟩ (jT v 27)).rd .lda (rd k.P (512+v+x))) (jD rfl) k3 (by show 1040<=pc+17+2;exact zi (zm (zm (zf p0))) rfl) (by show pc+17+2+7<=1500;exact yd (zm (zm (zm (qL p2)))) rfl) (jp v).1 (jp v).2 (by show pc+17+2+7<=_;lia)
 have r5:Rn K false (pc+26) _ _ pc _ (pc+17+2+7):=r1.app (.cons r2 (by show pc+17≠pc+26;exact sW rfl) r3)
 refine Ea ?_;rw[show pc+17+2+7=pc+26 by lia] at r5
 refine⟨_,Bs rfl,_,r5,jw rfl rfl rfl rfl ?_ rfl,rfl⟩
 show nzF (plF (pk (fC n vv i z c))) _=_;rw[plC];rfl
theorem t28:Two v q near 28:=Two.lit fun{K pc} a x y n vv i z c k ha hx hy hP hv hq s0 s1 _ hk p0 p1=>by
 have hk':At K pc (byL (v%128) (jT v 28)++([145,250]++byL (v%128) (qc 28))):=hk;have p2:pc+28<=1490:=p1;refine byc fun Ea=>?_
 obtain⟨k1,k2⟩:=hk'.app;obtain⟨k2,k3⟩:=k2.app;have hx':=hx;have hv':=hv;obtain⟨x0,x1⟩:=hx';obtain⟨v0,v1⟩:=hv';have r1:=F.run (stop:=pc+28) (jT v 28) (A:=⟨a,x,y,fC n vv i z c,false,k⟩) (jD rfl) k1 p0 (by show pc+21<=1500;exact yd (zm (qL p2)) rfl) (jp v).1 (jp v).2 (by show pc+21<=_;exact sX rfl)
 have r2:=wQ (u:=512+v+x) (A:=Jd (v%128) ⟨a,x,y,fC n vv i z c,false,k⟩ (jT v 28)) (e:=false) k2 (by show 1040<=pc+21;exact zi (zm (zf p0)) rfl) (by show pc+21<1530;exact zn (zm (qL p2)) rfl) (by decide) (by decide) (fun m hm=>⟨hm.rdT (i:=0) (by decide),hm.rdT (i:=1) (by decide)⟩) (ptr hx hv) (zi (zN (zt (zf v0)) (zf x0)) rfl) (zn (zN (zt (zz v1)) (zz x1)) rfl)
 have r3:=F.run (stop:=pc+28) (qc 28) (A:={ Jd (v%128) ⟨a,x,y,fC n vv i z c,false,k⟩ (jT v 28) with k:={ (Jd (v%128) ⟨a,x,y,fC n vv i z c,false,k⟩ (jT v 28)).k with P:=wr k.P (512+v+x) a } }) (jD rfl) k3 (by show 1040<=pc+21+2;exact zi (zm (zm (zf p0))) rfl) (by show pc+21+2+5<=1500;exact yd (zm (zm (zm (qL p2)))) rfl) (jp v).1 (jp v).2 (by show pc+21+2+5<=_;lia)
 have r5:Rn K false (pc+28) _ _ pc _ (pc+21+2+5):=r1.app (.cons r2 (by show pc+21≠pc+28;exact sW rfl) r3)
 refine Ea ?_;rw[show pc+21+2+5=pc+28 by lia] at r5
 exact⟨_,Bs rfl,_,r5,jw rfl rfl rfl rfl (JL (fC n vv i z c)) rfl,rfl⟩
theorem gn(p:Int)(f:Fl):unp (iOr (zx p 192) (zx (pk f) 61)) = { f with n:=bt 7 p,v:=bt 6 p,z:=false }:=by
 unfold unp;simp only[Vw,jV,K4,Uu,Wj,Uv,c8,c9,Wk,Wm,show bt 0 192=false by decide,show bt 1 192=false by decide,show bt 2 192=false by decide,show bt 3 192=false by decide,show bt 4 192=false by decide,show bt 5 192=false by decide,show bt 6 192=true by decide,show bt 7 192=true by decide,show bt 0 61=true by decide,show bt 1 61=false by decide,show bt 2 61=true by decide,show bt 3 61=true by decide,show bt 4 61=true by decide,show bt 5 61=true by decide,show bt 6 61=false by decide,show bt 7 61=false by decide,Bool.and_true,Dd,Bool.or_false,Bool.false_or]
theorem t18:Two v q near 18:=Two.lit fun{K pc} a x y n vv i z c k ha hx hy hP hv hq s0 s1 _ hk p0 p1=>by
 have hk':At K pc (byL (v%128) (jT v 18)++([208,6]++(byL (v%128) aI++byL (v%128) (qc 18)))):=hk;have p2:pc+34<=1490:=p1;refine byc fun Ea=>?_
 refine zd hk'.app fun k1 k2=>?_
 refine zd k2.app fun k2 k3=>?_
 refine zd k3.app fun k3 k4=>?_
 have r1:=F.run (stop:=pc+34) (jT v 18) (A:=⟨a,x,y,fC n vv i z c,false,k⟩) (jD rfl) k1 p0 (by show pc+20<=1500;exact yd (zm (qL p2)) rfl) (jp v).1 (jp v).2 (by show pc+20<=_;exact sX rfl)
 have hp:=hP.rd (v%128);have u1:isB (iOr (zx (rd k.P (v%128)) 192) (zx (pk (fC n vv i z c)) 61)):=UZ (qR hp) (qR (y9 _));have r2:=AV (K:=K) (A:=Jd (v%128) ⟨a,x,y,fC n vv i z c,false,k⟩ (jT v 18)) (e:=false) k2 (by show 1040<=pc+20;exact zi (zm (zf p0)) rfl) (by show pc+20<1500;exact zn (zm (qL p2)) rfl) (by decide) (by decide)
 have hz:(Jd (v%128) ⟨a,x,y,fC n vv i z c,false,k⟩ (jT v 18)).f.z=decide (zx a (rd k.P (v%128))=0):=rfl;have e:pc+20+2+6+6=pc+34:=by lia
 refine Ea ?_;rw[hz] at r2;have hn:pc+20≠pc+34:=sW rfl
 cases hd:decide (zx a (rd k.P (v%128))=0) with
 | true =>
  rw[hd] at r2;replace r2:St1 K false _ (pc+20) _ (pc+20+2+0):=r2;rw[Ch] at r2;have r3:=F.run (stop:=pc+34) aI (A:=Jd (v%128) ⟨a,x,y,fC n vv i z c,false,k⟩ (jT v 18)) (jD rfl) k3 (by show 1040<=pc+20+2;exact zi (zm (zm (zf p0))) rfl) (by show pc+20+2+6<=1500;exact yd (zm (zm (zm (qL p2)))) rfl) (jp v).1 (jp v).2 (by show pc+20+2+6<=_;lia)
  have r4:=F.run (stop:=pc+34) (qc 18) (A:=Jd (v%128) (Jd (v%128) ⟨a,x,y,fC n vv i z c,false,k⟩ (jT v 18)) aI) (jD rfl) k4 (by show 1040<=pc+20+2+6;exact zi (zm (zm (zm (zf p0)))) rfl) (by show pc+20+2+6+6<=1500;exact yd (zm (zm (zm (zm (qL p2))))) rfl) (jp v).1 (jp v).2 (by show pc+20+2+6+6<=_;exact Int.le_of_eq e)
  have r5:Rn K false (pc+34) _ _ pc _ (pc+20+2+6+6):=r1.app (.cons r2 hn (r3.app r4));rw[e] at r5;refine(zA _ (Bs rfl) ⟨_,r5,jw rfl rfl rfl rfl ?_ rfl,rfl⟩);show plF (iOr (iOr (zx (rd k.P (v%128)) 192) (zx (pk (fC n vv i z c)) 61)) 2)=Fl.mk (bt 7 (rd k.P (v%128))) (bt 6 (rd k.P (v%128))) true true false i (decide (zx a (rd k.P (v%128))=0)) c;rw[<- Qu u1.1 u1.2,XA,JL,gn,hd];rfl
 | false =>
  rw[hd] at r2;replace r2:St1 K false _ (pc+20) _ (pc+20+2+6):=r2;have r4:=F.run (stop:=pc+34) (qc 18) (A:=Jd (v%128) ⟨a,x,y,fC n vv i z c,false,k⟩ (jT v 18)) (jD rfl) k4 (by show 1040<=pc+20+2+6;exact zi (zm (zm (zm (zf p0)))) rfl) (by show pc+20+2+6+6<=1500;exact yd (zm (zm (zm (zm (qL p2))))) rfl) (jp v).1 (jp v).2 (by show pc+20+2+6+6<=_;exact Int.le_of_eq e)
  have r5:Rn K false (pc+34) _ _ pc _ (pc+20+2+6+6):=r1.app (.cons r2 hn r4);rw[e] at r5;refine(zA _ (Bs rfl) ⟨_,r5,jw rfl rfl rfl rfl ?_ rfl,rfl⟩);show plF (iOr (zx (rd k.P (v%128)) 192) (zx (pk (fC n vv i z c)) 61))=Fl.mk (bt 7 (rd k.P (v%128))) (bt 6 (rd k.P (v%128))) true true false i (decide (zx a (rd k.P (v%128))=0)) c;rw[<- Qu u1.1 u1.2,JL,gn,hd];rfl
theorem vE{k:Nat}(h:k<30):k ∈ [0,1,2,3,4,5,6,7,8,9,10,11,12,13,14,15,16,17,18,19,20,21,22,23,24,25,26,27,28,29]:=(List.mem_range.mpr h:k∈List.range 30)
theorem i30{P:Nat->Prop}(h0:P 0)(h1:P 1)(h2:P 2)(h3:P 3)(h4:P 4)(h5:P 5)(h6:P 6)(h7:P 7)(h8:P 8)(h9:P 9)(h10:P 10)(h11:P 11)(h12:P 12)(h13:P 13)(h14:P 14)(h15:P 15)(h16:P 16)(h17:P 17)(h18:P 18)(h19:P 19)(h20:P 20)(h21:P 21)(h22:P 22)(h23:P 23)(h24:P 24)(h25:P 25)(h26:P 26)(h27:P 27)(h28:P 28)(h29:P 29){k:Nat}(hk:k<30):P k:=
 (fa h0 (fa h1 (fa h2 (fa h3 (fa h4 (fa h5 (fa h6 (fa h7 (fa h8 (fa h9 (fa h10 (fa h11 (fa h12 (fa h13 (fa h14 (fa h15 (fa h16 (fa h17 (fa h18 (fa h19 (fa h20 (fa h21 (fa h22 (fa h23 (fa h24 (fa h25 (fa h26 (fa h27 (fa h28 (fa h29 (fun Z h=>nomatch h)))))))))))))))))))))))))))))):∀n ∈ [0,1,2,3,4,5,6,7,8,9,10,11,12,13,14,15,16,17,18,19,20,21,22,23,24,25,26,27,28,29],P n) k (vE hk)
theorem mQ{k:Nat}(h:k<30):Two v q near k:=
 i30 (P:=Two v q near) (Two.of p0 rfl rfl) (Two.of p1 rfl rfl) (Two.of p2 rfl rfl) (Two.of p3 rfl rfl) (Two.of p4 rfl rfl) (Two.of p5 rfl rfl) (Two.of p6 rfl rfl) (Two.of p7 rfl rfl) (Two.of p8 rfl rfl) (Two.of p9 rfl rfl) (Two.of p10 rfl rfl) (Two.of p11 rfl rfl) (Two.of p12 rfl rfl) (Two.of p13 rfl rfl) (Two.of p14 rfl rfl) (Two.of p15 rfl rfl) (Two.of p16 rfl rfl) (Two.of p17 rfl rfl) t18 (Two.of p19 rfl rfl) (Two.of p20 rfl rfl) t21 t22 t23 (Two.of p24 rfl rfl) (Two.of p25 rfl rfl) (Two.of p26 rfl rfl) t27 t28 t29 h
end
noncomputable def rby(v:Int)(k:Nat):List Int:=match k with
 | 21=>[72] | 22=>[104] | 23=>[32,0,4] | 27=>[189,v,2] | 28=>[157,v,2] | 29=>[177,224]
 | k=>(KQ v k).by (v%128)
structure Pf(q:Int)(P:Mem):Prop where
 len:P.length=1536
 p0:rd P 224=q
 p1:rd P 225=2
 p2:rd P 1024=200
 p3:rd P 1025=96
def One(v q:Int)(k:Nat):Prop:=∀{K:Int->Int} {A:As} {pc:Int},Hy v A->16<=A.k.s->A.k.s<=255->(k=22->A.k.s<=254)->isB q->Pf q A.k.P->At K pc (rby v k)->1040<=pc->pc+(rby v k).length<=1490 ->
 ∃n,n<=29 /\ ∃B,Rn K true (pc+(rby v k).length) n A pc B (pc+(rby v k).length)/\B.co=eff v q (pc+(rby v k).length) k A.co/\B.d=false
noncomputable def F.pl:F->Bool
 | .rI _ _ | .rP _ | .sP _ | .mP _ | .ac _ | .cI _ _ | .fl _ _ | .tr _ _ | .up _ | .dn _=>true
 | _=>false
theorem sH{q:F}{A:As}{e:Bool}(h:q.ok false A)(hp:q.pl=true):q.ok e A:=by cases q<;>first | exact h | cases hp
section
variable {v q:Int}
theorem One.of{k:Nat}(e1:rby v k=(KQ v k).by (v%128))(e2:∀near C,eff v q near k C=((KQ v k).ex (v%128) C.toA).co)(hp:(KQ v k).pl=true)(hb:∀A,A.f.d=false->(KQ v k).okB A=true)(hc:∀a x y f m,((KQ v k).ex (v%128) ⟨a,x,y,f,false,m⟩).co=((KQ v k).ex (v%128) (As.co ⟨a,x,y,f,false,m⟩).toA).co)(hd:∀a x y f m,((KQ v k).ex (v%128) ⟨a,x,y,f,false,m⟩).d=false):One v q k:=by
 intro K A pc hy s0 s1 _ hq hP hk h0 h1;rw[e1] at *;have p:=da (w:=v%128) (KQ v k);obtain⟨c1,c2⟩:((KQ v k).ex (v%128) A).co=((KQ v k).ex (v%128) A.co.toA).co/\((KQ v k).ex (v%128) A).d=false:=by
  have hdy:=hy.d;obtain⟨a,x,y,f,d,m⟩:=A;replace hdy:d=false:=hdy;rw[hdy]
  exact⟨hc ..,hd ..⟩
 exact⟨1,by decide,_,.cons (F.sound (KQ v k) (sH (gg (hb A hy.fd)) hp) hk h0 (by lia) (jp v).1 (jp v).2) (by lia) .nil,by rw[e2];exact c1,c2⟩
theorem o21:One v q 21:=fun{K A pc} hy s0 s1 _ hq hP hk h0 h1=>by
 have h1:pc+1<=1490:=h1
 exact⟨1,by decide,_,.cons (wJ hy.d (zi (zf s0) rfl) hk.1 h0 (zn (qL h1) rfl)) (by show pc≠pc+1;exact ZF rfl) .nil,rfl,hy.d⟩
theorem o22:One v q 22:=fun{K A pc} hy s0 s1 h22 hq hP hk h0 h1=>by
 have h1:pc+1<=1490:=h1
 exact⟨1,by decide,_,.cons (wM hy.d (h22 rfl) hk.1 h0 (zn (qL h1) rfl)) (by show pc≠pc+1;exact ZF rfl) .nil,rfl,hy.d⟩
theorem o27:One v q 27:=fun{K A pc} hy s0 s1 h22 hq hP hk h0 h1=>by
 have h1:pc+3<=1490:=h1
 exact⟨1,by decide,_,.cons (wH hy.v hy.x hk h0 (zn (qL h1) rfl)) (by show pc≠pc+3;exact ZF rfl) .nil,rfl,hy.d⟩
theorem o28:One v q 28:=fun{K A pc} hy s0 s1 h22 hq hP hk h0 h1=>by
 have h1:pc+3<=1490:=h1
 exact⟨1,by decide,_,.cons (wP hy.v hy.x hk h0 (zn (qL h1) rfl)) (by show pc≠pc+3;exact ZF rfl) .nil,rfl,hy.d⟩
theorem o29:One v q 29:=fun{K A pc} hy s0 s1 h22 hq hP hk h0 h1=>by
 have h1:pc+2<=1490:=h1;obtain⟨q0,q1⟩:=hq;obtain⟨y0,y1⟩:=hy.y
 exact⟨1,by decide,_,.cons (nV hk h0 (zn (qL h1) rfl) (by decide) (by decide) (fun m hm=>by rw[show m=A.k.P from hm.mem];exact⟨hP.p0,hP.p1⟩) (u:=512+q+A.y) (by lia) (zi (zN (zt (zf q0)) (zf y0)) rfl) (zn (zN (zt (zz q1)) (zz y1)) rfl)) (by show pc≠pc+2;exact ZF rfl) .nil,rfl,hy.d⟩
theorem o23:One v q 23:=fun{K A pc} hy s0 s1 h22 hq hP hk h0 h1=>by
 have h1:pc+3<=1490:=h1;have n1:(pc+3-1)=pc+2:=Ct _ _ _;have k0:∀u,1024<=u->u<1536->rd (Qn A.k.P A.k.s pc) u=rd A.k.P u:=fun u u0 u1=>by
  unfold Qn;rw[rw2 (zB.trans hP.len) (zi (zt (zf s0)) rfl) (zn (zt (zS s1)) rfl) (zi (zf u0) rfl) (Vt (zf u0) (zt (zS s1)) rfl),rw2 hP.len (zi (zt (zf s0)) rfl) (zn (zt (zS s1)) rfl) (zi (zf u0) rfl) (Vt (zf u0) (zt (zS s1)) rfl)]
 have r1:=wG hy.d (zi (zf s0) rfl) hk h0 (zn (qL h1) rfl);have r2:=wF (K:=K) (A:={ A with k:={ A.k with s:=A.k.s-2,P:=Qn A.k.P A.k.s pc } }) ((k0 1024 (by decide) (by decide)).trans hP.p2)
 have r3:=wN (K:=K) (q:=pc+3) (A:=({ A with k:={ A.k with s:=A.k.s-2,P:=Qn A.k.P A.k.s pc } }:As).put .y ((A.y+1)%256)) hy.d (by show A.k.s-2<=253;exact yd (ZG (zS s1)) rfl) ((k0 1025 (by decide) (by decide)).trans hP.p3) (by
  show rd (Qn A.k.P A.k.s pc) (257+(A.k.s-2))+rd (Qn A.k.P A.k.s pc) (258+(A.k.s-2))*256+1=_;unfold Qn;rw[show 257+(A.k.s-2)=255+A.k.s by lia,show 258+(A.k.s-2)=256+A.k.s by lia,rw1 (zB.trans hP.len) (zi (zt (zf s0)) rfl) (zn (zt (zS s1)) rfl),rw2 (zB.trans hP.len) (zi (zt (zf s0)) rfl) (zn (zt (zS s1)) rfl) (zi (zt (zf s0)) rfl) (by lia),rw1 hP.len (zi (zt (zf s0)) rfl) (zn (zt (zS s1)) rfl)]
  lia) (zi (zm (zf h0)) rfl) (zn (zS h1) rfl)
 refine⟨3,by decide,_,.cons r1 (by show pc≠pc+3;exact ZF rfl) (.cons r2 (by show(1024:Int)≠pc+3;exact lU (Ce _) (zm (zf h0)) rfl) (.cons r3 (by show(1025:Int)≠pc+3;exact lU (Ce _) (zm (zf h0)) rfl) .nil)),jw rfl rfl rfl (by show A.k.s-2+2=A.k.s;lia) rfl ?_,hy.d⟩
 show Qn A.k.P A.k.s pc=wr (wr A.k.P (256+A.k.s) ((pc+3-1)/256)) (255+A.k.s) ((pc+3-1)%256);rw[n1];rfl
theorem lO{k:Nat}(h:k<30):One v q k:=by
 refine i30 (P:=One v q) ?_ ?_ ?_ ?_ ?_ ?_ ?_ ?_ ?_ ?_ ?_ ?_ ?_ ?_ (One.of rfl (fun Z Z=>rfl) rfl (fun A h=>by show(!false && !A.f.d)=true;rw[h];rfl) (fun Z Z Z Z Z=>rfl) fun Z Z Z Z Z=>rfl) (One.of rfl (fun Z Z=>rfl) rfl (fun A h=>by show(!false && !A.f.d)=true;rw[h];rfl) (fun Z Z Z Z Z=>rfl) fun Z Z Z Z Z=>rfl) ?_ ?_ ?_ ?_ ?_ o21 o22 o23 ?_ ?_ ?_ o27 o28 o29 h<;>(refine One.of ?_ ?_ ?_ ?_ ?_ ?_<;>intros<;>rfl)
end
def Pw(P P':Mem):Prop:=P'.length=P.length /\ ∀u,(128<=u/\u<256)∨(1024<=u/\u<1536)->rd P' u=rd P u
theorem Pw.wr{a z:Int}(h:P.length=1536)(a0:0<=a)(a1:a<128∨(256<=a/\a<1024)):Pw P (Mine.wr P a z):=⟨zB,fun u hu=>rw2 h a0 (by lia) (by lia) (by lia)⟩
theorem Pw.trans{P'':Mem}(h:Pw P P')(h2:Pw P' P''):Pw P P'':=⟨h2.1.trans h.1,fun u hu=>(h2.2 u hu).trans (h.2 u hu)⟩
def Ep(v q near:Int)(k:Nat):Prop:=∀C:Co,C.P.length=1536->16<=C.s->C.s<=255->isB v->isB C.x->Pw C.P (eff v q near k C).P
theorem oJ{v q:Int}{k:Nat}(h:k<30):Ep v q near k:=by
 refine i30 (P:=Ep v q near) ?_ ?_ ?_ ?_ (fun Z h Z Z Z Z=>Pw.wr h (jp v).1 (.inl (jp v).2)) (fun Z h Z Z Z Z=>Pw.wr h (jp v).1 (.inl (jp v).2)) ?_ ?_ ?_ ?_ (fun Z h Z Z Z Z=>Pw.wr h (jp v).1 (.inl (jp v).2)) ?_ ?_ ?_ ?_ ?_ ?_ ?_ ?_ ?_ ?_ (fun C h s0 s1 Z Z=>Pw.wr h (zi (zt (zf s0)) rfl) (Or.inr ⟨zi (zt (zf s0)) rfl,zn (zt (zS s1)) rfl⟩)) ?_ (fun C h s0 s1 Z Z=>(Pw.wr h (zi (zt (zf s0)) rfl) (Or.inr ⟨zi (zt (zf s0)) rfl,zn (zt (zS s1)) rfl⟩)).trans (Pw.wr (zB.trans h) (zi (zt (zf s0)) rfl) (Or.inr ⟨zi (zt (zf s0)) rfl,zn (zt (zS s1)) rfl⟩))) (fun Z h Z Z Z Z=>Pw.wr h (jp v).1 (.inl (jp v).2)) ?_ ?_ ?_ (fun C h s0 s1 ⟨v0,v1⟩ ⟨x0,x1⟩=>Pw.wr h (zi (zN (zt (zf v0)) (zf x0)) rfl) (Or.inr ⟨zi (zN (zt (zf v0)) (zf x0)) rfl,zn (zN (zt (zz v1)) (zz x1)) rfl⟩)) ?_ h<;>exact fun Z Z Z Z Z Z=>⟨rfl,fun Z Z=>rfl⟩
theorem Pf.keep{q:Int}(h:Pf q P)(w:Pw P P'):Pf q P':=⟨w.1.trans h.len,(w.2 224 (by decide)).trans h.p0,(w.2 225 (by decide)).trans h.p1,(w.2 1024 (by decide)).trans h.p2,(w.2 1025 (by decide)).trans h.p3⟩
namespace MH
theorem twg:TablesWhole.wSs TablesWhole.gather pw.main.scope ⟨pw.main.scope,[],[],[],none⟩ pw.main.scope pw.main.body = []:=by kernel_rfl
noncomputable def csN:List Nat:=csx++cs2
theorem twn:cdB jB.names csN=true:=by kernel_rfl
noncomputable abbrev cxC:TablesWhole.Ctx:=⟨jB,TablesWhole.declSs false zF,TablesWhole.declSs true zF,[],none⟩
noncomputable abbrev cxM:TablesWhole.Ctx:=⟨pw.main.scope,[],[],[],none⟩
theorem Ba:TablesWhole.wSs Bq pw.main.scope cxC jB ((zF.drop 0).take 20)=true:=by kernel_rfl
theorem Bb:TablesWhole.wSs Bq pw.main.scope cxC jB ((zF.drop 20).take 20)=true:=by kernel_rfl
theorem Bc:TablesWhole.wSs Bq pw.main.scope cxC jB ((zF.drop 40).take 20)=true:=by kernel_rfl
theorem Bd:TablesWhole.wSs Bq pw.main.scope cxC jB ((zF.drop 60).take 20)=true:=by kernel_rfl
theorem Be:TablesWhole.wSs Bq pw.main.scope cxC jB ((zF.drop 80).take 20)=true:=by kernel_rfl
theorem Bf:TablesWhole.wSs Bq pw.main.scope cxC jB ((zF.drop 100).take 20)=true:=by kernel_rfl
theorem Bg:TablesWhole.wSs Bq pw.main.scope cxC jB ((zF.drop 120).take 20)=true:=by kernel_rfl
theorem Bh:TablesWhole.wSs Bq pw.main.scope cxC jB ((zF.drop 140).take 20)=true:=by kernel_rfl
theorem Bi:TablesWhole.wSs Bq pw.main.scope cxC jB ((zF.drop 160).take 20)=true:=by kernel_rfl
theorem Bj:TablesWhole.wSs Bq pw.main.scope cxC jB ((zF.drop 180).take 20)=true:=by kernel_rfl
theorem xu:TablesWhole.wSs Bq pw.main.scope cxC jB ((zF.drop 200).take 20)=true:=by kernel_rfl
theorem twe:zF.drop 220 = []:=by kernel_rfl
theorem twb:TablesWhole.wSs Bq pw.main.scope cxC jB zF=true:=(qg 0 Ba (qg 20 Bb (qg 40 Bc (qg 60 Bd (qg 80 Be (qg 100 Bf (qg 120 Bg (qg 140 Bh (qg 160 Bi (qg 180 Bj (qg 200 xu (xz twe))))))))))))
theorem twh{bind:Str}{gl:List Str}(h:TablesWhole.Alg.bind Bq cxM pw.main.scope bind (some pos)=true)(hg:gl = []):TablesWhole.wClassHead Bq cxM pw.main.scope [] [] [] [] jB none bind pos gl=true:=by
 subst hg;have h2:=Zy twn;unfold TablesWhole.wClassHead TablesWhole.Alg.enterFrom;simp only[h2,h]
 kernel_rfl
noncomputable def cnm:Str:=match yQ with | .ClassDef n _ _ _ _ _ _ _ _ _ _=>n | _=>Str.empty
noncomputable def m9:Str:=match yQ with | .ClassDef _ _ _ _ _ _ _ _ b _ _=>b | _=>Str.empty
noncomputable def csa:List Str:=match yQ with | .ClassDef _ _ _ _ _ _ _ _ _ a _=>a | _=>[]
noncomputable def Ze:Pos:=match yQ with | .ClassDef _ _ _ _ _ _ _ _ _ _ p=>p | _=>⟨0,0,0,0⟩
theorem ou:yQ=.ClassDef cnm [] [] zF [] [] jB none m9 csa Ze:=by kernel_rfl
theorem twk:TablesWhole.Alg.bind Bq cxM pw.main.scope m9 (some Ze)=true:=by kernel_rfl
theorem Bk:TablesWhole.declSs true zF = []:=by kernel_rfl
theorem twp:TablesWhole.wSs Bq pw.main.scope cxM pw.main.scope (pw.main.body.take 2)=true:=by kernel_rfl
theorem twq:TablesWhole.wSs Bq pw.main.scope cxM pw.main.scope (pw.main.body.drop (2+1))=true:=by kernel_rfl
theorem twd:pw.main.body.drop 2=yQ::pw.main.body.drop (2+1):=by kernel_rfl
theorem twm:TablesWhole.noTwice pw.main.scope=true:=by kernel_rfl
theorem tw:pw.tablesWhole=true:=by
 refine Vk rfl rfl rfl (mU twg twm (gS 2 twp ?_));rw[twd];refine mV ?_ twq;rw[ou];exact t5 (twh twk Bk) twb
end MH
namespace Ws
noncomputable abbrev p:Program:=PySem.Challenge.pw_me0007_11
noncomputable abbrev l:OpenLaw:=PySem.Challenge.rw_me0007_11
noncomputable def sv:Bool:=!(importedModules p.main.body).all cThrough.contains
theorem a4:(["vars", "dir", "locals"]:List Str).filter (readsOut p p.main.body) = []:=by kernel_rfl
theorem a5:noRoadLSs { strict:=sv,foot:=none,bare:=[] } p.main.body=true:=by kernel_rfl
theorem a5':noRoadLSs { strict:=sv,foot:=none,bare:=(["vars", "dir", "locals"]:List Str).filter (readsOut p p.main.body) } p.main.body=true:=by rw[a4];exact a5
theorem a6:namesResolve p=true:=by kernel_rfl
theorem a8:namesMeet p p.main.body (fun _ n=>attrL n)=true:=by kernel_rfl
theorem a0:looksOpen p=true:=by
 unfold looksOpen
 with_reducible refine look_both (look_both (look_both (look_both ?a a6) ?b) ?c) a8
 ·kernel_rfl
 ·kernel_rfl
 ·exact a5'
theorem aP:l.row.partSaid=true:=by
 unfold OpenRow.partSaid
 with_reducible
  iterate 13 (refine look_both ?_ ?h;case h=>kernel_rfl)
 exact a0
theorem aA:l.row.wellSaid=true:=by
 unfold OpenRow.wellSaid
 with_reducible
  iterate 2 (refine look_both ?_ ?h;case h=>kernel_rfl)
 exact aP
theorem b8:namesMeet l.prog l.above (fun _ n=>!l.own.contains n)=true:=by kernel_rfl
theorem said:l.wellSaid=true:=by
 unfold OpenLaw.wellSaid
 with_reducible
  refine look_both ?_ ?h
  case h=>kernel_rfl
  refine look_both ?_ b8
  iterate 16 (refine look_both ?_ ?h;case h=>kernel_rfl)
 exact aA
end Ws
namespace MH
section
theorem uv(P:Params):CBok (CBX P (Wu P) Vc) Ja ai 0 181 k5 where
 len:=by kernel_rfl
 loc:=rfl
 glo:=rfl
 bui:=rfl
 cod:=rfl
 kin:=by kernel_rfl
 dat:=⟨_,rfl,rfl,⟨_,rfl⟩,rfl,rfl,rfl⟩
 al27:=rfl
 fut:=by kernel_rfl
 g3:=⟨Wu P,by kernel_rfl,by kernel_rfl,by kernel_rfl,by kernel_rfl⟩
 g4:=⟨boot_o_4 P,by kernel_rfl,by kernel_rfl,by kernel_rfl,by kernel_rfl,by kernel_rfl⟩
theorem re1:(zF.take iiN).map reS=zF.take iiN:=by kernel_rfl
theorem re2:(zF.drop (iiN+1)).map reS=zF.drop (iiN+1):=by kernel_rfl
theorem xH:AccOk E0.reverse cs0:=Un (by kernel_rfl)
theorem xI:AccOk (E0++E1++Ei).reverse csi:=Un (by kernel_rfl)
theorem eO(h:Nat.beq S.n (S.fr.length+S.tl.length)=true):S.inv:=Bp h
variable (w:World)
theorem clB:Cl pw w (.body zF Ja) ((qN,je yQ)::qV) (gB w.params) .next ⟨(JZ w.params).fr,(JZ w.params).tl,(JZ w.params).n,(JZ w.params).toks,(JZ w.params).cnt+1,(JZ w.params).pos⟩:=by
 refine Cl.body (S':=JZ w.params) (by kernel_rfl) ?_
 have e0:zF=zF.take iiN++(sAt zF iiN::zF.drop (iiN+1)):=by kernel_rfl
 have b1:zo pw w.params (hcF pw w.params 20) (.body zF Ja) ((qN,je yQ)::qV) (execs (zF.take iiN) Ja) (gB w.params)=some (.next,wR w.params):=by
  have:=ae (p:=pw) (P:=w.params) (hc:=hcF pw w.params 20) (code:=.body zF Ja) (stk:=(qN,je yQ)::qV) (uv w.params) Kb (zF.take iiN) (LA:=[]) (m:=3) (tl:=[]) xO (fun x hx=>(nomatch hx)) xH
  rw[List.reverse_reverse,show(zF.take iiN).map reS=zF.take iiN from re1] at this
  refine Eq.trans this ?_
  kernel_rfl
 have b2:zo pw w.params (hcF pw w.params 20) (.body zF Ja) ((qN,je yQ)::qV) (execs (zF.drop (iiN+1)) Ja) (wT w.params)=some (.next,JZ w.params):=by
  have:=ae (p:=pw) (P:=w.params) (hc:=hcF pw w.params 20) (code:=.body zF Ja) (stk:=(qN,je yQ)::qV) (uv w.params) Kb (zF.drop (iiN+1)) (LA:=Li) (m:=iiN+4) (tl:=tli) xP (fun x hx=>by
   have h:(Li.all fun x=>Nat.ble x.1 22)=true:=by kernel_rfl
   exact Bs (List.all_eq_true.mp h x hx)) xI
  rw[List.reverse_reverse,show(zF.drop (iiN+1)).map reS=zF.drop (iiN+1) from re2] at this
  refine Eq.trans this ?_;rw[show cTl Ja.qual ai 181 k5 mF (zF.drop (iiN+1)) E2 fY.2.1 tli=tlc from tO]
  kernel_rfl
 have i0:(gB w.params).inv:=eO (by kernel_rfl)
 have v1:=zQ (w:=w) (zU 20) _ b1 i0;have v2:=zQ (w:=w) (zU 20) _ (A4 w.params) v1.inv;have v3:=zQ (w:=w) (zU 20) _ b2 v2.inv
 have:Ev pw w (.body zF Ja) ((qN,je yQ)::qV) (execs (zF.take iiN++(sAt zF iiN::zF.drop (iiN+1))) Ja) (gB w.params) .next (JZ w.params):=v1.app (Ev.cons v2 v3)
 rw[<- e0] at this;exact this
theorem evC(i:(gI w.params).inv):Ev pw w qN qV (exec yQ KG) (gI w.params) .next (tI w.params):=by
 refine QI (w:=w) (zU 20) _ (tc w.params) i (D5:=⟨(JZ w.params).fr,(JZ w.params).tl,(JZ w.params).n,(JZ w.params).toks,(JZ w.params).cnt+1,(JZ w.params).pos⟩) (f:=.next) (fun _=>?_) (fun i'=>?_)
 ·refine Cl.of_eq (D5:=gB w.params) (by kernel_rfl) rfl rfl rfl ?_
  exact clB w
 ·exact zQ (w:=w) (zU 20) _ (w4 w.params) i'
noncomputable def QR(P:Params):St:=⟨(Je P).fr,(Je P).tl,(Je P).n,(Je P).toks,(Je P).cnt+1,default⟩
theorem AE(P:Params):zo pw P (hcF pw P 20) de [] (k0 P (.ok .next)) (QR P)=some (.done (.ret .none),QR P):=by kernel_rfl
theorem mb6:jb = [sAt jb 0,sAt jb 1,yQ,sAt jb 3,sAt jb 4,sAt jb 5,sAt jb 6,sAt jb 7]:=by kernel_rfl
theorem uH:Ev pw w (.builtin "claim.caller" {}) [] (topStub pw).cur (st0 w.params) (.done (.ret .none)) (QR w.params):=by
 refine QI (w:=w) (zU 20) (topStub pw).cur (t0 w.params) (eO (by kernel_rfl)) (D5:=⟨(Je w.params).fr,(Je w.params).tl,(Je w.params).n,(Je w.params).toks,(Je w.params).cnt+1,(Je w.params).pos⟩) (f:=.next) (fun i=>?_) (fun i=>?_)
 ·refine Cl.body (S':=Je w.params) (by kernel_rfl) ?_
  have v0:=zQ (w:=w) (zU 20) _ (s0 w.params) i;have v1:=zQ (w:=w) (zU 20) _ (s1 w.params) v0.inv;have v2:=evC w v1.inv;have v3:=zQ (w:=w) (zU 20) _ (s3 w.params) v2.inv;have v4:=zQ (w:=w) (zU 20) _ (s4 w.params) v3.inv;have v5:=zQ (w:=w) (zU 20) _ (s5 w.params) v4.inv;have v6:=zQ (w:=w) (zU 20) _ (s6 w.params) v5.inv;have v7:=zQ (w:=w) (zU 20) _ (s7 w.params) v6.inv
  have:Ev pw w qN qV (execs [sAt jb 0,sAt jb 1,yQ,sAt jb 3,sAt jb 4,sAt jb 5,sAt jb 6,sAt jb 7] KG) (w6 w.params) .next (Je w.params):=Ev.cons v0 (Ev.cons v1 (Ev.cons v2 (Ev.cons v3 (Ev.cons v4 (Ev.cons v5 (Ev.cons v6 (Ev.cons v7 (Ev.nil v7.inv))))))))
  rw[<- mb6] at this;exact this
 ·exact zQ (w:=w) (zU 20) _ (AE w.params) i
noncomputable def ff(P:Params):Life:=(boot_heap P).life
noncomputable def H1(P:Params):Heap:=⟨((Je P).fr++(Je P).tl.reverse).toArray,ff P⟩
theorem x4(os:OsState):topRun treeTable pw w 11 (some (.ref 6)) 9000 ⟨boot_heap w.params,#[],boot_drawn,boot_toks,os⟩ (topStub pw)=some ⟨H1 w.params,#[],boot_drawn,(Je w.params).toks,os⟩:=by
 have r:=mK (life:=ff w.params) (dr:=boot_drawn) (os:=os) (M:=(QR w.params).cnt+1) (code:=de) (uH w) rfl rfl rfl;have e:(st0 w.params).sh (ff w.params) boot_drawn os=⟨boot_heap w.params,#[],boot_drawn,boot_toks,os⟩:=by kernel_rfl
 rw[e] at r;have r2:=topRun_mono (9000-((QR w.params).cnt+1)) _ _ _ _ r;exact r2
end
end MH
namespace MH
section
noncomputable def AF:Stmt:=sAt jb 7
noncomputable def qv:Program:={ pw with main:={ pw.main with body:=[AF] } }
noncomputable def ya:List Str:=[⟨⟨[95,119,97,108,108]⟩⟩,⟨⟨[77,80,85]⟩⟩,⟨⟨[95,108,97,119,95,119,111,114,100,115]⟩⟩,⟨⟨[95,108,97,119,95,116,101,108,108]⟩⟩,⟨⟨[95,108,97,119,95,102,105,108,108,101,100]⟩⟩]
noncomputable def rowR:RowW:=(PySem.Challenge.rw_me0007_11).row.toRowW
noncomputable def XtN:Shared->Bool:=fun s=>xlAt qv [] s&&recOk (RowW.records rowR) s
noncomputable def sF(w:World)(os:OsState):Shared:=⟨H1 w.params,#[],boot_drawn,(Je w.params).toks,os⟩
variable (w:World)(os:OsState)
theorem lk1:staticsOk (importedModules pw.main.body) (boot_heap w.params) (H1 w.params)=true:=by kernel_rfl
theorem lk2:namesBound pw (H1 w.params)=true:=by kernel_rfl
theorem lk3:gensDone (sF w os)=true:=by kernel_rfl
theorem lk4:laidKept (boot_heap w.params) (H1 w.params)=true:=by kernel_rfl
theorem lk5:seen ((recsOf qv).map (·.name)) (ownsOf qv) [] { sF w os with gens:=#[] } = expectedOf qv:=by kernel_rfl
theorem lk6:(sF w os).heap.bltView=bltViewBooted:=by kernel_rfl
theorem lk7:((sF w os).heap.keysOk (looseW qv ya) ((recsOf qv).map (·.name)) ((litsOf qv).map (·.1)) ((clssOf qv (looseW qv ya)).map (·.name))&&(sF w os).heap.accountedOkI (importedModules pw.main.body)&&(sF w os).heap.isNs mainGlobals&&(sF w os).heap.isNs builtinsNs&&tablesOk qv (sF w os).heap&&XtN (sF w os)&&((sF w os).gens.size==0))=true:=by kernel_rfl
theorem lk8:tabsOk qv (sF w os)=true:=by kernel_rfl
theorem lk9:pinSeenD qv (drecsOf qv) (sF w os)=pinGoodD (drecsOf qv):=by kernel_rfl
theorem AH:plainSeenE qv (looseW qv ya) (sF w os)=plainGoodE qv (looseW qv ya):=by kernel_rfl
theorem AI:plainSeenD qv ya (sF w os)=plainGoodD qv ya:=by kernel_rfl
theorem AJ:wideSeen qv (sF w os)=wideGood qv:=by kernel_rfl
theorem AK:clsSeenW qv ya (sF w os)=clsGoodW qv ya:=by kernel_rfl
end
end MH
namespace MH
section
noncomputable def KT:Params->Frag:=KMt
noncomputable def kAs:List Addr:=AB
noncomputable def HK:Hook:=kHook KT kAs (fun Z=>by kernel_rfl)
theorem lkY(w:World)(os:OsState):HK.obs (sF w os)=HK.val w:=by kernel_rfl
theorem rm:LeftO pw qv ya XtN HK.obs HK.val 9000:=by
 refine LeftO.of_pieces (H₀:=fun P=>boot_heap P) (gs₀:=#[]) (d₀:=boot_drawn) (k₀:=boot_toks) (H₁:=H1) (gs₁:=#[]) (d₁:=boot_drawn) (m₀:=11) (ann:=some (.ref 6)) (M:=9000) (boot_open rfl rfl (fun Z=>rfl)) (fun w=>by kernel_rfl) (fun w os=>x4 w os) rfl (fun w=>?_)
 funext os
 refine Prod.ext ?_ (Prod.ext ?_ (lkY w os))
 ·show(staticsOk _ _ _&&namesBound _ _&&gensDone (sF w os)&&laidKept _ _)=true
  rw[lk1 w,lk2 w,lk3 w os,lk4 w];rfl
 ·show openSeen qv ya _ XtN true (sF w os)=openGood qv ya
  unfold openSeen openGood;simp only[if_true];rw[lk5 w os,lk6 w os,lk7 w os,lk8 w os,lk9 w os,AH w os,AI w os,AJ w os,AK w os]
end
end MH
noncomputable def U5:List Str:=looseW MH.qv MH.ya++(recsOf MH.qv).map (·.name)++(litsOf MH.qv).map (·.1)++(clssOf MH.qv (looseW MH.qv MH.ya)).map (·.name)
theorem rQ(i j:Nat)(e:nmM i=nmM j):i=j:=fR (l:=nmL) (by kernel_rfl) i j e
noncomputable def GM(prog:Program)(w:World)(mean:ExcName->Option Value)(mg mb:BB)(base:Heap):Gam:=⟨⟨1428,nmM,rQ,[],[],[],(71,15, "MPU.WrapAt.<locals>.<lambda>")⟩,prog,w,KM w.params,topProg,U5,mean,mg,mb,base⟩
section
variable (Pr:Params)
theorem pQ:jG (uj (KM Pr) 1428 nmM) (pmM []).atts=true:=by kernel_rfl
theorem pU:jG (fun p=>oy (KM Pr) 1428 nmM (p.1,.int p.2)) (pmM []).cis=true:=by kernel_rfl
theorem pX:jG (fun p=>oy (KM Pr) 1428 nmM (p.1,.top p.2)) (pmM []).cts=true:=by kernel_rfl
theorem rc:jG (vF (KM Pr) 1428 nmM) (pmM []).mths=true:=by kernel_rfl
theorem rh:jG (A9 (KM Pr) nmM) (pmM []).tops=true:=by kernel_rfl
theorem ra:jG (uQ (KM Pr) nmM) (pmM []).gis=true:=by kernel_rfl
theorem pR:jG (fun p=>XT nmM topProg U5 p.1 (.builtin (match p.2 with | .len => "len" | .sum => "sum" | .divmod => "divmod" | .sumT => "sum" | .maxT => "max" | .minT => "min"))) (pmM []).blts=true:=by kernel_rfl
theorem re:jG (fun x=>XT nmM topProg U5 x (.type "range")) (pmM []).rngs=true:=by kernel_rfl
theorem pY:jG (fun x=>XT nmM topProg U5 x (.type "enumerate")) (pmM []).enms=true:=by kernel_rfl
theorem ri:jG (fun x=>XT nmM topProg U5 x (.type "zip")) (pmM []).zips=true:=by kernel_rfl
theorem pZ:jG (uL (KM Pr)) fnL=true:=by kernel_rfl
theorem pV:uA (KM Pr) 1428 36=true:=by kernel_rfl
theorem rf:jG (fun p=>rq (KM Pr) p.1 p.2) nW=true:=by kernel_rfl
theorem kI:jG (fun p=>nD (KM Pr) p.1 p.2) gN=true:=by kernel_rfl
end
section
variable {prog:Program}{w:World}{mean:ExcName->Option Value}{mg mb:BB}{base:Heap}
theorem tM:Z0 (GM prog w mean mg mb base) cq:=fun b hb=>aC (Vj (rf w.params) b hb)
theorem mE:n7 (GM prog w mean mg mb base) Jv:=fun b hb=>fj (Vj (kI w.params) b hb)
theorem K8:CtorOk (GM prog w mean mg mb base) 36:=iE (pV w.params)
theorem VQ(cels:List (Nat×Nat))(b:Nat)(arg:PV->Option (List Int))(ctr:List PV->List PO->(PV->List PO->Prop)->Prop):PiOk (GM prog w mean mg mb base) (piM cels b arg ctr) where
 tab:=tM
 tabL:=mE
 fnT:=fun f hf=>by
  obtain⟨g,hg,e⟩:=List.any_eq_true.mp (show fnL.any (Nat.beq f)=true from hf)
  obtain rfl:=Bp e;exact km (G:=(GM prog w mean mg mb base)) (zP (pZ w.params) f hg)
 atts:=fun x hx=>im (zP (pQ w.params) x hx)
 cis:=fun p hp=>Z5 (p:=(p.1,.int p.2)) (zP (pU w.params) p hp)
 cts:=fun p hp=>Z5 (p:=(p.1,.top p.2)) (zP (pX w.params) p hp)
 mths:=fun p hp=>kY (zP (rc w.params) p hp)
 tops:=fun p hp=>Xi (zP (rh w.params) p hp)
 gis:=fun p hp=>kq (G:=(GM prog w mean mg mb base)) (zP (ra w.params) p hp)
 blts:=fun p hp=>J4 (zP pR p hp)
 rngs:=fun p hp=>J4 (zP re p hp)
 enms:=fun p hp=>J4 (zP pY p hp)
 zips:=fun p hp=>J4 (zP ri p hp)
 dbg:=lq (l:=nmL) (by kernel_rfl) (by decide)
 C:=rfl
 ctor:=⟨_,K8⟩
noncomputable def ce:Value:=.str "py65.devices.mpu6502" 194
theorem fo{c:Addr}{q:String}{d:FD}(df pm:Value)(S5:∀(s:Shared) (aws:List Value),G.K.In s.heap->aws.length=ids.length->BindsTo s (fnOf d.name q d.args d.body d.scope df .none .none pm none (.ref c) .none) (ca aws) ((ids.map G.X.nm).zip aws))(hl:G.K.lookup f=some (Vq d q df pm c))(hb:fnB G.X.nm d ids=true)(hc:codeIn G.K (.ref c) q=true):FnOk G ca f ids q d.body d.scope (.ref c):=aj hl hb hc S5
theorem oE{d:Nat}(h9:9<=d):CtS (GM prog w mean mg mb base) d (piM [] 0 (fun _=>none) (fun _ _ _=>False)):=by
 cases d with
 | zero=>exact absurd h9 (Nat.not_succ_le_zero _)
 | succ e=>exact XY K8 rfl
theorem hx{d:Nat}{c:Addr}{q:String}{D:FD}{S:List PV->List PO->(PV->List PO->Prop)->Prop}(hb:HdS (GM prog w mean mg mb base) d Hb)(hH:HdS (GM prog w mean mg mb base) (d+1) H)(okf:FnOk (GM prog w mean mg mb base) Q0 f ids q D.body D.scope (.ref c))(hm:mSs nmM (pmM []) D.scope ir D.body)(hS:∀args hp k,S args hp k->jc ids (pSs pi0 Hb ir) args hp k)(h9:9<=d):HdS (GM prog w mean mg mb base) (d+1) (H.ext f S):=
 pC (VQ [] 0 (fun _=>none) (fun _ _ _=>False)) (oE h9) h9 hb hH okf rfl (fun _=>rfl) hm hS
theorem YD:FnOk (GM prog w mean mg mb base) (Yb "memory" "pc") 36 [0,1,2] "MPU.__init__" (cfn 15).body (cfn 15).scope (.ref 35):=fo (.ref 29) ce (ol fun _ _ _ _=>by kernel_rfl) (by kernel_rfl) (by kernel_rfl) (by kernel_rfl)
theorem YB:mSs nmM (pmM []) (cfn 15).scope QL (cfn 15).body:=⟨by kernel_rfl,by kernel_rfl⟩
noncomputable def mpB(f:α->β)(l:List α):List β:=List.rec (motive:=fun _=>List β) [] (fun x _ ih=>f x::ih) l
noncomputable def fnT:List (Nat×List Nat×String×List IS):=[(16,[0], "MPU.step",Xh),(17,[0], "MPU.reset",Yp),(65,[0], "MPU.inst_0x05",WN),(67,[0], "MPU.inst_0x08",Kd),(68,[0], "MPU.inst_0x09",WO),(69,[0], "MPU.inst_0x0a",Ke),(76,[0], "MPU.inst_0x18",Kf),(80,[0], "MPU.inst_0x20",Kg),(82,[0], "MPU.inst_0x24",WP),(83,[0], "MPU.inst_0x25",WQ),(85,[0], "MPU.inst_0x28",Kh),(86,[0], "MPU.inst_0x29",WR),(87,[0], "MPU.inst_0x2a",Ki),(95,[0], "MPU.inst_0x38",Kj),(102,[0], "MPU.inst_0x46",WS),(103,[0], "MPU.inst_0x48",Kk),(104,[0], "MPU.inst_0x49",WT),(117,[0], "MPU.inst_0x60",Kl),(119,[0], "MPU.inst_0x65",WU),(120,[0], "MPU.inst_0x66",WV),(121,[0], "MPU.inst_0x68",Km),(122,[0], "MPU.inst_0x69",WW),(123,[0], "MPU.inst_0x6a",Kn),(136,[0], "MPU.inst_0x84",WX),(137,[0], "MPU.inst_0x85",WY),(138,[0], "MPU.inst_0x86",WZ),(139,[0], "MPU.inst_0x88",Ko),(140,[0], "MPU.inst_0x8a",Kp),(145,[0], "MPU.inst_0x91",W0),(149,[0], "MPU.inst_0x98",Kq),(151,[0], "MPU.inst_0x9a",Kr),(152,[0], "MPU.inst_0x9d",W3),(153,[0], "MPU.inst_0xa0",W4),(155,[0], "MPU.inst_0xa2",W5),(156,[0], "MPU.inst_0xa4",W6),(157,[0], "MPU.inst_0xa5",W7),(158,[0], "MPU.inst_0xa6",W8),(160,[0], "MPU.inst_0xa9",W9),(161,[0], "MPU.inst_0xaa",Ks),(166,[0], "MPU.inst_0xb1",Xa),(170,[0], "MPU.inst_0xb8",Kt),(171,[0], "MPU.inst_0xb9",Xb),(172,[0], "MPU.inst_0xba",Ku),(174,[0], "MPU.inst_0xbd",Xc),(180,[0], "MPU.inst_0xc6",Xd),(181,[0], "MPU.inst_0xc8",Kv),(182,[0], "MPU.inst_0xc9",Kw),(183,[0], "MPU.inst_0xca",Kx),(187,[0], "MPU.inst_0xd0",Ky),(195,[0], "MPU.inst_0xe0",Kz),(198,[0], "MPU.inst_0xe5",Xe),(199,[0], "MPU.inst_0xe6",Xf),(200,[0], "MPU.inst_0xe8",KA),(201,[0], "MPU.inst_0xe9",Xg),(21,[0,29], "MPU.WordAt",VI),(39,[0,21], "MPU.opORA",Yk),(25,[0], "MPU.ZeroPageAddr",q5),(34,[0,37], "MPU.stPush",VJ),(23,[0], "MPU.ProgramCounter",qp),(40,[0,21], "MPU.opASL",UU),(44,[0,21], "MPU.opCLR",Ye),(36,[0,37], "MPU.stPushWord",JI),(47,[0,21], "MPU.opBIT",UV),(46,[0,21], "MPU.opAND",Yc),(35,[0], "MPU.stPop",Yq),(48,[0,21], "MPU.opROL",UX),(45,[0,21], "MPU.opSET",Yl),(41,[0,21], "MPU.opLSR",UW),(49,[0,21], "MPU.opEOR",Yg),(37,[0], "MPU.stPopWord",KD),(50,[0,21], "MPU.opADC",UT),(51,[0,21], "MPU.opROR",KC),(38,[0,40], "MPU.FlagsNZ",UQ),(53,[0,21], "MPU.opSTY",Yo),(52,[0,21], "MPU.opSTA",Ym),(54,[0,22], "MPU.opSTX",Yn),(29,[0], "MPU.IndirectYAddr",qH),(31,[0], "MPU.AbsoluteXAddr",qC),(60,[0,21], "MPU.opLDY",Yj),(61,[0,22], "MPU.opLDX",Yi),(59,[0,21], "MPU.opLDA",Yh),(32,[0], "MPU.AbsoluteYAddr",qD),(57,[0,21], "MPU.opDECR",Qj),(55,[0,58,59], "MPU.opCMPR",Qi),(42,[0,21], "MPU.opBCL",Yd),(56,[0,21], "MPU.opSBC",UY),(58,[0,21], "MPU.opINCR",Qk),(20,[0,29], "MPU.ByteAt",VH),(33,[0], "MPU.BranchRelAddr",qF),(24,[0], "MPU.ImmediateByte",qG)]
noncomputable def fnI(i:Nat)(q:String):FuncData:=fnOf (cfn i).name q (cfn i).args (cfn i).body (cfn i).scope .none .none .none ce none (.ref (7*i-70)) .none
section
variable (P:Params)(u v t:Value)
theorem kT1:fnT.map (fun r=>(KM P).lookup (7*r.1-69))=mpB (fun r=>some (Vq (cfn r.1) r.2.2.1 .none ce (7*r.1-70))) fnT:=by kernel_rfl
theorem kT2:jG (fun r=>fnB nmM (cfn r.1) r.2.1) fnT=true:=by kernel_rfl
theorem kT3:jG (fun r=>codeIn (KM P) (.ref (7*r.1-70)) r.2.2.1) fnT=true:=by kernel_rfl
theorem kT4(S:_):fnT.map (fun r=>peek (KM P) S (bindArgs (fnI r.1 r.2.2.1) ⟨[u,v,t].take r.2.1.length,[]⟩))=mpB (fun r=>some ((r.2.1.map nmM).zip [u,v,t])) fnT:=by kernel_rfl
theorem kT5:jG (fun r=>Qs nmM (pmM []) (cfn r.1).scope r.2.2.2 (cfn r.1).body) fnT=true:=by kernel_rfl
theorem kT6:fnT.map (fun r=>Qz nmM (pmM []) r.2.2.2 (cfn r.1).body)=mpB (fun r=>(cfn r.1).body) fnT:=by kernel_rfl
theorem kT7:jG (fun r=>Nat.ble r.2.1.length 3) fnT=true:=by kernel_rfl
end
theorem Xm{α β:Type}{f g:α->β}{x:α}:∀{l:List α},l.map f=mpB g l->x∈l->f x=g x
 | _::_,e,h=>(List.mem_cons.mp h).elim (fun q=>q▸(List.cons.inj e).1) (Xm (List.cons.inj e).2)
theorem AQ{a:List Value}(h:a.length<=3):∃u v t b,a++b = [u,v,t]:=by
 rcases a with _ | ⟨u,_ | ⟨v,_ | ⟨t,_ | ⟨x,r⟩⟩⟩⟩
 ·exact⟨.none,.none,.none,_,rfl⟩
 ·exact⟨u,.none,.none,[.none,.none],rfl⟩
 ·exact⟨u,v,.none,[.none],rfl⟩
 ·exact⟨u,v,t,[],rfl⟩
 ·exact absurd h (Nat.not_le_of_lt (Nat.le_add_left 4 _))
theorem br{α:Type}{b:List Value}:∀{l:List α} {a:List Value},a.length=l.length->l.zip a=l.zip (a++b)
 | [],[],_=>rfl
 | x::l,y::a,h=>congrArg ((x,y) :: ·) (br (Nat.succ.inj h))
theorem Bm{l:List α}(h3:l.length<=3){a:List Value}(h:a.length=l.length):∃u v t,a = [u,v,t].take l.length/\l.zip a=l.zip [u,v,t]:=by
 obtain⟨u,v,t,b,e⟩:=AQ (h▸h3:a.length<=3)
 exact⟨u,v,t,by rw[<- e,<- h,List.take_left],by rw[<- e];exact br h⟩
theorem hy{d f:Nat}{q:String}{S:List PV->List PO->(PV->List PO->Prop)->Prop}(hb:HdS (GM prog w mean mg mb base) d Hb)(hH:HdS (GM prog w mean mg mb base) (d+1) H)(j:Nat)(hS:∀args hp k,S args hp k->jc ids (pSs pi0 Hb ir) args hp k)(e:fnT[j]?=some (i,ids,q,ir))(h9:Nat.ble 9 d=true)(hf:7*i-69=f):HdS (GM prog w mean mg mb base) (d+1) (H.ext f S):=by
 subst hf;have m:(i,ids,q,ir)∈fnT:=Df e;have h3:ids.length<=3:=Bs (zP kT7 _ m);have l1:(KM w.params).lookup (7*i-69)=some (Vq (cfn i) q .none ce (7*i-70)):=(Xm (kT1 w.params) m :);have l2:fnB nmM (cfn i) ids=true:=(zP kT2 _ m :);have l3:codeIn (KM w.params) (.ref (7*i-70)) q=true:=(zP (kT3 w.params) _ m :);have l4:∀u v t S,peek (KM w.params) S (bindArgs (fnI i q) ⟨[u,v,t].take ids.length,[]⟩)=some ((ids.map nmM).zip [u,v,t]):=fun u v t S=>(Xm (kT4 w.params u v t S) m :)
 have l5:Qs nmM (pmM []) (cfn i).scope ir (cfn i).body=true:=(zP kT5 _ m :);have l6:Qz nmM (pmM []) ir (cfn i).body=(cfn i).body:=(Xm kT6 m :);have ms:mSs nmM (pmM []) (cfn i).scope ir (cfn i).body:=And.intro l5 l6;have bd:∀(s:Shared) (aws:List Value),(KM w.params).In s.heap->aws.length=ids.length->BindsTo s (fnI i q) (Q0 aws) ((ids.map nmM).zip aws):=by
  intro s aws hK hl;obtain⟨u,v,t,e1,e2⟩:=Bm (l:=ids.map nmM) (by rw[Cm];exact h3) (hl.trans (Cm _).symm)
  rw[Cm] at e1;rw[e2,e1];exact kp_binds hK (l4 u v t)
 have ok:FnOk (GM prog w mean mg mb base) Q0 (7*i-69) ids q (cfn i).body (cfn i).scope (.ref (7*i-70)):=aj (G:=(GM prog w mean mg mb base)) (d:=cfn i) (df:=.none) (pm:=ce) l1 l2 l3 bd;exact hx hb hH ok ms hS (Bs h9)
theorem hd1:HdS (GM prog w mean mg mb base) 11 H1:=(hy hd0 (hy hd0 (hy hd0 hd0 87 dX rfl rfl rfl) 72 bF rfl rfl rfl) 57 ef rfl rfl rfl)
theorem x3:HdS (GM prog w mean mg mb base) 12 H1p:=(hy hd1 (hd1.le (by decide)) 64 ah rfl rfl rfl)
noncomputable def wS(i:Nat):Stmt:=((cfn 22).body.drop i).headD (.Pass ⟨0,0,0,0⟩)
theorem b7:FnOkC (GM prog w mean mg mb base) Q0 85 [0,29] [0] "MPU.WrapAt" (cfn 22).body (cfn 22).scope (.ref 84):=Qd (d:=cfn 22) (df:=.none) (pm:=ce) (by kernel_rfl) (by kernel_rfl) (by kernel_rfl) (cW fun _ _ _=>by kernel_rfl)
theorem V5:ZW (KM w.params) 84 80:=⟨(MH.dC 22 79 293),_,_,_,_,_,_,_,_,by kernel_rfl,rfl,rfl,rfl,rfl,rfl,rfl,rfl,rfl,by decide⟩
theorem rR{l:List (Str×NameKind)}(h:jG (fun y=>match y.2 with | .cell=>false | _=>true) l=true):∀y∈l,y.2≠.cell:=fun y hy e=>by
 have:=zP h y hy
 rw[e] at this
 cases this
theorem Zn:HdS (GM prog w mean mg mb base) 12 H1w:=by
 have pk:=VQ (prog:=prog) (w:=w) (mean:=mean) (mg:=mg) (mb:=mb) (base:=base) [] 0 (fun _=>none) (fun _ _ _=>False)
 obtain⟨cv,abw⟩:=pk.cis (12,8) (by decide)
 have hw:HdS (GM prog w mean mg mb base) (11+1) ((H1.ext 78 Y5).ext 85 ZY):=kt (d:=10) (s1:=wS 0) (s2:=wS 1) (x:=21) (wrap:=31) (ba:=30) (hi:=6) (lo:=4) (bw:=12) b7 hd1 (hy hd1 (hd1.le (by decide)) 54 dY rfl rfl rfl) pk.dbg (pk.mths (30,71) (by decide)) (pk.atts 6 (by decide)) (pk.atts 4 (by decide)) abw V5 (by kernel_rfl) (by kernel_rfl) (fun _=>by kernel_rfl) (fun _ _=>by kernel_rfl) (fun _=>by kernel_rfl) (by kernel_rfl) (by kernel_rfl) (by kernel_rfl) (by kernel_rfl) (by kernel_rfl) (by kernel_rfl) (by kernel_rfl) (by kernel_rfl) (rR (by kernel_rfl)) (fun _ _ _ _ _ _=>by kernel_rfl) (by kernel_rfl) (by kernel_rfl) dZ
 exact hw.cut fun args hp k hb _ ⟨c,mem,o,ad,e1,e2,h1,h2,h3,h4⟩=>⟨c,mem,o,ad,e1,e2,h1,h2,h3,⟨hp,_,rfl,rfl,hb,trivial,h4⟩⟩
theorem hd2:HdS (GM prog w mean mg mb base) 13 H2:=(hy Zn (hy Zn (hy Zn (hy Zn (hy Zn (hy x3 (hy (hd1.le (by decide)) (hy (hd1.le (by decide)) (hy Zn (Zn.le (by decide)) 89 QW rfl rfl rfl) 64 ah rfl rfl rfl) 61 WD rfl rfl rfl) 69 X5 rfl rfl rfl) 58 Qa rfl rfl rfl) 56 UJ rfl rfl rfl) 77 QT rfl rfl rfl) 81 QU rfl rfl rfl) 76 QX rfl rfl rfl)
theorem uT:HdS (GM prog w mean mg mb base) 14 H3b:=(hy hd2 (hd2.le (by decide)) 88 QV rfl rfl rfl)
theorem hd4:HdS (GM prog w mean mg mb base) 15 H4:=(hy uT (hy (hd2.le (by decide)) (hy (hd2.le (by decide)) (hy (hd2.le (by decide)) (hy (hd2.le (by decide)) (hy (hd2.le (by decide)) (hy (hd2.le (by decide)) (hy (hd2.le (by decide)) (hy (hd2.le (by decide)) (hy (hd2.le (by decide)) (hy (hd2.le (by decide)) (hy (hd2.le (by decide)) (hy (hd2.le (by decide)) (hy (hd2.le (by decide)) (hy (hd2.le (by decide)) (hy (hd2.le (by decide)) (hy (hd2.le (by decide)) (hy (hd2.le (by decide)) (hy (hd2.le (by decide)) (hy (hd2.le (by decide)) (hy (hd2.le (by decide)) (hy (hd2.le (by decide)) (uT.le (by decide)) 80 iZ rfl rfl rfl) 79 i3 rfl rfl rfl) 78 i4 rfl rfl rfl) 55 i6 rfl rfl rfl) 63 iT rfl rfl rfl) 68 iY rfl rfl rfl) 62 iW rfl rfl rfl) 70 iS rfl rfl rfl) 85 i9 rfl rfl rfl) 83 d7 rfl rfl rfl) 59 iU rfl rfl rfl) 67 i5 rfl rfl rfl) 65 i7 rfl rfl rfl) 71 i8 rfl rfl rfl) 82 d8 rfl rfl rfl) 86 d9 rfl rfl rfl) 74 kb rfl rfl rfl) 75 ke rfl rfl rfl) 73 kg rfl rfl rfl) 60 iX rfl rfl rfl) 66 ka rfl rfl rfl) 84 iV rfl rfl rfl)
theorem hd5:HdS (GM prog w mean mg mb base) 16 H5:=by
 refine(hy hd4 (hy hd4 (hy hd4 (hy hd4 (hy hd4 (hy hd4 (hy hd4 (hy hd4 (hy hd4 (hy hd4 (hy hd4 (hy hd4 (hy hd4 (hy hd4 (hy hd4 (hy hd4 (hy hd4 (hy hd4 (hy hd4 (hy hd4 (hy hd4 (hy hd4 (hy hd4 (hy hd4 (hy hd4 (hy hd4 (hy hd4 (hy hd4 (hy hd4 (hy hd4 (hy hd4 (hy hd4 (hy hd4 (hy hd4 (hy hd4 (hy hd4 (hy hd4 (hy hd4 (hy hd4 (hy hd4 (hy hd4 (hy hd4 (hy hd4 (hy hd4 (hy hd4 (hy hd4 (hy hd4 (hy hd4 (hy hd4 (hy hd4 (hy hd4 (hy hd4 (hd4.le (by decide)) 2 ?_ rfl rfl rfl) 3 i_8 rfl rfl rfl) 4 ?_ rfl rfl rfl) 5 x5 rfl rfl rfl) 6 x6 rfl rfl rfl) 7 x7 rfl rfl rfl) 8 ?_ rfl rfl rfl) 9 ?_ rfl rfl rfl) 10 x8 rfl rfl rfl) 11 ?_ rfl rfl rfl) 12 x9 rfl rfl rfl) 13 Aa rfl rfl rfl) 14 ?_ rfl rfl rfl) 15 Ab rfl rfl rfl) 16 ?_ rfl rfl rfl) 17 Ac rfl rfl rfl) 18 ?_ rfl rfl rfl) 19 ?_ rfl rfl rfl) 20 uU rfl rfl rfl) 21 ?_ rfl rfl rfl) 22 uV rfl rfl rfl) 23 ?_ rfl rfl rfl) 24 ?_ rfl rfl rfl) 25 ?_ rfl rfl rfl) 26 uW rfl rfl rfl) 27 uX rfl rfl rfl) 28 ?_ rfl rfl rfl) 29 uY rfl rfl rfl) 30 uZ rfl rfl rfl) 31 ?_ rfl rfl rfl) 32 ?_ rfl rfl rfl) 33 ?_ rfl rfl rfl) 34 ?_ rfl rfl rfl) 35 ?_ rfl rfl rfl) 36 ?_ rfl rfl rfl) 37 ?_ rfl rfl rfl) 38 u3 rfl rfl rfl) 39 ?_ rfl rfl rfl) 40 u4 rfl rfl rfl) 41 ?_ rfl rfl rfl) 42 u5 rfl rfl rfl) 43 ?_ rfl rfl rfl) 44 ?_ rfl rfl rfl) 45 u6 rfl rfl rfl) 46 u7 rfl rfl rfl) 47 u8 rfl rfl rfl) 48 u9 rfl rfl rfl) 49 vc rfl rfl rfl) 50 ?_ rfl rfl rfl) 51 ?_ rfl rfl rfl) 52 vd rfl rfl rfl) 53 ?_ rfl rfl rfl)<;>first | exact xX rfl rfl rfl (fun _=>rfl) (fun _=>rfl) fun _ _ _ h=>h | exact xY rfl rfl rfl (fun _=>rfl) (fun _=>rfl) fun _ _ _ h=>h | exact uP rfl rfl rfl (fun _=>rfl) (fun _=>rfl) fun _ _ _ h=>h
noncomputable def H6:Hd:=H5.ext 43 Ul
theorem hd6:HdS (GM prog w mean mg mb base) 17 H6:=(hy hd5 (hd5.le (by decide)) 0 pe rfl rfl rfl)
theorem hdI:HdS (GM prog w mean mg mb base) 11 HI:=(hy hd0 hd0 1 kh rfl rfl rfl)
theorem ctI:yV (GM prog w mean mg mb base) 12 36 (Yb "memory" "pc") V7:=uO (VQ [] 0 (fun _=>none) (fun _ _ _=>False)) (XY K8 rfl) (by decide) hdI YD rfl (fun _=>rfl) YB pd
end
theorem dgp(x:Int){y:Int}(h:y.natAbs<2 ^ 64):Builtin.divisionGoesByPylong x y=false:=by
 unfold Builtin.divisionGoesByPylong
 have:(if (y==0)=true then 0 else y.natAbs.log2/30+1)<=300:=by
  split
  ·exact wm (Cg _) rfl
  ·have h2:y.natAbs.log2<64:=by
    by_cases h0:y.natAbs=0
    ·rw[h0];decide
    ·exact(Nat.log2_lt h0).mpr h
   lia
 simp only[gt_iff_lt,Bool.and_eq_false_iff,decide_eq_false_iff_not,Nat.not_lt];exact .inl this
theorem X7(x:Int){y:Int}(h:0<=y):bK x y=x%y:=by rw[Q9,Int.fmod_eq_emod_of_nonneg _ h]
theorem X6(x:Int){y:Int}(h:0<=y):bJ x y=x/y:=by rw[Q8,Int.fdiv_eq_ediv_of_nonneg _ h]
theorem kA{a b:Int}(h:a.natAbs<2 ^ 62):IntMulOk a b:=.of_left (intBits_le_64 (by lia) (by lia))
section
variable {P:Pi}{l:List (Nat×PV)}{xs:List Int}{e:IE}{k:KF}{v:PV}
noncomputable def fK(W:PS->KF->Prop)(k:KF):KF:=fun f O=>match f with
 | .next=>W O k
 | .brk=>k .brk O
 | .ret v=>k (.ret v) O
theorem Xx:∀(a:List IS) {b:List IS} {O:PS} {k:KF},pSs P H a O (fK (pSs P H b) k)=pSs P H (a++b) O k
 | [],_,_,_=>rfl
 | i::a,b,O,k=>by
  refine congrArg (pS P H i O) (funext fun f=>funext fun B4=>?_)
  induction f with
  | next=>exact Xx a
  | brk=>rfl
  | ret v=>rfl
theorem ma(he:∀κ:KE,κ v O->pE P H e O κ)(h:pSs P H is ⟨st x v O.loc,O.hp⟩ k):pSs P H (.name x e::is) O k:=
 he _ ((zJ (O:=O)).mpr h)
theorem td{t:IE}{a b:List IS}{c:Bool}(ht:∀κ:KB,κ c O->pT P H t O κ)(h1:c=true->pSs P H (a++is) O k)(h2:c=false->pSs P H (b++is) O k):pSs P H (.ite t a b::is) O k:=by
 refine ht _ ?_
 induction c
 ·exact(Xx b).symm▸h2 rfl
 ·exact(Xx a).symm▸h1 rfl
theorem zw{l:List (Nat×PV)}{v:PV}(h:y≠x):lk y (st x v l)=lk y l:=by rw[Yx,if_neg h]
theorem j4{l:List (Nat×PV)}{v:PV}:lk x (st x v l)=some v:=by rw[Yx,if_pos rfl]
end
noncomputable def wK(Wt:PV->PS->KS->Prop)(Wb:PS->KF->Prop)(r:List PV)(K:KF):KF:=fun f O=>match f with
 | .next=>qj Wt Wb r O K
 | .brk=>K .next O
 | .ret u=>K (.ret u) O
theorem Q7{P:Pi}{v:PV}{r:List PV}{K:KF}(h:Wb ⟨st x v O.loc,O.hp⟩ (wK (pA P H (.name x)) Wb r K)):qj (pA P H (.name x)) Wb (v::r) O K:=
 (zJ (O:=O) (x:=x) (v:=v) (c:=fun B4=>Wb B4 (wK (pA P H (.name x)) Wb r K))).mpr h
section
variable {xs:List Int}{k m:Nat}
theorem Zt:kms_lo (some (k:Int)) xs.length=min k xs.length:=by
 unfold kms_lo
 show(if (k:Int)<0 then _ else min (k:Int).toNat xs.length)=_
 rw[if_neg (Int.not_lt.mpr (Dt _)),Dl]
theorem Zo:kms_hi (some (k:Int)) xs.length=min k xs.length:=by
 unfold kms_hi
 show(if (k:Int)<0 then _ else min (k:Int).toNat xs.length)=_
 rw[if_neg (Int.not_lt.mpr (Dt _)),Dl]
theorem gO:xs.take (min k xs.length)=xs.take k:=by
 rcases Nat.le_total k xs.length with h | h
 ·rw[Nat.min_eq_left h]
 ·rw[Nat.min_eq_right h,List.take_length,List.take_of_length_le h]
theorem dJ:xs.drop (min k xs.length)=xs.drop k:=by
 rcases Nat.le_total k xs.length with h | h
 ·rw[Nat.min_eq_left h]
 ·rw[Nat.min_eq_right h,List.drop_length,List.drop_of_length_le h]
theorem J6:Ji none (some (k:Int)) xs=xs.take k:=by
 unfold Ji;rw[Zo]
 show(xs.drop 0).take (_-0)=_
 rw[List.drop_zero,Nat.sub_zero,gO]
theorem dI:Ji (some (k:Int)) none xs=xs.drop k:=by
 unfold Ji;rw[Zt]
 show(xs.drop _).take (xs.length-_)=_
 rw[List.take_of_length_le (by rw[List.length_drop];exact Cg _),dJ]
theorem iF:Ji none none xs=xs:=by
 unfold Ji kms_lo kms_hi
 show(xs.drop 0).take (xs.length-0)=xs
 rw[List.drop_zero,Nat.sub_zero,List.take_length]
theorem iG(h1:k<=m)(h2:m<=xs.length):Ji (some (k:Int)) (some (m:Int)) xs=(xs.drop k).take (m-k):=by
 unfold Ji;rw[Zt,Zo,Nat.min_eq_left h2,Nat.min_eq_left (Dc h1 h2)]
end
structure PwA(p:Int):Prop where
 z:isZ p=false
 b:p.natAbs<2 ^ 64
 n:0<=p
section
variable (P:Pi)(H:Hd)
def zu(e:IE)(O:PS)(v:PV):Prop:=∀κ:KE,κ v O->pE P H e O κ
def XM(es:List IE)(O:PS)(us:List PV):Prop:=∀κ:List PV->PS->Prop,κ us O->pEs P H es O κ
def yz(t:IE)(O:PS)(c:Bool):Prop:=∀κ:KB,κ c O->pT P H t O κ
def XK(e:Option IE)(O:PS)(v:PV):Prop:=∀κ:KE,κ v O->pO P H e O κ
end
section
variable {P:Pi}{e l r t a b:IE}{es:List IE}{us:List PV}{v:PV}{i j:Int}{xs ys:List Int}{c:Bool}
theorem zg(h:lk x O.loc=some v):zu P H (.loc x) O v:=fun κ hκ=>by
 obtain⟨L,hp⟩:=O;show opt (lk x L) _;rw[show lk x L=some v from h];exact hκ
theorem zb:zu P H (.int i) O (.int i):=fun κ hκ=>hκ
theorem zq{v:PV}(h:O.hp[P.base+off]?=some (.cell (some v))):zu P H (.cel x off) O v:=fun κ hκ=>by
 show di O.hp[P.base+off]? _;rw[h];exact hκ
theorem zO(h1:zu P H l O (.int i))(h2:zu P H r O (.int j)):zu P H (.bin .i .Add l r) O (.int (i+j)):=fun κ hκ=>h1 _ (h2 _ (by show κ (.int (jK i j)) O;rw[zy];exact hκ))
theorem jZ(h1:zu P H l O (.int i))(h2:zu P H r O (.int j)):zu P H (.bin .i .Sub l r) O (.int (i-j)):=fun κ hκ=>h1 _ (h2 _ (by show κ (.int (Qg i j)) O;rw[jQ];exact hκ))
theorem jY(h1:zu P H l O (.int i))(h2:zu P H r O (.int j))(hb:i.natAbs<2 ^ 62):zu P H (.bin .i .Mult l r) O (.int (i*j)):=fun κ hκ=>h1 _ (h2 _ ⟨kA hb,by show κ (.int (ky i j)) O;rw[WI];exact hκ⟩)
theorem jX(h1:zu P H l O (.int i))(h2:zu P H r O (.int j))(h:PwA j):zu P H (.bin .i .FloorDiv l r) O (.int (i/j)):=fun κ hκ=>h1 _ (h2 _ (by
 show cond (isZ j) False _;rw[h.z]
 exact⟨dgp _ h.b,by show κ (.int (bJ i j)) O;rw[X6 _ h.n];exact hκ⟩))
theorem zI(h1:zu P H l O (.int i))(h2:zu P H r O (.int j))(h:PwA j):zu P H (.bin .i .Mod l r) O (.int (i%j)):=fun κ hκ=>h1 _ (h2 _ (by
 show cond (isZ j) False _;rw[h.z];show κ (.int (bK i j)) O;rw[X7 _ h.n];exact hκ))
theorem hG(h1:zu P H l O (.int i)):zu P H (.un .USub l) O (.int (-i)):=fun κ hκ=>h1 _ (by show κ (.int (X9 i)) O;rw[WJ];exact hκ)
theorem XI(h1:zu P H l O (.il xs))(h2:zu P H r O (.il ys))(hz:xs.length+ys.length<=2 ^ 24):zu P H (.bin (.add false) .Add l r) O (.il (xs++ys)):=fun κ hκ=>h1 _ (h2 _ ⟨hz,hκ⟩)
theorem XJ{n:Nat}(h1:zu P H l O (.il xs))(h2:zu P H r O (.int (n:Int)))(hz:xs.length*n<=2 ^ 24)(hn:n<=2 ^ 24):zu P H (.bin (.mul false) .Mult l r) O (.il (jO n xs)):=fun κ hκ=>h1 _ (h2 _ ⟨⟨hz,zn (Vs hn) rfl⟩,hκ⟩)
theorem zY:XM P H [] O []:=fun κ hκ=>hκ
theorem ze(h1:zu P H e O u)(h2:XM P H es O us):XM P H (e::es) O (u::us):=fun κ hκ=>h1 _ (h2 _ hκ)
theorem j9(h:XM P H es O us)(hi:jy us=some xs)(hl:Nat.ble us.length 1000=true):zu P H (.list false es) O (.il xs):=fun κ hκ=>h _ (by
 show cond (Nat.ble us.length 1000) _ False;rw[hl];show U7 false us O κ;unfold U7;rw[hi];exact hκ)
theorem yl(h:XM P H es O us)(hl:Nat.ble us.length 1000=true):zu P H (.tup es) O (.tup us):=fun κ hκ=>h _ (by
 show cond (Nat.ble us.length 1000) _ False;rw[hl];exact hκ)
theorem nZ{k:Nat}(h1:zu P H a O (.il xs))(h2:zu P H b O (.int (k:Int)))(hk:k<xs.length)(h63:xs.length<2 ^ 62):zu P H (.sub a b) O (.int (xs.getD k 0)):=fun κ hκ=>h1 _ (h2 _ (by
 show(0<=(k:Int)/\(k:Int)<xs.length/\(k:Int)<2 ^ 63)/\κ (.int (xs.getD (k:Int).toNat 0)) O
 exact⟨⟨Dt _,Int.ofNat_lt.mpr hk,by lia⟩,hκ⟩))
theorem uc(h1:zu P H a O (.il xs))(hz:xs.length<=2 ^ 24):zu P H (.rev false a) O (.il xs.reverse):=fun κ hκ=>h1 _ ⟨hz,hκ⟩
theorem Ui:XK P H none O .none:=fun κ hκ=>hκ
theorem jd(h:zu P H e O v):XK P H (some e) O v:=h
theorem Y2{lo:Option IE}{hp:Option Int}(h1:zu P H a O (.il xs))(h2:XK P H lo O lv)(h3:XK P H hi O hv)(e2:jo lv=some lp)(e3:jo hv=some hp)(hz:xs.length<=2 ^ 24)(he:Ji lp hp xs=ys):zu P H (.slice false a lo hi) O (.il ys):=fun κ hκ=>h1 _ (h2 _ (h3 _ (by
 show opt (jo lv) _;rw[e2];show opt (jo hv) _;rw[e3];subst he
 exact⟨hz,hκ⟩)))
theorem qX(h:yz P H t O c)(h1:c=true->zu P H a O v)(h2:c=false->zu P H b O v):zu P H (.ite t a b) O v:=fun κ hκ=>h _ (by
 induction c
 ·exact h2 rfl κ hκ
 ·exact h1 rfl κ hκ)
theorem JE{f:Bool->PV}(h:yz P H t O c)(h1:zu P H a O (f true))(h2:zu P H b O (f false)):zu P H (.ite t a b) O (f c):=fun κ hκ=>h _ (by
 induction c
 ·exact h2 κ hκ
 ·exact h1 κ hκ)
theorem bp(hf:P.fnT f=true)(h:XM P H es O us)(hc:∀k:PV->List PO->Prop,k v O.hp->H f us O.hp k):zu P H (.callv (.top x f) es) O v:=fun κ hκ =>
 ⟨hf,h _ (hc _ (by obtain⟨L,hp⟩:=O;exact hκ))⟩
theorem yp(h1:zu P H l O (.int i))(h2:zu P H r O (.int j)):yz P H (.cmp .i .Eq l r) O (i==j):=fun κ hκ=>h1 _ (h2 _ hκ)
theorem xD(h1:zu P H l O (.int i))(h2:zu P H r O (.int j)):yz P H (.cmp .i .NotEq l r) O (i !=j):=fun κ hκ=>h1 _ (h2 _ hκ)
theorem xC(h1:zu P H l O (.int i))(h2:zu P H r O (.int j)):yz P H (.cmp .i .Lt l r) O (decide (i<j)):=fun κ hκ=>h1 _ (h2 _ hκ)
theorem xB(h1:zu P H l O (.int i))(h2:zu P H r O (.int j)):yz P H (.cmp .i .Gt l r) O (decide (j<i)):=fun κ hκ=>h1 _ (h2 _ hκ)
theorem mW{c d:Bool}(h1:yz P H a O c)(h2:yz P H b O d):yz P H (.and [a,b]) O (c&&d):=fun κ hκ=>h1 _ (by
 induction c
 ·exact hκ
 ·exact h2 _ (by induction d<;>exact hκ))
theorem ZU{c d:Bool}(h1:yz P H a O c)(h2:yz P H b O d):yz P H (.or [a,b]) O (c||d):=fun κ hκ=>h1 _ (by
 induction c
 ·exact h2 _ (by induction d<;>exact hκ)
 ·exact hκ)
variable {k:KF}
theorem qk(he:zu P H e O v)(h:pSs P H is ⟨st x v O.loc,O.hp⟩ k):pSs P H (.name x e::is) O k:=ma he h
theorem cg{B:List IS}(ht:yz P H t O c)(h1:c=true->pSs P H (A++is) O k)(h2:c=false->pSs P H (B++is) O k):pSs P H (.ite t A B::is) O k:=td ht h1 h2
theorem Vh{w:PV}(he:zu P H e O (.tup [v,w]))(h:pSs P H is ⟨st x v (st y w O.loc),O.hp⟩ k):pSs P H (.swap [x,y] e::is) O k:=he _ (by
 show O.slC y w fun B4=>B4.slC x v fun B6=>pSs P H is B6 k
 exact zJ.mpr (zJ.mpr h))
theorem Ud{ks:List Nat}{L:List (Nat×PV)}{l':List (Nat×PV)}(hk:∀Q:List (Nat×PV)->Prop,Q L->aR ks l' Q)(h:pSs P H is ⟨L,hp⟩ k):pSs P H (.keep ks::is) ⟨l',hp⟩ k:=hk _ h
theorem s9{n:Nat}(he:zu P H e O (.int (n:Int)))(hn:n<=1000)(h:qj (pA P H (.name x)) (pSs P H A) (ji 0 n) O (fK (pSs P H is) k)):pSs P H (.forR (.name x) y [e] A::is) O k:=
 he _ (show(-(2 ^ 61:Int)<=(n:Int)/\(n:Int)<=2 ^ 61)/\qj (pA P H (.name x)) (pSs P H A) (ji 0 (jW 0 (n:Int))) O (fK (pSs P H is) k) from⟨⟨zi qK rfl,yd (Vs hn) rfl⟩,by
  rw[show jW 0 (n:Int)=n by unfold jW;lia];exact h⟩)
end
theorem pw2:PwA 2:=⟨rfl,by decide,by decide⟩
theorem pw3:PwA 3:=⟨rfl,by decide,by decide⟩
theorem pw4:PwA 4:=⟨rfl,by decide,by decide⟩
theorem pw7:PwA 7:=⟨rfl,by decide,by decide⟩
theorem pw8:PwA 8:=⟨rfl,by decide,by decide⟩
theorem aT:PwA 128:=⟨rfl,by decide,by decide⟩
theorem jE:PwA 256:=⟨rfl,by decide,by decide⟩
theorem lT:PwA 65536:=⟨rfl,by decide,by decide⟩
theorem pwL{j:Int}(h0:isZ j=false)(h1:0<=j)(h2:j<2 ^ 60):PwA j:=⟨h0,by lia,h1⟩
noncomputable def nt(l:List IS)(n:Nat):IS:=(l.drop n).headD .pass
noncomputable def bO:IS->List IS
 | .forS _ _ b=>b
 | .forR _ _ _ b=>b
 | .forT _ _ b=>b
 | _=>[]
noncomputable def iO(e:Bool):IS->List IS
 | .ite _ a b=>cond e b a
 | _=>[]
section
variable {P:Pi}{t:IE}{c:Bool}{k:KF}
theorem wD{B:List IS}(ht:yz P H t O c)(hc:c=true)(h:pSs P H (A++is) O k):pSs P H (.ite t A B::is) O k:=cg ht (fun Z=>h) fun e=>by rw[hc] at e;cases e
theorem YN{B:List IS}(ht:yz P H t O c)(hc:c=false)(h:pSs P H (B++is) O k):pSs P H (.ite t A B::is) O k:=cg ht (fun e=>by rw[hc] at e;cases e) fun Z=>h
end
section
variable (P:Pi)(H:Hd)
def Ta(t:IT)(v:PV)(O σ':PS):Prop:=∀κ:KS,κ σ'->pA P H t v O κ
def Tas(ts:List IT)(us:List PV)(O σ':PS):Prop:=∀κ:KS,κ σ'->UB (pAs P H ts) us O κ
end
section
variable {P:Pi}{B4 B6:PS}{e o i t:IE}{v:PV}{k:KF}{xs:List Int}{u w:Int}
theorem zE:Ta P H (.name x) v O ⟨st x v O.loc,O.hp⟩:=fun κ h=>zJ.mpr h
theorem qw{c:Option PV}(h:O.hp[P.base+off]?=some (.cell c)):Ta P H (.cel x off) v O ⟨O.loc,O.hp.set (P.base+off) (.cell (some v))⟩:=fun κ hκ=>by
 show di O.hp[P.base+off]? _;rw[h];exact j6.mpr hκ
theorem XD(h1:zu P H o O (.ref j))(h2:zu P H i O (.int u))(h:O.hp[j]?=some (.il xs))(u0:0<=u)(u1:u<xs.length)(u2:u<2 ^ 63):Ta P H (.sub o i) (.int w) O ⟨O.loc,O.hp.set j (.il (wr xs u w))⟩:=fun κ hκ=>h1 _ (h2 _ (by
 show sQ O.hp[j]? u (.int w) (fun o'=>O.siC j o' κ)
 rw[h];exact⟨⟨u0,u1,u2⟩,j6.mpr hκ⟩))
theorem yw:Tas P H [] [] O O:=fun κ h=>h
theorem zD{t:IT}{ts:List IT}{us:List PV}(h:Ta P H t v O B4)(h2:Tas P H ts us B4 B6):Tas P H (t::ts) (v::us) O B6:=fun κ hκ=>h _ (h2 _ hκ)
theorem yk{a b:IT}(he:zu P H e O v)(h1:Ta P H a v O B4)(h2:Ta P H b v B4 B6)(h:pSs P H is B6 k):pSs P H (.two a b e::is) O k:=he _ (h1 _ (h2 _ h))
theorem qu{ts:List IT}{us:List PV}(he:zu P H e O v)(hi:jI O v=some us)(hl:Nat.beq us.length (pAs P H ts).length=true)(h1:Tas P H ts us O B4)(h:pSs P H is B4 k):pSs P H (.tup ts e::is) O k:=he _ (by
 show opt (jI O v) _;rw[hi];show cond (Nat.beq us.length (pAs P H ts).length) _ False;rw[hl];exact h1 _ h)
theorem ZK{c:Option PV}(he:zu P H e O v)(h:O.hp[P.base+off]?=some (.cell c))(h2:pSs P H is ⟨O.loc,O.hp.set (P.base+off) (.cell (some v))⟩ k):pSs P H (.cel x off e::is) O k:=he _ (qw (P:=P) (H:=H) (x:=x) h _ h2)
theorem Xz(he:zu P H e O (.int w))(h1:zu P H o O (.ref j))(h2:zu P H i O (.int u))(h:O.hp[j]?=some (.il xs))(u0:0<=u)(u1:u<xs.length)(u2:u<2 ^ 63)(h3:pSs P H is ⟨O.loc,O.hp.set j (.il (wr xs u w))⟩ k):pSs P H (.put o i e::is) O k:=he _ (XD h1 h2 h u0 u1 u2 _ h3)
theorem gx(he:zu P H e O v)(h:k (.ret v) O):pSs P H [.ret e] O k:=he _ h
theorem Uj(h1:zu P H o O (.ref j))(h2:zu P H i O (.int u))(h:O.hp[j]?=some (.il xs))(u0:0<=u)(u1:u<xs.length)(u2:u<2 ^ 63):zu P H (.sub o i) O (.int (rd xs u)):=fun κ hκ=>h1 _ (h2 _ (by
 show opt (ilP O.hp[j]?) _;rw[h];exact⟨⟨u0,u1,u2⟩,hκ⟩))
theorem bq(h1:zu P H e O (.int u))(h2:zu P H o O (.int w))(h:PwA w):zu P H (.blt .divmod y [e,o]) O (.tup [.int (u/w),.int (u%w)]):=fun κ hκ=>h1 _ (h2 _ (by
 show cond (isZ w) False _;rw[h.z]
 refine⟨dgp _ h.b,?_⟩
 rw[X6 _ h.n,X7 _ h.n];exact hκ))
theorem g8(h1:zu P H e O (.int u))(h2:zu P H o O (.int w)):yz P H (.cmp .i .GtE e o) O (decide (w<=u)):=fun κ hκ=>h1 _ (h2 _ hκ)
theorem xF(h1:zu P H e O .none):yz P H (.cmp .i .IsNot e .none) O false:=fun κ hκ=>h1 _ hκ
theorem xE(h1:zu P H e O (.int u)):yz P H (.cmp .i .IsNot e .none) O true:=fun κ hκ=>h1 _ hκ
set_option genCtorIdx false in
inductive Tq where
 | lt (n:Nat)
 | eq (n:Nat)
 | or (n m:Nat)
noncomputable def Tq.ie(c:IE):Tq->IE
 | .lt n=>.cmp .i .Lt c (.int n)
 | .eq n=>.cmp .i .Eq c (.int n)
 | .or n m=>.or [.cmp .i .Eq c (.int n),.cmp .i .Eq c (.int m)]
noncomputable def Tq.b(k:Nat):Tq->Bool
 | .lt n=>Dg k n
 | .eq n=>Nat.beq k n
 | .or n m=>Nat.beq k n||Nat.beq k m
theorem nbq{a b:Nat}:((a:Int)==(b:Int))=Nat.beq a b:=by
 cases h:Nat.beq a b with
 | true=>obtain rfl:=Bp h;exact beq_self_eq_true _
 | false=>exact beq_false_of_ne fun e=>Nat.ne_of_beq_eq_false h (by lia)
theorem Tq.ok{c:IE}{n:Nat}(h:zu P H c O (.int (n:Int)))(q:Tq):yz P H (q.ie c) O (q.b n):=by
 induction q with
 | lt m =>
  have:=xC h (zb (P:=P) (H:=H) (i:=(m:Int)))
  rwa [show decide ((n:Int)<(m:Int))=Dg n m from Bool.eq_iff_iff.mpr ⟨fun h=>Ds (Int.ofNat_lt.mp (of_decide_eq_true h)),fun h=>decide_eq_true (Int.ofNat_lt.mpr (Bs h))⟩] at this
 | eq m =>
  have:=yp h (zb (P:=P) (H:=H) (i:=(m:Int)))
  rwa [nbq] at this
 | or m l =>
  have:=ZU (yp h (zb (P:=P) (H:=H) (i:=(m:Int)))) (yp h (zb (i:=(l:Int))))
  rwa [nbq,nbq] at this
noncomputable def chO(c:IE)(d:List IS):List (Tq×List IS)->List IS
 | []=>d
 | (q,A)::r=>[.ite (q.ie c) A (chO c d r)]
noncomputable def gk(n:Nat)(d:List IS):List (Tq×List IS)->List IS
 | []=>d
 | (q,A)::r=>cond (q.b n) A (gk n d r)
theorem aS{c:IE}{n:Nat}{d:List IS}(h:zu P H c O (.int (n:Int))):∀{r:List (Tq×List IS)},pSs P H (gk n d r++is) O k->pSs P H (chO c d r++is) O k
 | [],hk=>hk
 | (q,A)::r,hk=>by
  refine cg (q.ok h) (fun e=>?_) (fun e=>?_)
  ·replace hk:pSs P H (cond (q.b n) A (gk n d r)++is) O k:=hk
   rw[e] at hk;exact hk
  ·replace hk:pSs P H (cond (q.b n) A (gk n d r)++is) O k:=hk
   rw[e] at hk;exact aS h hk
end
noncomputable def cT:List Nat:=[293,20,40,276,283]
noncomputable def pW(n:Nat):Pi:=piM (Uy 0 cT) n (fun Z=>none) (fun Z Z Z=>False)
structure O7 where
 o0:PO
 o1:PO
 o2:PO
 o3:PO
 o4:PO
 o5:PO
 o6:PO
noncomputable def hT(o:O7)(P:Mem)(cs ca:Option PV)(v:Int)(k:Nat):List PO:=[o.o0,o.o1,o.o2,o.o3,o.o4,o.o5,o.o6,.il P,.cell cs,.cell ca,.cell (some (.int v)),.cell (some (.int (k:Int))),.cell (some (.ref 7))]
noncomputable def st8(C:Co):List Int:=[C.a,C.x,C.y,C.s,b2 C.f.n,b2 C.f.v,b2 C.f.z,b2 C.f.c]
noncomputable def LT(C:Co)(sd near:Int):List (Nat×PV):=[(284,.il (st8 C)),(272,.int near),(265,.int sd),(21,.int C.x),(22,.int C.y),(292,.int C.s),(289,.int (b2 C.f.n)),(290,.int (b2 C.f.v)),(37,.int (b2 C.f.z)),(291,.int (b2 C.f.c)),(294,.none)]
noncomputable def ck(i:Nat):IS:=match i with
 | 0=>nt zX 3
 | i+1=>nt (iO true (ck i)) 0
noncomputable def nT:List (Tq×List IS):=[(.lt 2,iO false (ck 0)),(.lt 4,iO false (ck 1)),(.lt 6,iO false (ck 2)),(.lt 9,iO false (ck 3)),(.or 9 11,iO false (ck 4)),(.eq 10,iO false (ck 5)),(.eq 12,iO false (ck 6)),(.or 13 26,iO false (ck 7)),(.lt 16,iO false (ck 8)),(.eq 16,iO false (ck 9)),(.eq 17,iO false (ck 10)),(.eq 18,iO false (ck 11)),(.eq 19,iO false (ck 12)),(.eq 20,iO false (ck 13)),(.eq 21,iO false (ck 14)),(.eq 22,iO false (ck 15)),(.eq 23,iO false (ck 16)),(.eq 24,iO false (ck 17)),(.eq 25,iO false (ck 18)),(.eq 28,iO false (ck 19))]
noncomputable def tlT:List IS:=[nt zX 4,nt zX 5]
noncomputable def brT(k:Nat):List IS:=gk k (iO true (ck 19)) nT
theorem vh:zX=nt zX 0::nt zX 1::nt zX 2::(chO (.cel 276 3) (iO true (ck 19)) nT++tlT):=by kernel_rfl
section
variable {o:O7}{C:Co}{v:Int}{k:Nat}{K:KF}
theorem hdT(h:pSs (pW 8) H0 (brT k++tlT) ⟨LT C sd near,hT o C.P (some (.int (v%128))) (some (.int C.a)) v k⟩ K):pSs (pW 8) H0 zX ⟨[(284,.il (st8 C)),(272,.int near),(265,.int sd)],hT o C.P none none v k⟩ K:=by
 rw[vh];refine qu (us:=(st8 C).map .int) (zg rfl) rfl rfl (zD (qw rfl) (zD zE (zD zE (zD zE (zD zE (zD zE (zD zE (zD zE yw)))))))) ?_;refine ZK (zI (zq (v:=.int v) rfl) zb aT) rfl ?_;refine qk (v:=.none) (fun κ h=>h) ?_
 exact aS (zq rfl) h
structure Lk8(l:List (Nat×PV))(x y s n v z c:Int)(t:PV):Prop where
 x:lk 21 l=some (.int x)
 y:lk 22 l=some (.int y)
 s:lk 292 l=some (.int s)
 n:lk 289 l=some (.int n)
 v:lk 290 l=some (.int v)
 z:lk 37 l=some (.int z)
 c:lk 291 l=some (.int c)
 t:lk 294 l=some t
theorem gv{l:List (Nat×PV)}{cs:Option PV}{a x y s n z c:Int}{t:PV}(q:Lk8 l x y s n vv z c t)(h:K (.ret (.il [a,x,y,s,n,vv,z,c])) ⟨l,hT o P cs (some (.int a)) v k⟩):pSs (pW 8) H0 [nt zX 5] ⟨l,hT o P cs (some (.int a)) v k⟩ K:=
 gx (j9 (us:=[.int a,.int x,.int y,.int s,.int n,.int vv,.int z,.int c]) (xs:=[a,x,y,s,n,vv,z,c]) (ze (zq rfl) (ze (zg q.x) (ze (zg q.y) (ze (zg q.s) (ze (zg q.n) (ze (zg q.v) (ze (zg q.z) (ze (zg q.c) zY)))))))) rfl rfl) h
theorem JC{l:List (Nat×PV)}{cs:Option PV}{a x y s n z c:Int}(q:Lk8 l x y s n vv z c .none)(h:K (.ret (.il [a,x,y,s,n,vv,z,c])) ⟨l,hT o P cs (some (.int a)) v k⟩):pSs (pW 8) H0 tlT ⟨l,hT o P cs (some (.int a)) v k⟩ K:=
 YN (xF (zg q.t)) rfl (gv q h)
theorem fZ{t:Int}(h:isB t):t/128=b2 (bt 7 t):=by
 unfold bt b2;obtain⟨h0,h1⟩:=h
 by_cases q:t/2 ^ 7%2=1
 ·rw[decide_eq_true q];show _=(1:Int);have:t/128%2=1:=q;lia
 ·rw[decide_eq_false q];show _=(0:Int);have:¬t/128%2=1:=q;lia
theorem uk(t:Int):(cond (t==0) 1 0:Int)=b2 (decide (t=0)):=by
 rw[show(t==0)=decide (t=0) from rfl];rfl
theorem z9{l:List (Nat×PV)}{cs:Option PV}{a x y s n z c t:Int}(ht:isB t)(q:Lk8 l x y s n vv z c (.int t))(h:∀l',K (.ret (.il [a,x,y,s,b2 (bt 7 t),vv,b2 (decide (t=0)),c])) ⟨l',hT o P cs (some (.int a)) v k⟩):pSs (pW 8) H0 tlT ⟨l,hT o P cs (some (.int a)) v k⟩ K:=by
 refine wD (xE (zg q.t)) rfl ?_;refine Vh (v:=.int (b2 (bt 7 t))) (w:=.int (b2 (decide (t=0)))) (yl (ze (by rw[<- fZ ht];exact jX (zg q.t) zb aT) (ze (by rw[<- uk];exact JE (f:=fun b=>.int (cond b 1 0)) (yp (zg q.t) zb) zb zb) zY)) rfl) ?_
 refine gv (t:=.int t) ⟨?_,?_,?_,?_,?_,?_,?_,?_⟩ (h _)
 ·rw[zw (by decide),zw (by decide)];exact q.x
 ·rw[zw (by decide),zw (by decide)];exact q.y
 ·rw[zw (by decide),zw (by decide)];exact q.s
 ·exact j4
 ·rw[zw (by decide),zw (by decide)];exact q.v
 ·rw[zw (by decide)];exact j4
 ·rw[zw (by decide),zw (by decide)];exact q.c
 ·rw[zw (by decide),zw (by decide)];exact q.t
end
structure Gc(k:Nat)(C:Co)(v sd near:Int):Prop where
 a:isB C.a
 x:isB C.x
 y:isB C.y
 P:Bts C.P
 len:C.P.length=1536
 v:isB v
 s0:16<=C.s
 s1:C.s<=255
 s2:k=22->C.s<=254
 n0:1<=near
 n1:near<=60000
def Tk(k:Nat):Prop:=∀{o:O7} {C:Co} {v sd near:Int} {K:KF},Gc k C v sd near->(∀l cs ca,K (.ret (.il (st8 (eff v (sd%256) near k C)))) ⟨l,hT o (eff v (sd%256) near k C).P cs ca v k⟩) ->
 pSs (pW 8) H0 (brT k++tlT) ⟨LT C sd near,hT o C.P (some (.int (v%128))) (some (.int C.a)) v k⟩ K
theorem lnI(h:P.length=1536){u:Int}(h1:u<1536):u<P.length:=by rw[h];exact h1
theorem jU(x:Int):isB (x%256):=⟨Dq x (by decide),Int.emod_lt_of_pos x (by decide)⟩
section
variable {P:Pi}
theorem jq{e:IE}{i j:Int}(h:zu P H e O (.int i))(e':i=j):zu P H e O (.int j):=e'▸h
end
theorem k0':Tk 0:=fun{o C v sd near K} g hK=>yk (v:=.int ((C.x+1)%256)) (jq (zI (jZ (zO (zg rfl) zb) (jY zb (zq rfl) (by decide))) zb jE) (by lia)) zE zE (z9 (jU _) ⟨rfl,rfl,rfl,rfl,rfl,rfl,rfl,rfl⟩ fun l'=>hK l' _ _)
theorem k1':Tk 1:=fun{o C v sd near K} g hK=>yk (v:=.int ((C.x-1)%256)) (jq (zI (jZ (zO (zg rfl) zb) (jY zb (zq rfl) (by decide))) zb jE) (by lia)) zE zE (z9 (jU _) ⟨rfl,rfl,rfl,rfl,rfl,rfl,rfl,rfl⟩ fun l'=>hK l' _ _)
theorem k2':Tk 2:=fun{o C v sd near K} g hK=>yk (v:=.int ((C.y+1)%256)) (jq (zI (jZ (zO (zg rfl) zb) (jY zb (zq rfl) (by decide))) zb jE) (by lia)) zE zE (z9 (jU _) ⟨rfl,rfl,rfl,rfl,rfl,rfl,rfl,rfl⟩ fun l'=>hK l' _ _)
theorem k3':Tk 3:=fun{o C v sd near K} g hK=>yk (v:=.int ((C.y-1)%256)) (jq (zI (jZ (zO (zg rfl) zb) (jY zb (zq rfl) (by decide))) zb jE) (by lia)) zE zE (z9 (jU _) ⟨rfl,rfl,rfl,rfl,rfl,rfl,rfl,rfl⟩ fun l'=>hK l' _ _)
section
variable {o:O7}{ca:Option PV}{v:Int}{k:Nat}{l:List (Nat×PV)}
theorem qt(h:P.length=1536):zu (pW 8) H0 (.sub (.cel 283 4) (.cel 293 0)) ⟨l,hT o P (some (.int (v%128))) ca v k⟩ (.int (rd P (v%128))):=
 Uj (zq rfl) (zq rfl) rfl (jp v).1 (lnI h (Dk (jp v).2 (by decide))) (Dk (jp v).2 (by decide))
theorem XC{z:Int}(h:P.length=1536):Ta (pW 8) H0 (.sub (.cel 283 4) (.cel 293 0)) (.int z) ⟨l,hT o P (some (.int (v%128))) ca v k⟩ ⟨l,hT o (wr P (v%128) z) (some (.int (v%128))) ca v k⟩:=
 XD (P:=pW 8) (H:=H0) (O:=⟨l,hT o P (some (.int (v%128))) ca v k⟩) (j:=7) (u:=v%128) (w:=z) (xs:=P) (zq rfl) (zq rfl) rfl (jp v).1 (lnI h (Dk (jp v).2 (by decide))) (Dk (jp v).2 (by decide))
end
theorem k4':Tk 4:=fun{o C v sd near K} g hK=>yk (v:=.int ((rd C.P (v%128)+1)%256)) (jq (zI (jZ (zO (qt g.len) zb) (jY zb (zq rfl) (by decide))) zb jE) (by lia)) (XC g.len) zE (z9 (jU _) ⟨rfl,rfl,rfl,rfl,rfl,rfl,rfl,rfl⟩ fun l'=>hK l' _ _)
theorem k5':Tk 5:=fun{o C v sd near K} g hK=>yk (v:=.int ((rd C.P (v%128)-1)%256)) (jq (zI (jZ (zO (qt g.len) zb) (jY zb (zq rfl) (by decide))) zb jE) (by lia)) (XC g.len) zE (z9 (jU _) ⟨rfl,rfl,rfl,rfl,rfl,rfl,rfl,rfl⟩ fun l'=>hK l' _ _)
theorem sh7{a:Int}(h:isB a)(c:Bool):(2*a+b2 c)/256=b2 (bt 7 a):=by
 rw[<- fZ h]
 have:=QD c
 obtain⟨h0,h1⟩:=h
 lia
theorem k9':Tk 9:=fun{o C v sd near K} g hK=>qu (v:=.tup [.int (b2 (bt 7 C.a)),.int (2*C.a%256)]) (us:=[.int (b2 (bt 7 C.a)),.int (2*C.a%256)])
 (by rw[<- sh7 g.a false,show(2*C.a+b2 false)=2*C.a+0 from rfl,<- Ch (2*C.a),Ch (2*C.a+0)];exact bq (zO (jY zb (zq rfl) (by decide)) (qX (yp (zq rfl) zb) (fun h=>nomatch h) fun Z=>zb)) zb jE) rfl rfl (zD zE (zD (qw rfl) yw)) (qk (zq rfl) (z9 (jU _) ⟨rfl,rfl,rfl,rfl,rfl,rfl,rfl,rfl⟩ fun l'=>hK l' _ _))
theorem Af:Tk 11:=fun{o C v sd near K} g hK=>qu (v:=.tup [.int (b2 (bt 7 C.a)),.int ((2*C.a+b2 C.f.c)%256)]) (us:=[.int (b2 (bt 7 C.a)),.int ((2*C.a+b2 C.f.c)%256)])
 (by rw[<- sh7 g.a C.f.c];exact bq (zO (jY zb (zq rfl) (by decide)) (qX (yp (zq rfl) zb) (fun Z=>zg rfl) fun h=>nomatch h)) zb jE) rfl rfl (zD zE (zD (qw rfl) yw)) (qk (zq rfl) (z9 (jU _) ⟨rfl,rfl,rfl,rfl,rfl,rfl,rfl,rfl⟩ fun l'=>hK l' _ _))
theorem lo1(t:Int):t%2=b2 (bt 0 t):=by
 rw[yO]
 rcases Int.emod_two_eq t with h | h<;>rw[h]<;>rfl
theorem hlf{t:Int}(h:isB t):isB (t/2):=⟨by have:=h.1;exact zi (sU (zf this) rfl) rfl,by have:=h.2;exact Int.ediv_lt_of_lt_mul (of_decide_eq_true rfl) (zn (zz h.2) rfl)⟩
theorem Ae:Tk 10:=fun{o C v sd near K} g hK=>by
 have e:rd (wr C.P (v%128) (rd C.P (v%128)/2)) (v%128)=rd C.P (v%128)/2:=rw1 g.len (jp v).1 (Dk (jp v).2 (by decide))
 refine qu (v:=.tup [.int (rd C.P (v%128)/2),.int (b2 (bt 0 (rd C.P (v%128))))]) (us:=[.int (rd C.P (v%128)/2),.int (b2 (bt 0 (rd C.P (v%128))))]) (by rw[<- lo1];exact bq (qt g.len) zb pw2) rfl rfl (zD (XC g.len) (zD zE yw)) ?_
 exact qk (jq (qt (zB.trans g.len)) e) (z9 (hlf (g.P.rd _)) ⟨rfl,rfl,rfl,rfl,rfl,rfl,rfl,rfl⟩ fun l'=>hK l' _ _)
theorem Ag:Tk 12:=fun{o C v sd near K} g hK=>Vh (v:=.int (C.a/2+128*b2 C.f.c)) (w:=.int (b2 (bt 0 C.a))) (yl (ze (zO (jX (zq rfl) zb pw2) (jY zb (zg rfl) (by decide))) (ze (jq (zI (zq rfl) zb pw2) (lo1 _)) zY)) rfl)
 (ZK (zg rfl) rfl (z9 (Zm g.a.1 g.a.2 (QD _)) ⟨rfl,rfl,rfl,rfl,rfl,rfl,rfl,rfl⟩ fun l'=>hK l' _ _))
theorem Ah:Tk 13:=fun{o C v sd near K} g hK=>by
 refine jn (cmv g.a g.v) fun e1 e2 e3=>?_
 refine qk (v:=.int (C.a-v)) (jZ (qX (yp (zq rfl) zb) (fun Z=>zq rfl) fun h=>nomatch h) (zq rfl)) ?_
 refine Vh (v:=.int ((C.a-v)%256)) (w:=.int (b2 (decide (0<=C.a-v)))) (yl (ze (zI (zg rfl) zb jE) (ze (JE (f:=fun b=>.int (cond b 1 0)) (g8 (zg rfl) zb) zb zb) zY)) rfl) ?_
 refine z9 (jU _) ⟨rfl,rfl,rfl,rfl,rfl,rfl,rfl,rfl⟩ fun l'=>?_
 rw[e1,e2,e3];exact hK l' _ _
theorem Aw:Tk 26:=fun{o C v sd near K} g hK=>by
 refine jn (cmv g.x g.v) fun e1 e2 e3=>?_
 refine qk (v:=.int (C.x-v)) (jZ (qX (yp (zq rfl) zb) (fun h=>nomatch h) fun Z=>zg rfl) (zq rfl)) ?_
 refine Vh (v:=.int ((C.x-v)%256)) (w:=.int (b2 (decide (0<=C.x-v)))) (yl (ze (zI (zg rfl) zb jE) (ze (JE (f:=fun b=>.int (cond b 1 0)) (g8 (zg rfl) zb) zb zb) zY)) rfl) ?_
 refine z9 (jU _) ⟨rfl,rfl,rfl,rfl,rfl,rfl,rfl,rfl⟩ fun l'=>?_
 rw[e1,e2,e3];exact hK l' _ _
theorem Ak:Tk 16:=fun{o C v sd near K} g hK=>yk (zq rfl) zE zE (z9 g.a ⟨rfl,rfl,rfl,rfl,rfl,rfl,rfl,rfl⟩ fun l'=>hK l' _ _)
theorem Al:Tk 17:=fun{o C v sd near K} g hK=>yk (zg rfl) (qw rfl) zE (z9 g.y ⟨rfl,rfl,rfl,rfl,rfl,rfl,rfl,rfl⟩ fun l'=>hK l' _ _)
theorem An:Tk 19:=fun{o C v sd near K} g hK=>qk zb (JC ⟨rfl,rfl,rfl,rfl,rfl,rfl,rfl,rfl⟩ (hK _ _ _))
theorem Ao:Tk 20:=fun{o C v sd near K} g hK=>qk zb (JC ⟨rfl,rfl,rfl,rfl,rfl,rfl,rfl,rfl⟩ (hK _ _ _))
theorem Ap:Tk 21:=fun{o C v sd near K} g hK=>by
 have:=g.s0;have:=g.s1
 exact Xz (zq rfl) (zq rfl) (zO zb (zg rfl)) rfl (zi (zt (zf ‹_›)) rfl) (lnI g.len (zn (zt (zS this)) rfl)) (zn (zt (zS this)) rfl) (qk (jZ (zg rfl) zb) (JC ⟨rfl,rfl,rfl,rfl,rfl,rfl,rfl,rfl⟩ (hK _ _ _)))
theorem Aq:Tk 22:=fun{o C v sd near K} g hK=>by
 have:=g.s0;have:=g.s1
 exact qk (zO (zg rfl) zb) (yk (v:=.int (rd C.P (257+C.s))) (Uj (zq rfl) (jq (zO zb (zg rfl)) (by lia)) rfl (zi (zt (zf ‹_›)) rfl) (lnI g.len (zn (zt (zS this)) rfl)) (zn (zt (zS this)) rfl)) (qw rfl) zE (z9 (g.P.rd _) ⟨rfl,rfl,rfl,rfl,rfl,rfl,rfl,rfl⟩ fun l'=>hK l' _ _))
theorem Ar:Tk 23:=fun{o C v sd near K} g hK=>by
 have:=g.s0;have:=g.s1
 refine qu (us:=[.int ((near-1)/256),.int ((near-1)%256)]) (yl (ze (jX (jZ (zg rfl) zb) zb jE) (ze (zI (jZ (zg rfl) zb) zb jE) zY)) rfl) rfl rfl (zD (XD (zq rfl) (zO zb (zg rfl)) rfl (zi (zt (zf ‹_›)) rfl) (lnI g.len (zn (zt (zS this)) rfl)) (zn (zt (zS this)) rfl)) (zD (XD (zq rfl) (zO zb (zg rfl)) rfl (zi (zt (zf ‹_›)) rfl) (lnI (zB.trans g.len) (zn (zt (zS this)) rfl)) (zn (zt (zS this)) rfl)) yw)) ?_;exact yk (zI (zO (zg rfl) zb) zb jE) zE zE (z9 (jU _) ⟨rfl,rfl,rfl,rfl,rfl,rfl,rfl,rfl⟩ fun l'=>hK l' _ _)
theorem Au:Tk 24:=fun{o C v sd near K} g hK=>Xz (zg rfl) (zq rfl) (zq rfl) rfl (jp v).1 (lnI g.len (Dk (jp v).2 (by decide))) (Dk (jp v).2 (by decide)) (JC ⟨rfl,rfl,rfl,rfl,rfl,rfl,rfl,rfl⟩ (hK _ _ _))
theorem Av:Tk 25:=fun{o C v sd near K} g hK=>yk (zq rfl) zE zE (z9 g.v ⟨rfl,rfl,rfl,rfl,rfl,rfl,rfl,rfl⟩ fun l'=>hK l' _ _)
theorem Ay:Tk 28:=fun{o C v sd near K} g hK=>by
 obtain⟨v0,v1⟩:=g.v;obtain⟨x0,x1⟩:=g.x;exact Xz (zq rfl) (zq rfl) (zO (zO zb (zq rfl)) (zg rfl)) rfl (zi (zN (zt (zf v0)) (zf x0)) rfl) (lnI g.len (zn (zN (zt (zz v1)) (zz x1)) rfl)) (zn (zN (zt (zz v1)) (zz x1)) rfl) (JC ⟨rfl,rfl,rfl,rfl,rfl,rfl,rfl,rfl⟩ (hK _ _ _))
theorem Ax:Tk 27:=fun{o C v sd near K} g hK=>by
 obtain⟨v0,v1⟩:=g.v;obtain⟨x0,x1⟩:=g.x;exact yk (v:=.int (rd C.P (512+v+C.x))) (Uj (zq rfl) (jq (zO zb (qX (yp (zq rfl) zb) (fun Z=>zO (zq rfl) (zg rfl)) fun h=>nomatch h)) (by lia)) rfl (zi (zN (zt (zf v0)) (zf x0)) rfl) (lnI g.len (zn (zN (zt (zz v1)) (zz x1)) rfl)) (zn (zN (zt (zz v1)) (zz x1)) rfl)) (qw rfl) zE (z9 (g.P.rd _) ⟨rfl,rfl,rfl,rfl,rfl,rfl,rfl,rfl⟩ fun l'=>hK l' _ _)
theorem Az:Tk 29:=fun{o C v sd near K} g hK=>by
 obtain⟨y0,y1⟩:=g.y;have q:=jU sd;obtain⟨q0,q1⟩:=q;exact yk (v:=.int (rd C.P (512+sd%256+C.y))) (Uj (zq rfl) (jq (zO zb (qX (yp (zq rfl) zb) (fun h=>nomatch h) fun Z=>zO (zI (zg rfl) zb jE) (zg rfl))) (by lia)) rfl (zi (zN (zt (zf q0)) (zf y0)) rfl) (lnI g.len (zn (zN (zt (zz q1)) (zz y1)) rfl)) (zn (zN (zt (zz q1)) (zz y1)) rfl)) (qw rfl) zE (z9 (g.P.rd _) ⟨rfl,rfl,rfl,rfl,rfl,rfl,rfl,rfl⟩ fun l'=>hK l' _ _)
theorem jL:∀(xs:List Int),jy (xs.map .int)=some xs
 | []=>rfl
 | x::xs=>by
  show(jy (xs.map .int)).map (x :: ·)=_
  rw[jL xs];rfl
section
theorem cw_up{Wv:PV->PS->KE->Prop}{g:Nat->PV}{κ:List PV->PS->Prop}:∀(n i:Nat) (acc:List PV),(∀j:Nat,j<i+n->∀κ:KE,κ (g j) O->Wv (.int (j:Int)) O κ)->κ (acc++(List.range' i n).map g) O->qZ Wv (ji (i:Int) n) acc O κ
 | 0,i,acc,_,h=>by rw[show(List.range' i 0).map g = [] from rfl,Cn] at h;exact h
 | n+1,i,acc,hw,h=>by
  refine hw i (by lia) _ ?_
  refine cw_up n (i+1) (acc ++ [g i]) (fun j hj=>hw j (by lia)) ?_
  rw[Br];exact h
theorem nf{Wv:PV->PV->PS->KE->Prop}{f g:Nat->PV}{κ:List PV->PS->Prop}:∀(n i:Nat) (acc:List PV),(∀j:Nat,j<i+n->∀κ:KE,κ (g j) O->Wv (.int (j:Int)) (f j) O κ)->κ (acc++(List.range' i n).map g) O->Z3 Wv i ((List.range' i n).map f) acc O κ
 | 0,i,acc,_,h=>by rw[show(List.range' i 0).map g = [] from rfl,Cn] at h;exact h
 | n+1,i,acc,hw,h=>by
  show Wv (.int (i:Int)) (f i) O _;refine hw i (by lia) _ ?_
  refine nf n (i+1) (acc ++ [g i]) (fun j hj=>hw j (by lia)) ?_
  rw[Br];exact h
theorem dG{Wc:PV->PS->KB->Prop}{Wv:PV->PS->KE->Prop}{p:Nat->Bool}{κ:List PV->PS->Prop}:∀(n i:Nat) (acc:List Int),(∀j:Nat,j<i+n->∀κ:KB,κ (p j) O->Wc (.int (j:Int)) O κ)->(∀u:PV,∀κ:KE,κ u O->Wv u O κ)->κ ((acc++((List.range' i n).filter p).map fun j:Nat=>(j:Int)).map .int) O->UA Wc Wv (ji (i:Int) n) (acc.map .int) O κ
 | 0,i,acc,_,_,h=>by rw[show(List.range' i 0).filter p = [] from rfl,List.map_nil,Cn] at h;exact h
 | n+1,i,acc,hc,hv,h=>by
  refine hc i (by lia) _ ?_
  have e:(List.range' i (n+1)).filter p=cond (p i) (i::(List.range' (i+1) n).filter p) ((List.range' (i+1) n).filter p):=by
   rw[show List.range' i (n+1)=i::List.range' (i+1) n from rfl,List.filter_cons]
   cases p i<;>rfl
  rw[e] at h
  cases hp:p i with
  | true =>
   rw[hp] at h;refine hv _ _ ?_
   have:=dG (Wc:=Wc) (Wv:=Wv) (κ:=κ) n (i+1) (acc ++ [(i:Int)]) (fun j hj=>hc j (by lia)) hv (by rw[Br];exact h)
   rw[Da] at this;exact this
  | false =>
   rw[hp] at h;exact dG n (i+1) acc (fun j hj=>hc j (by lia)) hv h
end
section
variable {P:Pi}{e t:IE}{u:Int}{v:PV}
theorem lt8{Q:Nat->Prop}(h:Q 0/\Q 1/\Q 2/\Q 3/\Q 4/\Q 5/\Q 6/\Q 7):∀j,j<8->Q j
 | 0,_=>h.1 | 1,_=>h.2.1 | 2,_=>h.2.2.1 | 3,_=>h.2.2.2.1 | 4,_=>h.2.2.2.2.1 | 5,_=>h.2.2.2.2.2.1 | 6,_=>h.2.2.2.2.2.2.1 | 7,_=>h.2.2.2.2.2.2.2
 | _+8,h=>absurd h (by lia)
theorem qh(h:lk x P.cvs=some v):zu P H (.cv x) O v:=fun κ hκ=>by
 show opt (lk x P.cvs) _;rw[h];exact hκ
theorem hJ(hj:j<8)(h:zu P H e O (.int (j:Int))):zu P H (.bin .i .Pow (.int 2) e) O (.int (2 ^ j)):=fun κ hκ=>h _ (by
 show cond (small (j:Int)) ((2:Int).natAbs<2 ^ 64/\κ (.int (kz 2 (j:Int))) O) False;rw[show small (j:Int)=true from Ds (yD (lV hj) rfl),WK,Dl]
 exact⟨by decide,hκ⟩)
theorem sR(hj:j<8):PwA (2 ^ j):=lt8 (Q:=fun j=>PwA (2 ^ j)) ⟨⟨rfl,by decide,by decide⟩,⟨rfl,by decide,by decide⟩,⟨rfl,by decide,by decide⟩,⟨rfl,by decide,by decide⟩,⟨rfl,by decide,by decide⟩,⟨rfl,by decide,by decide⟩,⟨rfl,by decide,by decide⟩,⟨rfl,by decide,by decide⟩⟩ j hj
theorem Ut(j:Nat)(t:Int):t/2 ^ j%2=b2 (bt j t):=by
 unfold bt
 rcases Int.emod_two_eq (t/2 ^ j) with h | h<;>rw[h]<;>rfl
theorem XH{p:IE}(hj:j<8)(h:zu P H e O (.int u))(h2:zu P H p O (.int (j:Int))):zu P H (.bin .i .Mod (.bin .i .FloorDiv e (.bin .i .Pow (.int 2) p)) (.int 2)) O (.int (b2 (bt j u))):=
 jq (zI (jX h (hJ hj h2) (sR hj)) zb pw2) (Ut j u)
theorem mX{us:List PV}{xs:List Int}(h:zu P H e O (.tup us))(hi:jy us=some xs):zu P H (.blt .sumT x [e]) O (.int xs.sum):=fun κ hκ=>h _ (by
 show opt (jy us) _;rw[hi];exact hκ)
theorem hF{big:Bool}{a b:Int}(h:zu P H e O (.tup [.int a,.int b])):zu P H (.blt (cond big .maxT .minT) x [e]) O (.int (cond big (if b>a then b else a) (if b<a then b else a))):=fun κ hκ=>by
 induction big<;>exact h _ hκ
theorem ZV{xs:List Int}(h:zu P H e O (.il xs)):zu P H (.blt .sum x [e]) O (.int xs.sum):=fun κ hκ=>h _ hκ
theorem me{g:Nat->PV}{k:KF}(h:∀j:Nat,j<8->zu (P.cv x (.int (j:Int))) H e O (g j))(hk:pSs P H is ⟨st z (.ls ((List.range' 0 8).map g)) O.loc,O.hp⟩ k):pSs P H (.rowT z x e y [.int 8]::is) O k:=
 (show(0<=(8:Int)/\(8:Int)<=100000)/\qZ (fun v=>pE (P.cv x v) H e) (ji 0 8) [] O (fun us B6=>B6.slC z (.ls us) fun C7=>pSs P H is C7 k) from⟨⟨by decide,by decide⟩,cw_up 8 0 [] (fun j hj=>h j hj) (zJ.mpr hk)⟩)
theorem g9{f:Nat->PV}{g:Nat->Int}{it:IE}(hi:zu P H it O (.ls ((List.range' 0 8).map f)))(hf:QJ ((List.range' 0 8).map f)=true)(h:∀j:Nat,j<8->zu (P.cv2 x (.int (j:Int)) y (f j)) H e O (.int (g j))):zu P H (.compE false x y e z [it]) O (.il ((List.range' 0 8).map g)):=fun κ hκ=>hi _ ⟨⟨hf,show 8<=100000 by decide⟩,nf (g:=fun j=>.int (g j)) 8 0 [] (fun j hj=>h j hj) (by
 show cond (Nat.ble 8 1000) (U7 false ([]++(List.range' 0 8).map fun j=>PV.int (g j)) O κ) False
 unfold U7;rw[List.nil_append,show((List.range' 0 8).map fun j=>PV.int (g j))=((List.range' 0 8).map g).map .int by rw[List.map_map];rfl,jL]
 exact hκ)⟩
theorem g7{p:Nat->Bool}(h:∀j:Nat,j<8->yz (P.cv x (.int (j:Int))) H t O (p j)):yz P H (.compT false x t (.cv x) y [.int 8]) O (!((List.range' 0 8).filter p).isEmpty):=fun κ hκ =>
 (show(0<=(8:Int)/\(8:Int)<=100000)/\UA (fun v=>pT (P.cv x v) H t) (fun v=>pE (P.cv x v) H (.cv x)) (ji 0 8) [] O (fun us B6=>q6 false us B6 fun a B4=>ju a B4 κ) from⟨⟨by decide,by decide⟩,dG (p:=p) 8 0 [] (fun j hj=>h j hj) (fun u κ hκ=>by
  show opt (cond (Nat.beq x x) (some u) none) _;rw[show Nat.beq x x=true from De x];exact hκ) (by
  have hl:((List.range' 0 8).filter p).length<=8:=List.length_filter_le p (List.range' 0 8);rw[List.nil_append];show cond (Nat.ble _ 1000) (U7 false _ O _) False;rw[Cm,Cm,Ds (Dc hl (by decide))]
  unfold U7;rw[jL]
  refine⟨by rw[Cm];exact Dc hl (by decide),?_⟩
  rw[show(((List.range' 0 8).filter p).map fun j:Nat=>(j:Int)).isEmpty=((List.range' 0 8).filter p).isEmpty by cases (List.range' 0 8).filter p<;>rfl]
  exact hκ)⟩)
end
theorem cX{R:Int}(h:isB R):((List.range' 0 8).map fun j=>b2 (bt j R)*2 ^ j).sum=R:=by
 have e:=K5 h.1 h.2;show b2 (bt 0 R)*1+(b2 (bt 1 R)*2+(b2 (bt 2 R)*4+(b2 (bt 3 R)*8+(b2 (bt 4 R)*16+(b2 (bt 5 R)*32+(b2 (bt 6 R)*64+(b2 (bt 7 R)*128+0)))))))=R
 lia
theorem pN{k:Nat}{o:O7}{C:Co}{v:Int}{K:KF}{f:Bool->Bool->Bool}{R:Int}(e:brT k=brT 6)(hk:6<=k)(hk2:k<9)(g:Gc k C v sd near)(hR:isB R)(hb:∀j,bt j R=f (bt j C.a) (bt j v))
  (hf:∀A B,([(b2 A+(b2 B+0))%2,cond true (if b2 B>b2 A then b2 B else b2 A) (if b2 B<b2 A then b2 B else b2 A),cond false (if b2 B>b2 A then b2 B else b2 A) (if b2 B<b2 A then b2 B else b2 A)]:List Int).getD (k-6) 0=b2 (f A B))
  (hK:∀l cs,K (.ret (.il [R,C.x,C.y,C.s,b2 (bt 7 R),b2 C.f.v,b2 (decide (R=0)),b2 C.f.c])) ⟨l,hT o C.P cs (some (.int R)) v k⟩):pSs (pW 8) H0 (brT k++tlT) ⟨LT C sd near,hT o C.P (some (.int (v%128))) (some (.int C.a)) v k⟩ K:=by
 rw[e];refine me (g:=fun j=>.tup [.int (b2 (bt j C.a)),.int (b2 (bt j v))]) (fun j hj=>yl (ze (XH hj (zq rfl) (qh rfl)) (ze (XH hj (zq rfl) (qh rfl)) zY)) rfl) ?_
 refine yk (v:=.int R) (jq (ZV (g9 (g:=fun j=>b2 (bt j R)*2 ^ j) (zg rfl) rfl fun j hj=>?_)) (cX hR)) (qw rfl) zE (z9 hR ⟨rfl,rfl,rfl,rfl,rfl,rfl,rfl,rfl⟩ fun l'=>hK l' _)
 have hp:∀{c:Bool},(b2 c).natAbs<2 ^ 62:=fun{c}=>by induction c<;>decide
 rw[hb j,<- hf];refine jY (nZ (k:=k-6) (xs:=[(b2 (bt j C.a)+(b2 (bt j v)+0))%2,cond true (if b2 (bt j v)>b2 (bt j C.a) then b2 (bt j v) else b2 (bt j C.a)) (if b2 (bt j v)<b2 (bt j C.a) then b2 (bt j v) else b2 (bt j C.a)),cond false (if b2 (bt j v)>b2 (bt j C.a) then b2 (bt j v) else b2 (bt j C.a)) (if b2 (bt j v)<b2 (bt j C.a) then b2 (bt j v) else b2 (bt j C.a))]) (j9 (ze (zI (mX (qh rfl) rfl) zb pw2) (ze (hF (big:=true) (qh rfl)) (ze (hF (big:=false) (qh rfl)) zY))) rfl rfl) (jq (jZ (zq rfl) zb) (by lia)) (show k-6<3 by lia) (show 3<2 ^ 62 by decide)) (hJ hj (qh rfl)) (by rw[hf];exact hp)
theorem k6':Tk 6:=fun{o C v sd near K} g hK=>pN (f:=fun A B=>A !=B) rfl (by decide) (by decide) g (qS g.a g.v) (fun j=>yY j _ _) (fun A B=>by induction A<;>induction B<;>rfl) fun l cs=>hK l cs _
theorem k7':Tk 7:=fun{o C v sd near K} g hK=>pN (f:=fun A B=>A||B) rfl (by decide) (by decide) g (UZ g.a g.v) (fun j=>Vw j _ _) (fun A B=>by induction A<;>induction B<;>rfl) fun l cs=>hK l cs _
theorem k8':Tk 8:=fun{o C v sd near K} g hK=>pN (f:=fun A B=>A&&B) rfl (by decide) (by decide) g (qR g.a) (fun j=>jV j _ _) (fun A B=>by induction A<;>induction B<;>rfl) fun l cs=>hK l cs _
section
variable {P:Pi}{e l r t:IE}{u i j:Int}
theorem g6(h1:zu P H l O (.int i))(h2:zu P H e O (.int u))(h3:zu P H r O (.int j)):yz P H (.chain .Lt .Lt l e r) O (decide (i<u)&&decide (u<j)):=fun κ hκ=>h1 _ (h2 _ (by
 show cond (decide (i<u)) (pE P H r O _) (κ false O)
 cases hd:decide (i<u) with
 | true=>rw[hd] at hκ;exact h3 _ hκ
 | false=>rw[hd] at hκ;exact hκ))
theorem cu{g:Int->Int}{it:IE}(hi:zu P H it O (.il [i,j]))(h:∀u,zu (P.cv x (.int u)) H e O (.int (g u))):zu P H (.compL false x e it) O (.il [g i,g j]):=fun κ hκ=>hi _ ⟨⟨rfl,show 2<=100000 by decide⟩,h i _ (h j _ hκ)⟩
end
noncomputable def sg(u:Int):Int:=cond (decide (127<u)) (u-256) u
theorem sgF:∀i:Fin 512,∀p q:Bool,decide (cond p (128:Int) 0+cond q 128 0<=(i.val:Int))=true->decide ((i.val:Int)<=cond p 255 127+cond q 255 127+1)=true->(cond (decide (-129<(i.val:Int)-256*(b2 p+b2 q))&&decide ((i.val:Int)-256*(b2 p+b2 q)<128)) 0 1:Int)=b2 ((p==q)&&(p !=bt 7 (i.val:Int))):=by decide +kernel
theorem sgA:∀i:Fin 256,cond (bt 7 (i.val:Int)) (128:Int) 0<=i.val/\(i.val:Int)<=cond (bt 7 (i.val:Int)) 255 127/\sg i.val=i.val-256*b2 (bt 7 (i.val:Int)):=by decide +kernel
theorem sgn{a d:Int}(ha:isB a)(hd:isB d)(c:Bool):(cond (decide (-129<sg a+(sg d+0)+b2 c)&&decide (sg a+(sg d+0)+b2 c<128)) 0 1:Int)=b2 (ovA a d (a+d+b2 c)):=by
 have c1:=QD c;have h1:=Ka (P:=fun a=>cond (bt 7 a) (128:Int) 0<=a/\a<=cond (bt 7 a) 255 127/\sg a=a-256*b2 (bt 7 a)) sgA ha.1 ha.2
 have h2:=Ka (P:=fun a=>cond (bt 7 a) (128:Int) 0<=a/\a<=cond (bt 7 a) 255 127/\sg a=a-256*b2 (bt 7 a)) sgA hd.1 hd.2
 have e:sg a+(sg d+0)+b2 c=a+d+b2 c-256*(b2 (bt 7 a)+b2 (bt 7 d)):=by
  rw[h1.2.2,h2.2.2];generalize b2 (bt 7 a)=x;generalize b2 (bt 7 d)=y;generalize b2 c=z;clear h1 h2 c1 ha hd
  lia
 rw[e];refine Ka (P:=fun t=>decide (cond (bt 7 a) (128:Int) 0+cond (bt 7 d) 128 0<=t)=true->decide (t<=cond (bt 7 a) 255 127+cond (bt 7 d) 255 127+1)=true->(cond (decide (-129<t-256*(b2 (bt 7 a)+b2 (bt 7 d)))&&decide (t-256*(b2 (bt 7 a)+b2 (bt 7 d))<128)) 0 1:Int)=b2 ((bt 7 a==bt 7 d)&&(bt 7 a !=bt 7 t))) (fun i=>sgF i _ _) (zi (zN (zN (zf ha.1) (zf hd.1)) (zf c1.1)) rfl) (zn (zN (zN (zz ha.2) (zz hd.2)) (zS c1.2)) rfl) (decide_eq_true ?_) (decide_eq_true ?_)
 ·exact Dp (Int.add_le_add h1.1 h2.1) (Int.le_add_of_nonneg_right c1.1)
 ·exact Int.add_le_add (Int.add_le_add h1.2.1 h2.2.1) c1.2
theorem cy{r:Int}(h0:0<=r)(h1:r<512):r/256=b2 (decide (255<r)):=by
 by_cases h:255<r
 ·rw[decide_eq_true h];show _=(1:Int);lia
 ·rw[decide_eq_false h];show _=(0:Int);lia
theorem vj{k:Nat}{o:O7}{C:Co}{v d:Int}{K:KF}(e:brT k=brT 14)(g:Gc k C v sd near)(hd:isB d)(hE:zu (pW 8) H0 (.ite (.cmp .i .Eq (.cel 276 3) (.int 14)) (.bin .i .Sub (.int 255) (.cel 40 2)) (.sub (.cel 283 4) (.cel 293 0))) ⟨LT C sd near,hT o C.P (some (.int (v%128))) (some (.int C.a)) v k⟩ (.int d))
  (hK:∀l cs,K (.ret (.il [(C.a+d+b2 C.f.c)%256,C.x,C.y,C.s,b2 (bt 7 ((C.a+d+b2 C.f.c)%256)),b2 (ovA C.a d (C.a+d+b2 C.f.c)),b2 (decide ((C.a+d+b2 C.f.c)%256=0)),b2 (decide (255<C.a+d+b2 C.f.c))])) ⟨l,hT o C.P cs (some (.int ((C.a+d+b2 C.f.c)%256))) v k⟩):pSs (pW 8) H0 (brT k++tlT) ⟨LT C sd near,hT o C.P (some (.int (v%128))) (some (.int C.a)) v k⟩ K:=by
 have c1:=QD C.f.c;have a0:=g.a.1;have a1:=g.a.2;have d0:=hd.1;have d1:=hd.2;rw[e];refine qk hE ?_;refine qk (v:=.int (sg C.a+(sg d+0)+b2 C.f.c)) (zO (ZV (xs:=[sg C.a,sg d]) (cu (g:=sg) (j9 (xs:=[C.a,d]) (ze (zq rfl) (ze (zg rfl) zY)) rfl rfl) fun u=>JE (f:=fun b=>.int (cond b (u-256) u)) (xB (qh rfl) zb) (jZ (qh rfl) zb) (qh rfl))) (zg rfl)) ?_
 refine qk (v:=.int (b2 (ovA C.a d (C.a+d+b2 C.f.c)))) (jq (JE (f:=fun b=>.int (cond b 0 1)) (g6 (hG zb) (zg rfl) zb) zb zb) (sgn g.a hd C.f.c)) ?_
 refine qu (v:=.tup [.int (b2 (decide (255<C.a+d+b2 C.f.c))),.int ((C.a+d+b2 C.f.c)%256)]) (us:=[.int (b2 (decide (255<C.a+d+b2 C.f.c))),.int ((C.a+d+b2 C.f.c)%256)]) (by rw[<- cy (zi (zN (zN (zf a0) (zf hd.1)) (zf c1.1)) rfl) (zn (zN (zN (zz a1) (zz hd.2)) (zS c1.2)) rfl)];exact bq (zO (zO (zq rfl) (zg rfl)) (zg rfl)) zb jE) rfl rfl (zD zE (zD (qw rfl) yw)) ?_
 exact qk (zq rfl) (z9 (jU _) ⟨rfl,rfl,rfl,rfl,rfl,rfl,rfl,rfl⟩ fun l'=>hK l' _)
theorem Ai:Tk 14:=fun{o C v sd near K} g hK=>vj rfl g (iu g.v) (qX (yp (zq rfl) zb) (fun Z=>jZ zb (zq rfl)) fun h=>nomatch h) fun l cs=>by
 rw[ov1 g.v];exact hK l cs _
theorem Aj:Tk 15:=fun{o C v sd near K} g hK=>vj rfl g (g.P.rd (v%128)) (qX (yp (zq rfl) zb) (fun h=>nomatch h) fun Z=>qt g.len) fun l cs=>hK l cs _
theorem uI{a p:Int}(ha:isB a):(cond (!((List.range' 0 8).filter fun j=>bt j a&&bt j p).isEmpty) 0 1:Int)=b2 (decide (zx a p=0)):=by
 have hb:isB (zx a p):=qR ha
 cases h:((List.range' 0 8).filter fun j=>bt j a&&bt j p).isEmpty with
 | true =>
  have hn:=List.isEmpty_iff.mp h;have z:zx a p=0:=io hb ⟨by decide,by decide⟩ fun j hj=>by
   rw[jV]
   have:=List.filter_eq_nil_iff.mp hn j (List.mem_range'_1.mpr ⟨Nat.zero_le j,hj⟩)
   rw[Bool.not_eq_true] at this;rw[this];exact(lt8 (Q:=fun j=>false=bt j 0) ⟨by decide,by decide,by decide,by decide,by decide,by decide,by decide,by decide⟩ j hj)
  rw[decide_eq_true z];rfl
 | false =>
  have nz:¬zx a p=0:=fun z=>by
   have hn:((List.range' 0 8).filter fun j=>bt j a&&bt j p) = []:=List.filter_eq_nil_iff.mpr fun j hj=>by
    rw[<- jV,z];have hj:=(List.mem_range'_1.mp hj).2;rw[<- (lt8 (Q:=fun j=>false=bt j 0) ⟨by decide,by decide,by decide,by decide,by decide,by decide,by decide,by decide⟩ j hj)]
    exact Bool.false_ne_true
   rw[hn] at h;cases h
  rw[decide_eq_false nz];rfl
theorem xx(A B:Bool):(b2 A+b2 B==2)=(A&&B):=by induction A<;>induction B<;>rfl
theorem Am:Tk 18:=fun{o C v sd near K} g hK=>by
 have hp:=g.P.rd (v%128);refine Vh (v:=.int (b2 (bt 7 (rd C.P (v%128))))) (w:=.int (b2 (bt 6 (rd C.P (v%128))))) (yl (ze (jq (jX (qt g.len) zb aT) (fZ hp)) (ze (jq (zI (jX (qt g.len) zb (pwL rfl (by decide) (by decide))) zb pw2) (Ut 6 _)) zY)) rfl) ?_
 refine qk (v:=.int (b2 (decide (zx C.a (rd C.P (v%128))=0)))) (jq (JE (f:=fun b=>.int (cond b 0 1)) (g7 (p:=fun j=>bt j C.a&&bt j (rd C.P (v%128))) fun j hj=>?_) zb zb) (uI g.a)) (JC ⟨rfl,rfl,rfl,rfl,rfl,rfl,rfl,rfl⟩ (hK _ _ _))
 rw[<- xx];exact yp (zO (XH hj (zq rfl) (qh rfl)) (XH hj (qt g.len) (qh rfl))) zb
theorem tN{k:Nat}(h:k<30):Tk k:=
 i30 (P:=Tk) k0' k1' k2' k3' k4' k5' k6' k7' k8' k9' Ae Af Ag Ah Ai Aj Ak Al Am An Ao Ap Aq Ar Au Av Aw Ax Ay Az h
theorem VM{n:Nat}:∀{xs:List α},xs.length=n+1->∃a r,xs=a::r/\r.length=n
 | [],h=>nomatch h
 | a::r,h=>⟨a,r,rfl,Nat.succ.inj h⟩
theorem AG{xs:List α}(h:xs.length=6):∃a b c d e f,xs = [a,b,c,d,e,f]:=by
 exact jj (VM h) fun a r1 e1 h1=>jj (VM h1) fun b r2 e2 h2=>jj (VM h2) fun c r3 e3 h3=>jj (VM h3) fun d r4 e4 h4=>jj (VM h4) fun e r5 e5 h5=>jj (VM h5) fun f r6 e6 h6=>(zk a b c (zk d e f (e1.trans (congrArg (a :: ·) (e2.trans (congrArg (b :: ·) (e3.trans (congrArg (c :: ·) (e4.trans (congrArg (d :: ·) (e5.trans (congrArg (e :: ·) (e6.trans (congrArg (f :: ·) (List.eq_nil_of_length_eq_zero h6)))))))))))))))
theorem oj{K:Frag}{nm:Nat->Str}{l o p q:Nat}(h:∀u v w x y z S,peek K S (bindArgs fd ⟨[u,v,w,x,y,z],[]⟩)=some [(nm i,u),(nm j,v),(nm l,w),(nm o,x),(nm p,y),(nm q,z)])(s:Shared)(aws:List Value)(hK:K.In s.heap)(hl:aws.length = [i,j,l,o,p,q].length):BindsTo s fd (Q0 aws) (([i,j,l,o,p,q].map nm).zip aws):=by
 refine zh (AG hl) fun u v w Ee=>zh Ee fun x y z Cd=>?_;subst Cd
 exact kp_binds hK (h u v w x y z)
noncomputable def hp8(o:O7)(P:Mem):List PO:=[o.o0,o.o1,o.o2,o.o3,o.o4,o.o5,o.o6,.il P]
noncomputable def cH:Sp:=fun args hp k=>∃(o:O7) (C:Co) (v sd near:Int) (n:Nat),args = [.il (st8 C),.ref 7,.int (n:Int),.int v,.int near,.int sd]/\hp=hp8 o C.P/\n<30/\Gc n C v sd near /\ ∀cs ca,k (.il (st8 (eff v (sd%256) near n C))) (hT o (eff v (sd%256) near n C).P cs ca v n)
theorem ph:∀args hp k,cH args hp k->VE [284,283,276,40,272,265] cT (fun n=>pSs (pW n) H0 zX) args hp k:=by
 rintro args hp k ⟨o,C,v,sd,near,n,rfl,rfl,hn,g,hk⟩
 refine⟨rfl,?_⟩
 exact hdT (tN hn g fun l cs ca=>hk cs ca)
noncomputable def cw:Sp:=fun args hp k=>∃(o:O7) (C:Co) (v sd near:Int) (n:Nat),args = [.il (st8 C),.ref 7,.int (n:Int),.int v,.int near,.int sd]/\hp=hp8 o C.P/\n<30/\Gc n C v sd near/\k (.il (st8 (eff v (sd%256) near n C))) (hp8 o (eff v (sd%256) near n C).P)
theorem Jf{n:Nat}{P P':Mem}:∀{l:List PO},POs.bdd n (l ++ [.il P])->POs.bdd n (l ++ [.il P'])
 | [],_=>trivial
 | .inst _::r,h=>⟨h.1,Jf (l:=r) h.2⟩
 | .ls _::r,h=>⟨h.1,Jf (l:=r) h.2⟩
 | .cell (some _)::r,h=>⟨h.1,Jf (l:=r) h.2⟩
 | .cell none::r,h=>Jf (l:=r) h
 | .il _::r,h=>Jf (l:=r) h
 | .gone::r,h=>Jf (l:=r) h
 | .tab _::r,h=>Jf (l:=r) h
noncomputable def fl(fill:List Int)(u:Int):Int:=cond (decide (0<=u)) u (fill.getD (-u-1).toNat 0)
noncomputable def pF(n:Nat):Pi:=piM (Uy 0 [277]) n (fun Z=>none) (fun Z Z Z=>False)
noncomputable def cG:Sp:=fun args hp k=>∃(b:Addr) (fill xs:List Int),args = [.top b,.il fill]/\Jv b=xs.map .int/\xs ≠ []/\xs.length<=1000/\fill.length=4/\(∀u∈xs,-4<=u)/\k (.il (xs.map (fl fill))) (hp ++ [.cell (some (.il fill))])
theorem cw_list{Wv:PV->PS->KE->Prop}{g:Int->Int}{O:PS}{κ:List PV->PS->Prop}:∀(xs ys:List Int),(∀u∈xs,∀κ:KE,κ (.int (g u)) O->Wv (.int u) O κ)->κ ((ys++xs.map g).map .int) O->qZ Wv (xs.map .int) (ys.map .int) O κ
 | [],ys,_,h=>by rw[List.map_nil,Cn] at h;exact h
 | u::xs,ys,hw,h=>hw u (.head _) _ (by
  have:=cw_list (Wv:=Wv) (g:=g) (κ:=κ) (O:=O) xs (ys ++ [g u]) (fun x hx=>hw x (.tail _ hx)) (by rw[Br];exact h)
  rw[Da] at this;exact this)
theorem pb:∀args hp k,cG args hp k->VE [300,277] [277] (fun n=>pSs (pF n) H0 yi) args hp k:=by
 rintro args hp k ⟨b,fill,xs,rfl,ht,hx,hl,hf,hu,hk⟩
 refine⟨rfl,?_⟩
 have g:=aD (hp:=hp) (o:=.cell (some (.il fill)));show pSs (pF hp.length) H0 yi ⟨[(300,.top b)],hp ++ [.cell (some (.il fill))]⟩ _;delta yi;refine gx (v:=.il (xs.map (fl fill))) (fun κ hκ=>?_) hk
 show cond (Jv b).isEmpty False ((Jv b).length<=100000/\qZ _ (Jv b) [] _ _);rw[ht];have he:(xs.map PV.int).isEmpty=false:=by induction xs with | nil=>exact absurd rfl hx | cons=>rfl
 rw[he]
 refine⟨by rw[Cm];exact yD hl rfl,?_⟩
 refine cw_list (g:=fl fill) xs [] (fun u hm=>?_) ?_
 ·refine qX (c:=decide (0<=u)) (v:=.int (fl fill u)) (g8 (qh rfl) zb) (fun e=>?_) (fun e=>?_)
  ·exact jq (i:=u) (qh rfl) (by unfold fl;rw[e];rfl)
  ·have h4:=hu u hm
   have h0:u<0:=by have:=of_decide_eq_false e;exact Int.not_le.mp this
   refine jq (nZ (k:=(-u-1).toNat) (xs:=fill) (zq (by show(hp++_)[hp.length+0]?=_;rw[Nat.add_zero];exact g)) (jq (jZ (hG (qh rfl)) zb) (Int.toNat_of_nonneg (by lia)).symm) (by lia) (by rw[hf];decide)) (by unfold fl;rw[e];rfl)
 ·show cond (Nat.ble _ 1000) (U7 false _ _ _) False
  rw[Cm,List.nil_append,Cm,Ds hl];unfold U7;rw[jL];exact hκ
noncomputable def Y3:Sp:=fun args hp k=>∃(b:Addr) (fill xs:List Int),args = [.top b,.il fill]/\Jv b=xs.map .int/\xs ≠ []/\xs.length<=1000/\fill.length=4/\(∀u∈xs,-4<=u)/\k (.il (xs.map (fl fill))) hp
@[irreducible] noncomputable def zK:Hd:=((H6.or H6.sw).cut 1533 Y3).cut 1528 cw
section
variable {args:List PV}{k:PV->List PO->Prop}
theorem ku(h:cw args hp k):zK 1528 args hp k:=by unfold zK;exact h
theorem ao(h:Y3 args hp k):zK 1533 args hp k:=by unfold zK;exact h
theorem pD(h:Ul args hp k):zK 43 args hp k:=by unfold zK;exact .inl h
theorem pG(h:H6.sw 43 args hp k):zK 43 args hp k:=by unfold zK;exact .inr h
end
section
variable {prog:Program}{w:World}{mean:ExcName->Option Value}{mg mb:BB}{base:Heap}
theorem lh(n:Nat):mSs nmM (pW n).toPm (tfn 5).scope zX (tfn 5).body:=⟨by kernel_rfl,by kernel_rfl⟩
theorem lL:FnOkC (GM prog w mean mg mb base) Q0 1528 [284,283,276,40,272,265] cT "_law_tell" (tfn 5).body (tfn 5).scope (.ref 1527):=Qd (d:=tfn 5) (df:=.none) (pm:=.str "law_me0007_11" 2249) (by kernel_rfl) (by kernel_rfl) (by kernel_rfl) (oj fun Z Z Z Z Z Z Z=>by kernel_rfl)
theorem k8(n:Nat):mSs nmM (pF n).toPm (tfn 6).scope yi (tfn 6).body:=⟨by kernel_rfl,by kernel_rfl⟩
theorem lK:FnOkC (GM prog w mean mg mb base) Q0 1533 [300,277] [277] "_law_filled" (tfn 6).body (tfn 6).scope (.ref 1532):=Qd (d:=tfn 6) (df:=.none) (pm:=.str "law_me0007_11" 2249) (by kernel_rfl) (by kernel_rfl) (by kernel_rfl) (cW fun Z Z Z=>by kernel_rfl)
theorem hdL:HdS (GM prog w mean mg mb base) 18 zK:=by
 unfold zK;have h1:HdS (GM prog w mean mg mb base) 18 ((H6.or H6.sw).cut 1533 Y3):=by
  refine HdS.cut (S:=cG) (X8 (d:=17) (P:=pF) (fun n=>VQ _ _ _ _) (fun n=>(jx 16 36 rfl K8 (fun ps args O k h=>h.elim))) (by decide) hd0 ((hd6.or hd6.sw).le (by decide)) lK (fun Z=>rfl) (fun Z=>rfl) (fun Z Z=>rfl) k8 pb) ?_
  rintro args hp k hb ha ⟨b,fill,xs,rfl,h1,h2,h3,h4,h5,hk⟩
  exact(yM b fill xs rfl h1 h2 ⟨h3,h4,h5,qo hp ([_]) rfl rfl hb ⟨trivial,hk⟩⟩)
 refine HdS.cut (S:=cH) (X8 (d:=17) (P:=pW) (fun n=>VQ _ _ _ _) (fun n=>(jx 16 36 rfl K8 (fun ps args O k h=>h.elim))) (by decide) hd0 h1 lL (fun Z=>rfl) (fun Z=>rfl) (fun Z Z=>rfl) lh ph) ?_
 rintro args hp k hb ha ⟨o,C,v,sd,near,n,rfl,rfl,h1,h2,hk⟩
 exact(zk o C v (yM sd near n rfl rfl h1 ⟨h2,fun cs ca=>(qo (hp8 o (eff v (sd%256) near n C).P) ([.cell cs,.cell ca,_,_,_]) rfl rfl (Jf (l:=[o.o0,o.o1,o.o2,o.o3,o.o4,o.o5,o.o6]) hb) ⟨trivial,hk⟩)⟩))
end
noncomputable def lay:Mem->Int->List Int->Mem
 | M,_,[]=>M
 | M,p,b::r=>lay (wr M p b) (p+1) r
theorem qT:∀{l:List Int} {M:Mem} {p:Int},(lay M p l).length=M.length
 | [],_,_=>rfl
 | b::r,M,p=>(qT (l:=r)).trans zB
theorem Xl:∀{l r:List Int} {M:Mem} {p:Int},lay (lay M p l) (p+l.length) r=lay M p (l++r)
 | [],r,M,p=>by show lay M (p+0) r=_;rw[Ch];rfl
 | b::l,r,M,p=>by
  have:=Xl (l:=l) (r:=r) (M:=wr M p b) (p:=p+1)
  rw[show p+((b::l).length:Int)=p+1+(l.length:Int) by rw[Cu];lia]
  exact this
theorem JV:∀{l:List Int} {M:Mem} {p u:Int},M.length=1536->0<=u->u<p->p+l.length<=1536->rd (lay M p l) u=rd M u
 | [],_,_,_,_,_,_,_=>rfl
 | b::r,M,p,u,h,u0,u1,hl=>by
  rw[Cu] at hl;exact(JV (l:=r) (zB.trans h) u0 (by lia) (by lia)).trans (rw2 h (by lia) (by lia) u0 (Int.ne_of_lt u1))
theorem U3:∀{l:List Int} {M:Mem} {p:Int},M.length=1536->0<=p->p+l.length<=1536->At (rd (lay M p l)) p l
 | [],_,_,_,_,_=>trivial
 | b::r,M,p,h,p0,hl=>by
  rw[Cu] at hl
  exact⟨(JV (l:=r) (zB.trans h) p0 (by lia) (by lia)).trans (rw1 h p0 (by lia)),U3 (l:=r) (zB.trans h) (zi (zm (zf p0)) rfl) (by lia)⟩
theorem Yw:∀{l:List Int} {M:Mem} {p:Int},Bts M->Bts l->Bts (lay M p l)
 | [],_,_,h,_=>h
 | b::r,M,p,h,hl=>Yw (l:=r) (h.wr p (hl b (.head _))) fun x hx=>hl x (.tail _ hx)
structure Wd(v q:Int)(k:Nat)(a r p:Addr)(xs ys:List Int):Prop where
 w:(cq 1523)[k]?=some (.top a)
 w2:cq a = [.top r,.top p]
 r1:Jv r=xs.map .int
 p1:Jv p=ys.map .int
 r2:xs.map (fl [v,255-v,v%128,q])=rby v k
 p2:ys.map (fl [v,255-v,v%128,q])=pby v q k
 r3:xs ≠ []
 p3:ys ≠ []
 r4:∀u∈xs,-4<=u
 p4:∀u∈ys,-4<=u
 r5:xs.length<=3
 p5:ys.length<=34
 r6:jG (fun u=>decide (u<256)) xs=true
 p6:jG (fun u=>decide (u<256)) ys=true
def Wx(v q:Int)(k:Nat):Prop:=∃a r p xs ys,Wd v q k a r p xs ys
noncomputable def wdP(k:Nat):List Int×List Int:=MH.wlT.getD k ([],[])
noncomputable def wdC(p:List Int×List Int):Bool:=(Dg 0 p.1.length&&Dg 0 p.2.length)&&(jG (fun u=>decide (-4<=u)) p.1&&jG (fun u=>decide (-4<=u)) p.2)&&(Nat.ble p.1.length 3&&Nat.ble p.2.length 34)&&(jG (fun u=>decide (u<256)) p.1&&jG (fun u=>decide (u<256)) p.2)
theorem nG{xs:List Int}(h:Dg 0 xs.length=true):xs ≠ []:=fun e=>by subst e;cases h
theorem m4{xs:List Int}(h:jG (fun u=>decide (-4<=u)) xs=true):∀u∈xs,-4<=u:=fun u hu=>of_decide_eq_true (zP h u hu)
theorem wdK{v q:Int}{k:Nat}(w:(cq 1523)[k]?=some (.top (1435+3*k)))(w2:cq (1435+3*k) = [.top (1433+3*k),.top (1434+3*k)])(r1:Jv (1433+3*k)=(wdP k).1.map .int)(p1:Jv (1434+3*k)=(wdP k).2.map .int)(r2:(wdP k).1.map (fl [v,255-v,v%128,q])=rby v k)(p2:(wdP k).2.map (fl [v,255-v,v%128,q])=pby v q k)(c:wdC (wdP k)=true):Wx v q k:=by
 refine zd (za c) fun c c4=>?_
 refine zd (za c) fun c c3=>?_
 refine zd (za c) fun c1 c2=>?_
 exact(zk _ _ _ (Kc _ _ ⟨w,w2,r1,p1,r2,p2,nG (za c1).1,nG (za c1).2,m4 (za c2).1,m4 (za c2).2,Bs (za c3).1,Bs (za c3).2,(za c4).1,(za c4).2⟩))
theorem gT{v q:Int}{k:Nat}(h:k<30):Wx v q k:=by
 refine i30 (P:=Wx v q) ?_ ?_ ?_ ?_ ?_ ?_ ?_ ?_ ?_ ?_ ?_ ?_ ?_ ?_ ?_ ?_ ?_ ?_ ?_ ?_ ?_ ?_ ?_ ?_ ?_ ?_ ?_ ?_ ?_ ?_ h<;>(refine wdK ?_ ?_ ?_ ?_ ?_ ?_ ?_<;>kernel_rfl)
noncomputable def stP(us:List PV):PO:=cond us.isEmpty (.il []) (.ls us)
theorem my{us:List PV}{w:PV}{κ:Nat->PO->Prop}(hw:eM w=none)(h:κ us.length (stP (us ++ [w]))):ia (some (stP us)) w κ:=by
 induction us with
 | nil =>
  show cP [] w κ;unfold cP;rw[hw];exact h
 | cons u r=>exact h
theorem mz{us:List PV}:bU (some (stP us))=true:=by induction us<;>rfl
section
variable {P:Pi}{e:IE}{k:KF}{l:List (Nat×PV)}
theorem cf{us:List PV}{w:PV}(h1:lk x l=some (.ref j))(hj:hp[j]?=some (stP us))(he:zu P H e ⟨l,hp⟩ w)(hw:eM w=none)(hus:us.length<2 ^ 24)(hk:pSs P H is ⟨l,hp.set j (stP (us ++ [w]))⟩ k):pSs P H (.expr (.append (.loc x) e)::is) ⟨l,hp⟩ k:=by
 show opt (lk x l) _;rw[h1];show cond (bU hp[j]?) _ False;rw[hj,mz];refine he _ ?_;show ia hp[j]? w _;rw[hj];exact my hw ⟨hus,j6.mpr hk⟩
theorem nU{u i:Int}(h1:lk x O.loc=some (.int u))(h2:zu P H e O (.int i))(h:pSs P H is ⟨st x (.int (u+i)) O.loc,O.hp⟩ k):pSs P H (.aname x .Add e::is) O k:=by
 show opt (lk x O.loc) _;rw[h1];refine h2 _ ?_;show O.slC x (.int (jK u i)) (fun B4=>pSs P H is B4 k)
 rw[zy];exact zJ.mpr h
theorem wC{u i:Int}(h1:lk x O.loc=some (.int u))(h2:zu P H e O (.int i))(h:pSs P H is ⟨st x (.int (u-i)) O.loc,O.hp⟩ k):pSs P H (.aname x .Sub e::is) O k:=by
 show opt (lk x O.loc) _;rw[h1];refine h2 _ ?_;show O.slC x (.int (Qg u i)) (fun B4=>pSs P H is B4 k)
 rw[jQ];exact zJ.mpr h
theorem Xy{w:PV}{t:IT}{items:List PV}(he:zu P H e O w)(hi:jI O w=some items)(h:qj (pA P H t) (pSs P H A) items O (fK (pSs P H is) k)):pSs P H (.forS t e A::is) O k:=he _ (by
 show opt (jI O w) _;rw[hi];exact h)
theorem gz{b:Addr}{w:PV}(he:zu P H e O (.top b))(ht:P.tab b = [u,w])(h:pSs P H is ⟨st y w (st x u O.loc),O.hp⟩ k):pSs P H (.tupG [.name x,.name y] e::is) O k:=he _ (by
 show cond (Nat.beq (P.tab b).length 2) (cond (P.tab b).isEmpty False (UB (pAs P H [.name x,.name y]) (P.tab b) O _)) False;rw[ht];show O.slC x u fun B4=>B4.slC y w fun B6=>pSs P H is B6 k
 exact zJ.mpr (zJ.mpr h))
theorem mY{b:Addr}{i:IE}{n:Nat}{v:PV}(h1:zu P H e O (.top b))(h2:zu P H i O (.int (n:Int)))(hn:n<1000)(ht:(P.tab b)[n]?=some v):zu P H (.sub e i) O v:=fun κ hκ=>h1 _ (h2 _ (by
 show(0<=(n:Int)/\(n:Int)<2 ^ 63)/\opt (P.tab b)[(n:Int).toNat]? _
 rw[Dl,ht]
 exact⟨⟨zi qK rfl,zn (q9 hn) rfl⟩,hκ⟩))
theorem WM{Q:List (Nat×PV)->Int->Prop}{mv cx j:Nat}{hp:Mem->List PO}(hQ:∀l n,Q l n->lk cx l=some (.int n)/\lk mv l=some (.ref j)/\(∀u,Q (st 281 u l) n) /\ ∀n',Q (st cx (.int n') l) n')(h1:∀M,(hp M)[j]?=some (.il M))(h2:∀M M',(hp M).set j (.il M')=hp M'):
  ∀(xs:List Int) {l:List (Nat×PV)} {M:Mem} {n:Int},Q l n->0<=n->n+xs.length<=1536->M.length=1536->(∀l',Q l' (n+xs.length)->k .next ⟨l',hp (lay M n xs)⟩)->qj (pA P H (.name 281)) (pSs P H [.put (.loc mv) (.loc cx) (.loc 281),.aname cx .Add (.int 1)]) (xs.map .int) ⟨l,hp M⟩ k
 | [],l,M,n,q,_,_,_,hk=>hk l (by rw[show n+(([]:List Int).length:Int)=n from Ch n];exact q)
 | b::xs,l,M,n,q,n0,hl,hM,hk=>by
  rw[Cu] at hl;have q1:=(hQ l n q).2.2.1 (.int b);refine yC (hQ _ _ q1) fun a1 a2 a3 a4=>?_
  refine Q7 ?_;refine Xz (u:=n) (w:=b) (xs:=M) (j:=j) (zg j4) (zg a2) (zg a1) (h1 M) n0 (by rw[hM];lia) (by lia) ?_
  show pSs P H _ ⟨_,(hp M).set j (.il (wr M n b))⟩ _;rw[h2];refine nU (O:=⟨_,hp (wr M n b)⟩) a1 zb ?_;refine WM hQ h1 h2 xs (a4 (n+1)) (zi (zm (zf n0)) rfl) (by lia) (zB.trans hM) fun l' q'=>?_
  refine hk l' ?_;rw[show n+((b::xs).length:Int)=n+1+(xs.length:Int) by rw[Cu];lia]
  exact q'
end
noncomputable def m5:Sp:=fun args hp k=>V7 args hp k∨(6<=hp.length/\V7 (ym args) (swH hp) fun v hp'=>6<=hp'.length/\k (rnV v) (swH hp'))
noncomputable def zR(a:Addr)(ns:List Int):Pi:=piM [(265,0)] 0 (fun v=>match v with | .top b=>cond (Nat.beq b a) (some ns) none | _=>none) m5
noncomputable def JP:List IS:=bO (nt US 1)
noncomputable def kdN(dp:Nat)(d:Int):Nat:=cond (Nat.beq (d%30).toNat 22&&Nat.beq dp 0) 21 (d%30).toNat
noncomputable def dpn(dp k:Nat):Nat:=cond (Nat.beq k 21) (dp+1) (cond (Nat.beq k 22) (dp-1) dp)
noncomputable def vl(d:Int):Int:=d/30%256
noncomputable def h7(sd:Int)(M N:Mem)(c1 c2:PO)(us:List PV):List PO:=[.cell (some (.int sd)),.tab 80,.il M,.il N,c1,c2,stP us]
noncomputable def LB(dr:List Int)(near far:Int)(dp:Nat):List (Nat×PV):=[(263,.il dr),(1,.ref 2),(268,.ref 3),(269,.ref 4),(270,.ref 5),(271,.ref 6),(272,.int near),(273,.int far),(274,.int (dp:Int))]
structure Li(l:List (Nat×PV))(dr:List Int)(near far:Int)(dp k:Nat)(v:Int)(p:Addr)(fill:List Int):Prop where
 d:lk 263 l=some (.il dr)
 m:lk 1 l=some (.ref 2)
 o:lk 268 l=some (.ref 3)
 a:lk 269 l=some (.ref 4)
 b:lk 270 l=some (.ref 5)
 s:lk 271 l=some (.ref 6)
 n:lk 272 l=some (.int near)
 f:lk 273 l=some (.int far)
 e:lk 274 l=some (.int (dp:Int))
 k:lk 276 l=some (.int (k:Int))
 v:lk 40 l=some (.int v)
 p:lk 280 l=some (.top p)
 i:lk 277 l=some (.il fill)
section
variable {l:List (Nat×PV)}{dr:List Int}{far:Int}{k:Nat}{v:Int}{p:Addr}{fill:List Int}
theorem Li.st1(h:Li l dr near far dp k v p fill)(u:PV):Li (st 281 u l) dr near far dp k v p fill:=
 ⟨(zw (by decide)).trans h.d,(zw (by decide)).trans h.m,(zw (by decide)).trans h.o,(zw (by decide)).trans h.a,(zw (by decide)).trans h.b,(zw (by decide)).trans h.s,(zw (by decide)).trans h.n,(zw (by decide)).trans h.f,(zw (by decide)).trans h.e,(zw (by decide)).trans h.k,(zw (by decide)).trans h.v,(zw (by decide)).trans h.p,(zw (by decide)).trans h.i⟩
theorem Li.st2(h:Li l dr near far dp k v p fill)(u:Int):Li (st 272 (.int u) l) dr u far dp k v p fill:=
 ⟨(zw (by decide)).trans h.d,(zw (by decide)).trans h.m,(zw (by decide)).trans h.o,(zw (by decide)).trans h.a,(zw (by decide)).trans h.b,(zw (by decide)).trans h.s,j4,(zw (by decide)).trans h.f,(zw (by decide)).trans h.e,(zw (by decide)).trans h.k,(zw (by decide)).trans h.v,(zw (by decide)).trans h.p,(zw (by decide)).trans h.i⟩
theorem Li.st3(h:Li l dr near far dp k v p fill)(u:Int):Li (st 273 (.int u) l) dr near u dp k v p fill:=
 ⟨(zw (by decide)).trans h.d,(zw (by decide)).trans h.m,(zw (by decide)).trans h.o,(zw (by decide)).trans h.a,(zw (by decide)).trans h.b,(zw (by decide)).trans h.s,(zw (by decide)).trans h.n,j4,(zw (by decide)).trans h.e,(zw (by decide)).trans h.k,(zw (by decide)).trans h.v,(zw (by decide)).trans h.p,(zw (by decide)).trans h.i⟩
end
theorem Qo(dp:Nat)(d:Int):kdN dp d<30:=by
 unfold kdN
 cases Nat.beq (d%30).toNat 22&&Nat.beq dp 0
 ·show(d%30).toNat<30;lia
 ·show 21<30;decide
noncomputable def YV(near far:Int)(k:Nat)(v:Int):PV:=.tup [.int near,.int far,.int (k:Int),.int v]
section
variable {a:Addr}{ns:List Int}{K:KF}{dr:List Int}{far d:Int}{M:Mem}{c1 c2:PO}{us:List PV}
theorem xt{k:Nat}{v:Int}{l:List (Nat×PV)}(hk30:k<30)(hn0:0<=near)(hn1:near+3<=1536)(hf0:0<=far)(hf1:far+34<=1536)(hM:M.length=1536)(hN:N.length=1536)(hus:us.length<1000)(hl:∀p f q y,Li (st 280 y (st 279 q (st 277 f l))) dr near far dp k v p [v,255-v,v%128,sd%256]↔(y=.top p/\f=.il [v,255-v,v%128,sd%256]))
  (hq:lk 40 l=some (.int v)/\lk 276 l=some (.int (k:Int)))
  (hK:K .next ⟨LB dr (near+(rby v k).length) (far+(pby v (sd%256) k).length) dp,h7 sd (lay M near (rby v k)) (lay N far (pby v (sd%256) k)) c1 c2 (us ++ [YV (near+(rby v k).length) (far+(pby v (sd%256) k).length) k v])⟩):pSs (zR a ns) zK (JP.drop 5) ⟨l,h7 sd M N c1 c2 us⟩ K:=by
 refine byc fun Ea=>?_
 refine zh (gT (v:=v) (q:=sd%256) hk30) fun ad r p Ee=>JK Ee fun xs ys w=>?_
 refine Ea ?_;refine qk (v:=.il [v,255-v,v%128,sd%256]) (j9 (us:=[.int v,.int (255-v),.int (v%128),.int (sd%256)]) (ze (zg hq.1) (ze (jZ zb (zg hq.1)) (ze (zI (zg hq.1) zb aT) (ze (zI (zq rfl) zb jE) zY)))) rfl rfl) ?_;refine gz (b:=ad) (u:=.top r) (w:=.top p) (mY (n:=k) (v:=.top ad) (fun κ h=>h) (zg ((zw (by decide)).trans hq.2)) (nP (lV hk30) rfl) w.w) w.w2 ?_
 have L0:=(hl p (.il [v,255-v,v%128,sd%256]) (.top r) (.top p)).mpr ⟨rfl,rfl⟩;generalize hg:st 280 (.top p) (st 279 (.top r) (st 277 (.il [v,255-v,v%128,sd%256]) l))=l2 at L0;have hr:lk 279 l2=some (.top r):=by rw[<- hg];exact(zw (by decide)).trans j4
 have lr:(rby v k).length<=3:=by rw[<- w.r2,Cm];exact w.r5
 have lp:(pby v (sd%256) k).length<=34:=by rw[<- w.p2,Cm];exact w.p5
 refine Xy (w:=.il (rby v k)) (items:=(rby v k).map .int) (bp (us:=[.top r,.il [v,255-v,v%128,sd%256]]) rfl (ze (zg hr) (ze (zg L0.i) zY)) fun κ h=>ao (yM r _ xs rfl w.r1 w.r3 ⟨by have:=w.r5;exact yD this rfl,rfl,w.r4,by rw[w.r2];exact h⟩)) rfl ?_
 refine WM (Q:=fun l n=>Li l dr n far dp k v p [v,255-v,v%128,sd%256]) (j:=2) (hp:=fun M=>h7 sd M N c1 c2 us) (fun l n q=>⟨q.n,q.m,fun u=>q.st1 u,fun u=>q.st2 u⟩) (fun Z=>rfl) (fun Z Z=>rfl) (rby v k) L0 hn0 (yd (zN (qL hn1) (Vs lr)) rfl) hM fun l3 L3=>?_
 refine Xy (w:=.il (pby v (sd%256) k)) (items:=(pby v (sd%256) k).map .int) (bp (us:=[.top p,.il [v,255-v,v%128,sd%256]]) rfl (ze (zg L3.p) (ze (zg L3.i) zY)) fun κ h=>ao (yM p _ ys rfl w.p1 w.p3 ⟨by have:=w.p5;exact yD this rfl,rfl,w.p4,by rw[w.p2];exact h⟩)) rfl ?_
 refine WM (Q:=fun l n=>Li l dr (near+(rby v k).length) n dp k v p [v,255-v,v%128,sd%256]) (j:=3) (hp:=fun N=>h7 sd (lay M near (rby v k)) N c1 c2 us) (fun l n q=>⟨q.f,q.o,fun u=>q.st1 u,fun u=>q.st3 u⟩) (fun Z=>rfl) (fun Z Z=>rfl) (pby v (sd%256) k) L3 hf0 (yd (zN (qL hf1) (Vs lp)) rfl) hN fun l4 L4=>?_
 refine cf (us:=us) (w:=YV (near+(rby v k).length) (far+(pby v (sd%256) k).length) k v) L4.s rfl (yl (ze (zg L4.n) (ze (zg L4.f) (ze (zg L4.k) (ze (zg L4.v) zY)))) rfl) rfl (nP (lV hus) rfl) ?_;refine Ud (L:=LB dr (near+(rby v k).length) (far+(pby v (sd%256) k).length) dp) (fun Q hQ=>?_) hK
 show opt (lk 263 l4) _;rw[L4.d];show opt (lk 1 l4) _;rw[L4.m];show opt (lk 268 l4) _;rw[L4.o];show opt (lk 269 l4) _;rw[L4.a];show opt (lk 270 l4) _;rw[L4.b];show opt (lk 271 l4) _;rw[L4.s];show opt (lk 272 l4) _;rw[L4.n];show opt (lk 273 l4) _;rw[L4.f];show opt (lk 274 l4) _;rw[L4.e];exact hQ
end
noncomputable def kvs:Nat->List Int->List (Nat×Int)
 | _,[]=>[]
 | dp,d::r=>(kdN dp d,vl d)::kvs (dpn dp (kdN dp d)) r
noncomputable def yZ(l:List (Nat×Int)):List Int:=l.flatMap fun p=>rby p.2 p.1
noncomputable def qi(q:Int)(l:List (Nat×Int)):List Int:=l.flatMap fun p=>pby p.2 q p.1
noncomputable def JM(q:Int):Int->Int->List (Nat×Int)->List PV
 | _,_,[]=>[]
 | near,far,(k,v)::r=>YV (near+(rby v k).length) (far+(pby v q k).length) k v::JM q (near+(rby v k).length) (far+(pby v q k).length) r
theorem Y1{v q:Int}{k:Nat}(h:k<30):(rby v k).length<=3/\(pby v q k).length<=34:=by
 refine byc fun Ea=>?_
 refine zh (gT (v:=v) (q:=q) h) fun ad r p Ee=>JK Ee fun xs ys w=>?_
 refine Ea ?_
 exact⟨by rw[<- w.r2,Cm];exact w.r5,by rw[<- w.p2,Cm];exact w.p5⟩
section
variable {a:Addr}{ns:List Int}{K:KF}{dr:List Int}{far d:Int}{M:Mem}{c1 c2:PO}{us:List PV}
theorem Zu{k:Nat}:((k:Int)==(j:Int))=Nat.beq k j:=nbq
theorem xr(hn0:0<=near)(hn1:near+3<=1536)(hf0:0<=far)(hf1:far+34<=1536)(hM:M.length=1536)(hN:N.length=1536)(hus:us.length<1000){ext:List (Nat×PV)}
  (hK:K .next ⟨LB dr (near+(rby (vl d) (kdN dp d)).length) (far+(pby (vl d) (sd%256) (kdN dp d)).length) (dpn dp (kdN dp d)),h7 sd (lay M near (rby (vl d) (kdN dp d))) (lay N far (pby (vl d) (sd%256) (kdN dp d))) c1 c2 (us ++ [YV (near+(rby (vl d) (kdN dp d)).length) (far+(pby (vl d) (sd%256) (kdN dp d)).length) (kdN dp d) (vl d)])⟩) :
  pSs (zR a ns) zK JP ⟨LB dr near far dp ++ [(275,.int d)],h7 sd M N c1 c2 us⟩ K:=by
 have k0:d%30=((d%30).toNat:Int):=(Int.toNat_of_nonneg (Dq d (by decide))).symm
 have hk30:=Qo dp d;have p30:PwA 30:=pwL rfl (by decide) (by decide)
 have fin:∀(k:Nat) (dp2:Nat),k=kdN dp d->dp2=dpn dp (kdN dp d)->pSs (zR a ns) zK (JP.drop 5) ⟨LB dr near far dp2 ++ [(275,.int d),(276,.int (k:Int)),(40,.int (vl d))],h7 sd M N c1 c2 us⟩ K:=fun k dp2 e1 e2=>by
  subst e1 e2;refine xt hk30 hn0 hn1 hf0 hf1 hM hN hus (fun p f q y=>⟨fun L=>?_,fun⟨h1,h2⟩=>?_⟩) ⟨rfl,rfl⟩ hK
  ·exact⟨by have:=L.p;rw[j4] at this;exact Di this,by have:=L.i;rw[zw (by decide),zw (by decide),j4] at this;exact Di this⟩
  ·subst h1 h2
   exact⟨rfl,rfl,rfl,rfl,rfl,rfl,rfl,rfl,rfl,rfl,rfl,rfl,rfl⟩
 refine qk (v:=.int ((d%30).toNat:Int)) (k0▸zI (zg rfl) zb p30) ?_;refine qk (v:=.int (vl d)) (zI (jX (zg rfl) zb p30) zb jE) ?_;have ek:kdN dp d=cond (Nat.beq (d%30).toNat 22&&Nat.beq dp 0) 21 (d%30).toNat:=rfl;generalize(d%30).toNat=n0 at *;have t1:yz (zR a ns) zK (.and [.cmp .i .Eq (.loc 276) (.int 22),.cmp .i .Eq (.loc 274) (.int 0)]) ⟨LB dr near far dp ++ [(275,.int d),(276,.int (n0:Int)),(40,.int (vl d))],h7 sd M N c1 c2 us⟩ (Nat.beq n0 22&&Nat.beq dp 0):=by
  have:=mW (P:=zR a ns) (H:=zK) (O:=⟨LB dr near far dp ++ [(275,.int d),(276,.int (n0:Int)),(40,.int (vl d))],h7 sd M N c1 c2 us⟩) (yp (i:=(n0:Int)) (j:=((22:Nat):Int)) (l:=.loc 276) (r:=.int 22) (zg rfl) zb) (yp (i:=(dp:Int)) (j:=((0:Nat):Int)) (l:=.loc 274) (r:=.int 0) (zg rfl) zb)
  rwa [Zu,Zu] at this
 have mid:pSs (zR a ns) zK (JP.drop 3) ⟨LB dr near far dp ++ [(275,.int d),(276,.int (kdN dp d:Int)),(40,.int (vl d))],h7 sd M N c1 c2 us⟩ K:=by
  have u1:∀(k j:Nat) (dp2:Nat),yz (zR a ns) zK (.cmp .i .Eq (.loc 276) (.int (j:Int))) ⟨LB dr near far dp2 ++ [(275,.int d),(276,.int (k:Int)),(40,.int (vl d))],h7 sd M N c1 c2 us⟩ (Nat.beq k j):=fun k j dp2=>by
   have:=yp (P:=zR a ns) (H:=zK) (O:=⟨LB dr near far dp2 ++ [(275,.int d),(276,.int (k:Int)),(40,.int (vl d))],h7 sd M N c1 c2 us⟩) (i:=(k:Int)) (j:=(j:Int)) (l:=.loc 276) (r:=.int (j:Int)) (zg rfl) zb
   rwa [Zu] at this
  have d0:Nat.beq (kdN dp d) 22=true->dp≠0:=fun h e=>by
   rw[ek,e] at h
   revert h
   cases h2:Nat.beq n0 22
   ·show Nat.beq n0 22=true->False;rw[h2];intro h;cases h
   ·intro h;cases h
  have dn:∀k:Nat,dpn dp k=cond (Nat.beq k 21) (dp+1) (cond (Nat.beq k 22) (dp-1) dp):=fun Z=>rfl
  refine cg (u1 _ 21 dp) (fun h=>?_) (fun h=>?_)
  ·have e21:kdN dp d=21:=Bp h
   refine nU (u:=(dp:Int)) (i:=1) rfl zb ?_;show pSs (zR a ns) zK (JP.drop 4) ⟨LB dr near far (dp+1) ++ [(275,.int d),(276,.int (kdN dp d:Int)),(40,.int (vl d))],h7 sd M N c1 c2 us⟩ K;refine YN (u1 _ 22 (dp+1)) (by rw[e21];rfl) ?_
   exact fin _ _ rfl (by rw[dn,h];rfl)
  ·refine cg (u1 _ 22 dp) (fun h2=>?_) (fun h2=>?_)
   ·refine wC (u:=(dp:Int)) (i:=1) rfl zb ?_
    rw[show(dp:Int)-1=((dp-1:Nat):Int) by have:=d0 h2;lia]
    show pSs (zR a ns) zK (JP.drop 5) ⟨LB dr near far (dp-1) ++ [(275,.int d),(276,.int (kdN dp d:Int)),(40,.int (vl d))],h7 sd M N c1 c2 us⟩ K;exact fin _ _ rfl (by rw[dn,h,h2];rfl)
   ·exact fin _ _ rfl (by rw[dn,h,h2];rfl)
 refine cg t1 (fun h=>?_) (fun h=>?_)
 ·refine qk (v:=.int 21) zb ?_
  have e21:kdN dp d=21:=by rw[ek,h];rfl
  rw[e21] at mid;exact mid
 ·have e0:kdN dp d=n0:=by rw[ek,h];rfl
  rw[e0] at mid;exact mid
theorem XZ{q:Int}:∀(ds:List Int) (dp:Nat),(yZ (kvs dp ds)).length<=3*ds.length/\(qi q (kvs dp ds)).length<=34*ds.length
 | [],_=>⟨Cg _,Cg _⟩
 | d::ds,dp=>by
  obtain⟨h1,h2⟩:=XZ (q:=q) ds (dpn dp (kdN dp d));obtain⟨w1,w2⟩:=Y1 (v:=vl d) (q:=q) (Qo dp d);rw[Cu]
  refine⟨?_,?_⟩
  ·show(rby (vl d) (kdN dp d)++yZ (kvs (dpn dp (kdN dp d)) ds)).length<=_
   rw[Bz];lia
  ·show(pby (vl d) q (kdN dp d)++qi q (kvs (dpn dp (kdN dp d)) ds)).length<=_
   rw[Bz];lia
theorem nA:∀(ds:List Int) {near far:Int} {dp:Nat} {M N:Mem} {us:List PV} {ext:List (Nat×PV)},(ext = [] ∨ ∃x,ext = [(275,x)])->0<=near->near+3*ds.length<=1500->0<=far->far+34*ds.length<=1500->M.length=1536->N.length=1536->us.length+ds.length<=900 ->
  (∀T7 dp',(ds = []->T7=ext)->(ds ≠ []->T7 = [])->K .next ⟨LB dr (near+(yZ (kvs dp ds)).length) (far+(qi (sd%256) (kvs dp ds)).length) dp'++T7,h7 sd (lay M near (yZ (kvs dp ds))) (lay N far (qi (sd%256) (kvs dp ds))) c1 c2 (us++JM (sd%256) near far (kvs dp ds))⟩) ->
  qj (pA (zR a ns) zK (.name 275)) (pSs (zR a ns) zK JP) (ds.map .int) ⟨LB dr near far dp++ext,h7 sd M N c1 c2 us⟩ K
 | [],near,far,dp,M,N,us,ext,_,_,_,_,_,_,_,_,hk=>by
  have:=hk ext dp (fun Z=>rfl) (fun h=>absurd rfl h)
  rw[show near+((yZ (kvs dp [])).length:Int)=near from Ch _,show far+((qi (sd%256) (kvs dp [])).length:Int)=far from Ch _,show us++JM (sd%256) near far (kvs dp [])=us from Cn _] at this
  exact this
 | d::ds,near,far,dp,M,N,us,ext,he,n0,n1,f0,f1,hM,hN,hu,hk=>by
  rw[Cu] at n1 f1 hu;obtain⟨w1,w2⟩:=Y1 (v:=vl d) (q:=sd%256) (Qo dp d);have est:st 275 (.int d) (LB dr near far dp++ext)=LB dr near far dp ++ [(275,.int d)]:=by
   rcases he with rfl | ⟨x,rfl⟩<;>rfl
  refine Q7 ?_;rw[est];refine xr n0 (by lia) f0 (by lia) hM hN (by lia) (ext:=[]) ?_
  have ih:=nA ds (near:=near+(rby (vl d) (kdN dp d)).length) (far:=far+(pby (vl d) (sd%256) (kdN dp d)).length) (dp:=dpn dp (kdN dp d)) (M:=lay M near (rby (vl d) (kdN dp d))) (N:=lay N far (pby (vl d) (sd%256) (kdN dp d))) (us:=us ++ [YV (near+(rby (vl d) (kdN dp d)).length) (far+(pby (vl d) (sd%256) (kdN dp d)).length) (kdN dp d) (vl d)]) (ext:=[]) (.inl rfl) (zi (zN (zf n0) qK) rfl) (by lia) (zi (zN (zf f0) qK) rfl) (by lia) (qT.trans hM) (qT.trans hN) (by rw[Bz];show _+1+_<=_;lia) fun T7 dp' h1 h2=>?_
  ·rw[Cn] at ih;exact ih
  ·have e1:T7 = []:=by
    induction ds with
    | nil=>exact h1 rfl
    | cons=>exact h2 nofun
   subst e1
   have:=hk [] dp' nofun (fun Z=>rfl)
   rw[Xl,Xl,Br];have c1:yZ (kvs dp (d::ds))=rby (vl d) (kdN dp d)++yZ (kvs (dpn dp (kdN dp d)) ds):=rfl;have c2:qi (sd%256) (kvs dp (d::ds))=pby (vl d) (sd%256) (kdN dp d)++qi (sd%256) (kvs (dpn dp (kdN dp d)) ds):=rfl;rw[c1,c2,Bz,Bz] at this;rw[show near+((rby (vl d) (kdN dp d)).length:Int)+((yZ (kvs (dpn dp (kdN dp d)) ds)).length:Int)=near+(((rby (vl d) (kdN dp d)).length+(yZ (kvs (dpn dp (kdN dp d)) ds)).length:Nat):Int) by lia,show far+((pby (vl d) (sd%256) (kdN dp d)).length:Int)+((qi (sd%256) (kvs (dpn dp (kdN dp d)) ds)).length:Int)=far+(((pby (vl d) (sd%256) (kdN dp d)).length+(qi (sd%256) (kvs (dpn dp (kdN dp d)) ds)).length:Nat):Int) by lia]
   exact this
end
theorem Vz{Wv:PV->PS->KE->Prop}{f:Int->Int}{O:PS}:∀(xs:List Int) (acc:List PV) (k:List PV->PS->Prop),(∀x∈xs,∀κ:KE,κ (.int (f x)) O->Wv (.int x) O κ)->k (acc++(xs.map f).map .int) O->qZ Wv (xs.map .int) acc O k
 | [],acc,k,_,h=>by rw[List.map_nil,List.map_nil,Cn] at h;exact h
 | x::xs,acc,k,hf,h=>by
  refine hf x (.head _) _ ?_;refine Vz xs _ k (fun y hy=>hf y (.tail _ hy)) ?_
  rw[Br];exact h
noncomputable def XF:Int->Nat->List Int
 | _,0=>[]
 | a,n+1=>a::XF (a+1) n
theorem Y0:∀(n:Nat) (a:Int),ji a n=(XF a n).map .int
 | 0,_=>rfl
 | n+1,a=>congrArg (PV.int a :: ·) (Y0 n (a+1))
theorem YZ:∀(n:Nat) (a:Int),(XF a n).length=n
 | 0,_=>rfl
 | n+1,a=>congrArg (· + 1) (YZ n (a+1))
theorem KP{α:Type}{l:List α}{x:α}:∀{n:Nat},x∈jO n l->x∈l
 | 0,h=>by cases h
 | n+1,h=>(List.mem_append.mp h).elim (fun h=>h) KP
theorem yF{α:Type}:∀(n:Nat) (l:List α),(jO n l).length=n*l.length
 | 0,l=>(Nat.zero_mul _).symm
 | n+1,l=>by show(l++jO n l).length=_;rw[Bz,yF n l,Nat.succ_mul,Nat.add_comm]
section
variable {P:Pi}{e l r a b:IE}{k:KF}{xs ys zs:List Int}{L:List (Nat×PV)}{us:List PV}
theorem l8(h1:zu P H l ⟨L,hp⟩ (.il xs))(h2:zu P H r ⟨L,hp⟩ (.il ys))(hz:xs.length+ys.length<=2 ^ 24)(h:pSs P H is ⟨st x (.ref hp.length) L,hp ++ [.il (xs++ys)]⟩ k):pSs P H (.name x (.bin (.add true) .Add l r)::is) ⟨L,hp⟩ k:=
 h1 _ (h2 _ ⟨hz,qz.mpr (zJ.mpr h)⟩)
theorem te{elt:IE}{n:Nat}{b:IE}{f:Int->Int}(hb:zu P H b O (.int (n:Int)))(hn:n<=1000)(hf:∀i,zu (P.cv x (.int i)) H elt O (.int (f i)))(h:pSs P H is ⟨st z (.il ((XF 0 n).map f)) O.loc,O.hp⟩ k):pSs P H (.rowR z x elt y [b]::is) O k:=hb _ (by
 show(0<=(n:Int)/\(n:Int)<=100000)/\qZ (fun v=>pE (P.cv x v) H elt) (ji 0 (jW 0 (n:Int))) [] O _
 refine⟨⟨zi qK rfl,yd (Vs hn) rfl⟩,?_⟩
 rw[show jW 0 (n:Int)=n by unfold jW;lia,Y0]
 refine Vz (XF 0 n) [] _ (fun i Z κ hκ=>hf i κ hκ) ?_
 show opt (jy ([]++((XF 0 n).map f).map .int)) _;rw[List.nil_append,jL];exact(zJ (O:=O) (x:=z) (v:=.il ((XF 0 n).map f)) (c:=fun O=>pSs P H is O k)).mpr h)
end
section
variable {P:Pi}{e t a b:IE}{k:KF}{xs ys zs:List Int}{us:List PV}
theorem gy{l:List (Nat×PV)}{lo:Option IE}{hpp:Option Int}(h1:lk x l=some (.ref j))(hj:hp[j]?=some (.il xs))(he:zu P H e ⟨l,hp⟩ (.il ys))(h2:XK P H lo ⟨l,hp⟩ lv)(h3:XK P H hi ⟨l,hp⟩ hv)(e2:jo lv=some lp)(e3:jo hv=some hpp)(hz:xs.length+ys.length<=2 ^ 24)(hs:qd (kms_lo lp xs.length) (kms_hi hpp xs.length) xs ys=zs)(hk:pSs P H is ⟨l,hp.set j (.il zs)⟩ k):
  pSs P H (.slp (.loc x) lo hi e::is) ⟨l,hp⟩ k:=he _ (zg (P:=P) (H:=H) (O:=⟨l,hp⟩) h1 _ (h2 _ (h3 _ (by
 show ilO hp[j]? _;rw[hj];show opt (jo lv) fun lo=>opt (jo hv) fun hi=>xs.length+ys.length<=2 ^ 24/\PS.siC ⟨l,hp⟩ j (.il (qd (kms_lo lo xs.length) (kms_hi hi xs.length) xs ys)) fun O=>pSs P H is O k
 rw[e2];show opt (jo hv) fun hi=>xs.length+ys.length<=2 ^ 24/\PS.siC ⟨l,hp⟩ j (.il (qd (kms_lo lp xs.length) (kms_hi hi xs.length) xs ys)) fun O=>pSs P H is O k
 rw[e3]
 refine⟨hz,?_⟩
 rw[hs];exact j6.mpr hk))))
theorem yc{lo:Option IE}{hp:Option Int}(h1:lk x O.loc=some (.ref j))(hj:O.hp[j]?=some (.il xs))(h2:XK P H lo O lv)(h3:XK P H hi O hv)(e2:jo lv=some lp)(e3:jo hv=some hp)(hz:xs.length<=2 ^ 24)(he:Ji lp hp xs=ys):zu P H (.slice false (.loc x) lo hi) O (.il ys):=fun κ hκ=>zg (P:=P) (H:=H) h1 _ (h2 _ (h3 _ (by
 show opt (jo lv) _;rw[e2];show opt (jo hv) _;rw[e3];show opt ((ilP O.hp[j]?).or _) _;rw[hj];subst he
 exact⟨hz,hκ⟩)))
theorem Vm(h1:zu P H a O (.il xs))(h2:zu P H b O (.il ys)):yz P H (.cmp .l .NotEq a b) O (!decide (xs=ys)):=fun κ hκ=>h1 _ (h2 _ hκ)
theorem ub{us ws:List PV}(h1:zu P H a O (.tup us))(h2:zu P H b O (.tup ws))(e1:jy us=some xs)(e2:jy ws=some ys):yz P H (.cmp .t .NotEq a b) O (!decide (xs=ys)):=fun κ hκ=>h1 _ (h2 _ (by
 show opt (jy us) _;rw[e1];show opt (jy ws) _;rw[e2];exact hκ))
end
section
variable {P:Pi}{k:KF}{us:List PV}{l:List (Nat×PV)}
theorem l9(h1:lk x l=some (.ref j))(hj:hp[j]?=some (.ls us))(h:pSs P H is ⟨st x (.ls us) l,hp.set j .gone⟩ k):pSs P H (.frz x::is) ⟨l,hp⟩ k:=by
 show opt (lk x l) _;rw[h1];show opt hp[j]? _;rw[hj];refine(j6 (O:=⟨l,hp⟩) (i:=j) (o:=.gone) (c:=fun B4=>B4.slC x (.ls us) fun B6=>pSs P H is B6 k)).mpr ?_
 exact(zJ (O:=⟨l,hp.set j .gone⟩) (x:=x) (v:=.ls us) (c:=fun B6=>pSs P H is B6 k)).mpr h
end
theorem aX{P:Pi}{k:KF}{l:List (Nat×PV)}{xs:List Int}(h1:lk x l=some (.ref j))(hj:hp[j]?=some (.il xs))(hz:xs.length<=2 ^ 24)(h:pSs P H is ⟨st y (.ref hp.length) l,hp ++ [.il xs]⟩ k):pSs P H (.name y (.slice true (.loc x) none none)::is) ⟨l,hp⟩ k:=by
 show opt (lk x l) _;rw[h1];show opt ((ilP hp[j]?).or _) _;rw[hj]
 refine⟨hz,?_⟩
 rw[iF];exact qz.mpr (zJ.mpr h)
theorem aY{P:Pi}{e:IE}{w:PV}{ts:List IT}{k:KF}{items:List PV}(he:zu P H e O w)(hi:jI O w=some items)(h:qj (j8 (pAs P H ts)) (pSs P H A) items O (fK (pSs P H is) k)):pSs P H (.forT ts e A::is) O k:=he _ (by
 show opt (jI O w) _;rw[hi];exact h)
theorem gX{X Y:Mem}{o u v:Int}(h:u=(X.length:Int)):wr (X++o::Y) u v=X++v::Y:=by
 subst h;unfold wr;rw[Dl,List.set_append_right (h:=Cg _),Nat.sub_self];rfl
theorem vp{M:Mem}{p:Nat}{a b:Int}(h:p+2<=M.length):qd (kms_lo (some (p:Int)) M.length) (kms_hi (some (((p+2:Nat):Int))) M.length) M [a,b]=lay M (p:Int) [a,b]:=by
 rw[Zt,Zo,Nat.min_eq_left (by lia),Nat.min_eq_left h]
 unfold qd;rw[Nat.max_eq_right (Nat.le_add_right _ _)];have e:M=M.take p++M[p]::M[p+1]::M.drop (p+2):=by
  rw[<- List.drop_eq_getElem_cons,<- List.drop_eq_getElem_cons,List.take_append_drop]
 have lt:(M.take p).length=p:=by rw[List.length_take];lia
 show M.take p ++ [a,b]++M.drop (p+2)=wr (wr M (p:Int) a) ((p:Int)+1) b;generalize M.take p=X at *;generalize M.drop (p+2)=Y at *;generalize M[p]=u at *;generalize M[p+1]=w at *;subst e;rw[gX (by rw[lt]),show X++a::w::Y=(X ++ [a])++w::Y by rw[Br];rfl,gX (by rw[Bz,lt];rfl),Br,Br];rfl
noncomputable def drN(ns:List Int):List Int:=Ji none (some 9) ns ++ [11+(ns.length:Int)%5]
theorem Z7(ns:List Int):(drN ns).length<=10:=by
 unfold drN;rw[show(some (9:Int))=some ((9:Nat):Int) from rfl,J6,Bz,List.length_take]
 exact Nat.add_le_add_right (Nat.min_le_left _ _) 1
noncomputable def ZJ(sd:Int):List Int:=(XF 0 64).map fun i=>(29*i+sd)%256
noncomputable def fF(row:List Int):Mem:=jO 4 row++jO 256 [0]++jO 8 row.reverse++jO 512 [0]
theorem J5{a b:Mem}(h:Bts a)(h2:Bts b):Bts (a++b):=fun x hx=>(List.mem_append.mp hx).elim (h x) (h2 x)
noncomputable def fS(sd:Int):Fl:=fC (bt 4 sd) (bt 3 sd) (bt 2 sd) (bt 1 sd) (bt 0 sd)
noncomputable def cIn(sd:Int):Cpu:={ c0 1040 with a:=sd%256,x:=sd/3%256,y:=sd/7%256,f:=fS sd }
noncomputable def hR(sd:Int)(M N:Mem)(c1 c2:Cpu)(tl:List PO):List PO:=.cell (some (.int sd))::.tab 80::.il M::.il N::.inst (yH c1)::.inst (rnF (yH c2))::tl
theorem wj(sd:Int):48+sd%8+64*(sd/8%4)=pk (fS sd):=by
 show _=b2 (bt 0 sd)+b2 (bt 1 sd)*2+b2 (bt 2 sd)*4+b2 false*8+b2 true*16+b2 true*32+b2 (bt 3 sd)*64+b2 (bt 4 sd)*128;have e1:sd%8=sd%2 ^ 0+b2 (bt 0 sd)*2 ^ 0+b2 (bt 1 sd)*2 ^ 1+b2 (bt 2 sd)*2 ^ 2:=by rw[<- Ub,<- Ub,<- Ub];rfl
 have e2:sd/8%4=b2 (bt 3 sd)+b2 (bt 4 sd)*2:=by
  have e:=Ub 1 (sd/8);rw[<- cR 3,ye 3,ye 2,ye 1,Int.ediv_ediv_of_nonneg (by decide),Int.ediv_ediv_of_nonneg (by decide)]
  exact e
 rw[e1,e2,show sd%2 ^ 0=0 from Int.emod_one sd]
 generalize b2 (bt 0 sd)=a;generalize b2 (bt 1 sd)=b;generalize b2 (bt 2 sd)=c;generalize b2 (bt 3 sd)=d;generalize b2 (bt 4 sd)=f;show 48+(0+a*1+b*2+c*4)+64*(d+f*2)=a+b*2+c*4+0*8+1*16+1*32+d*64+f*128
 lia
theorem md{P:Pi}{k:KF}{l:List (Nat×PV)}(h:pSs P H is ⟨st x (.ref hp.length) l,hp ++ [.il []]⟩ k):pSs P H (.name x (.list true [])::is) ⟨l,hp⟩ k:=by
 show cO (.il []) hp fun h'=>PS.slC ⟨l,h'⟩ x (.ref hp.length) fun B4=>pSs P H is B4 k
 exact qz.mpr (zJ.mpr h)
theorem qr{P:Pi}{v:PV}{fs:List (Nat×PV)}{l:List (Nat×PV)}(h1:lk x l=some (.ref i))(hj:hp[i]?=some (.inst fs))(hl:Nat.ble fs.length 900=true):Ta P H (.attr x y) v ⟨l,hp⟩ ⟨l,hp.set i (.inst (st y v fs))⟩:=fun κ hκ=>by
 show opt (lk x l) _;rw[h1];show VG hp[i]? _;rw[hj];show cond (Nat.ble fs.length 900) (stC y v fs fun fs'=>PS.siC ⟨l,hp⟩ i (.inst fs') κ) False
 rw[hl];exact Ue.mpr (j6.mpr hκ)
section
variable {a:Addr}{ns:List Int}{rest:List IS}{K:KF}
theorem YH:(zR a ns).arg (.top a)=some ns:=by
 show cond (Nat.beq a a) (some ns) none=some ns;rw[De];rfl
theorem AW(hn:ns.length<=63)(h:∀(sd:Int) (M:Mem),Pf (sd%256) M->Bts M->pSs (zR a ns) zK rest ⟨[(264,.top a),(263,.il (drN ns)),(266,.il (ZJ sd)),(1,.ref 2),(268,.ref 3),(23,.int (pk (fS sd))),(269,.ref 4),(270,.ref 5),(271,.ref 6),(272,.int 1040),(273,.int 1040),(274,.int 0)],hR sd M M (cIn sd) (cIn sd) [.il []]⟩ K):
  pSs (zR a ns) zK (Jk++rest) ⟨[(264,.top a)],[.cell none,.tab 80]⟩ K:=by
 have pw5:PwA 5:=pwL rfl (by decide) (by decide)
 have e1:zu (zR a ns) zK (.slice false (.loc 264) none (some (.int 9))) ⟨[(264,.top a)],[.cell none,.tab 80]⟩ (.il (Ji none (some 9) ns)):=fun κ hκ=>by
  show opt ((zR a ns).arg (.top a)) _;rw[YH]
  exact⟨yD hn rfl,hκ⟩
 have e2:zu (zR a ns) zK (.argL 254 264) ⟨[(264,.top a)],[.cell none,.tab 80]⟩ (.int (ns.length:Int)):=fun κ hκ=>by
  show opt ((zR a ns).arg (.top a)) _;rw[YH]
  exact⟨yD hn rfl,hκ⟩
 have dl:=Z7 ns;refine qk (v:=.il (drN ns)) (XI (xs:=Ji none (some 9) ns) (ys:=[11+(ns.length:Int)%5]) e1 (j9 (us:=[.int (11+(ns.length:Int)%5)]) (ze (zO zb (zI e2 zb pw5)) zY) rfl rfl) (by rw[<- Bz];exact Dc dl (by decide))) ?_
 generalize drN ns=dr at *;refine ZK (off:=0) (c:=none) (v:=.int (dr.sum%65536)) (zI (ZV (zg rfl)) zb lT) rfl ?_;generalize dr.sum%65536=sd at *;refine te (O:=⟨[(264,.top a),(263,.il dr)],[.cell (some (.int sd)),.tab 80]⟩) (n:=64) (f:=fun i=>(29*i+sd)%256) zb (by decide) (fun i=>zI (zO (jY zb (qh rfl) (by decide)) (zq rfl)) zb jE) ?_
 have h:=h sd;have hrl:(ZJ sd).length=64:=by unfold ZJ;rw[Cm,YZ]
 have hrB:Bts (ZJ sd):=fun y hy=>by
  refine zc (List.mem_map.mp hy) fun z Z Cd=>?_;subst Cd
  exact jU _
 rw[show((XF 0 64).map fun i=>(29*i+sd)%256)=ZJ sd from rfl]
 generalize ZJ sd=row at *;have r4:(jO 4 row).length=256:=by rw[yF,hrl]
 have z4:(jO 256 [(0:Int)]).length=256:=yF _ _;have z5:(jO 512 [(0:Int)]).length=512:=yF _ _;have v4:(jO 8 row.reverse).length=512:=by rw[yF,Cr,hrl]
 have zL:∀{O:PS},zu (zR a ns) zK (.bin (.mul false) .Mult (.list false [.int 0]) (.int 256)) O (.il (jO 256 [0])):=fun{O}=>XJ (n:=256) (j9 (ze zb zY) rfl rfl) zb (by show 1*256<=2 ^ 24;decide) (by decide)
 have zM:∀{O:PS},zu (zR a ns) zK (.bin (.mul false) .Mult (.list false [.int 0]) (.int 512)) O (.il (jO 512 [0])):=fun{O}=>XJ (n:=512) (j9 (ze zb zY) rfl rfl) zb (by show 1*512<=2 ^ 24;decide) (by decide)
 refine l8 (xs:=jO 4 row++jO 256 [0]++jO 8 row.reverse) (ys:=jO 512 [0]) (XI (XI (XJ (n:=4) (zg rfl) zb (by rw[hrl];decide) (by decide)) zL (by rw[r4,z4];decide)) (XJ (n:=8) (uc (zg rfl) (by rw[hrl];decide)) zb (by rw[Cr,hrl];decide) (by decide)) (by rw[Bz,r4,z4,v4];decide)) zM (by rw[Bz,Bz,r4,z4,v4,z5];decide) ?_
 have lm:(fF row).length=1536:=by unfold fF;rw[Bz,Bz,Bz,r4,z4,v4,z5]
 have bz:∀n,Bts (jO n [0]):=fun n x hx=>by rw[List.mem_singleton.mp (KP hx)];exact⟨by decide,by decide⟩
 have bm:Bts (fF row):=J5 (J5 (J5 (fun x hx=>hrB x (KP hx)) (bz _)) fun x hx=>hrB x (List.mem_reverse.mp (KP hx))) (bz _)
 rw[show jO 4 row++jO 256 [0]++jO 8 row.reverse++jO 512 [0]=fF row from rfl]
 generalize fF row=M0 at *;have q:=jU sd;refine gy (x:=1) (j:=2) (xs:=M0) (ys:=[sd%256,2]) (zs:=lay M0 224 [sd%256,2]) rfl rfl (j9 (us:=[.int (sd%256),.int 2]) (ze (zI (zq rfl) zb jE) (ze zb zY)) rfl rfl) (jd zb) (jd zb) rfl rfl (by rw[lm];show 1536+2<=2 ^ 24;decide) (vp (p:=224) (by rw[lm];decide)) ?_
 have l1:(lay M0 224 [sd%256,2]).length=1536:=qT.trans lm;have a1:=U3 (l:=[sd%256,2]) lm (p:=224) (by decide) (show(224:Int)+((2:Nat):Int)<=1536 by decide)
 have b1:Bts (lay M0 224 [sd%256,2]):=Yw bm fun y hy=>by
  rcases List.mem_cons.mp hy with rfl | hy
  ·exact q
  ·rw[List.mem_singleton.mp hy];exact⟨by decide,by decide⟩
 generalize lay M0 224 [sd%256,2]=M1 at *;refine gy (x:=1) (j:=2) (xs:=M1) (ys:=[200,96]) (zs:=lay M1 1024 [200,96]) rfl rfl (j9 (us:=[.int 200,.int 96]) (ze zb (ze zb zY)) rfl rfl) (jd zb) (jd zb) rfl rfl (by rw[l1];decide) (vp (p:=1024) (by rw[l1];decide)) ?_
 have l2:(lay M1 1024 [200,96]).length=1536:=qT.trans l1;have a2:=U3 (l:=[200,96]) l1 (p:=1024) (by decide) (by decide)
 have b2':Bts (lay M1 1024 [200,96]):=Yw b1 fun y hy=>by
  rcases List.mem_cons.mp hy with rfl | hy
  ·exact⟨by decide,by decide⟩
  ·rw[List.mem_singleton.mp hy];exact⟨by decide,by decide⟩
 have pf:Pf (sd%256) (lay M1 1024 [200,96]):=⟨l2,(JV l1 (by decide) (by decide) (by decide)).trans a1.1,(JV l1 (by decide) (by decide) (by decide)).trans a1.2.1,a2.1,a2.2.1⟩
 have h:=h (lay M1 1024 [200,96]) pf b2';generalize lay M1 1024 [200,96]=M at *;refine aX (x:=1) (j:=2) (xs:=M) rfl rfl (by rw[l2];decide) ?_
 have pw8':PwA 8:=pw8;refine qk (v:=.int (pk (fS sd))) (wj sd▸zO (zO zb (zI (zq rfl) zb pw8)) (jY zb (zI (jX (zq rfl) zb pw8) zb pw4) (by decide))) ?_
 clear e1 e2 zL zM;conv=>whnf
 refine .inl (y3 M ⟨.cell (some (.int sd)),.il M,[]⟩ 1040 rfl rfl ?_);conv=>whnf
 refine .inr ⟨show 6<=6 by decide,M,⟨.cell (some (.int sd)),.il M,[.inst (rnF (yH (c0 1040)))]⟩,1040,rfl,rfl,show 6<=6 by decide,?_⟩
 have pw3':=pw3;have four:∀{O:PS},O.hp[0]?=some (.cell (some (.int sd)))->lk 23 O.loc=some (.int (pk (fS sd)))->zu (zR a ns) zK (.tup [.bin .i .Mod (.cel 265 0) (.int 256),.bin .i .Mod (.bin .i .FloorDiv (.cel 265 0) (.int 3)) (.int 256),.bin .i .Mod (.bin .i .FloorDiv (.cel 265 0) (.int 7)) (.int 256),.loc 23]) O (.tup [.int (sd%256),.int (sd/3%256),.int (sd/7%256),.int (pk (fS sd))]):=fun h1 h2=>yl (ze (zI (zq h1) zb jE) (ze (zI (jX (zq h1) zb pw3) zb jE) (ze (zI (jX (zq h1) zb pw7) zb jE) (ze (zg h2) zY)))) rfl
 show pSs (zR a ns) zK (Jk.drop 10++rest) ⟨[(264,.top a),(263,.il dr),(266,.il row),(1,.ref 2),(268,.ref 3),(23,.int (pk (fS sd))),(269,.ref 4),(270,.ref 5)],hR sd M M (c0 1040) (c0 1040) []⟩ K;refine qu (us:=[.int (sd%256),.int (sd/3%256),.int (sd/7%256),.int (pk (fS sd))]) (four rfl rfl) rfl rfl (zD (qr rfl rfl rfl) (zD (qr rfl rfl rfl) (zD (qr rfl rfl rfl) (zD (qr rfl rfl rfl) yw)))) ?_;refine qu (us:=[.int (sd%256),.int (sd/3%256),.int (sd/7%256),.int (pk (fS sd))]) (four rfl rfl) rfl rfl (zD (qr rfl rfl rfl) (zD (qr rfl rfl rfl) (zD (qr rfl rfl rfl) (zD (qr rfl rfl rfl) yw)))) ?_;show pSs (zR a ns) zK (Jk.drop 12++rest) ⟨[(264,.top a),(263,.il dr),(266,.il row),(1,.ref 2),(268,.ref 3),(23,.int (pk (fS sd))),(269,.ref 4),(270,.ref 5)],hR sd M M (cIn sd) (cIn sd) []⟩ K;refine md (x:=271) ?_;refine qu (us:=[.int 1040,.int 1040,.int 0]) (yl (ze zb (ze zb (ze zb zY))) rfl) rfl rfl (zD zE (zD zE (zD zE yw))) ?_;exact h
end
noncomputable def Jg:List IS:=bO (nt y6 2)
noncomputable def Z2:List IS:=bO (nt Jg 0)
noncomputable def cZ:List IS:=[.ite (.cmp .i .Eq (.attr 285 2) (.loc 286)) [.brk] [],.expr (.mcall 285 99 43 [])]
section
variable {a:Addr}{ns:List Int}{K:KF}{l:List (Nat×PV)}{q:Int}
theorem jJ{w:PV}{fs:List (Nat×PV)}(h:lk x l=some (.ref j))(hj:hp[j]?=some (.inst fs))(hw:lk y fs=some w):zu (zR a ns) zK (.attr x y) ⟨l,hp⟩ w:=fun κ hκ=>zg (P:=zR a ns) (H:=zK) (O:=⟨l,hp⟩) h _ (og hj hw hκ)
structure Mc(a:Addr)(ns:List Int)(j:Nat)(hpf:Cpu->Mem->List PO):Prop where
 at_:∀c m,∃fs,(hpf c m)[j]?=some (.inst fs)/\lk 2 fs=some (.int c.pc)
 stp:∀{c m k op l is K},lk 285 l=some (.ref j)->StpOk k op c m->pSs (zR a ns) zK is ⟨l,hpf (stp k op c m).1 (stp k op c m).2⟩ K->pSs (zR a ns) zK (.expr (.mcall 285 99 43 [])::is) ⟨l,hpf c m⟩ K
variable {hpf:Cpu->Mem->List PO}{Q:List (Nat×PV)->Prop}{c c':Cpu}{m m':Mem}
theorem mh(hM:Mc a ns j hpf)(hQ:∀l,Q l->lk 285 l=some (.ref j)/\lk 286 l=some (.int q) /\ ∀v,Q (st 287 v l))(he:c.pc=q):∀(n:Nat) (i:Int) (l:List (Nat×PV)),Q l->(∀l',Q l'->K .next ⟨l',hpf c m⟩) ->
  qj (pA (zR a ns) zK (.name 287)) (pSs (zR a ns) zK cZ) (ji i n) ⟨l,hpf c m⟩ K
 | 0,i,l,h,hk=>hk l h
 | n+1,i,l,h,hk=>by
  have h2:=(hQ l h).2.2 (.int i);refine byc fun Ea=>?_
  refine jn (hQ _ h2) fun g1 g2 Z=>?_
  refine zc (hM.at_ c m) fun fs f1 f2=>?_
  refine Ea ?_;refine Q7 ?_;refine wD (A:=[.brk]) (B:=[]) (is:=[.expr (.mcall 285 99 43 [])]) (yp (i:=c.pc) (j:=q) (jJ g1 f1 f2) (zg g2)) (by rw[he];exact beq_self_eq_true q) ?_
  exact hk _ h2
theorem gA(hM:Mc a ns j hpf)(hQ:∀l,Q l->lk 285 l=some (.ref j)/\lk 286 l=some (.int q) /\ ∀v,Q (st 287 v l)){k:Nat}(r:Run (fun i=>i≠q) k c m c' m'):c'.pc=q->∀(n:Nat) (i:Int) (l:List (Nat×PV)),k<=n->Q l->(∀l',Q l'->K .next ⟨l',hpf c' m'⟩) ->
  qj (pA (zR a ns) zK (.name 287)) (pSs (zR a ns) zK cZ) (ji i n) ⟨l,hpf c m⟩ K:=by
 induction r with
 | z=>intro he n i l _ h hk;exact mh hM hQ he n i l h hk
 | @s nn op c m k c' m' hs hv _ ih =>
  intro he n i l hn h hk
  induction n with
  | zero=>exact absurd hn (Nat.not_succ_le_zero _)
  | succ n =>
   have h2:=(hQ l h).2.2 (.int i);refine byc fun Ea=>?_
   refine jn (hQ _ h2) fun g1 g2 Z=>?_
   refine zc (hM.at_ c m) fun fs f1 f2=>?_
   refine Ea ?_;refine Q7 ?_;refine YN (A:=[.brk]) (B:=[]) (is:=[.expr (.mcall 285 99 43 [])]) (yp (i:=c.pc) (j:=q) (jJ g1 f1 f2) (zg g2)) (beq_false_of_ne hv) ?_;exact hM.stp g1 hs (ih he n (i+1) _ (Nat.le_of_succ_le_succ hn) h2 hk)
theorem kv{args:List PV}{k:PV->List PO->Prop}(h6:6<=hp.length)(h:Ul (ym args) (swH hp) fun v hp'=>6<=hp'.length/\k (rnV v) (swH hp')):zK 43 args hp k:=pG ⟨h6,h⟩
theorem rs{c2:Cpu}{tl:List PO}:Mc a ns 4 (fun c m=>hR sd m N c c2 tl) where
 at_ c m:=(zA (yH c) rfl rfl)
 stp {c m k op l is K} h hs hk:=by
  show opt (lk 285 l) _;rw[h];conv=>whnf
  exact pD (zk c m ⟨.cell (some (.int sd)),.il N,.inst (rnF (yH c2))::tl⟩ (qo k op rfl rfl hs hk))
theorem rt{M:Mem}{c1:Cpu}{tl:List PO}(ht:JY (JY tl)=tl):Mc a ns 5 (fun c m=>hR sd M m c1 c tl) where
 at_ c m:=(zA (rnF (yH c)) rfl rfl)
 stp {c m k op l is K} h hs hk:=by
  have e1:swH (hR sd M m c1 c tl)=shp c m ⟨.cell (some (.int sd)),.il M,.inst (rnF (yH c1))::JY tl⟩:=by
   show[PO.cell (some (.int sd)),.tab 80,.il m,.il M,.inst (rnF (rnF (yH c))),.inst (rnF (yH c1))]++JY tl=_
   rw[KR];rfl
  have e2:∀c' m',swH (shp c' m' ⟨.cell (some (.int sd)),.il M,.inst (rnF (yH c1))::JY tl⟩)=hR sd M m' c1 c' tl:=fun c' m'=>by
   show[PO.cell (some (.int sd)),.tab 80,.il M,.il m',.inst (rnF (rnF (yH c1))),.inst (rnF (yH c'))]++JY (JY tl)=_
   rw[KR,ht];rfl
  show opt (lk 285 l) _;rw[h];conv=>whnf
  refine kv (by show 6<=tl.length+6;exact yD (Cg _) rfl) ?_
  show Ul _ (swH (hR sd M m c1 c tl)) _;rw[e1];refine(zk c m _ (qo k op rfl rfl hs ⟨by show 6<=(JY tl).length+6;exact yD (Cg _) rfl,?_⟩))
  rw[e2];exact hk
end
def Has(l ps:List (Nat×PV)):Prop:=∀(i:Nat) {x:Nat} {v:PV},ps[i]?=some (x,v)->lk x l=some v
theorem Has.st{l ps:List (Nat×PV)}{y:Nat}{w:PV}(h:Has l ps)(hy:jG (fun p=>!Nat.beq p.1 y) ps=true):Has (st y w l) ps:=fun i x v e=>by
 have:=zP hy _ (Df e)
 rw[zw fun q=>by subst q;rw[show Nat.beq x x=true from De x] at this;cases this]
 exact h i e
noncomputable def L4(C:Co):List (Nat×PV):=[(1,.ref 2),(268,.ref 3),(269,.ref 4),(270,.ref 5),(283,.ref 7),(284,.il (st8 C))]
noncomputable def Pst(C:Co)(near far:Int)(k:Nat)(v:Int):List (Nat×PV):=L4 C ++ [(272,.int near),(273,.int far),(276,.int (k:Int)),(40,.int v)]
noncomputable def JF(c:Cpu):List Int:=[c.a,c.x,c.y,c.sp,pk c.f]
structure Cmp(sd:Int)(C:Co)(c1 c2:Cpu)(M N:Mem):Prop where
 e1:JF c1=JF c2
 e2:JF c1 = [C.a,C.x,C.y,C.s,pk C.f]
 f:pk C.f=48+4*(sd/4%2)+128*b2 C.f.n+64*b2 C.f.v+2*b2 C.f.z+b2 C.f.c
 lM:M.length=1536
 lN:N.length=1536
 s0:0<=C.s
 s1:C.s<=255
 eq:∀u,0<=u->u<1026->(u<250∨(254<=u/\u<256)∨256+C.s<u)->rd M u=rd N u
section
variable {M:Mem}
theorem kO{x y:List Int}(hl:x.length=y.length)(h:∀i:Nat,i<x.length->x.getD i 0=y.getD i 0):x=y:=by
 refine List.ext_getElem? fun i=>?_
 by_cases hi:i<x.length
 ·have:=h i hi
  rw[Cp,Cp,List.getElem?_eq_getElem hi,List.getElem?_eq_getElem (hl▸hi)] at this;rw[List.getElem?_eq_getElem hi,List.getElem?_eq_getElem (hl▸hi)];exact congrArg some this
 ·rw[Eb (Nat.not_lt.mp hi),Eb (by lia)]
theorem KY{p n:Nat}(lM:M.length=1536)(lN:N.length=1536)(h:∀u:Int,(p:Int)<=u->u<(p:Int)+n->rd M u=rd N u):(M.drop p).take n=(N.drop p).take n:=by
 refine kO (by rw[List.length_take,List.length_take,List.length_drop,List.length_drop,lM,lN]) fun i hi=>?_
 rw[List.length_take] at hi;have hn:i<n:=by lia
 rw[Cp,Cp,List.getElem?_take_of_lt hn,List.getElem?_take_of_lt hn,List.getElem?_drop,List.getElem?_drop,<- Cp,<- Cp]
 have:=h ((p+i:Nat):Int) (by lia) (by lia)
 unfold rd at this
 rwa [Dl] at this
end
section
variable {a:Addr}{ns:List Int}{K:KF}{l:List (Nat×PV)}{far v:Int}{k:Nat}{C:Co}{c1 c2 c1' c2':Cpu}{M M' N':Mem}
theorem eA{w:PV}{r:List PV}{l:List (Nat×PV)}(h:Wb ⟨st y w (st x u l),hp⟩ (wK (j8 (pAs (zR a ns) zK [.name x,.name y])) Wb r K)):qj (j8 (pAs (zR a ns) zK [.name x,.name y])) Wb (.tup [u,w]::r) ⟨l,hp⟩ K:=by
 show PS.slC ⟨l,hp⟩ x u fun B4=>B4.slC y w fun B6=>Wb B6 (wK (j8 (pAs (zR a ns) zK [.name x,.name y])) Wb r K)
 exact zJ.mpr (zJ.mpr h)
theorem nX{q:Int}{hpf:Cpu->Mem->List PO}{c c':Cpu}{m m':Mem}{ps:List (Nat×PV)}{n:Nat}(hM:Mc a ns j hpf)(h285:lk 285 l=some (.ref j))(h286:lk 286 l=some (.int q))(hps:Has l ps)(hk1:jG (fun p=>!Nat.beq p.1 287) ps=true)(r:Run (fun i=>i≠q) n c m c' m')(hn:n<=29)(he:c'.pc=q)
  (hK:∀l',Has l' ps->K .next ⟨l',hpf c' m'⟩):pSs (zR a ns) zK Z2 ⟨l,hpf c m⟩ K:=by
 refine s9 (n:=30) (x:=287) (A:=cZ) (is:=Z2.drop 1) zb (by decide) ?_
 refine gA hM (Q:=fun l=>lk 285 l=some (.ref j)/\lk 286 l=some (.int q)/\Has l ps) (fun l h=>⟨h.1,h.2.1,fun v=>⟨(zw (by decide)).trans h.1,(zw (by decide)).trans h.2.1,h.2.2.st hk1⟩⟩) r he 30 0 l (Dc hn (by decide)) ⟨h285,h286,hps⟩ fun l' ⟨g1,g2,g3⟩=>?_
 refine zc (hM.at_ c' m') fun fs f1 f2=>?_
 exact YN (A:=[.ret (.bool false)]) (B:=[]) (is:=[]) (xD (i:=c'.pc) (j:=q) (jJ g1 f1 f2) (zg g2)) (by rw[he];show(!(q==q))=false;rw[beq_self_eq_true];rfl) (hK l' g3)
theorem fm{n1 n2:Nat}{tl:List PO}(ht:JY (JY tl)=tl)(H:Has l (Pst C near far k v))(r1:Run (fun i=>i≠near) n1 c1 M c1' M')(hn1:n1<=29)(p1:c1'.pc=near)(r2:Run (fun i=>i≠far) n2 c2 N c2' N')(hn2:n2<=29)(p2:c2'.pc=far)
  (hK:∀l',Has l' (Pst C near far k v)->pSs (zR a ns) zK (Jg.drop 1) ⟨l',hR sd M' N' c1' c2' tl⟩ K):pSs (zR a ns) zK Jg ⟨l,hR sd M N c1 c2 tl⟩ K:=by
 refine aY (w:=.ls [.tup [.ref 4,.int near],.tup [.ref 5,.int far]]) (items:=[.tup [.ref 4,.int near],.tup [.ref 5,.int far]]) (ts:=[.name 285,.name 286]) (A:=Z2) (is:=Jg.drop 1) (fun κ hκ=>?_) rfl ?_
 ·exact ze (P:=zR a ns) (H:=zK) (yl (ze (zg (H 2 rfl)) (ze (zg (H 6 rfl)) zY)) rfl) (ze (yl (ze (zg (H 3 rfl)) (ze (zg (H 7 rfl)) zY)) rfl) zY) _ hκ
 refine eA ?_;refine nX (ps:=Pst C near far k v) rs ((zw (by decide)).trans j4) j4 ((H.st rfl).st rfl) rfl r1 hn1 p1 fun l1 H1=>?_
 show qj (j8 (pAs (zR a ns) zK [.name 285,.name 286])) (pSs (zR a ns) zK Z2) [.tup [.ref 5,.int far]] ⟨l1,hR sd M' N c1' c2 tl⟩ (fK (pSs (zR a ns) zK (Jg.drop 1)) K);refine eA ?_;refine nX (ps:=Pst C near far k v) (rt ht) ((zw (by decide)).trans j4) j4 ((H1.st rfl).st rfl) rfl r2 hn2 p2 fun l2 H2=>?_
 exact hK l2 H2
end
section
variable {a:Addr}{ns:List Int}{K:KF}{l:List (Nat×PV)}{far v:Int}{k:Nat}{C C':Co}{c1 c2:Cpu}{M:Mem}
theorem aW{tl:List PO}(h:lk 269 l=some (.ref 4)):XM (zR a ns) zK [.attr 269 20,.attr 269 21,.attr 269 22,.attr 269 19,.attr 269 23] ⟨l,hR sd M N c1 c2 tl⟩ ((JF c1).map .int):=
 ze (jJ h rfl rfl) (ze (jJ h rfl rfl) (ze (jJ h rfl rfl) (ze (jJ h rfl rfl) (ze (jJ h rfl rfl) zY))))
theorem l7{tl:List PO}(h:lk 270 l=some (.ref 5)):XM (zR a ns) zK [.attr 270 20,.attr 270 21,.attr 270 22,.attr 270 19,.attr 270 23] ⟨l,hR sd M N c1 c2 tl⟩ ((JF c2).map .int):=
 ze (jJ h rfl rfl) (ze (jJ h rfl rfl) (ze (jJ h rfl rfl) (ze (jJ h rfl rfl) (ze (jJ h rfl rfl) zY))))
theorem neF{xs ys:List Int}(h:xs=ys):(!decide (xs=ys))=false:=by rw[decide_eq_true h];rfl
theorem xL(H:Has l (Pst C near far k v))(hC:C'=eff v (sd%256) near k C)(hk:k<30)(g:Gc k C v sd near)(q:Cmp sd C' c1 c2 M N)(hK:K .next ⟨L4 C',hR sd M N c1 c2 [.gone,.il C'.P]⟩):
  pSs (zR a ns) zK (Jg.drop 1) ⟨l,hR sd M N c1 c2 [.gone,.il C.P]⟩ K:=by
 refine YN (ub (us:=(JF c1).map .int) (ws:=(JF c2).map .int) (xs:=JF c1) (ys:=JF c2) (yl (aW (H 2 rfl)) rfl) (yl (l7 (H 3 rfl)) rfl) (jL _) (jL _)) (neF q.e1) ?_;have hcall:zu (zR a ns) zK (.loc 284) ⟨l,hR sd M N c1 c2 [.gone,.il C.P]⟩ (.il (st8 C)):=zg (H 5 rfl);show pSs (zR a ns) zK (.name 284 (.callv (.top 288 1528) [.loc 284,.loc 283,.loc 276,.loc 40,.loc 272,.cel 265 0])::Jg.drop 3) ⟨l,hR sd M N c1 c2 [.gone,.il C.P]⟩ K;refine(show _/\pEs (zR a ns) zK [.loc 284,.loc 283,.loc 276,.loc 40,.loc 272,.cel 265 0] ⟨l,hR sd M N c1 c2 [.gone,.il C.P]⟩ _ from⟨rfl,ze (zg (H 5 rfl)) (ze (zg (H 4 rfl)) (ze (zg (H 8 rfl)) (ze (zg (H 9 rfl)) (ze (zg (H 6 rfl)) (ze (zq rfl) zY))))) _ ?_⟩)
 refine ku (zk ⟨.cell (some (.int sd)),.tab 80,.il M,.il N,.inst (yH c1),.inst (rnF (yH c2)),.gone⟩ C v (yM sd near k rfl rfl hk ⟨g,?_⟩));rw[<- hC];refine zJ.mpr ?_;show pSs (zR a ns) zK (Jg.drop 3) ⟨st 284 (.il (st8 C')) l,hR sd M N c1 c2 [.gone,.il C'.P]⟩ K;have H2:Has (st 284 (.il (st8 C')) l) [(1,.ref 2),(268,.ref 3),(269,.ref 4),(270,.ref 5),(283,.ref 7),(284,.il (st8 C'))]:=fun i x u e=>by
  match i,e with
  | 0,e=>cases e;exact(zw (by decide)).trans (H 0 rfl)
  | 1,e=>cases e;exact(zw (by decide)).trans (H 1 rfl)
  | 2,e=>cases e;exact(zw (by decide)).trans (H 2 rfl)
  | 3,e=>cases e;exact(zw (by decide)).trans (H 3 rfl)
  | 4,e=>cases e;exact(zw (by decide)).trans (H 4 rfl)
  | 5,e=>cases e;exact j4
  | _+6,e=>cases e
 generalize st 284 (.il (st8 C')) l=l2 at *;have sl:zu (zR a ns) zK (.slice false (.loc 284) (some (.int 4)) none) ⟨l2,hR sd M N c1 c2 [.gone,.il C'.P]⟩ (.il [b2 C'.f.n,b2 C'.f.v,b2 C'.f.z,b2 C'.f.c]):=Y2 (xs:=st8 C') (zg (H2 5 rfl)) (jd zb) Ui rfl rfl (show 8<=2 ^ 24 by decide) (dI (xs:=st8 C') (k:=4))
 refine qu (us:=[.int (b2 C'.f.n),.int (b2 C'.f.v),.int (b2 C'.f.z),.int (b2 C'.f.c)]) sl rfl rfl (zD zE (zD zE (zD zE (zD zE yw)))) ?_;have H3:Has (st 291 (.int (b2 C'.f.c)) (st 37 (.int (b2 C'.f.z)) (st 290 (.int (b2 C'.f.v)) (st 289 (.int (b2 C'.f.n)) l2)))) ([(1,.ref 2),(268,.ref 3),(269,.ref 4),(270,.ref 5),(283,.ref 7),(284,.il (st8 C'))]):=(((H2.st rfl).st rfl).st rfl).st rfl;have n1:lk 289 (st 291 (.int (b2 C'.f.c)) (st 37 (.int (b2 C'.f.z)) (st 290 (.int (b2 C'.f.v)) (st 289 (.int (b2 C'.f.n)) l2))))=some (.int (b2 C'.f.n)):=(zw (by decide)).trans ((zw (by decide)).trans ((zw (by decide)).trans j4))
 have n2:lk 290 (st 291 (.int (b2 C'.f.c)) (st 37 (.int (b2 C'.f.z)) (st 290 (.int (b2 C'.f.v)) (st 289 (.int (b2 C'.f.n)) l2))))=some (.int (b2 C'.f.v)):=(zw (by decide)).trans ((zw (by decide)).trans j4)
 have n3:lk 37 (st 291 (.int (b2 C'.f.c)) (st 37 (.int (b2 C'.f.z)) (st 290 (.int (b2 C'.f.v)) (st 289 (.int (b2 C'.f.n)) l2))))=some (.int (b2 C'.f.z)):=(zw (by decide)).trans j4
 have n4:lk 291 (st 291 (.int (b2 C'.f.c)) (st 37 (.int (b2 C'.f.z)) (st 290 (.int (b2 C'.f.v)) (st 289 (.int (b2 C'.f.n)) l2))))=some (.int (b2 C'.f.c)):=j4;show pSs (zR a ns) zK (Jg.drop 4) ⟨st 291 (.int (b2 C'.f.c)) (st 37 (.int (b2 C'.f.z)) (st 290 (.int (b2 C'.f.v)) (st 289 (.int (b2 C'.f.n)) l2))),hR sd M N c1 c2 [.gone,.il C'.P]⟩ K;generalize st 291 (.int (b2 C'.f.c)) (st 37 (.int (b2 C'.f.z)) (st 290 (.int (b2 C'.f.v)) (st 289 (.int (b2 C'.f.n)) l2)))=l3 at *;have sl2:zu (zR a ns) zK (.slice false (.loc 284) none (some (.int 4))) ⟨l3,hR sd M N c1 c2 [.gone,.il C'.P]⟩ (.il [C'.a,C'.x,C'.y,C'.s]):=Y2 (xs:=st8 C') (zg (H3 5 rfl)) Ui (jd zb) rfl rfl (show 8<=2 ^ 24 by decide) (J6 (xs:=st8 C') (k:=4))
 refine YN (Vm (xs:=JF c1) (ys:=[C'.a,C'.x,C'.y,C'.s] ++ [pk C'.f]) (j9 (us:=(JF c1).map .int) (aW (H3 2 rfl)) (jL _) rfl) (XI sl2 (j9 (us:=[.int (pk C'.f)]) (ze (by rw[q.f];exact zO (zO (zO (zO (zO zb (jY zb (zI (jX (zq rfl) zb pw4) zb pw2) (by decide))) (jY zb (zg n1) (by decide))) (jY zb (zg n2) (by decide))) (jY zb (zg n3) (by decide))) (zg n4)) zY) rfl rfl) (show 5<=2 ^ 24 by decide))) (neF q.e2) ?_
 have lM:=q.lM;have lN:=q.lN;have mM:M.length<=2 ^ 24:=by rw[lM];decide
 have mN:N.length<=2 ^ 24:=by rw[lN];decide
 have s0:=q.s0;have s1:=q.s1;have cm:∀{p m:Nat} {X:Mem},X.length=1536->p<=m->m<=1536->Ji (some (p:Int)) (some (m:Int)) X=(X.drop p).take (m-p):=fun h h1 h2=>iG h1 (by rw[h];exact h2)
 have e250:M.take 250=N.take 250:=KY (p:=0) (n:=250) lM lN fun u h0 h1=>q.eq u h0 (by lia) (Or.inl h1)
 have e254:(M.drop 254).take (256-254)=(N.drop 254).take (256-254):=KY lM lN fun u h0 h1=>q.eq u (by lia) (by lia) (Or.inr (Or.inl ⟨h0,h1⟩))
 obtain⟨sN,hs⟩:∃n:Nat,C'.s=(n:Int):=⟨C'.s.toNat,(Int.toNat_of_nonneg s0).symm⟩;have esp:(M.drop (257+sN)).take (512-(257+sN))=(N.drop (257+sN)).take (512-(257+sN)):=KY lM lN fun u h0 h1=>q.eq u (by lia) (by lia) (by lia)
 have e512:(M.drop 512).take (1026-512)=(N.drop 512).take (1026-512):=KY lM lN fun u h0 h1=>q.eq u (by lia) h1 (by lia)
 have sp1:c1.sp=C'.s:=by
  have:=q.e2
  unfold JF at this;simp only[List.cons.injEq] at this;exact this.2.2.2.1
 have a1:zu (zR a ns) zK (.bin .i .Add (.int 257) (.attr 269 19)) ⟨l3,hR sd M N c1 c2 [.gone,.il C'.P]⟩ (.int ((257+sN:Nat):Int)):=jq (zO zb (jJ (w:=.int c1.sp) (H3 2 rfl) rfl rfl)) (by rw[sp1,hs];lia)
 refine YN (ZU (Vm (yc (H3 0 rfl) rfl Ui (jd zb) rfl rfl mM (J6 (k:=250))) (yc (H3 1 rfl) rfl Ui (jd zb) rfl rfl mN (J6 (k:=250)))) (Vm (yc (H3 0 rfl) rfl (jd zb) (jd zb) rfl rfl mM (cm (p:=254) (m:=256) lM (by decide) (by decide))) (yc (H3 1 rfl) rfl (jd zb) (jd zb) rfl rfl mN (cm (p:=254) (m:=256) lN (by decide) (by decide))))) (by rw[neF e250,neF e254];rfl) ?_
 refine YN (ZU (Vm (yc (H3 0 rfl) rfl (jd a1) (jd zb) rfl rfl mM (cm (p:=257+sN) (m:=512) lM (by lia) (by decide))) (yc (H3 1 rfl) rfl (jd a1) (jd zb) rfl rfl mN (cm (p:=257+sN) (m:=512) lN (by lia) (by decide)))) (Vm (yc (H3 0 rfl) rfl (jd zb) (jd zb) rfl rfl mM (cm (p:=512) (m:=1026) lM (by decide) (by decide))) (yc (H3 1 rfl) rfl (jd zb) (jd zb) rfl rfl mN (cm (p:=512) (m:=1026) lN (by decide) (by decide))))) (by rw[neF esp,neF e512];rfl) ?_
 refine Ud (is:=[]) (L:=L4 C') (fun Q hQ=>?_) hK
 show opt (lk 1 l3) _;rw[H3 0 rfl];show opt (lk 268 l3) _;rw[H3 1 rfl];show opt (lk 269 l3) _;rw[H3 2 rfl];show opt (lk 270 l3) _;rw[H3 3 rfl];show opt (lk 283 l3) _;rw[H3 4 rfl];show opt (lk 284 l3) _;rw[H3 5 rfl];exact hQ
end
def Es(v q near:Int)(k:Nat):Prop:=∀C:Co,(eff v q near k C).s=cond (Nat.beq k 21) (C.s-1) (cond (Nat.beq k 22) (C.s+1) C.s)/\((eff v q near k C).f.i=C.f.i/\(eff v q near k C).f.b=C.f.b/\(eff v q near k C).f.u=C.f.u/\(eff v q near k C).f.d=C.f.d)
theorem oL{v q:Int}{k:Nat}(h:k<30):Es v q near k:=by
 refine i30 (P:=Es v q near) ?_ ?_ ?_ ?_ ?_ ?_ ?_ ?_ ?_ ?_ ?_ ?_ ?_ ?_ ?_ ?_ ?_ ?_ ?_ ?_ ?_ ?_ ?_ ?_ ?_ ?_ ?_ ?_ ?_ ?_ h<;>exact fun Z=>⟨rfl,rfl,rfl,rfl,rfl⟩
structure Inv(K1 K2:Int->Int)(sd:Int)(dp:Nat)(pc1 pc2:Int)(C:Co)(c1:Cpu)(M:Mem)(c2:Cpu)(N:Mem)(A1 A2:As):Prop where
 i1:Is K1 true A1 pc1 c1 M
 o1:A1.co=C
 d1:A1.d=false
 i2:Is K2 false A2 pc2 c2 N
 o2:A2.co=C
 d2:A2.d=false
 P:Pf (sd%256) C.P
 s:C.s=255-(dp:Int)
 b:C.f.b=true
 u:C.f.u=true
 d:C.f.d=false
 i:C.f.i=bt 2 sd
section
variable {K1 K2:Int->Int}{pc1 pc2 v:Int}{k:Nat}{C:Co}{c1 c2:Cpu}{M:Mem}{A1 A2:As}
theorem Is.oks{K:Int->Int}{e:Bool}{A:As}{c:Cpu}{m:Mem}(i:Is K e A pc c m):c.a=A.a/\c.x=A.x/\c.y=A.y/\c.sp=A.sp/\c.f=A.f:=by
 refine zh i.rg fun Z Z Z Ee=>JK Ee fun Z Z Cd=>?_;subst Cd
 exact⟨rfl,rfl,rfl,rfl,rfl⟩
theorem gm(f:Fl)(hb:f.b=true)(hu:f.u=true)(hd:f.d=false):pk f=48+4*b2 f.i+128*b2 f.n+64*b2 f.v+2*b2 f.z+b2 f.c:=by
 unfold pk;rw[hb,hu,hd,show b2 true=1 from rfl,show b2 false=0 from rfl]
 lia
theorem Inv.pP(h:Inv K1 K2 sd dp pc1 pc2 C c1 M c2 N A1 A2):M=C.P:=(show M=A1.k.P from h.i1.mem.mem).trans (congrArg Co.P h.o1)
theorem Inv.hy(h:Inv K1 K2 sd dp pc1 pc2 C c1 M c2 N A1 A2)(hv:isB v):Hy v A1/\Hy v A2:=by
 refine byc fun Ea=>?_
 refine yC h.i1.oks fun a1 a2 a3 Ee=>zd Ee fun Z Z=>?_
 refine yC h.i2.oks fun b1 b2 b3 Ee=>zd Ee fun Z Z=>?_
 have f1:A1.f=C.f:=congrArg Co.f h.o1;have f2:A2.f=C.f:=congrArg Co.f h.o2;have P1:A1.k.P=C.P:=congrArg Co.P h.o1;have P2:A2.k.P=C.P:=congrArg Co.P h.o2;have hP:Bts C.P:=h.pP▸h.i1.ok.mem;refine Ea ?_
 exact⟨⟨a1▸h.i1.ok.a,a2▸h.i1.ok.x,a3▸h.i1.ok.y,P1.symm▸hP,hv,f1.symm▸h.b,f1.symm▸h.u,f1.symm▸h.d,h.d1⟩,⟨b1▸h.i2.ok.a,b2▸h.i2.ok.x,b3▸h.i2.ok.y,P2.symm▸hP,hv,f2.symm▸h.b,f2.symm▸h.u,f2.symm▸h.d,h.d2⟩⟩
theorem Inv.step(h:Inv K1 K2 sd dp pc1 pc2 C c1 M c2 N A1 A2)(hk:k<30)(hv:isB v)(hdp:dp<=100)(h22:k=22->1<=dp)(k1:At K1 pc1 (rby v k))(k2:At K2 pc2 (pby v (sd%256) k))(p1:1040<=pc1)(p1':pc1+(rby v k).length<=1490)(p2:1040<=pc2)(p2':pc2+(pby v (sd%256) k).length<=1490):
  Gc k C v sd (pc1+(rby v k).length) /\ ∃n1 n2 c1' c2' M' N' B1 B2,n1<=29/\n2<=29/\Run (fun i=>i≠pc1+(rby v k).length) n1 c1 M c1' M'/\c1'.pc=pc1+(rby v k).length/\Run (fun i=>i≠pc2+(pby v (sd%256) k).length) n2 c2 N c2' N'/\c2'.pc=pc2+(pby v (sd%256) k).length /\
   Cmp sd (eff v (sd%256) (pc1+(rby v k).length) k C) c1' c2' M' N'/\Inv K1 K2 sd (dpn dp k) (pc1+(rby v k).length) (pc2+(pby v (sd%256) k).length) (eff v (sd%256) (pc1+(rby v k).length) k C) c1' M' c2' N' B1 B2:=by
 refine zd (h.hy hv) fun y1 y2=>?_
 have S1:A1.k.s=C.s:=congrArg Co.s h.o1;have S2:A2.k.s=C.s:=congrArg Co.s h.o2;have P1:A1.k.P=C.P:=congrArg Co.P h.o1;have X1:A1.x=C.x:=congrArg Co.x h.o1;have hs:=h.s;have g0:16<=C.s:=by lia
 have g1:C.s<=255:=by lia
 have g2:k=22->C.s<=254:=fun e=>by have:=h22 e;lia
 have hq:isB (sd%256):=jU sd;have gc:Gc k C v sd (pc1+(rby v k).length):=⟨(congrArg Co.a h.o1)▸y1.a,X1▸y1.x,(congrArg Co.y h.o1)▸y1.y,P1▸y1.P,h.P.len,hv,g0,g1,g2,zi (zN (zf p1) qK) rfl,yd (zS p1') rfl⟩
 refine⟨gc,?_⟩
 refine byc fun Ea=>?_
 refine zc (lO hk (v:=v) (q:=sd%256) y1 (S1▸g0) (S1▸g1) (fun e=>S1▸g2 e) hq (P1.symm▸h.P) k1 p1 p1') fun n1 l1 Dm=>?_;obtain⟨B1,r1,e1,d1⟩:=Dm
 refine zc (mQ hk (v:=v) (q:=sd%256) (near:=pc1+(rby v k).length) y2 (S2▸g0) (S2▸g1) (fun e=>S2▸g2 e) hq k2 p2 p2') fun n2 l2 Cd=>?_;obtain⟨B2,r2,e2,d2⟩:=Cd
 refine Ea ?_;rw[h.o1] at e1;rw[h.o2] at e2;refine byc fun Ef=>?_
 refine jj (r1 _ _ h.i1) fun c1' M' R1 j1=>?_
 refine jj (r2 _ _ h.i2) fun c2' N' R2 j2=>?_
 refine yC (oL (v:=v) (q:=sd%256) (near:=pc1+(rby v k).length) hk C) fun es ei eb Ee=>zd Ee fun eu ed=>?_
 have ep:=oJ (v:=v) (q:=sd%256) (near:=pc1+(rby v k).length) hk C h.P.len g0 g1 hv (X1▸y1.x);refine Ef ?_;generalize eff v (sd%256) (pc1+(rby v k).length) k C=C' at *;have sn:C'.s=255-((dpn dp k:Nat):Int):=by
  rw[es,hs];unfold dpn
  cases q21:Nat.beq k 21 with
  | true=>show(255:Int)-dp-1=255-((dp+1:Nat):Int);lia
  | false =>
   cases q22:Nat.beq k 22 with
   | true=>have:=h22 (Bp q22);show(255:Int)-dp+1=255-((dp-1:Nat):Int);lia
   | false=>rfl
 have inv:Inv K1 K2 sd (dpn dp k) (pc1+(rby v k).length) (pc2+(pby v (sd%256) k).length) C' c1' M' c2' N' B1 B2:=⟨j1,e1,d1,j2,e2,d2,h.P.keep ep,sn,eb.trans h.b,eu.trans h.u,ed.trans h.d,ei.trans h.i⟩;refine byc fun El=>?_
 refine yC j1.oks fun a1 a2 a3 Ee=>zd Ee fun a4 a5=>?_
 refine yC j2.oks fun b1 b2' b3 Ee=>zd Ee fun b4 b5=>?_
 refine El ?_;have q1:JF c1' = [C'.a,C'.x,C'.y,C'.s,pk C'.f]:=by
  unfold JF;rw[a1,a2,a3,a4,a5,Q1 d1,<- e1];rfl
 have q2:JF c2' = [C'.a,C'.x,C'.y,C'.s,pk C'.f]:=by
  unfold JF;rw[b1,b2',b3,b4,b5,Q1 d2,<- e2];rfl
 have bS:B2.k.s=C'.s:=congrArg Co.s e2;have bP:B2.k.P=C'.P:=congrArg Co.P e2;have s1':=j1.mem.s1;have s0':=j1.mem.s0;have bS1:B1.k.s=C'.s:=congrArg Co.s e1;refine(zk n1 n2 c1' (zk c2' M' N' (qo B1 B2 l1 l2 R1 ⟨j1.pcE,R2,j2.pcE,⟨q1.trans q2.symm,q1,?_,j1.mem.lm,j2.mem.lm,by lia,by lia,fun u u0 u1 hu=>?_⟩,inv⟩)))
 ·rw[gm _ inv.b inv.u inv.d,inv.i,<- Ut];rfl
 ·have hm2:=j2.mem.mem.pln u u0 u1 (by rw[bS];exact hu)
  rw[inv.pP,hm2,bP]
end
noncomputable def QR:KF:=fun f O=>match f with | .ret (.bool true)=>∃j:Nat,O.hp[j]?=some (PO.tab 80) | _=>False
theorem AD{d:Int}(h:kdN dp d=22):1<=dp:=by
 unfold kdN at h
 induction dp with
 | succ n=>exact Nat.le_add_left 1 n
 | zero =>
  cases q:Nat.beq (d%30).toNat 22 with
  | true=>rw[q] at h;cases (show(21:Nat)=22 from h)
  | false =>
   rw[q] at h;rw[show(d%30).toNat=22 from h] at q
   cases q
theorem oG{k:Nat}:dpn dp k<=dp+1:=by
 unfold dpn
 cases Nat.beq k 21 with
 | true=>exact Cg _
 | false =>
  cases Nat.beq k 22 with
  | true=>show dp-1<=dp+1;lia
  | false=>exact Nat.le_succ _
section
variable {a:Addr}{ns:List Int}{K:KF}{K1 K2:Int->Int}
theorem uS{C:Co}{far v:Int}{k:Nat}{ext:List (Nat×PV)}:Has (st 40 (.int v) (st 276 (.int (k:Int)) (st 273 (.int far) (st 272 (.int near) (L4 C++ext))))) (Pst C near far k v):=fun i x u e=>by
 have low:∀{x:Nat} {u:PV},x≠40->x≠276->x≠273->x≠272->lk x (L4 C++ext)=some u->lk x (st 40 (.int v) (st 276 (.int (k:Int)) (st 273 (.int far) (st 272 (.int near) (L4 C++ext)))))=some u:=fun h1 h2 h3 h4 h=>(zw h1).trans ((zw h2).trans ((zw h3).trans ((zw h4).trans h)))
 match i,e with
 | 0,e=>cases e;exact low (by decide) (by decide) (by decide) (by decide) rfl
 | 1,e=>cases e;exact low (by decide) (by decide) (by decide) (by decide) rfl
 | 2,e=>cases e;exact low (by decide) (by decide) (by decide) (by decide) rfl
 | 3,e=>cases e;exact low (by decide) (by decide) (by decide) (by decide) rfl
 | 4,e=>cases e;exact low (by decide) (by decide) (by decide) (by decide) rfl
 | 5,e=>cases e;exact low (by decide) (by decide) (by decide) (by decide) rfl
 | 6,e=>cases e;exact(zw (by decide)).trans ((zw (by decide)).trans ((zw (by decide)).trans j4))
 | 7,e=>cases e;exact(zw (by decide)).trans ((zw (by decide)).trans j4)
 | 8,e=>cases e;exact(zw (by decide)).trans j4
 | 9,e=>cases e;exact j4
 | _+10,e=>cases e
theorem pj{t:Nat}{w v q:PV}{r:List PV}{l:List (Nat×PV)}(h:Wb ⟨st t q (st z v (st y w (st x u l))),hp⟩ (wK (j8 (pAs (zR a ns) zK [.name x,.name y,.name z,.name t])) Wb r K)):qj (j8 (pAs (zR a ns) zK [.name x,.name y,.name z,.name t])) Wb (.tup [u,w,v,q]::r) ⟨l,hp⟩ K:=by
 show PS.slC ⟨l,hp⟩ x u fun B4=>B4.slC y w fun B6=>B6.slC z v fun C7=>C7.slC t q fun E4=>Wb E4 (wK (j8 (pAs (zR a ns) zK [.name x,.name y,.name z,.name t])) Wb r K)
 exact zJ.mpr (zJ.mpr (zJ.mpr (zJ.mpr h)))
theorem mT{r:List PV}{K:KF}:wK Wt Wb r K .next O=qj Wt Wb r O K:=rfl
theorem nB:∀(ds:List Int) {dp:Nat} {near far:Int} {C:Co} {c1 c2:Cpu} {M N:Mem} {A1 A2:As} {ext:List (Nat×PV)},Inv K1 K2 sd dp near far C c1 M c2 N A1 A2->dp+ds.length<=90->At K1 near (yZ (kvs dp ds))->At K2 far (qi (sd%256) (kvs dp ds))->1040<=near->near+(yZ (kvs dp ds)).length<=1490->1040<=far->far+(qi (sd%256) (kvs dp ds)).length<=1490 ->
  (∀{dp':Nat} {near' far':Int} {C':Co} {c1' c2':Cpu} {M' N':Mem} {B1 B2:As} {T7:List (Nat×PV)},Inv K1 K2 sd dp' near' far' C' c1' M' c2' N' B1 B2->K .next ⟨L4 C'++T7,hR sd M' N' c1' c2' [.gone,.il C'.P]⟩) ->
  qj (j8 (pAs (zR a ns) zK [.name 272,.name 273,.name 276,.name 40])) (pSs (zR a ns) zK Jg) (JM (sd%256) near far (kvs dp ds)) ⟨L4 C++ext,hR sd M N c1 c2 [.gone,.il C.P]⟩ K
 | [],dp,near,far,C,c1,c2,M,N,A1,A2,ext,h,_,_,_,_,_,_,_,hk=>hk h
 | d::ds,dp,near,far,C,c1,c2,M,N,A1,A2,ext,h,hd,k1,k2,p1,p1',p2,p2',hk=>by
  rw[Cu] at hd;have c1e:yZ (kvs dp (d::ds))=rby (vl d) (kdN dp d)++yZ (kvs (dpn dp (kdN dp d)) ds):=rfl;have c2e:qi (sd%256) (kvs dp (d::ds))=pby (vl d) (sd%256) (kdN dp d)++qi (sd%256) (kvs (dpn dp (kdN dp d)) ds):=rfl;rw[c1e] at k1 p1';rw[c2e] at k2 p2';rw[Bz] at p1' p2';refine byc fun Ea=>?_
  obtain⟨k1,k1'⟩:=k1.app;obtain⟨k2,k2'⟩:=k2.app;have dl:=oG (dp:=dp) (k:=kdN dp d);obtain⟨gc,n1,n2,c1',c2',M',N',B1,B2,l1,l2,R1,e1,R2,e2,q,inv⟩:=h.step (Qo dp d) (v:=vl d) (jU _) (by lia) AD k1 k2 p1 (by lia) p2 (by lia)
  have es:JM (sd%256) near far (kvs dp (d::ds))=.tup [.int (near+(rby (vl d) (kdN dp d)).length),.int (far+(pby (vl d) (sd%256) (kdN dp d)).length),.int (kdN dp d:Int),.int (vl d)]::JM (sd%256) (near+(rby (vl d) (kdN dp d)).length) (far+(pby (vl d) (sd%256) (kdN dp d)).length) (kvs (dpn dp (kdN dp d)) ds):=rfl;refine Ea ?_;rw[es];refine pj ?_;refine fm (tl:=[.gone,.il C.P]) rfl uS R1 l1 e1 R2 l2 e2 fun l' H=>?_
  refine xL H rfl (Qo dp d) gc q ?_
  have:=nB ds (ext:=[]) inv (by lia) k1' k2' (zi (zN (zf p1) qK) rfl) (by lia) (zi (zN (zf p2) qK) rfl) (by lia) hk
  rw[Cn] at this;rw[mT];exact this
end
theorem ag{W:PS->KF->Prop}{k:KF}:fK W k .next O=W O k:=rfl
section
variable {v q u:Int}{k:Nat}
theorem uJ(hv:isB v)(hq:isB q)(h:u<256):isB (fl [v,255-v,v%128,q] u):=by
 unfold fl
 cases e:decide (0<=u) with
 | true=>exact⟨of_decide_eq_true e,h⟩
 | false =>
  have:∀i:Nat,isB (([v,255-v,v%128,q]:List Int).getD i 0):=fun i=>match i with
   | 0=>hv
   | 1=>⟨by have:=hv.2;show 0<=255-v;exact zi (gt (Ce _) (zz this)) rfl,by have:=hv.1;show 255-v<256;exact zn (gt (Ce _) (zf this)) rfl⟩
   | 2=>⟨by show 0<=v%128;exact zi (AU rfl) rfl,by show v%128<256;exact zn (wk rfl) rfl⟩
   | 3=>hq
   | _+4=>⟨Ce 0,show(0:Int)<256 by decide⟩
  exact this _
theorem t8(h:k<30)(hv:isB v)(hq:isB q):Bts (rby v k)/\Bts (pby v q k):=by
 refine byc fun Ea=>?_
 refine zh (gT (v:=v) (q:=q) h) fun ad r p Ee=>JK Ee fun xs ys w=>?_
 refine Ea ?_
 refine⟨?_,?_⟩
 ·rw[<- w.r2]
  intro y hy;refine zc (List.mem_map.mp hy) fun z hz Dm=>?_;subst Dm
  exact uJ hv hq (of_decide_eq_true (zP w.r6 z hz))
 ·rw[<- w.p2]
  intro y hy;refine zc (List.mem_map.mp hy) fun z hz Cd=>?_;subst Cd
  exact uJ hv hq (of_decide_eq_true (zP w.p6 z hz))
theorem na(hq:isB q):∀(ds:List Int) (dp:Nat),Bts (yZ (kvs dp ds))/\Bts (qi q (kvs dp ds))
 | [],_=>⟨fun Z h=>absurd h Ci,fun Z h=>absurd h Ci⟩
 | d::ds,dp=>by
  obtain⟨h1,h2⟩:=na hq ds (dpn dp (kdN dp d));obtain⟨w1,w2⟩:=t8 (Qo dp d) (v:=vl d) (jU _) hq
  exact⟨J5 w1 h1,J5 w2 h2⟩
end
section
variable {a:Addr}{ns:List Int}{M:Mem}{ds:List Int}
noncomputable def C0(sd:Int)(P:Mem):Co:=⟨sd%256,sd/3%256,sd/7%256,255,fS sd,P⟩
noncomputable def A20(sd:Int)(P N:Mem):As:=⟨sd%256,sd/3%256,sd/7%256,fS sd,false,⟨255,none,rd N 250,rd N 251,rd N 252,rd N 253,P⟩⟩
theorem kB(hP:Pf (sd%256) P)(lN:N.length=1536)(bP:Bts P)(bN:Bts N)(he:∀u,0<=u->u<1026->rd N u=rd P u):Inv (rd P) (rd N) sd 0 1040 1040 (C0 sd P) (cIn sd) P (cIn sd) N (C0 sd P).toA (A20 sd P N):=
 have ok:∀{m:Mem},Bts m->Ok (cIn sd) m:=fun h=>⟨by show(0:Int)<=1040;decide,⟨by show(0:Int)<=255;decide,by show(255:Int)<256;decide⟩,jU _,jU _,jU _,h⟩
 ⟨⟨ok bP,(zk 0 (.bool false) 0 (Kc (.str "6502") (.int 1040) rfl)),⟨hP.len,hP.len,by show(1:Int)<=255;decide,by show(255:Int)<=255;decide,rfl⟩,fun Z Z Z=>rfl⟩,rfl,rfl,
  ⟨ok bN,(zk 0 (.bool false) 0 (Kc (.str "6502") (.int 1040) rfl)),⟨hP.len,lN,by show(1:Int)<=255;decide,by show(255:Int)<=255;decide,⟨fun u h0 h1 Z=>he u h0 h1,fun i hi=>(match i,hi with
   | 0,_=>rfl
   | 1,_=>rfl
   | 2,_=>rfl
   | 3,_=>rfl
   | _+4,h=>absurd h (by lia)),fun z h=>nomatch h⟩⟩,fun Z Z Z=>rfl⟩,rfl,rfl,hP,rfl,rfl,rfl,rfl,rfl⟩
theorem AZ{far:Int}{K1 K2:Int->Int}{C:Co}{c1 c2:Cpu}{X:Mem}{B1 B2:As}{ext:List (Nat×PV)}(h:Inv K1 K2 sd dp near far C c1 X c2 N B1 B2):pSs (zR a ns) zK yj ⟨L4 C++ext,hR sd X N c1 c2 [.gone,.il C.P]⟩ QR:=by
 rw[h.pP];generalize C.P=W;clear h;delta yj;conv=>whnf
 rw[decide_eq_true rfl]
 exact⟨1,rfl⟩
theorem AY{far:Int}{us:List PV}(lP:P.length=1536)(h:pSs (zR a ns) zK (y6++yj) ⟨LB ds near far dp ++ [(283,.ref 7),(284,.il (st8 (C0 sd P)))],hR sd P N (cIn sd) (cIn sd) [stP us,.il P]⟩ QR):
  pSs (zR a ns) zK (Jl++(y6++yj)) ⟨LB ds near far dp,hR sd P N (cIn sd) (cIn sd) [stP us]⟩ QR:=by
 refine aX (x:=1) (y:=283) (j:=2) (xs:=P) rfl rfl (by rw[lP];decide) ?_
 refine qk (v:=.il (st8 (C0 sd P))) (j9 (us:=[.int (sd%256),.int (sd/3%256),.int (sd/7%256),.int 255,.int (sd/16%2),.int (sd/8%2),.int (sd/2%2),.int (sd%2)]) (ze (zI (zq rfl) zb jE) (ze (zI (jX (zq rfl) zb pw3) zb jE) (ze (zI (jX (zq rfl) zb pw7) zb jE) (ze zb (ze (zI (jX (zq rfl) zb (pwL (j:=16) rfl (by decide) (by decide))) zb pw2) (ze (zI (jX (zq rfl) zb pw8) zb pw2) (ze (zI (jX (zq rfl) zb pw2) zb pw2) (ze (zI (zq rfl) zb pw2) zY)))))))) ?_ rfl) ?_
 ·show some [sd%256,sd/3%256,sd/7%256,255,sd/16%2,sd/8%2,sd/2%2,sd%2]=some [sd%256,sd/3%256,sd/7%256,255,b2 (bt 4 sd),b2 (bt 3 sd),b2 (bt 1 sd),b2 (bt 0 sd)]
  rw[<- Ut,<- Ut,<- Ut,<- Ut,show sd/2 ^ 0=sd from Int.ediv_one sd];rfl
 exact h
theorem eX(a:Addr)(ns:List Int)(hn:ns.length<=63):pSs (zR a ns) zK UR ⟨[(264,.top a)],[.cell none,.tab 80]⟩ QR:=by
 have e:UR=Jk++(US++(Jl++(y6++yj))):=rfl;rw[e];refine AW hn fun sd M pf bM=>?_
 have hdr:=Z7 ns;have hne:drN ns ≠ []:=fun h=>by
  have:=congrArg List.length h
  unfold drN at this;rw[Bz] at this
  cases this
 generalize drN ns=ds at *;generalize ZJ sd=row;refine Ud (L:=LB ds 1040 1040 0) (fun Q hQ=>?_) ?_
 ·conv=>whnf
  exact hQ
 have b12:=XZ (q:=sd%256) ds 0;obtain⟨w1,w2⟩:=na (jU sd) ds 0;refine Xy (w:=.il ds) (items:=ds.map .int) (t:=.name 275) (zg rfl) rfl ?_;have lp1:=nA (a:=a) (ns:=ns) (dr:=ds) (c1:=.inst (yH (cIn sd))) (c2:=.inst (rnF (yH (cIn sd)))) (sd:=sd) (K:=fK (pSs (zR a ns) zK (Jl++(y6++yj))) QR) ds (near:=1040) (far:=1040) (dp:=0) (M:=M) (N:=M) (us:=[]) (ext:=[]) (.inl rfl) (by decide) (yd (zt (YK (Vs hdr))) rfl) (by decide) (yd (zt (YK (Vs hdr))) rfl) pf.len pf.len (by show 0+ds.length<=900;exact yD (sV (Cg _) hdr) rfl) fun T7 dp' Z h2=>?_
 ·exact lp1
 obtain rfl:=h2 hne;rw[ag,Cn];have pfP:Pf (sd%256) (lay M 1040 (yZ (kvs 0 ds))):=have lo:∀u,0<=u->u<1040->rd (lay M 1040 (yZ (kvs 0 ds))) u=rd M u:=fun u h0 h1=>JV pf.len h0 h1 (by lia)
  ⟨qT.trans pf.len,(lo _ (by decide) (by decide)).trans pf.p0,(lo _ (by decide) (by decide)).trans pf.p1,(lo _ (by decide) (by decide)).trans pf.p2,(lo _ (by decide) (by decide)).trans pf.p3⟩
 have hst:JM (sd%256) 1040 1040 (kvs 0 ds) ≠ []:=by
  induction ds with
  | nil=>exact absurd rfl hne
  | cons d ds=>exact fun h=>nomatch h
 have kP:At (rd (lay M 1040 (yZ (kvs 0 ds)))) 1040 (yZ (kvs 0 ds)):=U3 pf.len (by decide) (by lia)
 have kN:At (rd (lay M 1040 (qi (sd%256) (kvs 0 ds)))) 1040 (qi (sd%256) (kvs 0 ds)):=U3 pf.len (by decide) (by lia)
 have eq:∀u,0<=u->u<1026->rd (lay M 1040 (qi (sd%256) (kvs 0 ds))) u=rd (lay M 1040 (yZ (kvs 0 ds))) u:=fun u h0 h1=>(JV pf.len h0 (zn (zz h1) rfl) (by lia)).trans (JV pf.len h0 (zn (zz h1) rfl) (by lia)).symm
 have inv:=kB (sd:=sd) pfP (N:=lay M 1040 (qi (sd%256) (kvs 0 ds))) (qT.trans pf.len) (Yw bM w1) (Yw bM w2) eq;have lP:=pfP.len;have lp3:=fun K=>nB (a:=a) (ns:=ns) (K:=K) ds (ext:=[(271,.ls (JM (sd%256) 1040 1040 (kvs 0 ds)))]) inv (yD (sV (Cg _) hdr) rfl) kP kN (by decide) (by lia) (by decide) (by lia)
 show pSs (zR a ns) zK (Jl++(y6++yj)) ⟨LB ds (1040+((yZ (kvs 0 ds)).length:Int)) (1040+((qi (sd%256) (kvs 0 ds)).length:Int)) dp',hR sd (lay M 1040 (yZ (kvs 0 ds))) (lay M 1040 (qi (sd%256) (kvs 0 ds))) (cIn sd) (cIn sd) [stP (JM (sd%256) 1040 1040 (kvs 0 ds))]⟩ QR;generalize lay M 1040 (yZ (kvs 0 ds))=P at *;generalize lay M 1040 (qi (sd%256) (kvs 0 ds))=N at *;generalize JM (sd%256) 1040 1040 (kvs 0 ds)=us at *;generalize(1040:Int)+((yZ (kvs 0 ds)).length:Int)=n1 at *;generalize(1040:Int)+((qi (sd%256) (kvs 0 ds)).length:Int)=n2 at *;refine AY lP ?_;have e6:stP us=.ls us:=by
  induction us with
  | nil=>exact absurd rfl hst
  | cons=>rfl
 rw[e6];refine l9 (x:=271) (j:=6) (us:=us) rfl rfl ?_;refine Ud (L:=L4 (C0 sd P) ++ [(271,.ls us)]) (fun Q hQ=>?_) ?_
 ·conv=>whnf
  exact hQ
 refine aY (ts:=[.name 272,.name 273,.name 276,.name 40]) (A:=Jg) (is:=yj) (items:=us) (w:=.ls us) (zg rfl) rfl ?_;exact lp3 _ fun h=>by
  rw[ag];exact AZ h
end
noncomputable def yB:DefRec×List (Str×Expr):=(defOf MH.qv "law").get (by kernel_rfl)
theorem rF:mSs nmM (pmM [(265,0)]) yB.1.scope UR yB.1.body:=⟨by kernel_rfl,by kernel_rfl⟩
theorem yV.sw{d:Nat}{S:List PV->List PO->(PV->List PO->Prop)->Prop}(h:yV G d f ca S):yV G d f ca (fun args hp k=>6<=hp.length/\S (ym args) (swH hp) fun v hp'=>6<=hp'.length/\k (rnV v) (swH hp')):=by
 intro ps args O k hk outer B3 env L A m s vs ws aws D hf hke F R hl Q hq;obtain⟨h5,hk⟩:=hk;have R':=R.sw h5;rw[KV,Vg] at R';refine h ps.sw (O:=swS O) hk D hf hke F R' (by rw[Vf];exact hl) fun v hp' w' s' hk' r' F' R''=>?_
 obtain⟨g5,hk'⟩:=hk';have R3:=R''.sw (O:={ swS O with hp:=hp' }) g5
 have e1:ps.sw.sw=ps:=by show(⟨_,_,swC (swC ps.cl)⟩:Pn)=ps;rw[XB];rfl
 have e2:swS { swS O with hp:=hp' } = { O with hp:=swH hp' }:=by show(⟨rnF (rnF O.loc),_⟩:PS)=_;rw[KR]
 have e3:ym (v::ym vs)=rnV v::vs:=by show rnV v::ym (ym vs)=_;rw[qM]
 rw[e1,e2,e3] at R3;exact hq _ _ w' s' hk' r' F' R3
theorem yV.or{d:Nat}{S S2:List PV->List PO->(PV->List PO->Prop)->Prop}(h:yV G d f ca S)(h2:yV G d f ca S2):yV G d f ca (fun args hp k=>S args hp k∨S2 args hp k):=by
 intro ps args O k hk outer B3 env L A m s vs ws aws D hf hke F R hl Q hq;exact hk.elim (fun hk=>h ps hk D hf hke F R hl hq) fun hk=>h2 ps hk D hf hke F R hl hq
theorem k80(P:Params):(KM P).lookup 80=none:=by kernel_rfl
theorem AC(P:Params):noTabs (KM P)=true:=by kernel_rfl
theorem nq{P:Params}(X:(KMt P).In h):(KM P).In h:=fun a o e=>X a o (by
 show List.lookup a ((80,tabObj #[])::KM P)=some o;rw[Db]
 cases q:a==80 with
 | false=>exact e
 | true =>
  rw[eq_of_beq q,k80 P] at e
  cases e)
theorem mG{w:World}(X:(KMt w.params).In h):TabsAt [(84,80)] h:=fun q hq=>by
 obtain rfl:=List.mem_singleton.mp hq;refine byc fun Ea=>?_
 refine zh (V5 (w:=w)) fun o vs file Ee=>zh Ee fun tf flags tg Ee=>jf Ee fun inF text tt k1 k2=>?_
 refine Ea ?_
 exact⟨(zk o vs file (zk tf flags tg (QK inF text tt (nq X _ _ k1) k2))),X 80 _ rfl⟩
section
variable {prog:Program}{w:World}{mean:ExcName->Option Value}{mg mb:BB}{base:Heap}
theorem ctL(a:Addr)(ns:List Int):CtS (GM prog w mean mg mb base) 18 (zR a ns):=(jx 17 36 rfl K8 ((ctI.or ctI.sw).le (by decide)))
end
theorem eW(pm cd doc v:Value):bindArgs (docDef yB.1.name yB.1.params yB.1.body yB.1.scope pm cd doc) ⟨[v],[]⟩=pure [(nmM 264,v)]:=by kernel_rfl
theorem vo:yB.1.scope.names.lookup (nmM 264)=some .local:=by kernel_rfl
theorem bR:(cellsFrom 0 yB.1.scope.names []).map (·.1) = [265].map nmM:=by kernel_rfl
theorem rk:yB.1.scope.names.lookup (nmM 265)=some .cell:=by kernel_rfl
theorem Yv:yB.1.scope.kind=.function:=by kernel_rfl
set_option tactic.hygienic true in
theorem t6:WalkO MH.qv MH.ya (XL MH.qv []) MH.HK.says Challenge.rw_me0007_11.row.toRowW yB.1 yB.2 fun f vs=>PySem.call f vs:=by
 intro w R0 B7 mg mb G Y fa o pm cd doc dV kV ho hd hcd hD hmg hg args vals as hpre hlay hrd hwl hlo;have KX:=kIn_of Y;refine Ground.open G ?_;intro T B D TE TW;obtain⟨C0,P0,he,B0⟩:=based_of_top (d:=yB.1) T (by kernel_rfl) hmg ho hd
 wrow_args hpre hlay hrd hwl hlo
 rename_i ns _ _ _ _ _ _ _ a items _ hL _ _ _ hI _ hcond _
 first | refine callC_kw (enter_call ?_) | refine enter_call ?_
 have hdv:=Dflts.none hD rfl;subst hdv;have hdk:=Dflts.noKw hD;subst hdk;have hT:=mG KX;refine kn_post hT (fun Z Z=>rfl) ?_
 refine kL (c:=84) (P:=80) (G:=GM Challenge.rw_me0007_11.row.prog w (ExcName.means R0.heap) mg mb (ghostOf B7.heap [(84,80)])) (d:=18) (x:=264) (cids:=[265]) (name:=yB.1.name) (params:=yB.1.params) (body:=yB.1.body) (scope:=yB.1.scope) (pm:=pm) (cd:=cd) (doc:=doc) (W:=pSs (zR a ns) zK UR) ⟨rfl,rfl,rfl⟩ hT (ghost_K hT (nq KX) (AC _)) (ghost_top hT T) T rfl ho hd hcd (eW pm cd doc) vo bR (by decide) (by decide) (by decide) (by decide) (by kernel_rfl) (by kernel_rfl) Yv ?_ ?_ ?_
 ·intro cl outer B3 L A eh T5 D
  refine sSs ((VQ [(265,0)] 0 _ m5).pin _) (hdL.pin _) ((ctL a ns).pin _) (by decide) D ⟨UC Yv,rfl,rfl,fun p hp hs=>?_,fun v xs e=>?_⟩ UR rF
  ·obtain rfl:=List.mem_singleton.mp hp
   refine zc (T5 0 265 rfl) fun c h1 h2=>?_
   exact⟨(zA c h1 h2),rk⟩
  ·subst eh
   cases v with
   | top b =>
    have e:cond (Nat.beq b a) (some ns) none=some xs:=e
    cases q:Nat.beq b a with
    | false=>rw[q] at e;cases e
    | true =>
     rw[q] at e
     cases e
     obtain rfl:=Bp q;exact(jx b items rfl (ghost_list hT hL) hI)
   | _=>cases e
 ·exact eX a ns (by lia)
 ·intro L h' m tk F gr
  exact⟨goodW_reads F hg (fun Z=>rfl) (ReadsW.bool _) (fun Z=>⟨Dw,fun Z h=>nomatch h⟩) (by kernel_rfl) rfl,gr,trivial⟩
theorem vm:PySem.Challenge.rw_me0007_11.Holds:=by
 refine holds_law Ws.said fun said=>?_
 refine holds_open (q:=MH.qv) (loose:=MH.ya) (Xt:=MH.XtN) (XP:=XL MH.qv []) (Yf:=MH.HK.obs) (Ya:=MH.HK.val) (YP:=MH.HK.says) (N:=9000) MH.rm MH.HK.of MH.HK.keeps (fun s e=>xl_of s (Bool.and_eq_true_iff.mp e).1) XL.keeps (by kernel_rfl) (by kernel_rfl) (by kernel_rfl) (fun s e=>recFacts_of (Bool.and_eq_true_iff.mp e).2) (by kernel_rfl) ?k1 ?ok ⟨by kernel_rfl,by kernel_rfl,by kernel_rfl,by kernel_rfl,by kernel_rfl,?bare⟩ ?hw t6
 case k1=>assumption
 case ok=>kernel_rfl
 case bare=>exact MH.tw
 case hw=>w_witness2
end Mine
theorem PySem.Challenge.cw_me0007_11_holds : PySem.Challenge.rw_me0007_11.Holds :=
 Mine.vm

