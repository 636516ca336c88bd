import PyProof.Rows.All
import Wide.All
import OpenK.AllK
import Wide.FinOn
import Lean
import PySem.Challenge.RW_me0007_01
set_option Elab.async false
set_option maxRecDepth 100000
set_option maxHeartbeats 0
set_option linter.all false
set_option genInjectivity false
set_option genSizeOfSpec false
set_option genSizeOf false
set_option bootstrap.genMatcherCode false
set_option tactic.hygienic false
set_option backward.match.sparseCases false
open PySem PySem.W PyProof.Rows PySem.Calls
namespace Mine
variable {P6:Obj}
variable {ns nums ys:List Int}
variable {cdv pm wv:Value}
variable {args Ff rest:List Expr}
variable {C D I L I5 f fI g:Addr}
variable {ad cy pc tot:Int}
variable {cids ids ks:List Nat}
variable {Fq np Fk pos px q q' sp Fv tp:Pos}
variable {fd:FuncData}
variable {cnt d' i j k1 line md n' off t' tk x y:Nat}
variable {sc scope:Scope}
variable {Pj:Nat->(Str->Option Value)->List (Addr×Obj)->Prop}
variable {α β:Type}
variable {s s' F7:Shared}
variable {fp ρ:List Addr}
variable {lp:Option Int}
variable {env env':Env}
variable {expr:Bool}
variable {h h' F0:Heap}
variable {kxs:List (Str×Nat)}
variable {keep led post pre:List (Addr×Obj)}
variable {stk:List (Code×Pos)}
variable {outer:List Env}
variable {P0 P1 P2:Prop}
variable {Q:Value->Shared->Prop}
variable {elt iter slice target value:Expr}
variable {tl':List Obj}
variable {cl:List (Str×Addr)}
variable {qual:Str}
variable {Fj:Sem Value}
variable {ca:List Value->Args}
theorem byc{p:Prop}(h:¬p->False):p:=Classical.byContradiction h
section
variable {AX:Sort _}{BX:Sort _}{CX:Sort _}{DX:Sort _}{EX:Sort _}{FX:Sort _}{IX:Sort _}{JX:Sort _}{LX:Sort _}{g:Prop}
theorem zh(h:P0/\P1)(k:P0->P1->g):g:=k h.1 h.2
theorem yn(h:P0/\P1/\P2)(k:P0->P1->P2->g):g:=zh h.2 (k h.1)
theorem jN{P3:Prop}(h:P0/\P1/\P2/\P3)(k:P0->P1->P2->P3->g):g:=yn h.2 (k h.1)
theorem Bx{P3 P4:Prop}(h:P0/\P1/\P2/\P3/\P4)(k:P0->P1->P2->P3->P4->g):g:=jN h.2 (k h.1)
theorem zI{P0:AX->Prop}(h:∃a,P0 a)(k:∀a,P0 a->g):g:=h.elim λa h=>k a h
theorem aT{P0:AX->Prop}(a:AX)(h0:P0 a):∃a,P0 a:=⟨a,h0⟩
theorem zd{P0 P1:AX->Prop}(h:∃a,P0 a/\P1 a)(k:∀a,P0 a->P1 a->g):g:=h.elim λa h=>zh h (k a)
theorem zv{P0 P1:AX->Prop}(a:AX)(h0:P0 a)(h1:P1 a):∃a,P0 a/\P1 a:=⟨a,h0,h1⟩
theorem jG{P0 P1 P2:AX->Prop}(h:∃a,P0 a/\P1 a/\P2 a)(k:∀a,P0 a->P1 a->P2 a->g):g:=h.elim λa h=>yn h (k a)
theorem jY{P0 P1 P2:AX->Prop}(a:AX)(h0:P0 a)(h1:P1 a)(h2:P2 a):∃a,P0 a/\P1 a/\P2 a:=⟨a,h0,h1,h2⟩
theorem jU{P0 P1 P2 P3:AX->Prop}(h:∃a,P0 a/\P1 a/\P2 a/\P3 a)(k:∀a,P0 a->P1 a->P2 a->P3 a->g):g:=h.elim λa h=>jN h (k a)
theorem Kn{P0 P1 P2 P3:AX->Prop}(a:AX)(h0:P0 a)(h1:P1 a)(h2:P2 a)(h3:P3 a):∃a,P0 a/\P1 a/\P2 a/\P3 a:=⟨a,h0,h1,h2,h3⟩
theorem UQ{P0:AX->BX->Prop}(h:∃a b,P0 a b)(k:∀a b,P0 a b->g):g:=h.elim λa h=>zI h (k a)
theorem Jo{P0:AX->BX->Prop}(a:AX)(b:BX)(h0:P0 a b):∃a b,P0 a b:=⟨a,aT b h0⟩
theorem yo{P0 P1:AX->BX->Prop}(h:∃a b,P0 a b/\P1 a b)(k:∀a b,P0 a b->P1 a b->g):g:=h.elim λa h=>zd h (k a)
theorem jL{P0 P1:AX->BX->Prop}(a:AX)(b:BX)(h0:P0 a b)(h1:P1 a b):∃a b,P0 a b/\P1 a b:=⟨a,zv b h0 h1⟩
theorem zr{P0 P1 P2:AX->BX->Prop}(h:∃a b,P0 a b/\P1 a b/\P2 a b)(k:∀a b,P0 a b->P1 a b->P2 a b->g):g:=h.elim λa h=>jG h (k a)
theorem jw{P0 P1 P2:AX->BX->Prop}(a:AX)(b:BX)(h0:P0 a b)(h1:P1 a b)(h2:P2 a b):∃a b,P0 a b/\P1 a b/\P2 a b:=⟨a,jY b h0 h1 h2⟩
theorem Ju{P0 P1 P2 P3:AX->BX->Prop}(h:∃a b,P0 a b/\P1 a b/\P2 a b/\P3 a b)(k:∀a b,P0 a b->P1 a b->P2 a b->P3 a b->g):g:=h.elim λa h=>jU h (k a)
theorem yV{P0 P1 P2 P3:AX->BX->Prop}(a:AX)(b:BX)(h0:P0 a b)(h1:P1 a b)(h2:P2 a b)(h3:P3 a b):∃a b,P0 a b/\P1 a b/\P2 a b/\P3 a b:=⟨a,Kn b h0 h1 h2 h3⟩
theorem zi{P0:AX->BX->CX->Prop}(h:∃a b c,P0 a b c)(k:∀a b c,P0 a b c->g):g:=h.elim λa h=>UQ h (k a)
theorem zm{P0:AX->BX->CX->Prop}(a:AX)(b:BX)(c:CX)(h0:P0 a b c):∃a b c,P0 a b c:=⟨a,Jo b c h0⟩
theorem jc{P0 P1:AX->BX->CX->Prop}(h:∃a b c,P0 a b c/\P1 a b c)(k:∀a b c,P0 a b c->P1 a b c->g):g:=h.elim λa h=>yo h (k a)
theorem JW{P0 P1:AX->BX->CX->Prop}(a:AX)(b:BX)(c:CX)(h0:P0 a b c)(h1:P1 a b c):∃a b c,P0 a b c/\P1 a b c:=⟨a,jL b c h0 h1⟩
theorem yp{P0 P1 P2:AX->BX->CX->Prop}(h:∃a b c,P0 a b c/\P1 a b c/\P2 a b c)(k:∀a b c,P0 a b c->P1 a b c->P2 a b c->g):g:=h.elim λa h=>zr h (k a)
theorem yW{P0 P1 P2:AX->BX->CX->Prop}(a:AX)(b:BX)(c:CX)(h0:P0 a b c)(h1:P1 a b c)(h2:P2 a b c):∃a b c,P0 a b c/\P1 a b c/\P2 a b c:=⟨a,jw b c h0 h1 h2⟩
theorem qg{P0 P1 P2 P3:AX->BX->CX->Prop}(h:∃a b c,P0 a b c/\P1 a b c/\P2 a b c/\P3 a b c)(k:∀a b c,P0 a b c->P1 a b c->P2 a b c->P3 a b c->g):g:=h.elim λa h=>Ju h (k a)
theorem Ko{P0 P1 P2 P3:AX->BX->CX->Prop}(a:AX)(b:BX)(c:CX)(h0:P0 a b c)(h1:P1 a b c)(h2:P2 a b c)(h3:P3 a b c):∃a b c,P0 a b c/\P1 a b c/\P2 a b c/\P3 a b c:=⟨a,yV b c h0 h1 h2 h3⟩
end
theorem Je{e b c:Int}(h:e<=b)(d:decide (b<=c)=true):e<=c:=Int.le_trans h (of_decide_eq_true d)
theorem zQ{e b c:Int}(h:e<=b)(d:decide (b<c)=true):e<c:=Int.lt_of_le_of_lt h (of_decide_eq_true d)
theorem zo{e b c:Int}(h:b<=e)(d:decide (c<=b)=true):c<=e:=Int.le_trans (of_decide_eq_true d) h
theorem Ez{e b c:Int}(h:b<=e)(d:decide (c<b)=true):c<e:=Int.lt_of_lt_of_le (of_decide_eq_true d) h
theorem qG{e b c:Nat}(h:e<=b)(d:decide (b<=c)=true):e<=c:=Nat.le_trans h (of_decide_eq_true d)
theorem VB{e b c:Nat}(h:e<=b)(d:decide (b<c)=true):e<c:=Nat.lt_of_le_of_lt h (of_decide_eq_true d)
theorem BN{e b c:Nat}(h:b<=e)(d:decide (c<=b)=true):c<=e:=Nat.le_trans (of_decide_eq_true d) h
theorem BP{e b c:Nat}(h:b<=e)(d:decide (c<b)=true):c<e:=Nat.lt_of_lt_of_le (of_decide_eq_true d) h
theorem BQ{a b c d:Int}(h:a<=b)(g:d<=c):a-c<=b-d:=Int.sub_le_sub h g
theorem EB{a:Int}{k c:Nat}(h:a+OfNat.ofNat k<OfNat.ofNat c):a<=OfNat.ofNat c-OfNat.ofNat k-1:=Int.le_sub_one_of_lt (Int.lt_sub_right_of_add_lt h)
theorem zJ{a:Int}{c:Nat}(h:a<OfNat.ofNat c):a<=OfNat.ofNat c-1:=Int.le_sub_one_of_lt h
theorem ZR{a k:Int}(h:decide (0<k)=true):a%k<=k-1:=Int.le_sub_one_of_lt (Int.emod_lt_of_pos _ (of_decide_eq_true h))
theorem dh{a k:Int}(h:decide (k≠0)=true):0<=a%k:=Int.emod_nonneg _ (of_decide_eq_true h)
theorem BL{a k:Int}(g:0<=a)(h:decide (0<=k)=true):0<=a/k:=Int.ediv_nonneg g (of_decide_eq_true h)
theorem YQ{n k:Nat}(h:n<=k):(n:Int)<=(k:Int):=Int.ofNat_le.mpr h
theorem bC{n k:Nat}(h:n<k):(n:Int)<=(k:Int)-1:=Int.le_sub_one_of_lt (Int.ofNat_lt.mpr h)
theorem di{n k:Nat}(h:n<k):n<=k-1:=Nat.le_sub_one_of_lt h
theorem ot{x a b:Int}(h:decide (a<=b)=true):x+a<=x+b:=Int.add_le_add_left (of_decide_eq_true h) x
theorem oq{x a b:Int}(h:decide (a≠b)=true):x+a≠x+b:=λe=>of_decide_eq_true h (Int.add_left_cancel e)
theorem EA{x b:Int}(h:decide (0<=b)=true):x<=x+b:=by have:=of_decide_eq_true h;omega
theorem JS{a b c d:Int}(h:a<=b)(g:c<=d)(k:decide (b<c)=true):a≠d:=λe=>absurd (Int.lt_of_le_of_lt h (Int.lt_of_lt_of_le (of_decide_eq_true k) g)) (e▸Int.lt_irrefl _)
theorem iV{a b c d:Int}(h:b<=a)(g:d<=c)(k:decide (c<b)=true):a≠d:=λe=>JS g h k e.symm
theorem zq{x a:Int}{n:Nat}(h:x<=a):x+OfNat.ofNat n<=a+OfNat.ofNat n:=Int.add_le_add_right h _
theorem jJ{x a:Int}{n:Nat}(h:x<=a):OfNat.ofNat n+x<=OfNat.ofNat n+a:=Int.add_le_add_left h _
theorem Qf{x a:Int}{n:Nat}(h:x<=a):x-OfNat.ofNat n<=a-OfNat.ofNat n:=Int.sub_le_sub_right h _
theorem qq{x a y b:Int}(h:x<=a)(g:y<=b):x+y<=a+b:=Int.add_le_add h g
theorem BM{x a:Int}{n:Nat}(h:x<=a):x*OfNat.ofNat n<=a*OfNat.ofNat n:=Int.mul_le_mul_of_nonneg_right h (Int.natCast_nonneg n)
theorem jr{x a:Int}{n:Nat}(h:x<=a):OfNat.ofNat n*x<=OfNat.ofNat n*a:=Int.mul_le_mul_of_nonneg_left h (Int.natCast_nonneg n)
theorem oo{a b:Nat}(h:x<=a)(g:y<=b):x+y<=a+b:=Nat.add_le_add h g
theorem U8{n:Nat}:0<=(n:Int):=Int.natCast_nonneg n
theorem vC{a:Int}{c:Nat}(h:a<=OfNat.ofNat c):a<=OfNat.ofNat c:=h
theorem zk{a:Int}{c:Nat}(h:OfNat.ofNat c<=a):OfNat.ofNat c<=a:=h
section
inductive PV where
 | none
 | bool (b:Bool)
 | int (i:Int)
 | str (s:Str)
 | top (a:Addr)
 | ref (i:Nat)
 | tup (vs:List PV)
 | il (xs:List Int)
 | ls (vs:List PV)
 | bound (self:PV) (f:Addr)
inductive PO where
 | il (xs:List Int)
 | ls (vs:List PV)
 | cell (v:Option PV)
 | gone
 | inst (fs:List (Nat×PV))
 | tab (a:Addr)
 | dct (fs:List (Nat×PV))
 | zip (a b:PV)
structure PS where
 loc:List (Nat×PV)
 hp:List PO
noncomputable def lk{α:Type}(k:Nat):List (Nat×α)->Option α
 | []=>none
 | (j,v)::r=>cond (Nat.beq k j) (some v) (lk k r)
noncomputable def st{α:Type}(k:Nat)(v:α):List (Nat×α)->List (Nat×α)
 | []=>[(k,v)]
 | (j,u)::r=>cond (Nat.beq k j) ((j,v)::r) ((j,u)::st k v r)
theorem zM{a b:Nat}(h:a≠b):Nat.beq a b=false:=by
 cases q:Nat.beq a b with
 | false=>rfl
 | true=>exact absurd (Nat.eq_of_beq_eq_true q) h
theorem gP{α:Type}{k j:Nat}{v:α}:∀{l:List (Nat×α)},lk j (st k v l)=if j=k then some v else lk j l
 | []=>by
  show(cond (Nat.beq j k) (some v) none:Option α)=_
  by_cases h:j=k
  ·rw[if_pos h,h,Nat.beq_refl];rfl
  ·rw[if_neg h,zM h];rfl
 | (i,u)::r=>by
  have ih:=gP (k:=k) (j:=j) (v:=v) (l:=r);show lk j (cond (Nat.beq k i) ((i,v)::r) ((i,u)::st k v r))=if j=k then some v else cond (Nat.beq j i) (some u) (lk j r)
  by_cases h:k=i
  ·subst h
   rw[Nat.beq_refl];show cond (Nat.beq j k) (some v) (lk j r)=_
   by_cases h2:j=k
   ·rw[if_pos h2,h2,Nat.beq_refl];rfl
   ·rw[if_neg h2,zM h2];rfl
  ·rw[zM h]
   show cond (Nat.beq j i) (some u) (lk j (st k v r))=_;rw[ih]
   by_cases h2:j=i
   ·have hk:¬ j=k:=λe=>h (e.symm.trans h2)
    rw[if_neg hk,if_neg hk]
   ·rw[zM h2];rfl
noncomputable def stC{α:Type}(k:Nat)(v:α):List (Nat×α)->(List (Nat×α)->Prop)->Prop
 | [],c=>c [(k,v)]
 | (j,u)::r,c=>cond (Nat.beq k j) (c ((j,v)::r)) (stC k v r λr'=>c ((j,u)::r'))
theorem XC{α:Type}{k:Nat}{v:α}:∀{l:List (Nat×α)} {c:List (Nat×α)->Prop},stC k v l c↔c (st k v l)
 | [],_=>Iff.rfl
 | (j,u)::r,c=>by
  show cond (Nat.beq k j) (c ((j,v)::r)) (stC k v r λr'=>c ((j,u)::r'))↔c (cond (Nat.beq k j) ((j,v)::r) ((j,u)::st k v r))
  cases Nat.beq k j with
  | true=>exact Iff.rfl
  | false=>exact XC (l:=r) (c:=λr'=>c ((j,u)::r'))
noncomputable def dm{α:Type}(o:α):List α->Nat->(List α->Prop)->Prop
 | [],_,c=>c []
 | _::r,0,c=>c (o::r)
 | a::r,i+1,c=>dm o r i λr'=>c (a::r')
theorem qI{α:Type}{o:α}:∀{l:List α} {i:Nat} {c:List α->Prop},dm o l i c↔c (l.set i o)
 | [],_,_=>Iff.rfl
 | _::_,0,_=>Iff.rfl
 | a::r,i+1,c=>qI (l:=r) (i:=i) (c:=λr'=>c (a::r'))
noncomputable def PS.slC:PS->Nat->PV->(PS->Prop)->Prop
 | ⟨l,h⟩,x,v,c=>stC x v l λl'=>c ⟨l',h⟩
noncomputable def PS.siC:PS->Nat->PO->(PS->Prop)->Prop
 | ⟨l,h⟩,i,o,c=>dm o h i λh'=>c ⟨l,h'⟩
noncomputable def PS.sl(O:PS)(x:Nat)(v:PV):PS:=⟨st x v O.loc,O.hp⟩
noncomputable def PS.sh(O:PS)(hp:List PO):PS:=⟨O.loc,hp⟩
noncomputable def PS.si(O:PS)(i:Nat)(o:PO):PS:=⟨O.loc,O.hp.set i o⟩
theorem zW{O:PS}{v:PV}{c:PS->Prop}:O.slC x v c↔c (O.sl x v):=XC (l:=O.loc) (c:=λl'=>c ⟨l',O.hp⟩)
theorem jd{O:PS}{o:PO}{c:PS->Prop}:O.siC i o c↔c (O.si i o):=qI (l:=O.hp) (c:=λh'=>c ⟨O.loc,h'⟩)
noncomputable abbrev j4(items:List Value)(n:Nat):Obj:={ cls:=.type "tuple",data:=.seq items.toArray n }
mutual
noncomputable def VR(ρ:List Addr)(frz:List (Addr×Obj)):PV->Value->Prop
 | .none,w=>w=.none
 | .bool b,w=>w=.bool b
 | .int i,w=>∃t,w=.int i t
 | .str s,w=>∃t,w=.str s t
 | .top a,w=>w=.ref a
 | .ref i,w=>∃a,ρ[i]?=some a/\w=.ref a
 | .tup vs,w=>∃a items n,w=.ref a/\(a,j4 items n)∈frz/\VRs ρ frz vs items
 | .il xs,w=>∃a items n,w=.ref a/\(a,listOf items.toArray n)∈frz/\IntsAre items xs
 | .ls vs,w=>∃a items n,w=.ref a/\(a,listOf items.toArray n)∈frz/\VRs ρ frz vs items
 | .bound v f,w=>∃a sv,w=.ref a/\(a,methodObj (.ref f) sv)∈frz/\VR ρ frz v sv
noncomputable def VRs(ρ:List Addr)(frz:List (Addr×Obj)):List PV->List Value->Prop
 | [],ws=>ws = []
 | v::vs,ws=>∃w r,ws=w::r/\VR ρ frz v w/\VRs ρ frz vs r
end
section
variable {ρ':List Addr}{frz frz':List (Addr×Obj)}
mutual
theorem VR.mono(hρ:∀(i:Nat) (a:Addr),ρ[i]?=some a->ρ'[i]?=some a)(hf:∀p∈frz,p∈frz'):∀(v:PV) {w:Value},VR ρ frz v w->VR ρ' frz' v w
 | .none,_,h=>h
 | .bool _,_,h=>h
 | .int _,_,h=>h
 | .str _,_,h=>h
 | .top _,_,h=>h
 | .ref i,_,h=>by obtain⟨a,e,r⟩:=h;show Exists _;exact⟨a,hρ i a e,r⟩
 | .tup vs,_,h=>by obtain⟨a,it,n,e,q,r⟩:=h;show Exists _;exact⟨a,it,n,e,hf _ q,VRs.mono hρ hf vs r⟩
 | .il xs,_,h=>by obtain⟨a,it,n,e,q,r⟩:=h;show Exists _;exact⟨a,it,n,e,hf _ q,r⟩
 | .ls vs,_,h=>by obtain⟨a,it,n,e,q,r⟩:=h;show Exists _;exact⟨a,it,n,e,hf _ q,VRs.mono hρ hf vs r⟩
 | .bound v f,_,h=>by obtain⟨a,sv,e,q,r⟩:=h;show Exists _;exact⟨a,sv,e,hf _ q,VR.mono hρ hf v r⟩
theorem VRs.mono(hρ:∀(i:Nat) (a:Addr),ρ[i]?=some a->ρ'[i]?=some a)(hf:∀p∈frz,p∈frz'):∀(vs:List PV) {ws:List Value},VRs ρ frz vs ws->VRs ρ' frz' vs ws
 | [],_,h=>h
 | v::vs,_,h=>by obtain⟨w,r,e,a,b⟩:=h;show Exists _;exact⟨w,r,e,VR.mono hρ hf v a,VRs.mono hρ hf vs b⟩
end
theorem VRs.length:∀{vs:List PV} {ws:List Value},VRs ρ frz vs ws->ws.length=vs.length
 | [],_,h=>by cases h;rfl
 | v::vs,_,h=>by refine zr h λw r Fy Z b=>?_;subst Fy;exact congrArg (· + 1) (VRs.length b)
theorem VRs.cons_inv{v:PV}{vs:List PV}{ws:List Value}(h:VRs ρ frz (v::vs) ws):∃w r,ws=w::r/\VR ρ frz v w/\VRs ρ frz vs r:=h
theorem VRs.cons{v:PV}{vs:List PV}{w:Value}{ws:List Value}(h:VR ρ frz v w)(t:VRs ρ frz vs ws):VRs ρ frz (v::vs) (w::ws):=by show Exists _;exact(jw w ws rfl h t)
theorem VRs.nil:VRs ρ frz [] []:=rfl
theorem VRs.append:∀{vs:List PV} {ws:List Value} {vs':List PV} {ws':List Value},VRs ρ frz vs ws->VRs ρ frz vs' ws'->VRs ρ frz (vs++vs') (ws++ws')
 | [],_,_,_,h,h'=>by cases h;exact h'
 | v::vs,_,_,_,h,h'=>by refine zr h.cons_inv λw r Fy a b=>?_;subst Fy;exact VRs.cons a (VRs.append b h')
theorem VRs.split:∀{vs:List PV} {vs':List PV} {ws:List Value},VRs ρ frz (vs++vs') ws->∃a b,ws=a++b/\VRs ρ frz vs a/\VRs ρ frz vs' b
 | [],_,ws,h=>(jw ([]) ws rfl VRs.nil h)
 | v::vs,_,_,h=>by refine zr (VRs.cons_inv h) λw r Fz a b=>?_;subst Fz;refine zr (VRs.split b) λx y Fy c d=>?_;subst Fy;exact(jw (w::x) y rfl (VRs.cons a c) d)
theorem VRs.get:∀{vs:List PV} {ws:List Value} {i:Nat} {v:PV},VRs ρ frz vs ws->vs[i]?=some v->∃w,ws[i]?=some w/\VR ρ frz v w
 | [],_,_,_,_,e=>nomatch e
 | u::vs,_,0,v,h,e=>by refine zr h.cons_inv λw r Fz a b=>?_;subst Fz;cases e;exact(zv w rfl a)
 | u::vs,_,i+1,v,h,e=>by refine zr h.cons_inv λw r Fy a b=>?_;subst Fy;exact VRs.get (i:=i) b e
theorem VR.handed{v:PV}{w:Value}(h:VR ρ frz v w):handedIn w=true:=by
 cases v<;>first | (cases h;rfl) | (obtain⟨t,rfl⟩:=h;rfl) | (obtain⟨a,_,rfl⟩:=h;rfl) | (obtain⟨a,_,_,rfl,_⟩:=h;rfl) | (refine yo h λa Z Fy Z=>?_;subst Fy;rfl)
mutual
noncomputable def bdd(n:Nat):PV->Prop
 | .ref i=>i<n
 | .tup vs=>qm n vs
 | .ls vs=>qm n vs
 | .bound v _=>bdd n v
 | _=>True
noncomputable def qm(n:Nat):List PV->Prop
 | []=>True
 | v::vs=>bdd n v/\qm n vs
end
mutual
theorem VR.bdd:∀(v:PV) {w:Value},VR ρ frz v w->Mine.bdd ρ.length v
 | .none,_,h=>trivial
 | .bool _,_,h=>trivial
 | .int _,_,h=>trivial
 | .str _,_,h=>trivial
 | .top _,_,h=>trivial
 | .ref i,_,h=>by obtain⟨a,e,_⟩:=h;exact(List.getElem?_eq_some_iff.mp e).1
 | .tup vs,_,h=>by obtain⟨_,_,_,_,_,r⟩:=h;exact VRs.bdd vs r
 | .ls vs,_,h=>by obtain⟨_,_,_,_,_,r⟩:=h;exact VRs.bdd vs r
 | .il _,_,h=>trivial
 | .bound v f,_,h=>by obtain⟨_,_,_,_,r⟩:=h;exact VR.bdd v r
theorem VRs.bdd:∀(vs:List PV) {ws:List Value},VRs ρ frz vs ws->Mine.qm ρ.length vs
 | [],_,h=>trivial
 | v::vs,_,h=>by obtain⟨_,_,_,a,b⟩:=h;exact⟨VR.bdd v a,VRs.bdd vs b⟩
end
mutual
theorem VR.cut{n:Nat}:∀(v:PV) {w:Value},VR ρ frz v w->Mine.bdd n v->VR (ρ.take n) frz v w
 | .none,_,h,_=>h
 | .bool _,_,h,_=>h
 | .int _,_,h,_=>h
 | .str _,_,h,_=>h
 | .top _,_,h,_=>h
 | .ref i,_,h,b=>by obtain⟨a,e,r⟩:=h;show Exists _;exact⟨a,by rw[List.getElem?_take,if_pos (show i<n from b)];exact e,r⟩
 | .tup vs,_,h,b=>by obtain⟨a,it,m,e,q,r⟩:=h;show Exists _;exact⟨a,it,m,e,q,VRs.cut vs r b⟩
 | .ls vs,_,h,b=>by obtain⟨a,it,m,e,q,r⟩:=h;show Exists _;exact⟨a,it,m,e,q,VRs.cut vs r b⟩
 | .il xs,_,h,_=>h
 | .bound v f,_,h,b=>by obtain⟨a,sv,e,q,r⟩:=h;show Exists _;exact⟨a,sv,e,q,VR.cut v r b⟩
theorem VRs.cut{n:Nat}:∀(vs:List PV) {ws:List Value},VRs ρ frz vs ws->Mine.qm n vs->VRs (ρ.take n) frz vs ws
 | [],_,h,_=>h
 | v::vs,_,h,b=>by obtain⟨w,r,e,x,y⟩:=h;show Exists _;exact⟨w,r,e,VR.cut v x b.1,VRs.cut vs y b.2⟩
end
end
noncomputable def FR(nm:Nat->Str)(ρ:List Addr)(frz:List (Addr×Obj)):List (Nat×PV)->List DictEntry->Prop
 | [],es=>es = []
 | (k,v)::fs,es=>∃e r t,es=e::r/\e.key=.str (nm k) t/\VR ρ frz v e.val/\FR nm ρ frz fs r
section
variable {nm:Nat->Str}{ρ':List Addr}{frz frz':List (Addr×Obj)}
theorem FR.mono(hρ:∀(i:Nat) (a:Addr),ρ[i]?=some a->ρ'[i]?=some a)(hf:∀p∈frz,p∈frz'):∀{fs:List (Nat×PV)} {es:List DictEntry},FR nm ρ frz fs es->FR nm ρ' frz' fs es
 | [],_,h=>h
 | (k,v)::fs,_,h=>by
  refine byc λGa=>?_;refine qg h λe r t e1 e2 e3 e4=>?_;refine Ga ?_;show Exists _;exact(Ko e r t e1 e2 (VR.mono hρ hf v e3) (FR.mono hρ hf e4))
theorem FR.length:∀{fs:List (Nat×PV)} {es:List DictEntry},FR nm ρ frz fs es->es.length=fs.length
 | [],_,h=>by cases h;rfl
 | (k,v)::fs,_,h=>by refine qg h λe r t Fy Z Z e4=>?_;subst Fy;exact congrArg (· + 1) (FR.length e4)
theorem FR.noRef:∀{fs:List (Nat×PV)} {es:List DictEntry},FR nm ρ frz fs es->es.any (·.refKey)=false
 | [],_,h=>by cases h;rfl
 | (k,v)::fs,_,h=>by
  refine qg h λe r t Fy e2 Z e4=>?_;subst Fy;rw[List.any_cons,FR.noRef e4,Bool.or_false];unfold DictEntry.refKey;rw[e2]
theorem QC(a b:Str)(t:Tok):(Value.str a t).isStr b=decide (a=b):=by
 show(a==b)=decide (a=b)
 by_cases h:a=b
 ·subst h;simp
 ·simp[h]
theorem ga{k:Nat}{e:DictEntry}{r:List DictEntry}{t:Tok}(e2:e.key=.str (nm k) t):getL (nm k) (e::r)=some (some e.val):=by
 unfold getL;rw[List.find?_cons,e2,QC,decide_eq_true rfl]
theorem cC{k:Nat}{e:DictEntry}{r:List DictEntry}{t:Tok}(e2:e.key=.str (nm j) t)(ne:nm j≠nm k)(hr:(e::r).any (·.refKey)=false)(hr':r.any (·.refKey)=false):getL (nm k) (e::r)=getL (nm k) r:=by
 unfold getL;rw[List.find?_cons,e2,QC,decide_eq_false ne,hr,hr']
theorem FR.get(inj:∀i j,nm i=nm j->i=j){k:Nat}:∀{fs:List (Nat×PV)} {es:List DictEntry},FR nm ρ frz fs es ->
  (∀v,lk k fs=some v->∃w,getL (nm k) es=some (some w)/\VR ρ frz v w)/\(lk k fs=none->getL (nm k) es=some none)
 | [],_,h=>by
  cases h
  exact⟨λv e=>(nomatch e),λZ=>rfl⟩
 | (j,u)::fs,es,h=>by
  have hr:=FR.noRef h;refine qg h λe r t Fy e2 e3 e4=>?_;subst Fy
  show(∀v,cond (Nat.beq k j) (some u) (lk k fs)=some v->_)/\(cond (Nat.beq k j) (some u) (lk k fs)=none->_)
  by_cases q:k=j
  ·subst q
   rw[Nat.beq_refl,ga e2];exact⟨λv ev=>by cases ev;exact(zv _ rfl e3),λev=>nomatch ev⟩
  ·rw[zM q,cC e2 (λx=>q (inj _ _ x).symm) hr (FR.noRef e4)]
   exact FR.get inj (k:=k) e4
theorem FR.put(inj:∀i j,nm i=nm j->i=j){k:Nat}{v:PV}{w:Value}(hv:VR ρ frz v w)(hsh:Int)(t:Tok):∀{fs:List (Nat×PV)} {es:List DictEntry},FR nm ρ frz fs es ->
  FR nm ρ frz (st k v fs) (putL (nm k) hsh (.str (nm k) t) w es)
 | [],_,h=>by
  cases h
  show Exists _;exact(Ko _ _ t rfl rfl hv rfl)
 | (j,u)::fs,es,h=>by
  refine qg h λe r t' Fy e2 e3 e4=>?_;subst Fy;show FR nm ρ frz (cond (Nat.beq k j) ((j,v)::fs) ((j,u)::st k v fs)) (if e.key.isStr (nm k)=true then _ else _)
  rw[e2,QC]
  by_cases q:k=j
  ·subst q
   rw[Nat.beq_refl,decide_eq_true rfl];show Exists _;exact(Ko _ _ t' rfl (e2▸rfl) hv e4)
  ·rw[zM q,decide_eq_false (λx=>q (inj _ _ x).symm)]
   show Exists _;exact(Ko _ _ t' rfl e2 e3 (FR.put inj hv hsh t e4))
end
theorem VG{α:Type}{k:Nat}{v:α}:∀{l:List (Nat×α)},(st k v l).length<=l.length+1
 | []=>Nat.le_refl _
 | (j,u)::r=>by
  show(cond (Nat.beq k j) ((j,v)::r) ((j,u)::st k v r)).length<=_
  cases Nat.beq k j with
  | true=>exact Nat.le_succ _
  | false=>exact Nat.succ_le_succ VG
end
variable {po:PO}
variable {arg:PV->Option (List Int)}
variable {Wa:PS->(List PV->PS->Prop)->Prop}
variable {ac bv hv lv:PV}
variable {O σ':PS}
variable {hp hp':List PO}
structure Cx where
 C:Addr
 nm:Nat->Str
 inj:∀i j,nm i=nm j->i=j
 ps:List (Addr×Obj)
 ks:List (Addr×Obj)
 cl:List (Nat×Addr)
 lm:Nat×Nat×Str
 wd:World
structure Pn where
 ps:List (Addr×Obj)
 ks:List (Addr×Obj)
 cl:List (Nat×Addr)
noncomputable def Cx.pn(X:Cx):Pn:=⟨X.ps,X.ks,X.cl⟩
noncomputable def Cx.pin(X:Cx)(p:Pn):Cx:={ X with ps:=p.ps,ks:=p.ks,cl:=p.cl }
noncomputable abbrev Pl:=List (Addr×Obj)×List (Addr×Obj)
noncomputable def Cx.pil(X:Cx)(p:Pl):Cx:={ X with ps:=p.1,ks:=p.2 }
noncomputable def CR(ρ:List Addr)(frz:List (Addr×Obj)):Option PV->Option Value->Prop
 | none,w=>w=none
 | some v,w=>∃u,w=some u/\VR ρ frz v u
def k7(lm:Nat×Nat×Str)(frz:List (Addr×Obj))(ps:Array Value):Prop:=ps = #[] ∨ ∃c oc vs t,ps = #[rawInt lm.1,rawInt lm.2.1,.ref c]/\(c,oc)∈frz/\oc.data=.fields vs/\vs[1]?=some (.str lm.2.2 t)
theorem k7.mono{lm:Nat×Nat×Str}{frz frz':List (Addr×Obj)}{ps:Array Value}(hf:∀p∈frz,p∈frz'):k7 lm frz ps->k7 lm frz' ps:=λz=>z.imp id λz=>zi z λc oc vs z=>jG z λt h m r=>zm c oc vs (jY t h (hf _ m) r)
noncomputable def dkv(nm:Nat->Str)(fs:List (Nat×PV))(ws:List Value):List (Str×Value):=(fs.map λp=>nm p.1).zip ws
noncomputable abbrev Kc(TI TO:Addr):Obj:={ cls:=.type "zip",dict:=none,data:=.fields #[.none,.bool false,.bool false,.ref TI,.ref TO],slots:=#[] }
noncomputable abbrev jA(a b:Value):Obj:={ cls:=.type "tuple",data:=.seq #[a,b] }
abbrev ItO(o:Obj)(l:Addr):Prop:=o.cls=.type "list_iterator" /\ o.data=.fields #[.ref l,.int 0 0]
inductive OR(X:Cx)(ρ:List Addr)(frz:List (Addr×Obj)):PO->Addr->List (Addr×Obj)->Prop
 | il {xs items n a}:IntsAre items xs->OR X ρ frz (.il xs) a [(a,listOf items.toArray n)]
 | ls {xs items n a}:VRs ρ frz xs items->OR X ρ frz (.ls xs) a [(a,listOf items.toArray n)]
 | cell {v w a o}:o.data=.cell w->CR ρ frz v w->OR X ρ frz (.cell v) a [(a,o)]
 | gone {a}:OR X ρ frz .gone a []
 | inst {fs es n a d}:FR X.nm ρ frz fs es->OR X ρ frz (.inst fs) a [(a,instObj X.C d),(d,dictOf es n)]
 | tab {ps a}:k7 X.lm frz ps->OR X ρ frz (.tab a) a [(a,tabObj ps)]
 | dct {fs ws o a}:VRs ρ frz (fs.map (·.2)) ws->o.IsDictOf (strKind default X.wd) (dkv X.nm fs ws)->OR X ρ frz (.dct fs) a [(a,o)]
 | zip {u v xa ya i1 i2 TI TO a o1 o2}:VR ρ frz u (.ref xa)->VR ρ frz v (.ref ya)->ItO o1 xa/\ItO o2 ya->OR X ρ frz (.zip u v) a [(a,Kc TI TO),(TI,jA (.ref i1) (.ref i2)),(TO,jA .none .none),(i1,o1),(i2,o2)]
inductive HR(X:Cx)(ρ:List Addr)(frz:List (Addr×Obj)):List PO->List Addr->List (Addr×Obj)->Prop
 | nil:HR X ρ frz [] [] []
 | cons {o a p os as l}:OR X ρ frz o a p->HR X ρ frz os as l->HR X ρ frz (o::os) (a::as) (p++l)
section
variable {X:Cx}{ρ':List Addr}{frz frz':List (Addr×Obj)}
theorem CR.mono(hρ:∀(i:Nat) (a:Addr),ρ[i]?=some a->ρ'[i]?=some a)(hf:∀p∈frz,p∈frz'):∀{v:Option PV} {w:Option Value},CR ρ frz v w->CR ρ' frz' v w
 | none,_,h=>h
 | some v,_,h=>by refine zd h λu e r=>?_;exact(zv u e (r.mono hρ hf))
section
variable {os:List PO}{as:List Addr}{l:List (Addr×Obj)}{a:Addr}
theorem HR.il{xs:List Int}{items:List Value}{n:Nat}(h:IntsAre items xs)(t:HR X ρ frz os as l):HR X ρ frz (.il xs::os) (a::as) ((a,listOf items.toArray n)::l):=.cons (.il h) t
theorem HR.ls{xs:List PV}{items:List Value}{n:Nat}(h:VRs ρ frz xs items)(t:HR X ρ frz os as l):HR X ρ frz (.ls xs::os) (a::as) ((a,listOf items.toArray n)::l):=.cons (.ls h) t
theorem HR.cell{v:Option PV}{w:Option Value}{o:Obj}(d:o.data=.cell w)(h:CR ρ frz v w)(t:HR X ρ frz os as l):HR X ρ frz (.cell v::os) (a::as) ((a,o)::l):=.cons (.cell d h) t
theorem HR.gone(t:HR X ρ frz os as l):HR X ρ frz (.gone::os) (a::as) l:=.cons .gone t
theorem HR.inst{fs:List (Nat×PV)}{es:List DictEntry}{n:Nat}{d:Addr}(h:FR X.nm ρ frz fs es)(t:HR X ρ frz os as l):HR X ρ frz (.inst fs::os) (a::as) ((a,instObj X.C d)::(d,dictOf es n)::l):=.cons (.inst h) t
end
theorem OR.mono(hρ:∀(i:Nat) (a:Addr),ρ[i]?=some a->ρ'[i]?=some a)(hf:∀p∈frz,p∈frz'){o:PO}{a:Addr}{p:List (Addr×Obj)}(h:OR X ρ frz o a p):OR X ρ' frz' o a p:=by
 induction h with
 | il i=>exact .il i
 | ls i=>exact .ls (i.mono hρ hf)
 | cell d i=>exact .cell d (i.mono hρ hf)
 | gone=>exact .gone
 | inst i=>exact .inst (i.mono hρ hf)
 | tab i=>exact .tab (i.mono hf)
 | dct i d=>exact .dct (i.mono hρ hf) d
 | zip i j d=>exact .zip (i.mono hρ hf) (j.mono hρ hf) d
theorem OR.pin{ps:Pn}{o:PO}{a:Addr}{p:List (Addr×Obj)}(h:OR X ρ frz o a p):OR (X.pin ps) ρ frz o a p:=by
 induction h with
 | il i=>exact .il i
 | ls i=>exact .ls i
 | cell d i=>exact .cell d i
 | gone=>exact .gone
 | inst i=>exact .inst i
 | tab i=>exact .tab i
 | dct i d=>exact .dct i d
 | zip i j d=>exact .zip i j d
theorem HR.mono(hρ:∀(i:Nat) (a:Addr),ρ[i]?=some a->ρ'[i]?=some a)(hf:∀p∈frz,p∈frz'){os:List PO}{as:List Addr}{l:List (Addr×Obj)}(h:HR X ρ frz os as l):HR X ρ' frz' os as l:=by
 induction h with
 | nil=>exact .nil
 | cons o _ ih=>exact .cons (o.mono hρ hf) ih
theorem HR.pin{ps:Pn}{os:List PO}{as:List Addr}{l:List (Addr×Obj)}(h:HR X ρ frz os as l):HR (X.pin ps) ρ frz os as l:=by
 induction h with
 | nil=>exact .nil
 | cons o _ ih=>exact .cons o.pin ih
theorem HR.pil{ps:Pl}{os:List PO}{as:List Addr}{l:List (Addr×Obj)}(h:HR X ρ frz os as l):HR (X.pil ps) ρ frz os as l:=HR.pin (ps:=⟨ps.1,ps.2,X.cl⟩) h
theorem HR.unpil{ps:Pl}{os:List PO}{as:List Addr}{l:List (Addr×Obj)}(h:HR (X.pil ps) ρ frz os as l):HR X ρ frz os as l:=HR.pin (X:=X.pil ps) (ps:=X.pn) h
theorem HR.unpin{ps:Pn}{os:List PO}{as:List Addr}{l:List (Addr×Obj)}(h:HR (X.pin ps) ρ frz os as l):HR X ρ frz os as l:=HR.pin (X:=X.pin ps) (ps:=X.pn) h
theorem HR.len{os:List PO}{as:List Addr}{l:List (Addr×Obj)}(h:HR X ρ frz os as l):as.length=os.length:=by
 induction h with
 | nil=>rfl
 | cons _ _ ih=>exact congrArg (· + 1) ih
theorem HR.app{os:List PO}{as:List Addr}{l:List (Addr×Obj)}(h:HR X ρ frz os as l){os':List PO}{as':List Addr}{l':List (Addr×Obj)}(h':HR X ρ frz os' as' l'):HR X ρ frz (os++os') (as++as') (l++l'):=by
 induction h with
 | nil=>exact h'
 | cons o _ ih=>rw[List.append_assoc];exact .cons o ih
theorem HR.unapp:∀{os os':List PO} {as:List Addr} {l:List (Addr×Obj)},HR X ρ frz (os++os') as l->∃S7 S8 S9 T0,as=S7++S8/\l=S9++T0/\HR X ρ frz os S7 S9/\HR X ρ frz os' S8 T0
 | [],os',as,l,h=>(zm ([]) as ([]) (Kn l rfl rfl .nil h))
 | o::os,os',_,_,h=>by
  cases h with
  | cons i t =>
   refine byc λGa=>?_;refine zi (HR.unapp t) λa1 a2 l1 Gb=>jU Gb λl2 e1 e2 x y=>?_;refine Ga ?_;exact(zm (_::a1) a2 (_++l1) (Kn l2 (by rw[e1];rfl) (by rw[e2,List.append_assoc]) (.cons i x) y))
theorem HR.at{os:List PO}{as:List Addr}{l:List (Addr×Obj)}(h:HR X ρ frz os as l):∀{i:Nat} {o:PO},os[i]?=some o ->
  ∃a pre mid post,as[i]?=some a/\l=pre++mid++post/\OR X ρ frz o a mid /\ ∀(o':PO) (mid':List (Addr×Obj)),OR X ρ frz o' a mid'->HR X ρ frz (os.set i o') as (pre++mid'++post):=by
 induction h with
 | nil=>intro i o e;cases e
 | cons x t ih =>
  intro i o e
  induction i with
  | zero =>
   cases e
   exact(zm _ ([]) _ (Kn _ rfl rfl x (λo' m' h'=>.cons h' t)))
  | succ i =>
   refine byc λGa=>?_;refine zi (ih e) λa pre mid Gb=>jU Gb λpost e1 e2 e3 e4=>?_;refine Ga ?_;exact(zm a (_++pre) mid (Kn post e1 (by rw[e2,List.append_assoc,List.append_assoc,List.append_assoc]) e3 (λo' m' h'=>by rw[List.append_assoc,List.append_assoc,<- List.append_assoc pre];exact .cons x (e4 o' m' h'))))
theorem l1(p q:List α)(x:α):p ++ [x]++q=p++x::q:=by rw[List.append_assoc];rfl
theorem l2(p q:List α)(x y:α):p ++ [x,y]++q=p++x::y::q:=by rw[List.append_assoc];rfl
theorem HR.at_il{os:List PO}{as:List Addr}{l:List (Addr×Obj)}(h:HR X ρ frz os as l){xs:List Int}(e:os[i]?=some (.il xs)):
  ∃a items n pre post,as[i]?=some a/\l=pre++(a,listOf items.toArray n)::post/\IntsAre items xs /\
   (∀(xs':List Int) (Fp:List Value) (n':Nat),IntsAre Fp xs'->HR X ρ frz (os.set i (.il xs')) as (pre++(a,listOf Fp.toArray n')::post)):=by
 refine byc λGa=>?_;refine zi (h.at e) λa pre mid Gb=>jU Gb λpost e1 e2 e3 e4=>?_;refine Ga ?_
 cases e3 with
 | il hi=>exact(zm a _ _ (yV pre post e1 (e2.trans (l1 _ _ _)) hi (λxs' it' n' h'=>l1 pre post _▸e4 (.il xs') _ (.il h'))))
theorem HR.at_cell{os:List PO}{as:List Addr}{l:List (Addr×Obj)}(h:HR X ρ frz os as l){v:Option PV}(e:os[i]?=some (.cell v)):
  ∃a o w pre post,as[i]?=some a/\l=pre++(a,o)::post/\o.data=.cell w/\CR ρ frz v w /\
   (∀(v':Option PV) (w':Option Value) (o':Obj),o'.data=.cell w'->CR ρ frz v' w'->HR X ρ frz (os.set i (.cell v')) as (pre++(a,o')::post)):=by
 refine byc λGa=>?_;refine zi (h.at e) λa pre mid Gb=>jU Gb λpost e1 e2 e3 e4=>?_;refine Ga ?_
 cases e3 with
 | cell hd hi=>exact(zm a _ _ (yV pre post e1 (e2.trans (l1 _ _ _)) hd ⟨hi,λv' w' o' hd' h'=>l1 pre post _▸e4 (.cell v') _ (.cell hd' h')⟩))
theorem HR.at_inst{os:List PO}{as:List Addr}{l:List (Addr×Obj)}(h:HR X ρ frz os as l){fs:List (Nat×PV)}(e:os[i]?=some (.inst fs)):
  ∃a d es n pre post,as[i]?=some a/\l=pre++(a,instObj X.C d)::(d,dictOf es n)::post/\FR X.nm ρ frz fs es /\
   ∀(fs':List (Nat×PV)) (es':List DictEntry) (n':Nat),FR X.nm ρ frz fs' es'->HR X ρ frz (os.set i (.inst fs')) as (pre++(a,instObj X.C d)::(d,dictOf es' n')::post):=by
 refine byc λGa=>?_;refine zi (h.at e) λa pre mid Gb=>jU Gb λpost e1 e2 e3 e4=>?_;refine Ga ?_
 cases e3 with
 | inst hi=>exact(zm a _ _ (Ko _ pre post e1 (e2.trans (l2 _ _ _ _)) hi (λfs' es' n' h'=>l2 pre post _ _▸e4 (.inst fs') _ (.inst h'))))
end
structure RW(X:Cx)(F0:Heap)(L:Addr)(h:Heap)(m:Str->Option Value)(O:PS)(vs:List PV)(ws:List Value)(ρ:List Addr)(led frz:List (Addr×Obj)):Prop where
 hr:HR X ρ frz O.hp ρ led
 all:News F0 L h ((led++frz)++X.ps)
 nd:(led.map (·.1)).Nodup
 off:∀p∈frz,∀q∈led,p.1≠q.1
 offp:∀p∈X.ps,∀q∈led++frz,p.1≠q.1
 kept:(∀p∈X.ks,p∈frz) /\ ∀p∈X.cl,ρ[p.1]?=some p.2
 loc:∀k v,lk k O.loc=some v->∃w,m (X.nm k)=some w/\VR ρ frz v w
 stk:VRs ρ frz vs ws
def RL(X:Cx)(F0:Heap)(L:Addr)(h:Heap)(m:Str->Option Value)(O:PS)(vs:List PV)(ws:List Value):Prop:=∃ρ led frz,RW X F0 L h m O vs ws ρ led frz
theorem RW.news{X:Cx}{m:Str->Option Value}{vs:List PV}{ws:List Value}{frz:List (Addr×Obj)}(q:RW X F0 L h m O vs ws ρ led frz):News F0 L h (led++frz):=
 λp hp=>q.all p (List.mem_append_left _ hp)
theorem Jn{a:Addr}(i:Nat)(b:Addr)(h:ρ[i]?=some b):(ρ ++ [a])[i]?=some b:=by
 rw[List.getElem?_append_left]
 ·exact h
 ·exact(List.getElem?_eq_some_iff.mp h).1
section
variable {X:Cx}{m:Str->Option Value}{vs:List PV}{ws:List Value}
theorem RL.pop{v:PV}{w:Value}(r:RL X F0 L h m O (v::vs) (w::ws)):RL X F0 L h m O vs ws:=by
 refine byc λGa=>?_;refine zi r λρ led frz q=>?_;refine zr q.stk.cons_inv λw' r' e a b=>?_;refine Ga ?_
 cases e
 exact(zm ρ led frz ⟨q.hr,q.all,q.nd,q.off,q.offp,q.kept,q.loc,b⟩)
theorem RL.push{v:PV}{w:Value}(r:RL X F0 L h m O vs ws)(hv:∀ρ frz,VR ρ frz v w):RL X F0 L h m O (v::vs) (w::ws):=by
 refine zi r λρ led frz q=>?_;exact(zm ρ led frz ⟨q.hr,q.all,q.nd,q.off,q.offp,q.kept,q.loc,VRs.cons (hv ρ frz) q.stk⟩)
theorem RL.stack{vs':List PV}{ws':List Value}(r:RL X F0 L h m O vs ws)(hv:∀ρ frz,VRs ρ frz vs ws->VRs ρ frz vs' ws'):RL X F0 L h m O vs' ws':=by
 refine zi r λρ led frz q=>?_;exact(zm ρ led frz ⟨q.hr,q.all,q.nd,q.off,q.offp,q.kept,q.loc,hv ρ frz q.stk⟩)
theorem RL.local{k:Nat}{v:PV}(r:RL X F0 L h m O vs ws)(e:lk k O.loc=some v):∃w,m (X.nm k)=some w/\RL X F0 L h m O (v::vs) (w::ws):=by
 refine byc λGa=>?_;refine zi r λρ led frz q=>?_;refine zd (q.loc k v e) λw a b=>?_;refine Ga ?_;exact(zv w a ⟨ρ,led,frz,q.hr,q.all,q.nd,q.off,q.offp,q.kept,q.loc,VRs.cons b q.stk⟩)
theorem RL.store{k:Nat}{v:PV}{w:Value}(r:RL X F0 L h m O (v::vs) (w::ws)):RL X F0 L h (λy=>if y=X.nm k then some w else m y) { O with loc:=st k v O.loc } vs ws:=by
 refine byc λGa=>?_;refine zi r λρ led frz q=>?_;refine zr q.stk.cons_inv λw' r' e a b=>?_;refine Ga ?_
 cases e
 refine(zm ρ led frz ⟨q.hr,q.all,q.nd,q.off,q.offp,q.kept,λj u e=>?_,b⟩);simp only[gP] at e
 by_cases hj:j=k
 ·subst hj
  simp at e;subst e;exact(zv w (by simp) a)
 ·simp only[hj,if_false] at e
  refine byc λGc=>?_;refine zd (q.loc j u e) λw' c d=>?_
  have:X.nm j≠X.nm k:=λx=>hj (X.inj _ _ x)
  refine Gc ?_;exact(zv w' (by simp[this,c]) d)
theorem Xh{x:α}{a b c:List α}{p:α}(h:p∈(a++(x::b))++c):p∈x::((a++b)++c):=by
 simp only[List.mem_append,List.mem_cons] at h ⊢
 rcases h with (h | h | h) | h
 ·exact .inr (.inl (.inl h))
 ·exact .inl h
 ·exact .inr (.inl (.inr h))
 ·exact .inr (.inr h)
theorem RW.freeze{frz:List (Addr×Obj)}(q:RW X F0 L h m O vs ws ρ led frz){o:Obj}{a:Addr}(N:News F0 L h' ((a,o)::((led++frz)++X.ps)))(hlt:∀p∈(led++frz)++X.ps,p.1≠a):
  RW X F0 L h' m O vs ws ρ led ((a,o)::frz):=by
 have up:∀p∈frz,p∈(a,o)::frz:=λp hp=>.tail _ hp;refine⟨q.hr.mono (λZ Z e=>e) up,λp hp=>N p (Xh hp),q.nd,?_,?_,⟨λp hp=>up p (q.kept.1 p hp),q.kept.2⟩,λk v e=>?_,q.stk.mono (λZ Z e=>e) up⟩
 ·intro p hp y hy
  cases hp with
  | head=>exact λe=>hlt y (List.mem_append_left _ (List.mem_append_left _ hy)) e.symm
  | tail _ hp=>exact q.off p hp y hy
 ·intro p hp y hy
  simp only[List.mem_append,List.mem_cons] at hy
  rcases hy with hy | rfl | hy
  ·exact q.offp p hp y (List.mem_append_left _ hy)
  ·exact λe=>hlt p (List.mem_append_right _ hp) e
  ·exact q.offp p hp y (List.mem_append_right _ hy)
 ·refine zd (q.loc k v e) λw c d=>?_
  exact(zv w c (d.mono (λZ Z e=>e) up))
theorem RW.own{frz:List (Addr×Obj)}(q:RW X F0 L h m O vs ws ρ led frz){o:Obj}{a:Addr}(N:News F0 L h' ((a,o)::((led++frz)++X.ps)))(hlt:∀p∈(led++frz)++X.ps,p.1≠a)
  (ho:HR X (ρ ++ [a]) frz [po] [a] [(a,o)]):RW X F0 L h' m ⟨O.loc,O.hp ++ [po]⟩ vs ws (ρ ++ [a]) (led ++ [(a,o)]) frz:=by
 have up:∀(i:Nat) (b:Addr),ρ[i]?=some b->(ρ ++ [a])[i]?=some b:=λi b e=>Jn i b e;refine⟨(q.hr.mono up (λZ e=>e)).app ho,λp hp=>N p ?_,?_,?_,?_,⟨q.kept.1,λp hp=>up _ _ (q.kept.2 p hp)⟩,λk v e=>?_,q.stk.mono up (λZ e=>e)⟩
 ·simp only[List.mem_append,List.mem_cons,List.not_mem_nil,or_false] at hp ⊢
  rcases hp with ((h | h) | h) | h
  ·exact .inr (.inl (.inl h))
  ·exact .inl h
  ·exact .inr (.inl (.inr h))
  ·exact .inr (.inr h)
 ·rw[List.map_append,List.nodup_append]
  refine⟨q.nd,by simp,λb hb c hc e=>?_⟩
  simp only[List.map_cons,List.map_nil,List.mem_singleton] at hc;refine zd (List.mem_map.mp hb) λp hp Fy=>?_;subst Fy;subst hc;exact hlt p (List.mem_append_left _ (List.mem_append_left _ hp)) e
 ·intro p hp y hy
  rcases List.mem_append.mp hy with hy | hy
  ·exact q.off p hp y hy
  ·rw[List.mem_singleton.mp hy]
   exact λe=>hlt p (List.mem_append_left _ (List.mem_append_right _ hp)) e
 ·intro p hp y hy
  simp only[List.mem_append,List.mem_cons,List.not_mem_nil,or_false] at hy
  rcases hy with (hy | rfl) | hy
  ·exact q.offp p hp y (List.mem_append_left _ hy)
  ·exact λe=>hlt p (List.mem_append_right _ hp) e
  ·exact q.offp p hp y (List.mem_append_right _ hy)
 ·refine zd (q.loc k v e) λw c d=>?_
  exact(zv w c (d.mono up (λZ e=>e)))
noncomputable def tC:PO->Option PV
 | .il xs=>some (.il xs)
 | .ls us=>some (.ls us)
 | _=>none
theorem OR.frz{ρ:List Addr}{frz:List (Addr×Obj)}{o:PO}{a:Addr}{mid:List (Addr×Obj)}{v:PV}(h:OR X ρ frz o a mid)(e:tC o=some v):∃b,mid = [(a,b)]/\VR ρ ((a,b)::frz) v (.ref a):=by
 cases h with
 | il hi=>cases e;exact(zv _ rfl (by show Exists _;exact(yW a _ _ rfl (.head _) hi)))
 | ls hi=>cases e;exact(zv _ rfl (by show Exists _;exact(yW a _ _ rfl (.head _) (VRs.mono (λZ Z e=>e) (λp hp=>.tail _ hp) _ hi))))
 | _=>cases e
theorem RW.thing{frz:List (Addr×Obj)}(q:RW X F0 L h m O vs ws ρ led frz){o:PO}{v:PV}(e:O.hp[j]?=some o)(ev:tC o=some v):
  ∃a b pre post,ρ[j]?=some a/\VR ρ ((a,b)::frz) v (.ref a)/\RW X F0 L h m ⟨O.loc,O.hp.set j .gone⟩ vs ws ρ (pre++post) ((a,b)::frz):=by
 refine byc λGa=>?_;refine zi (q.hr.at e) λa pre mid Gb=>jU Gb λpost e1 e2 e3 e4=>?_;refine Ga ?_;refine zd (e3.frz ev) λb Fy hv=>?_;subst Fy;subst e2;have up:∀p∈frz,p∈(a,b)::frz:=λp hp=>.tail _ hp
 have h':=(e4 .gone [] .gone).mono (frz':=(a,b)::frz) (ρ':=ρ) (λZ Z e=>e) up;have nd:=q.nd;simp only[List.append_assoc,List.map_append,List.map_cons,List.map_nil,List.singleton_append] at nd;have nd2:=(List.nodup_append.mp nd);have nd3:=List.nodup_cons.mp nd2.2.1;refine(zm a b pre (jY post e1 hv ⟨by simpa using h',λp hp=>q.all p ?_,?_,?_,?_,⟨λp hp=>up p (q.kept.1 p hp),q.kept.2⟩,λk v e=>?_,q.stk.mono (λZ Z e=>e) up⟩))
 ·simp only[List.mem_append,List.mem_cons,List.not_mem_nil,or_false] at hp ⊢
  rcases hp with ((h | h) | h | h) | h
  ·exact .inl (.inl (.inl (.inl h)))
  ·exact .inl (.inl (.inr h))
  ·exact .inl (.inl (.inl (.inr h)))
  ·exact .inl (.inr h)
  ·exact .inr h
 ·rw[List.map_append,List.nodup_append]
  exact⟨nd2.1,nd3.2,λx hx y hy=>nd2.2.2 x hx y (.tail _ hy)⟩
 ·intro p hp y hy
  cases hp with
  | head =>
   rcases List.mem_append.mp hy with hy | hy
   ·exact λe=>nd2.2.2 _ (List.mem_map_of_mem hy) a (.head _) e.symm
   ·exact λe=>nd3.1 (show a∈List.map (·.1) post by rw[show a=y.1 from e];exact List.mem_map_of_mem hy)
  | tail _ hp =>
   refine q.off p hp y ?_;simp only[List.mem_append] at hy ⊢
   rcases hy with hy | hy
   ·exact .inl (.inl hy)
   ·exact .inr hy
 ·intro p hp y hy
  refine q.offp p hp y ?_;simp only[List.mem_append,List.mem_cons,List.not_mem_nil,or_false] at hy ⊢
  rcases hy with (h | h) | h | h
  ·exact .inl (.inl (.inl h))
  ·exact .inl (.inr h)
  ·exact .inl (.inl (.inr h))
  ·exact .inr h
 ·refine zd (q.loc k v e) λw c d=>?_
  exact(zv w c (d.mono (λZ Z e=>e) up))
end
noncomputable abbrev KE:=PV->PS->Prop
variable {Wv:PV->PS->KE->Prop}
variable {We Wi Wl Wo:PS->KE->Prop}
variable {κ:KE}
@[irreducible] noncomputable def yU(x y:Int):Int:=x+y
@[irreducible] noncomputable def U5(x y:Int):Int:=x-y
@[irreducible] noncomputable def mI(x y:Int):Int:=x*y
@[irreducible] noncomputable def gp(x y:Int):Int:=x.fdiv y
@[irreducible] noncomputable def gq(x y:Int):Int:=x.fmod y
@[irreducible] noncomputable def zA(x y:Int):Int:=Builtin.bitAnd x y
@[irreducible] noncomputable def iOr(x y:Int):Int:=Builtin.bitOr x y
@[irreducible] noncomputable def Jc(x y:Int):Int:=Builtin.bitXor x y
@[irreducible] noncomputable def U4(x y:Int):Int:=x*2 ^ y.toNat
@[irreducible] noncomputable def cD(x y:Int):Int:=x.fdiv (2 ^ y.toNat)
@[irreducible] noncomputable def mK(x y:Int):Int:=x ^ y.toNat
@[irreducible] noncomputable def mJ(x:Int):Int:=-x
@[irreducible] noncomputable def jW(x:Int):Int:=Builtin.bitNot x
section
variable (x y:Int)
theorem zt:yU x y=x+y:=by unfold yU;rfl
theorem jP:U5 x y=x-y:=by unfold U5;rfl
theorem Wp:mI x y=x*y:=by unfold mI;rfl
theorem Wk:gp x y=x.fdiv y:=by unfold gp;rfl
theorem Wm:gq x y=x.fmod y:=by unfold gq;rfl
theorem jf:zA x y=Builtin.bitAnd x y:=by unfold zA;rfl
theorem qp:iOr x y=Builtin.bitOr x y:=by unfold iOr;rfl
theorem qO:Jc x y=Builtin.bitXor x y:=by unfold Jc;rfl
theorem y9:U4 x y=x*2 ^ y.toNat:=by unfold U4;rfl
theorem Wu:cD x y=x.fdiv (2 ^ y.toNat):=by unfold cD;rfl
theorem Wq:mK x y=x ^ y.toNat:=by unfold mK;rfl
theorem aS:mJ x = -x:=by unfold mJ;rfl
theorem y8:jW x=Builtin.bitNot x:=by unfold jW;rfl
end
noncomputable def isZ:Int->Bool
 | .ofNat 0=>true
 | _=>false
noncomputable def small:Int->Bool
 | .ofNat n=>Nat.ble n 1000000
 | .negSucc _=>false
theorem Xb{y:Int}(h:isZ y=false):y≠0:=λe=>by subst e;cases h
theorem jO{y:Int}(h:small y=true):0<=y/\y<=1000000:=by
 induction y with
 | ofNat n=>have:=Nat.le_of_ble_eq_true h;exact⟨Int.natCast_nonneg n,by show(n:Int)<=1000000;exact Je (YQ this) rfl⟩
 | negSucc n=>cases h
def mO(op:Operator)(x y:Int)(k:Int->Prop):Prop:=match op with
 | .Add=>k (yU x y)
 | .Sub=>k (U5 x y)
 | .Mult=>IntMulOk x y/\k (mI x y)
 | .FloorDiv=>cond (isZ y) False (Builtin.divisionGoesByPylong x y=false/\k (gp x y))
 | .Mod=>cond (isZ y) False (k (gq x y))
 | .BitAnd=>k (zA x y)
 | .BitOr=>k (iOr x y)
 | .BitXor=>k (Jc x y)
 | .LShift=>cond (small y) (x.natAbs<2 ^ 64/\k (U4 x y)) False
 | .RShift=>cond (small y) (k (cD x y)) False
 | .Pow=>cond (small y) (x.natAbs<2 ^ 64/\k (mK x y)) False
 | _=>False
noncomputable def xU(op:CmpOp)(x y:Int):Option Bool:=match op with
 | .Eq=>some (x==y)
 | .NotEq=>some (x !=y)
 | .Lt=>some (decide (x<y))
 | .LtE=>some (decide (x<=y))
 | .Gt=>some (decide (x>y))
 | .GtE=>some (decide (x>=y))
 | _=>none
def zn(s s':Shared):Prop:=s'.gens=s.gens/\s'.drawn=s.drawn/\s'.os=s.os
theorem zn.refl(s:Shared):zn s s:=⟨rfl,rfl,rfl⟩
theorem zn.trans{a b c:Shared}(x:zn a b)(y:zn b c):zn a c:=⟨y.1.trans x.1,y.2.1.trans x.2.1,y.2.2.trans x.2.2⟩
structure SR(m:Str->Option Value)(s:Shared)(m':Str->Option Value)(s':Shared):Prop where
 rest:zn s s'
 eq:m'=m
theorem SR.refl(m:Str->Option Value)(s:Shared):SR m s m s:=⟨zn.refl s,rfl⟩
theorem SR.trans{G3 G2 I3:Str->Option Value}{a b c:Shared}(x:SR G3 a G2 b)(y:SR G2 b I3 c):SR G3 a I3 c:=⟨x.rest.trans y.rest,y.eq.trans x.eq⟩
theorem SR.of{m:Str->Option Value}{a b:Shared}(x:zn a b):SR m a m b:=⟨x,rfl⟩
theorem SR.mk'{m:Str->Option Value}{t:Nat}:SR m s m { s with heap:=h,toks:=t }:=⟨⟨rfl,rfl,rfl⟩,rfl⟩
instance {m m':Str->Option Value} {s s':Shared}:CoeOut (SR m s m' s') (zn s s'):=⟨SR.rest⟩
theorem zn.mk'{t:Nat}:zn s { s with heap:=h,toks:=t }:=⟨rfl,rfl,rfl⟩
section
variable {prog:Program}{w:World}{A:Around}{E:Value->Shared->Prop}{x y:Int}{t u:Tok}
theorem jI{c:Bool}{P:Prop}(h:cond c False P):c=false/\P:=by
 induction c with
 | false=>exact⟨rfl,h⟩
 | true=>exact False.elim h
theorem zS{c:Bool}{P:Prop}(h:cond c P False):c=true/\P:=by
 induction c with
 | true=>exact⟨rfl,h⟩
 | false=>exact False.elim h
theorem ll{op:Operator}{k:Int->Prop}(h:mO op x y k)(hq:∀z t' n,k z->Q (.int z t') { s with toks:=n }):wpAny (model prog w) A (binaryOp op (.int x t) (.int y u)) Q E s:=by
 have hq:∀{z' z:Int},z'=z->k z'->∀{t' n},Q (.int z t') { s with toks:=n }:=λe h Z Z=>e▸hq _ _ _ h
 induction op with
 | Add=>exact add_int (hq (zt x y) h)
 | Sub=>exact PySem.P.sub_int (hq (jP x y) h)
 | Mult=>exact PySem.P.mul_int (hq (Wp x y) h.2) h.1
 | Mod=>exact mod_int (Xb (jI h).1) (hq (Wm x y) (jI h).2)
 | Pow=>exact pow_int_small (jO (zS h).1).1 (jO (zS h).1).2 (zS h).2.1 (hq (Wq x y) (zS h).2.2)
 | LShift=>exact lshift_int_small (jO (zS h).1).1 (jO (zS h).1).2 (zS h).2.1 (hq (y9 x y) (zS h).2.2)
 | RShift=>exact rshift_int (jO (zS h).1).1 (hq (Wu x y) (zS h).2)
 | BitOr=>exact or_int (hq (qp x y) h)
 | BitXor=>exact xor_int (hq (qO x y) h)
 | BitAnd=>exact and_int (hq (jf x y) h)
 | FloorDiv=>exact floordiv_int (Xb (jI h).1) (hq (Wk x y) (jI h).2.2) (Or.inl (jI h).2.1)
 | _=>exact False.elim h
theorem mM{op:Operator}{k:Int->Prop}(h:mO op x y k)(hq:∀z t' n,k z->Q (.int z t') { s with toks:=n }):wpAny (model prog w) A (inplaceOp op (.int x t) (.int y u)) Q E s:=by
 have hq:∀{z' z:Int},z'=z->k z'->∀{t' n},Q (.int z t') { s with toks:=n }:=λe h Z Z=>e▸hq _ _ _ h
 induction op with
 | Add=>exact iadd_int (hq (zt x y) h)
 | Sub=>exact PySem.P.isub_int (hq (jP x y) h)
 | Mult=>exact imul_int (hq (Wp x y) h.2) h.1
 | Mod=>exact imod_int (Xb (jI h).1) (hq (Wm x y) (jI h).2)
 | Pow=>exact ipow_int_small (jO (zS h).1).1 (jO (zS h).1).2 (zS h).2.1 (hq (Wq x y) (zS h).2.2)
 | LShift=>exact ilshift_int_small (jO (zS h).1).1 (jO (zS h).1).2 (zS h).2.1 (hq (y9 x y) (zS h).2.2)
 | RShift=>exact irshift_int (jO (zS h).1).1 (hq (Wu x y) (zS h).2)
 | BitOr=>exact ior_int (hq (qp x y) h)
 | BitXor=>exact ixor_int (hq (qO x y) h)
 | BitAnd=>exact iand_int (hq (jf x y) h)
 | FloorDiv=>exact ifloordiv_int (Xb (jI h).1) (hq (Wk x y) (jI h).2.2) (Or.inl (jI h).2.1)
 | _=>exact False.elim h
theorem ly{op:CmpOp}{b:Bool}(h:xU op x y=some b)(hq:Q (.bool b) s):wpAny (model prog w) A (compareOp op (.int x t) (.int y u)) Q E s:=by
 induction op with
 | Eq=>cases h;exact PySem.P.eq_int hq
 | NotEq=>cases h;exact PySem.P.ne_int hq
 | Lt=>cases h;exact PySem.P.lt_int hq
 | LtE=>cases h;exact PySem.P.le_int hq
 | Gt=>cases h;exact PySem.P.gt_int hq
 | GtE=>cases h;exact PySem.P.ge_int hq
 | _=>cases h
end
def opt(x:Option α)(k:α->Prop):Prop:=match x with | some a=>k a | none=>False
noncomputable def UK(x:Option α):Bool:=match x with | none=>true | some _=>false
def yl(a:PV)(k:Int->Prop):Prop:=match a with | .int x=>k x | _=>False
def Va(a:PV)(k:Nat->Prop):Prop:=match a with | .ref j=>k j | _=>False
noncomputable def ilP(o:Option PO):Option (List Int):=match o with | some (.il xs)=>some xs | _=>none
def ilO(o:Option PO)(k:List Int->Prop):Prop:=opt (ilP o) k
def gy(o:Option PO)(k:List (Nat×PV)->Prop):Prop:=match o with | some (.inst fs)=>k fs | _=>False
def eU(o:Option PO)(k:Option PV->Prop):Prop:=match o with | some (.cell v)=>k v | _=>False
def ilC(a:PV)(O:PS)(k:Nat->List Int->Prop):Prop:=Va a λj=>ilO O.hp[j]? (k j)
def Vp(a:PV)(O:PS)(k:Nat->List (Nat×PV)->Prop):Prop:=Va a λj=>gy O.hp[j]? (k j)
def eqW(op:CmpOp)(c:Bool)(k:Bool->Prop):Prop:=match op with | .Eq=>k c | .NotEq=>k (!c) | _=>False
theorem Ur{op:CmpOp}{c:Bool}{k:Bool->Prop}(h:eqW op c k):(op=.Eq/\k c)∨(op=.NotEq/\k (!c)):=by
 induction op with
 | Eq=>exact .inl ⟨rfl,h⟩
 | NotEq=>exact .inr ⟨rfl,h⟩
 | _=>exact False.elim h
def isW(op:CmpOp)(c:Bool)(k:Bool->Prop):Prop:=match op with | .Is=>k c | .IsNot=>cond c (k false) (k true) | _=>False
theorem tT{op:CmpOp}{c:Bool}{k:Bool->Prop}(h:isW op c k):(op=.Is/\k c)∨(op=.IsNot/\k (!c)):=by
 induction op with
 | Is=>exact .inl ⟨rfl,h⟩
 | IsNot=>exact .inr ⟨rfl,by induction c<;>exact h⟩
 | _=>exact False.elim h
theorem rP{x y:Option α}{v:α}(h:x.or y=some v):x=some v∨y=some v:=by
 induction x with
 | some a=>exact .inl h
 | none=>exact .inr h
theorem zu{x:Option α}{k:α->Prop}(h:opt x k):∃a,x=some a/\k a:=by
 induction x with
 | some a=>exact⟨a,rfl,h⟩
 | none=>exact False.elim h
theorem mP{x:Option α}(h:UK x=true):x=none:=by
 induction x with
 | none=>rfl
 | some a=>cases h
theorem ii{x:Option α}{P:Prop}(h:cond (UK x) P False):x=none/\P:=⟨mP (zS h).1,(zS h).2⟩
section
variable {a:PV}{o:Option PO}
theorem z9{k:Int->Prop}(h:yl a k):∃x,a=.int x/\k x:=by cases a<;>first | exact⟨_,rfl,h⟩ | exact False.elim h
theorem yf{k:Nat->Prop}(h:Va a k):∃x,a=.ref x/\k x:=by cases a<;>first | exact⟨_,rfl,h⟩ | exact False.elim h
theorem gu{xs:List Int}(h:ilP o=some xs):o=some (.il xs):=by
 induction o with
 | none=>cases h
 | some p=>cases p<;>cases h;rfl
theorem gt{k:List Int->Prop}(h:ilO o k):∃xs,o=some (.il xs)/\k xs:=by
 refine zd (zu h) λxs e h=>?_;exact(zv xs (gu e) h)
theorem gz{k:List (Nat×PV)->Prop}(h:gy o k):∃xs,o=some (.inst xs)/\k xs:=by
 induction o with
 | none=>exact False.elim h
 | some p=>induction p<;>first | exact⟨_,rfl,h⟩ | exact False.elim h
theorem ap{k:Option PV->Prop}(h:eU o k):∃xs,o=some (.cell xs)/\k xs:=by
 induction o with
 | none=>exact False.elim h
 | some p=>induction p<;>first | exact⟨_,rfl,h⟩ | exact False.elim h
theorem tO{k:Nat->List Int->Prop}(h:ilC a O k):∃j xs,a=.ref j/\O.hp[j]?=some (.il xs)/\k j xs:=by
 refine byc λGa=>?_;refine zd (yf h) λj e h=>?_;refine zd (gt h) λxs e' h=>?_;refine Ga ?_;exact(jw j xs e e' h)
theorem Jp{k:Nat->List (Nat×PV)->Prop}(h:Vp a O k):∃j xs,a=.ref j/\O.hp[j]?=some (.inst xs)/\k j xs:=by
 refine byc λGa=>?_;refine zd (yf h) λj e h=>?_;refine zd (gz h) λxs e' h=>?_;refine Ga ?_;exact(jw j xs e e' h)
end
structure Gam where
 X:Cx
 prog:Program
 K:Frag
 p:Program
 loose:List Str
 mean:ExcName->Option Value
 mg:Str->Option Value
 mb:Str->Option Value
 base:Heap
variable {G:Gam}
noncomputable abbrev Gam.w(G:Gam):World:=G.X.wd
noncomputable def Gam.pin(G:Gam)(ps:Pn):Gam:={ G with X:=G.X.pin ps }
noncomputable def Gam.pil(G:Gam)(ps:Pl):Gam:={ G with X:=G.X.pil ps }
structure Act(G:Gam)(outer:List Env)(F0:Heap)(env:Env)(A:Around)(d:Nat):Prop where
 B:∃R9,Below R9 G.base outer F0
 Kin:G.K.In F0
 T:Top G.p G.loose G.mean G.mg G.mb F0
 fr:A.frames=some (env::outer)
 hd:A.handled=none
 dep:A.depth+d<recursionLimit
 un:A.units+8*d<cLine
structure EnvG(env:Env):Prop where
 glo:env.globals=mainGlobals
 blt:env.builtins=builtinsNs
 kind:env.scope.kind=.function
structure EnvF(env:Env)(L:Addr):Prop extends EnvG env where
 loc:env.locals=L
theorem lF{name:Str}{a:Addr}{cd:Value}(hk:scope.kind=.function):EnvF (envOf name scope L a cd) L:=⟨⟨rfl,rfl,hk⟩,rfl⟩
theorem X5{name:Str}{a:Addr}{cd:Value}(hk:scope.kind=.function):EnvF (envOfC name scope L a cd) L:=⟨⟨rfl,rfl,hk⟩,rfl⟩
section
variable {M:Model}{A:Around}{E:Value->Shared->Prop}{m mg mb:Str->Option Value}{x:Str}{v:Value}
theorem A0(V:EnvF env L)(F:Fr F0 L s.heap m)(hv:m x=some v)(h:Q v s)(hl:env.kindOf x=some .local):wpAny M A (loadName env x) Q E s:=by
 obtain rfl:=V.loc;exact wpAny_loadName_local V.kind hl F.ns hv h
theorem ldE(V:EnvF env L)(F:Fr F0 L s.heap m)(hv:m x=some v)(h:Q v s)(hl:env.kindOf x=some .local)(hd:(x==("__debug__" : Str))=false):wpAny M A (eval (.Name x pos) env) Q E s:=wpAny_Name (A0 V F hv h hl) hd
theorem stE{news:List (Addr×Obj)}{Q:Unit->Shared->Prop}(V:EnvF env L)(F:Fr F0 L s.heap m)(N:News F0 L s.heap news)(h:∀h',Fr F0 L h' (λy=>if y=x then some v else m y)->News F0 L h' news->Q () { s with heap:=h',toks:=s.toks+1 })(hl:env.kindOf x=some .local):
  wpAny M A (storeName env x v) Q E s:=by
 obtain rfl:=V.loc;exact wpAny_storeName_local hl F.ns (λh' hn hs=>h h' (F.set hn hs) (N.set hs)) (by rw[V.kind];rfl)
theorem Dx(V:EnvG env)(F:Fr F0 L s.heap m)(hg:F0.Ns mainGlobals mg)(hb:mg x=some v)(h:Q v s)(hx:env.kindOf x=some .globalImplicit)(hd:(x==("__debug__" : Str))=false):wpAny M A (eval (.Name x pos) env) Q E s:=
 Calls.Name_function_global V.kind hx (Calls.loadGlobal_global (env:=env) (by rw[V.glo];exact hg.keeps F.keep) hb h) hd
theorem Dd(V:EnvG env)(F:Fr F0 L s.heap m)(hg:F0.Ns mainGlobals mg)(hmiss:mg x=none)(hb:F0.Ns builtinsNs mb)(hv:mb x=some v)(h:Q v s)(hx:env.kindOf x=some .globalImplicit)(hd:(x==("__debug__" : Str))=false):wpAny M A (eval (.Name x pos) env) Q E s:=
 Calls.Name_function_global V.kind hx (Calls.loadGlobal_builtin (env:=env) (by rw[V.glo];exact hg.keeps F.keep) hmiss (by rw[V.blt];exact hb.keeps F.keep) hv h) hd
end
abbrev j6(G:Gam)(F0:Heap)(L:Addr)(m:Str->Option Value)(s:Shared)(vs:List PV)(ws:List Value)(k:KE)(Q:Value->Shared->Prop):Prop:=
 ∀v σ' m' w' s',k v σ'->SR m s m' s'->Fr F0 L s'.heap m'->RL G.X F0 L s'.heap m' σ' (v::vs) (w'::ws)->Q w' s'
def ES(G:Gam)(A:Around)(F0:Heap)(L:Addr)(t:Sem Value)(W:PS->KE->Prop):Prop:=
 ∀⦃O:PS⦄ ⦃k:KE⦄ ⦃m:Str->Option Value⦄ ⦃s:Shared⦄ ⦃vs:List PV⦄ ⦃ws:List Value⦄,W O k->Fr F0 L s.heap m->RL G.X F0 L s.heap m O vs ws ->
  ∀⦃Q:Value->Shared->Prop⦄ ⦃E:Value->Shared->Prop⦄,j6 G F0 L m s vs ws k Q->wpAny (model G.prog G.w) A t Q E s
def O1(G:Gam)(A:Around)(F0:Heap)(L:Addr)(f:Value->Sem Value)(W:PV->PS->KE->Prop):Prop:=
 ∀⦃O:PS⦄ ⦃k:KE⦄ ⦃m:Str->Option Value⦄ ⦃s:Shared⦄ ⦃vs:List PV⦄ ⦃ws:List Value⦄ ⦃a:PV⦄ ⦃wa:Value⦄,W a O k->Fr F0 L s.heap m->RL G.X F0 L s.heap m O (a::vs) (wa::ws) ->
  ∀⦃Q:Value->Shared->Prop⦄ ⦃E:Value->Shared->Prop⦄,j6 G F0 L m s vs ws k Q->wpAny (model G.prog G.w) A (f wa) Q E s
def O2(G:Gam)(A:Around)(F0:Heap)(L:Addr)(f:Value->Value->Sem Value)(W:PV->PV->PS->KE->Prop):Prop:=
 ∀⦃O:PS⦄ ⦃k:KE⦄ ⦃m:Str->Option Value⦄ ⦃s:Shared⦄ ⦃vs:List PV⦄ ⦃ws:List Value⦄ ⦃a b:PV⦄ ⦃wa wb:Value⦄,W a b O k->Fr F0 L s.heap m->RL G.X F0 L s.heap m O (b::a::vs) (wb::wa::ws) ->
  ∀⦃Q:Value->Shared->Prop⦄ ⦃E:Value->Shared->Prop⦄,j6 G F0 L m s vs ws k Q->wpAny (model G.prog G.w) A (f wa wb) Q E s
section
variable {A:Around}{m:Str->Option Value}{vs:List PV}{ws:List Value}{E:Value->Shared->Prop}
theorem RL.top1{v:PV}{w:Value}(r:RL G.X F0 L h m O (v::vs) (w::ws)):∃ρ led frz,RW G.X F0 L h m O (v::vs) (w::ws) ρ led frz/\VR ρ frz v w:=by
 refine byc λGa=>?_;refine zi r λρ led frz q=>?_;refine zr q.stk.cons_inv λZ Z e a Z=>?_;refine Ga ?_
 cases e
 exact(JW ρ led frz q a)
theorem RL.int{i:Int}{w:Value}(r:RL G.X F0 L h m O (.int i::vs) (w::ws)):∃t,w=.int i t:=by
 refine jc r.top1 λZ Z Z Z a=>?_;exact a
theorem RL.bool{b:Bool}{w:Value}(r:RL G.X F0 L h m O (.bool b::vs) (w::ws)):w=.bool b:=by
 refine jc r.top1 λZ Z Z Z a=>?_;exact a
theorem RL.none{w:Value}(r:RL G.X F0 L h m O (.none::vs) (w::ws)):w=.none:=by
 refine jc r.top1 λZ Z Z Z a=>?_;exact a
theorem RL.str{x:Str}{w:Value}(r:RL G.X F0 L h m O (.str x::vs) (w::ws)):∃t,w=.str x t:=by
 refine jc r.top1 λZ Z Z Z a=>?_;exact a
theorem RL.top{a:Addr}{w:Value}(r:RL G.X F0 L h m O (.top a::vs) (w::ws)):w=.ref a:=by
 refine jc r.top1 λZ Z Z Z a=>?_;exact a
theorem j6.push{k:KE}(hq:j6 G F0 L m s vs ws k Q){v:PV}{w:Value}{n:Nat}(F:Fr F0 L s.heap m)(R:RL G.X F0 L s.heap m O vs ws)(hv:∀ρ frz,VR ρ frz v w)(hk:k v O):Q w { s with toks:=n }:=
 hq v O m w _ hk SR.mk' F (R.push hv)
theorem jo(i:Int)(t:Tok)(ρ:List Addr)(frz:List (Addr×Obj)):VR ρ frz (.int i) (.int i t):=by show Exists _;exact⟨t,rfl⟩
theorem yP(b:Bool)(ρ:List Addr)(frz:List (Addr×Obj)):VR ρ frz (.bool b) (.bool b):=rfl
theorem Qj(ρ:List Addr)(frz:List (Addr×Obj)):VR ρ frz .none .none:=rfl
theorem wO(x:Str)(t:Tok)(ρ:List Addr)(frz:List (Addr×Obj)):VR ρ frz (.str x) (.str x t):=by show Exists _;exact⟨t,rfl⟩
theorem Z6(a:Addr)(ρ:List Addr)(frz:List (Addr×Obj)):VR ρ frz (.top a) (.ref a):=rfl
theorem fF{i:Int}{kd:Nat}:ES G A F0 L (eval (.Constant (.int i) kd pos) env) (λO k=>k (.int i) O):=by
 intro O k m s vs ws h F R Q E hq;exact wpAny_Constant_int (hq.push F R (jo i _) h)
theorem aG{kd:Nat}:ES G A F0 L (eval (.Constant .none kd pos) env) (λO k=>k .none O):=by
 intro O k m s vs ws h F R Q E hq;exact wpAny_pure (hq .none O m .none s h (SR.refl _ _) F (R.push Qj))
theorem aD{b:Bool}{kd:Nat}:ES G A F0 L (eval (.Constant (.bool b) kd pos) env) (λO k=>k (.bool b) O):=by
 intro O k m s vs ws h F R Q E hq;exact wpAny_pure (hq _ O m _ s h (SR.refl _ _) F (R.push (yP b)))
theorem Us{x:Str}{kd:Nat}:ES G A F0 L (eval (.Constant (.str x) kd pos) env) (λO k=>k (.str x) O):=by
 intro O k m s vs ws h F R Q E hq;exact λZ Z Z=>hq.push (n:=s.toks+1) F R (wO x s.toks) h
def j7(x:Nat)(O:PS)(k:KE):Prop:=opt (lk x O.loc) λv=>k v O
theorem sY(V:EnvF env L)(hl:env.kindOf (G.X.nm x)=some .local)(hd:(G.X.nm x==("__debug__" : Str))=false):
  ES G A F0 L (eval (.Name (G.X.nm x) pos) env) (j7 x):=by
 intro O k m s vs ws h F R Q E hq;refine byc λGa=>?_;refine zd (zu h) λv e h=>?_;refine zd (R.local e) λw hm R'=>?_;refine Ga ?_;exact ldE V F hm (hq v O m w s h (SR.refl _ _) F R') hl hd
theorem te{b:Addr}{d:Nat}(D:Act G outer F0 env' A d)(V:EnvG env)
  (hx:env.kindOf (G.X.nm x)=some .globalImplicit) (hd:(G.X.nm x==("__debug__" : Str))=false) (e:nsIn G.K mainGlobals (G.X.nm x)=some (some (.ref b))) :
  ES G A F0 L (eval (.Name (G.X.nm x) pos) env) (λO k=>k (.top b) O):=by
 intro O k m s vs ws h F R Q E hq;exact Dx V F (topRead_of D.T).g (mg_of D.Kin (topRead_of D.T).g e) (hq _ O m _ s h (SR.refl _ _) F (R.push (Z6 b))) hx hd
theorem sV{l r:Expr}{op:Operator}{Wr:PS->KE->Prop}{Wo:PV->PV->PS->KE->Prop}(hl:ES G A F0 L (eval l env) Wl)(hr:ES G A F0 L (eval r env) Wr)(ho:O2 G A F0 L (binaryOp op) Wo):
  ES G A F0 L (eval (.BinOp l op r pos) env) (λO k=>Wl O λa F1=>Wr F1 λb F5=>Wo a b F5 k):=by
 intro O k m s vs ws h F R Q E hq;exact wpAny_BinOp (hl h F R λa F1 G3 wa F8 F6 F9 G0 G1=>hr F6 G0 G1 λb F5 G2 wb F7 G4 G6 G9 G8=>ho G4 G9 G8 λv G5 I3 wv H9 H3 I1 I0 H7=>hq v G5 I3 wv H9 H3 ((F9.trans G6).trans I1) I0 H7)
theorem Ab{e:Expr}{op:UnaryOp}{W:PS->KE->Prop}{Wo:PV->PS->KE->Prop}(he:ES G A F0 L (eval e env) W)(ho:O1 G A F0 L (unaryOp op) Wo):
  ES G A F0 L (eval (.UnaryOp op e pos) env) (λO k=>W O λa F1=>Wo a F1 k):=by
 intro O k m s vs ws h F R Q E hq;exact wpAny_UnaryOp (he h F R λa F1 G3 wa F8 F6 F9 G0 G1=>ho F6 G0 G1 λv G5 I3 wv H9 H3 I1 I0 H7=>hq v G5 I3 wv H9 H3 (F9.trans I1) I0 H7)
theorem sW{l r:Expr}{op:CmpOp}{Wr:PS->KE->Prop}{Wo:PV->PV->PS->KE->Prop}(hl:ES G A F0 L (eval l env) Wl)(hr:ES G A F0 L (eval r env) Wr)(ho:O2 G A F0 L (compareOp op) Wo)(hm:behindInMarks op r=false):
  ES G A F0 L (eval (.Compare l [op] [r] pos) env) (λO k=>Wl O λa F1=>Wr F1 λb F5=>Wo a b F5 k):=by
 intro O k m s vs ws h F R Q E hq;exact wpAny_Compare1 (hl h F R λa F1 G3 wa F8 F6 F9 G0 G1=>hr F6 G0 G1 λb F5 G2 wb F7 G4 G6 G9 G8=>ho G4 G9 G8 λv G5 I3 wv H9 H3 I1 I0 H7=>hq v G5 I3 wv H9 H3 ((F9.trans G6).trans I1) I0 H7) hm
def unW(op:UnaryOp)(a:PV)(O:PS)(k:KE):Prop:=yl a λx=>match op with
 | .USub=>k (.int (mJ x)) O
 | .Invert=>k (.int (jW x)) O
 | _=>False
theorem Eo{op:UnaryOp}:O1 G A F0 L (unaryOp op) (unW op):=by
 intro O k m s vs ws a wa h F R Q E hq;refine zd (z9 h) λx Fz h=>?_;subst Fz;refine zI R.int λt Fy=>?_;subst Fy
 induction op with
 | USub=>exact PyProof.Rows.neg_int (hq.push F R.pop (jo _ _) (aS x▸h))
 | Invert=>exact invert_int (hq.push F R.pop (jo _ _) (y8 x▸h))
 | _=>exact False.elim h
structure AttrOk(G:Gam)(x:Nat):Prop where
 pg:plainGet G.K G.X.C (G.X.nm x)=true
 hd:hasDictIn G.K G.X.C=true
 fi:findIn G.K (.ref G.X.C) (G.X.nm x)=some none
 sa:findIn G.K (.ref G.X.C) "__setattr__" = some (some (.builtin "object.__setattr__"))
 po:plainOver G.K G.X.C=true
 tk:takerIn G.K G.X.C (G.X.nm x)=some none
structure InstF(G:Gam)(F0:Heap)(L:Addr)(h:Heap)(m:Str->Option Value)(O:PS)(vs:List PV)(ws:List Value)(i:Nat)(fs:List (Nat×PV))(x dx:Addr)(es:List DictEntry)(n:Nat)(ρ:List Addr)(pre post frz:List (Addr×Obj)):Prop where
 rw:RW G.X F0 L h m O vs ws ρ (pre++(x,instObj G.X.C dx)::(dx,dictOf es n)::post) frz
 fr:FR G.X.nm ρ frz fs es
 put:∀(fs':List (Nat×PV)) (es':List DictEntry) (n':Nat),FR G.X.nm ρ frz fs' es'->HR G.X ρ frz (O.hp.set i (.inst fs')) ρ (pre++(x,instObj G.X.C dx)::(dx,dictOf es' n')::post)
 at_:InstAt h x (instObj G.X.C dx) G.X.C (some (dictOf es n))
 idx:ρ[i]?=some x
theorem RL.inst{fs:List (Nat×PV)}(R:RL G.X F0 L h m O vs ws)(e:O.hp[i]?=some (.inst fs)):∃x dx es n ρ pre post frz,InstF G F0 L h m O vs ws i fs x dx es n ρ pre post frz:=by
 refine byc λGa=>?_;refine zi R λρ led frz q=>?_;refine zi (q.hr.at_inst e) λa d es Gb=>qg Gb λn pre post e1 e2 e3 e4=>?_;refine Ga ?_;subst e2;exact(zm a d es (zm n ρ pre (Jo post frz ⟨q,e3,e4,InstAt.of_news q.news (by simp) (by simp),e1⟩)))
theorem RL.instTop{fs:List (Nat×PV)}{w:Value}(R:RL G.X F0 L h m O (.ref i::vs) (w::ws))(e:O.hp[i]?=some (.inst fs)):∃x dx es n ρ pre post frz,InstF G F0 L h m O (.ref i::vs) (w::ws) i fs x dx es n ρ pre post frz/\w=.ref x:=by
 refine zi (R.inst e) λx dx es Gb=>zi Gb λn ρ pre Gb=>UQ Gb λpost frz I=>?_;refine(zm x dx es (zm n ρ pre (jL post frz I ?_)));refine zr I.rw.stk.cons_inv λZ Z e' a Z=>?_
 cases e'
 refine zd a λb hb Fy=>?_;subst Fy;rw[I.idx] at hb
 cases hb;rfl
def XT(x:Nat)(a:PV)(O:PS)(k:KE):Prop:=Vp a O λZ fs=>opt (lk x fs) λv=>k v O
theorem ip{d:Nat}(D:Act G outer F0 env A d)(ok:AttrOk G x):O1 G A F0 L (λo=>getAttr o (G.X.nm x) expr) (XT x):=by
 intro O k m s vs ws a wa h F R Q E hq;obtain⟨i,fs,rfl,e,h⟩:=Jp h;refine byc λGa=>?_;obtain⟨v,ev,h⟩:=zu h;refine Ga ?_;obtain⟨x',dx,es,n,ρ,pre,post,frz,I,rfl⟩:=R.instTop e;refine byc λGc=>?_;obtain⟨w',gw,hw⟩:=(I.fr.get G.X.inj).1 v ev;obtain⟨_,_,e',_,tl⟩:=I.rw.stk.cons_inv;refine Gc ?_
 cases e'
 exact get_own F D.Kin I.at_ ok.pg ok.hd ok.fi rfl gw hw.handed (hq v O m w' _ h SR.mk' F (zm ρ _ frz ⟨I.rw.hr,I.rw.all,I.rw.nd,I.rw.off,I.rw.offp,I.rw.kept,I.rw.loc,VRs.cons hw tl⟩))
structure ConstOk(G:Gam)(x:Nat)(v:PV)(c:Value):Prop where
 pg:plainGet G.K G.X.C (G.X.nm x)=true
 hd:hasDictIn G.K G.X.C=true
 fi:findIn G.K (.ref G.X.C) (G.X.nm x)=some (some c)
 ng:specialIn G.K c "__get__" = some none
 hh:handedIn c=true
 cp:copiedNames.contains (G.X.nm x)=false
 vr:∀ρ frz,VR ρ frz v c
def Zm(x:Nat)(v:PV)(a:PV)(O:PS)(k:KE):Prop:=Vp a O λZ fs=>cond (UK (lk x fs)) (k v O) False
theorem bq{v:PV}{c:Value}{d:Nat}(D:Act G outer F0 env A d)(ok:ConstOk G x v c):O1 G A F0 L (λo=>getAttr o (G.X.nm x) expr) (Zm x v):=by
 intro O k m s vs ws a wa h F R Q E hq;obtain⟨i,fs,rfl,e,h⟩:=Jp h;obtain⟨ev,h⟩:=ii h;obtain⟨x',dx,es,n,ρ,pre,post,frz,I,rfl⟩:=R.instTop e;have gw:=(I.fr.get G.X.inj).2 ev;exact get_cls F D.Kin I.at_ ok.pg ok.hd ok.fi ok.ng ok.hh ok.cp gw (hq v O m c _ h SR.mk' F (R.pop.push ok.vr))
structure MethOk(G:Gam)(x:Nat)(f:Addr):Prop where
 pg:plainGet G.K G.X.C (G.X.nm x)=true
 hd:hasDictIn G.K G.X.C=true
 fi:findIn G.K (.ref G.X.C) (G.X.nm x)=some (some (.ref f))
 fn:isFn G.K (.ref f)=true
 gf:specialIn G.K (.ref f) "__get__" = some (some (.builtin "function.__get__"))
 tk:takesIn G.K (.ref f)=some false
 cp:copiedNames.contains (G.X.nm x)=false
 ki:keepIn G.K (.ref f)=true
 fk:fnIn G.K f=true
def eH(x:Nat)(f:Addr)(a:PV)(O:PS)(k:KE):Prop:=Vp a O λi fs=>cond (UK (lk x fs)) (k (.bound (.ref i) f) O) False
theorem nM{d:Nat}(D:Act G outer F0 env A d)(ok:MethOk G x f):O1 G A F0 L (λo=>getAttr o (G.X.nm x) expr) (eH x f):=by
 intro O k m s vs ws a wa h F R Q E hq;obtain⟨i,fs,rfl,e,h⟩:=Jp h;obtain⟨ev,h⟩:=ii h;obtain⟨x',dx,es,n,ρ,pre,post,frz,I,rfl⟩:=R.instTop e;have gw:=(I.fr.get G.X.inj).2 ev;refine kbm_bound F D.Kin I.rw.all I.at_ ok.pg ok.hd ok.fi ok.fn ok.gf ok.tk ok.cp gw λq h' F' N' lt=>?_
 have W:=I.rw.freeze N' (λp hp=>Nat.ne_of_lt (lt p hp));obtain⟨_,_,e',hv,tl⟩:=W.stk.cons_inv
 cases e'
 refine hq (.bound (.ref i) f) O m (.ref q) _ h SR.mk' F' (zm ρ _ _ ⟨W.hr,W.all,W.nd,W.off,W.offp,W.kept,W.loc,VRs.cons ?_ tl⟩);show Exists _;exact(jw q (.ref x') rfl (.head _) ⟨x',I.idx,rfl⟩)
theorem lH{id:Str}{W:PS->KE->Prop}{Wo:PV->PS->KE->Prop}(he:ES G A F0 L (eval (.Name id Fk) env) W)(ho:O1 G A F0 L (λo=>getAttr o (G.X.nm x) true) Wo):
  ES G A F0 L (eval (.Attribute (.Name id Fk) (G.X.nm x) pos) env) (λO k=>W O λa F1=>Wo a F1 k):=by
 intro O k m s vs ws h F R Q E hq;exact Attribute_Name_ (he h F R λa F1 G3 wa F8 F6 F9 G0 G1=>ho F6 G0 G1 λv G5 I3 wv H9 H3 I1 I0 H7=>hq v G5 I3 wv H9 H3 (F9.trans I1) I0 H7)
end
theorem bP{d:Addr}{o o':Obj}:∀{pre post:List (Addr×Obj)},(∀p∈pre,p.1≠d)->(∀p∈post,p.1≠d)->Upd d o o' (pre++(d,o)::post) (pre++(d,o')::post)
 | [],_,_,h2=>.head h2
 | p::pre,_,h1,h2=>.tail (h1 p (.head _)) (bP (λq hq=>h1 q (.tail _ hq)) h2)
theorem qF{α:Type}{a:α}:∀{pre post:List α},(pre++a::post).Nodup->(∀p∈pre,p≠a) /\ ∀p∈post,p≠a
 | [],post,h=>⟨λZ hp=>(nomatch hp),λp hp e=>(List.nodup_cons.mp h).1 (e▸hp)⟩
 | b::pre,post,h=>by
  have h':=List.nodup_cons.mp (show(b::(pre++a::post)).Nodup from h)
  obtain⟨x,y⟩:=qF h'.2;refine⟨λp hp=>?_,y⟩
  cases hp with
  | head=>exact λe=>h'.1 (e▸by simp)
  | tail _ hp=>exact x p hp
theorem RW.swap{X:Cx}{m:Str->Option Value}{vs:List PV}{ws:List Value}{led' frz:List (Addr×Obj)}(q:RW X F0 L h m O vs ws ρ led frz)(e:led'.map (·.1)=led.map (·.1))
  (hr:HR X ρ frz hp' ρ led') (N:News F0 L h' ((led'++frz)++X.ps)):RW X F0 L h' m ⟨O.loc,hp'⟩ vs ws ρ led' frz:=by
 have key:∀y∈led',∃z∈led,z.1=y.1:=λy hy=>by
  have:y.1∈led.map (·.1):=e▸List.mem_map_of_mem hy
  refine zd (List.mem_map.mp this) λz hz e=>?_;exact(zv z hz e)
 refine⟨hr,N,e▸q.nd,λp hp y hy=>?_,λp hp y hy=>?_,q.kept,q.loc,q.stk⟩
 ·refine zd (key y hy) λz hz e=>?_
  rw[<- e];exact q.off p hp z hz
 ·rcases List.mem_append.mp hy with hy | hy
  ·refine zd (key y hy) λz hz e=>?_
   rw[<- e];exact q.offp p hp z (List.mem_append_left _ hz)
  ·exact q.offp p hp y (List.mem_append_right _ hy)
theorem RW.upd{X:Cx}{m:Str->Option Value}{vs:List PV}{ws:List Value}{frz:List (Addr×Obj)}{d:Addr}{o:Obj}(q:RW X F0 L h m O vs ws ρ (pre++(d,o)::post) frz)(o':Obj):
  Upd d o o' (((pre++(d,o)::post)++frz)++X.ps) (((pre++(d,o')::post)++frz)++X.ps):=by
 have nd:=q.nd;rw[List.map_append,List.map_cons] at nd;obtain⟨n1,n2⟩:=qF nd
 have:=bP (o:=o) (o':=o') (d:=d) (pre:=pre) (post:=post++(frz++X.ps))
  (λp hp=>n1 p.1 (List.mem_map_of_mem hp))
  (λp hp=>by
   rcases List.mem_append.mp hp with h1 | h1
   ·exact n2 p.1 (List.mem_map_of_mem h1)
   ·rcases List.mem_append.mp h1 with h1 | h1
    ·exact q.off p h1 (d,o) (by simp)
    ·exact q.offp p h1 (d,o) (List.mem_append_left _ (by simp)))
 simpa using this
inductive PF where
 | next
 | brk
 | ret (v:PV)
noncomputable abbrev KF:=PF->PS->Prop
section
variable {A:Around}{m:Str->Option Value}{vs:List PV}{ws:List Value}{E:Value->Shared->Prop}
structure FCont(G:Gam)(F0:Heap)(L:Addr)(s:Shared)(vs:List PV)(ws:List Value)(k:KF)(Q:Flow->Shared->Prop):Prop where
 next:∀σ' m' s',k .next σ'->zn s s'->Fr F0 L s'.heap m'->RL G.X F0 L s'.heap m' σ' vs ws->Q .next s'
 brk:∀σ' m' s',k .brk σ'->zn s s'->Fr F0 L s'.heap m'->RL G.X F0 L s'.heap m' σ' vs ws->Q .brk s'
 ret:∀v w' σ' m' s',k (.ret v) σ'->zn s s'->Fr F0 L s'.heap m'->RL G.X F0 L s'.heap m' σ' (v::vs) (w'::ws)->Q (.ret w') s'
def SS(G:Gam)(A:Around)(F0:Heap)(L:Addr)(t:Sem Flow)(W:PS->KF->Prop):Prop:=
 ∀⦃O:PS⦄ ⦃k:KF⦄ ⦃m:Str->Option Value⦄ ⦃s:Shared⦄ ⦃vs:List PV⦄ ⦃ws:List Value⦄,W O k->Fr F0 L s.heap m->RL G.X F0 L s.heap m O vs ws ->
  ∀⦃Q:Flow->Shared->Prop⦄ ⦃E:Value->Shared->Prop⦄,FCont G F0 L s vs ws k Q->wpAny (model G.prog G.w) A t Q E s
theorem FCont.after{k:KF}{Q:Flow->Shared->Prop}(c:FCont G F0 L s vs ws k Q)(r:zn s s'):FCont G F0 L s' vs ws k Q:=
 ⟨λa b d e f=>c.next a b d e (r.trans f),λa b d e f=>c.brk a b d e (r.trans f),λa b d e x y f=>c.ret a b d e x y (r.trans f)⟩
def YX(x:Nat)(a v:PV)(O:PS)(k:PS->Prop):Prop:=Vp a O λi fs=>cond (Nat.ble fs.length 900) (stC x v fs λfs'=>O.siC i (.inst fs') k) False
theorem iw{a v:PV}{wa:Value}{k:PS->Prop}{d:Nat}{Q:Unit->Shared->Prop}(D:Act G outer F0 env A d)(ok:AttrOk G x)(h:YX x a v O k)(F:Fr F0 L s.heap m)
  (R:RL G.X F0 L s.heap m O (a::v::vs) (wa::wv::ws)) (hq:∀σ' s',k σ'->zn s s'->Fr F0 L s'.heap m->RL G.X F0 L s'.heap m σ' (a::v::vs) (wa::wv::ws)->Q () s') :
  wpAny (model G.prog G.w) A (setAttr wa (G.X.nm x) wv) Q E s:=by
 obtain⟨i,fs,rfl,e,h⟩:=Jp h;obtain⟨hb,h⟩:=zS h;replace h:=jd.mp (XC.mp h);have hlen:=Nat.le_of_ble_eq_true hb;obtain⟨x',dx,es,n,ρ,pre,post,frz,I,rfl⟩:=R.instTop e;refine byc λGa=>?_
 obtain⟨_,_,e1,_,tl⟩:=I.rw.stk.cons_inv;refine Ga ?_
 cases e1
 refine byc λGc=>?_;obtain⟨_,_,e2,hv,_⟩:=tl.cons_inv;refine Gc ?_
 cases e2
 have hfr:=FR.put (k:=x) (v:=v) G.X.inj hv (PyData.keyHash G.w.params (G.X.nm x)) (s.toks+1) I.fr;have e0:pre++(x',instObj G.X.C dx)::(dx,dictOf es n)::post=(pre ++ [(x',instObj G.X.C dx)])++(dx,dictOf es n)::post:=by simp
 have W:=I.rw;rw[e0] at W;refine set_dict F D.Kin W.all I.at_ rfl ok.sa ok.po ok.tk ok.hd ?_ rfl (W.upd _) ?_ λh' F' N'=>hq _ _ h zn.mk' F' (zm ρ _ frz (W.swap (by simp) ?_ N'))
 ·obtain⟨g1,g2⟩:=I.fr.get (k:=x) G.X.inj
  cases q:lk x fs with
  | none=>rw[g2 q];rfl
  | some u=>obtain⟨w',gw,_⟩:=g1 u q;rw[gw];rfl
 ·have:=hfr.length
  have:=VG (k:=x) (v:=v) (l:=fs)
  lia
 ·have:=I.put _ _ (putN (G.X.nm x) es n) hfr
  simpa using this
noncomputable def y0:Expr->Bool
 | .Slice ..=>false
 | _=>true
theorem jB(hs:y0 slice=true)(o i:Value):subscripted slice false o i=operate [o,i] (getItem o i):=by
 cases slice<;>first | rfl | cases hs
structure ListF(G:Gam)(F0:Heap)(L:Addr)(h:Heap)(m:Str->Option Value)(O:PS)(vs:List PV)(ws:List Value)(i:Nat)(xs:List Int)(x:Addr)(items:List Value)(n:Nat)(ρ:List Addr)(pre post frz:List (Addr×Obj)):Prop where
 rw:RW G.X F0 L h m O vs ws ρ (pre++(x,listOf items.toArray n)::post) frz
 vals:IntsAre items xs
 put:∀(xs':List Int) (Fp:List Value) (n':Nat),IntsAre Fp xs'->HR G.X ρ frz (O.hp.set i (.il xs')) ρ (pre++(x,listOf Fp.toArray n')::post)
 idx:ρ[i]?=some x
theorem RL.list{xs:List Int}(R:RL G.X F0 L h m O vs ws)(e:O.hp[i]?=some (.il xs)):∃x items n ρ pre post frz,ListF G F0 L h m O vs ws i xs x items n ρ pre post frz:=by
 refine byc λGa=>?_;refine zi R λρ led frz q=>?_;refine zi (q.hr.at_il e) λa items n Gb=>Ju Gb λpre post e1 e2 e3 e4=>?_;refine Ga ?_;subst e2;exact(zm a items n (zm ρ pre post (aT frz ⟨q,e3,e4,e1⟩)))
theorem RW.ref{frz:List (Addr×Obj)}{x:Addr}{w:Value}(r:RW G.X F0 L h m O (.ref i::vs) (w::ws) ρ led frz)(e:ρ[i]?=some x):w=.ref x:=by
 refine zr r.stk.cons_inv λZ Z e' a Z=>?_
 cases e'
 refine zd a λb hb Fy=>?_;subst Fy;rw[e] at hb
 cases hb;rfl
theorem bh(p q:List α)(x:α):x∈p++x::q:=List.mem_append_right _ (.head _)
noncomputable def Jd(O:PS):PV->Option (List Int)
 | .il xs=>some xs
 | .ref j=>ilP O.hp[j]?
 | _=>none
theorem jM{x:Addr}{items:List Value}{n:Nat}{l:List (Addr×Obj)}(N:News F0 L h l)(hm:(x,listOf items.toArray n)∈l):h.IsList x items.toArray:=⟨_,(N _ hm).1,rfl,n,rfl⟩
structure IntsF(G:Gam)(F0:Heap)(L:Addr)(h:Heap)(m:Str->Option Value)(O:PS)(vs:List PV)(ws:List Value)(xs:List Int)(x:Addr)(items:List Value)(n:Nat)(ρ:List Addr)(led frz:List (Addr×Obj)):Prop where
 rw:RW G.X F0 L h m O vs ws ρ led frz
 mem:(x,listOf items.toArray n)∈led++frz
 vals:IntsAre items xs
theorem RL.ints{a:PV}{wa:Value}{xs:List Int}(R:RL G.X F0 L h m O (a::vs) (wa::ws))(e:Jd O a=some xs):∃x items n ρ led frz,IntsF G F0 L h m O (a::vs) (wa::ws) xs x items n ρ led frz/\wa=.ref x:=by
 cases a with
 | il ys =>
  cases e
  refine byc λGa=>?_;refine jc R.top1 λρ led frz q hv=>?_;refine Ga ?_;refine yp hv λb items n Fy hm hi=>?_;subst Fy;exact(zm b items n (JW ρ led frz ⟨q,List.mem_append_right _ hm,hi⟩ rfl))
 | ref j =>
  refine byc λGc=>?_;refine zi (R.list (gu e)) λy items n Gb=>zi Gb λρ pre post Gb=>zI Gb λfrz I=>?_;refine Gc ?_;obtain rfl:=I.rw.ref I.idx;exact(zm y items n (JW ρ _ frz ⟨I.rw,List.mem_append_left _ (bh _ _ _),I.vals⟩ rfl))
 | _=>cases e
theorem IntsF.isList{xs:List Int}{x:Addr}{items:List Value}{n:Nat}{frz:List (Addr×Obj)}(I:IntsF G F0 L h m O vs ws xs x items n ρ led frz):h.IsList x items.toArray:=jM I.rw.news I.mem
theorem IntsF.at_{xs:List Int}{x:Addr}{items:List Value}{n:Nat}{frz:List (Addr×Obj)}(I:IntsF G F0 L h m O vs ws xs x items n ρ led frz):h.get? x=some (listOf items.toArray n):=(I.rw.news _ I.mem).1
theorem RW.pop{v:PV}{w:Value}{frz:List (Addr×Obj)}(q:RW G.X F0 L h m O (v::vs) (w::ws) ρ led frz):RW G.X F0 L h m O vs ws ρ led frz:=by
 refine byc λGa=>?_;refine zr q.stk.cons_inv λZ Z e Z b=>?_;refine Ga ?_
 cases e
 exact⟨q.hr,q.all,q.nd,q.off,q.offp,q.kept,q.loc,b⟩
def CH(tab:Addr->List PV)(a i:PV)(O:PS)(k:KE):Prop:=yl i λx=>match a with
 | .tup us=>(0<=x/\x<2 ^ 63)/\opt us[x.toNat]? λv=>k v O
 | .ls us=>(0<=x/\x<2 ^ 63)/\opt us[x.toNat]? λv=>k v O
 | .top b=>(0<=x/\x<2 ^ 63)/\opt (tab b)[x.toNat]? λv=>k v O
 | a=>opt (Jd O a) λxs=>(0<=x/\x<xs.length/\x<2 ^ 63)/\k (.int (xs.getD x.toNat 0)) O
def dO(G:Gam)(tab:Addr->List PV):Prop:=∀b,tab b ≠ []->∃(l:List Value) (n:Nat),(G.K.lookup b=some (listOf l.toArray n)∨G.K.lookup b=some (j4 l n)) /\ ∀ρ frz,VRs ρ frz (tab b) l
theorem ke{x:Int}{n:Nat}(h0:0<=x)(h:x.toNat<n):seqIndex? x n=some x.toNat:=by
 have hlt:x<(n:Int):=by lia
 unfold seqIndex?;simp[show ¬ x<0 by lia,h0,hlt]
theorem Bt{tab:Addr->List PV}{d:Nat}(D:Act G outer F0 env A d)(ht:dO G tab)(hs:y0 slice=true):O2 G A F0 L (subscriptTail value slice) (CH tab):=by
 intro O k m s vs ws a i wa wi h F R Q E hq;have hsl:=jB hs;refine zd (z9 h) λx eZ7 h=>?_;subst eZ7
 refine zI R.int λt eZ6=>?_;subst eZ6;have R1:=R.pop
 cases ea:Jd O a with
 | some xs =>
  have h:opt (Jd O a) λxs=>(0<=x/\x<xs.length/\x<2 ^ 63)/\k (.int (xs.getD x.toNat 0)) O:=by cases a<;>first | exact h | cases ea
  refine byc λGa=>?_;refine jG (zu h) λys ey Gd h=>?_;obtain⟨h0,h1,h2⟩:=Gd;refine Ga ?_;refine zi (R1.ints ey) λy items n Gb=>jc Gb λρ led frz I Ge=>?_;subst Ge;exact ksa_sub (n:=n) I.rw.news I.mem I.vals h0 h1 h2 (λt=>hq _ O m _ s h (SR.refl _ _) F (R1.pop.push (jo _ t))) (hsl _ _)
 | none =>
  cases a with
  | top b =>
   obtain rfl:=R1.top;refine byc λGc=>?_
   refine zh h λGf h=>?_;obtain⟨h0,h1⟩:=Gf;refine zd (zu h) λv ev h=>?_;have hne:tab b ≠ []:=λe=>by rw[e] at ev;cases ev
   refine yo (ht b hne) λl n e1 e2=>?_;refine zd ((e2 [] []).get ev) λw' gw Z=>?_;refine Gc ?_;have fin:Q w' s:=hq v O m w' s h (SR.refl _ _) F (R1.pop.push λρ frz=>by
    refine byc λGg=>?_;refine zd ((e2 ρ frz).get ev) λw'' gw' hv=>?_;refine Gg ?_;rw[gw] at gw';cases gw';exact hv)
   rcases e1 with e1 | e1
   ·exact topList_K F D.Kin e1 h0 h1 gw fin (hsl _ _)
   ·exact item_tupleT (l:=l) (j:=x.toNat) (kun_topT F D.Kin e1) (Int.le_trans (by decide) h0) h1 (ke h0 (List.getElem?_eq_some_iff.mp gw).1) gw fin (hsl _ _)
  | tup us =>
   refine byc λhN4=>?_;refine zh h λFz h=>?_;obtain⟨h0,h1⟩:=Fz;refine zd (zu h) λv ev h=>?_;refine jc R1.top1 λρ led frz q hv=>?_;refine hN4 ?_;obtain⟨b,items,n,rfl,hm,hv⟩:=hv;refine byc λhN5=>?_;obtain⟨w',gw,hw⟩:=hv.get ev;have q1:=q.pop;refine hN5 ?_;exact item_tupleT (l:=items) (j:=x.toNat) (jY _ ((q.news _ (List.mem_append_right _ hm)).1) rfl ⟨n,rfl⟩) (Int.le_trans (by decide) h0) h1 (ke h0 (List.getElem?_eq_some_iff.mp gw).1) gw (hq v O m w' s h (SR.refl _ _) F (zm ρ led frz ⟨q1.hr,q1.all,q1.nd,q1.off,q1.offp,q1.kept,q1.loc,VRs.cons hw q1.stk⟩)) (hsl _ _)
  | ls us =>
   refine byc λhN6=>?_;refine zh h λFy h=>?_;obtain⟨h0,h1⟩:=Fy;refine zd (zu h) λv ev h=>?_;refine jc R1.top1 λρ led frz q hv=>?_;refine hN6 ?_;obtain⟨b,items,n,rfl,hm,hv⟩:=hv;refine byc λhN7=>?_;obtain⟨w',gw,hw⟩:=hv.get ev;have q1:=q.pop;refine hN7 ?_;have hl:s.heap.IsList b items.toArray:=(jY _ ((q.news _ (List.mem_append_right _ hm)).1) rfl ⟨n,rfl⟩);exact tail_any hl.typeIs slot_list_getitem.lookup (wpAny_getItem_list hl (Int.le_trans (by decide) h0) h1 (x:=w') (by simpa using gw) (hq v O m w' s h (SR.refl _ _) F (zm ρ led frz ⟨q1.hr,q1.all,q1.nd,q1.off,q1.offp,q1.kept,q1.loc,VRs.cons hw q1.stk⟩))) (hsl _ _)
  | il ys=>cases ea
  | ref j =>
   refine byc λhN8=>?_;refine zd (zu (x:=ilP O.hp[j]?) h) λys ey Z=>?_;refine hN8 ?_
   cases ey.symm.trans (show ilP O.hp[j]?=none from ea)
  | _=>exact False.elim h
theorem Zt{Wr:PS->KE->Prop}{Wo:PV->PV->PS->KE->Prop}(hl:ES G A F0 L (eval value env) Wl)(hr:ES G A F0 L (eval slice env) Wr)(ho:O2 G A F0 L (subscriptTail value slice) Wo):
  ES G A F0 L (eval (.Subscript value slice pos) env) (λO k=>Wl O λa F1=>Wr F1 λb F5=>Wo a b F5 k):=by
 intro O k m s vs ws h F R Q E hq;exact Subscript_ (hl h F R λa F1 G3 wa F8 F6 F9 G0 G1=>hr F6 G0 G1 λb F5 G2 wb F7 G4 G6 G9 G8=>ho G4 G9 G8 λv G5 I3 wv H9 H3 I1 I0 H7=>hq v G5 I3 wv H9 H3 ((F9.trans G6).trans I1) I0 H7)
def vA(o:Option PO)(x:Int)(v:PV)(k:PO->Prop):Prop:=match o with
 | some (.il xs)=>yl v λy=>(0<=x/\x<xs.length/\x<2 ^ 63)/\k (.il (xs.set x.toNat y))
 | some (.ls us)=>(0<=x/\x<us.length/\x<2 ^ 63)/\k (.ls (us.set x.toNat v))
 | _=>False
theorem VRs.set{ρ:List Addr}{frz:List (Addr×Obj)}{v:PV}{w:Value}(hv:VR ρ frz v w):∀{us:List PV} {xs:List Value} (i:Nat),VRs ρ frz us xs->VRs ρ frz (us.set i v) (xs.set i w)
 | [],_,_,h=>by cases h;exact VRs.nil
 | u::us,_,0,h=>by refine zr h.cons_inv λa r Fz x y=>?_;subst Fz;exact VRs.cons hv y
 | u::us,_,i+1,h=>by refine zr h.cons_inv λa r Fy x y=>?_;subst Fy;exact VRs.cons x (VRs.set hv i y)
theorem om{o:Option PO}{x:Int}{v:PV}{k:PO->Prop}(h:vA o x v k):∃p o',o=some p/\k o'/\0<=x/\x<2 ^ 63 /\ ∀{X:Cx} {ρ:List Addr} {frz mid:List (Addr×Obj)} {a:Addr} {w:Value},OR X ρ frz p a mid->VR ρ frz v w ->
  ∃(items:List Value) (c:Nat),mid = [(a,listOf items.toArray c)]/\x.toNat<items.length/\OR X ρ frz o' a [(a,listOf (items.set x.toNat w).toArray c)]:=by
 induction o with
 | none=>exact False.elim h
 | some p =>
  induction p with
  | il xs =>
   obtain⟨y,rfl,⟨h0,h1,h2⟩,h⟩:=z9 h;refine(yV _ _ rfl h h0 ⟨h2,λr hv=>?_⟩)
   cases r with
   | il hi=>obtain⟨t,rfl⟩:=hv;exact(jw _ _ rfl (by rw[hi.length];lia) (.il (ints_set hi _)))
  | ls us =>
   obtain⟨⟨h0,h1,h2⟩,h⟩:=h;refine(yV _ _ rfl h h0 ⟨h2,λr hv=>?_⟩)
   cases r with
   | ls hi=>exact(jw _ _ rfl (by rw[hi.length];lia) (.ls (hi.set hv _)))
  | _=>exact False.elim h
def iU(a i v:PV)(O:PS)(k:PS->Prop):Prop:=Va a λj=>yl i λx=>vA O.hp[j]? x v λo'=>O.siC j o' k
theorem rN{a i v:PV}{wa wi:Value}{k:PS->Prop}{Q:Unit->Shared->Prop}(h:iU a i v O k)(F:Fr F0 L s.heap m)
  (R:RL G.X F0 L s.heap m O (i::a::v::vs) (wi::wa::wv::ws)) (hq:∀σ' s',k σ'->zn s s'->Fr F0 L s'.heap m->RL G.X F0 L s'.heap m σ' vs ws->Q () s') :
  wpAny (model G.prog G.w) A (setItem wa wi wv) Q E s:=by
 refine zd (yf h) λj Ge g=>?_;subst Ge;refine zd (z9 g) λx Gf g1=>?_;subst Gf;clear h g;refine zI R.int λt Fz=>?_;subst Fz;refine byc λGa=>?_;refine Ju (om g1) λp o' e h h0 Gb=>zh Gb λh2 r=>?_;refine Ga ?_;clear g1;replace h:=jd.mp h;refine byc λGc=>?_;refine zi R.pop λρ led frz q=>?_;refine zi (q.hr.at e) λb pre mid Gb=>jU Gb λpost e1 e2 e3 e4=>?_;refine Gc ?_;obtain rfl:=q.ref e1;have q1:=q.pop;refine byc λGg=>?_
 refine zr q1.stk.cons_inv λZ Z ee hv Z=>?_;refine Gg ?_
 cases ee
 refine zr (r e3 hv) λitems c Fy hl e5=>?_;subst Fy;rw[l1] at e2;subst e2;have q2:=q1.pop;refine byc λhN4=>?_
 refine Ju ((q2.upd (listOf (items.set x.toNat wv).toArray c)).split) λZ Z e6 e7 a b'=>?_;have z:=q2.all _ (List.mem_append_left _ (List.mem_append_left _ (bh pre post _)));refine hN4 ?_;refine ki_setAt z.1 h0 h2 (by rw[List.size_toArray];lia) (hq _ _ h (zn.mk' (t:=s.toks)) (F.change (Heap.SameBut.update ..) z.2.1 z.2.2) (zm ρ _ frz (q2.swap (led':=pre++(b,listOf (items.set x.toNat wv).toArray c)::post) (by simp) (by have:=e4 _ _ e5;rw[l1] at this;exact this) ?_)))
 have N:=q2.all;rw[e6] at N;rw[e7];refine ki_turn _ N a b' ?_ (by simp)
 apply Array.toList_inj.mp
 simp
end
variable {Wb:PS->KF->Prop}
noncomputable abbrev Hd:=Addr->List PV->List PO->(PV->List PO->Prop)->Prop
variable {H Hb:Hd}
def HdS(G:Gam)(d:Nat)(H:Hd):Prop:=
 ∀(ps:Pn) {f:Addr} {args:List PV} {O:PS} {k:PV->List PO->Prop},H f args O.hp k ->
  ∀{outer:List Env} {F0:Heap} {env:Env} {L:Addr} {A:Around} {m:Str->Option Value} {s:Shared} {vs:List PV} {ws aws:List Value},
   Act G outer F0 env A d->env.frame=some L->env.scope.kind=.function->Fr F0 L s.heap m->RL (G.X.pin ps) F0 L s.heap m O (args.reverse++vs) (aws.reverse++ws)->aws.length=args.length ->
   ∀{R:Result->Shared->Prop},(∀v hp' w' s',k v hp'->zn s s'->Fr F0 L s'.heap m->RL (G.X.pin ps) F0 L s'.heap m { O with hp:=hp' } (v::vs) (w'::ws)->R (.ok (.ret w')) s') ->
    codeAny (model G.prog G.w) A (.call (.ref f) ⟨aws,[]⟩) R s
section
variable {A:Around}{m:Str->Option Value}{vs:List PV}{ws:List Value}{E:Value->Shared->Prop}
theorem Act.le{d:Nat}(D:Act G outer F0 env A d)(h:d'<=d):Act G outer F0 env A d':=
 ⟨D.B,D.Kin,D.T,D.fr,D.hd,by have:=D.dep;lia,by have:=D.un;lia⟩
theorem Xd{α:Type}{k:Nat}{v:α}:∀{l:List (Nat×α)},lk k l=some v->k∈l.map (·.1)
 | [],e=>by simp[lk] at e
 | (j,u)::r,e=>by
  by_cases h:k=j
  ·simp[h]
  ·simp only[lk,zM h,cond_false] at e
   simp[Xd e]
theorem ao{X:Cx}{loc:List (Nat×PV)}{m:Str->Option Value}{ρ:List Addr}{frz:List (Addr×Obj)}:
  ∀(l:List Nat),(∀k∈l,∀v,lk k loc=some v->∃w,m (X.nm k)=some w/\VR ρ frz v w) ->
   ∃us xs,VRs ρ frz us xs /\ ∀ρ' frz',VRs ρ' frz' us xs->∀k∈l,∀v,lk k loc=some v->∃w,m (X.nm k)=some w/\VR ρ' frz' v w
 | [],_=>(jL ([]) ([]) VRs.nil (λZ Z Z k hk=>(nomatch hk)))
 | j::l,h=>by
  refine yo (ao l λk hk=>h k (.tail _ hk)) λus xs h1 h2=>?_
  cases e:lk j loc with
  | none =>
   refine(jL us xs h1 (λρ' frz' hv k hk v ev=>?_))
   cases hk with
   | head=>rw[e] at ev;cases ev
   | tail _ hk=>exact h2 ρ' frz' hv k hk v ev
  | some u =>
   refine zd (h j (.head _) u e) λw hw hv=>?_;refine(jL (u::us) (w::xs) (VRs.cons hv h1) (λρ' frz' hv k hk v ev=>?_));refine zr hv.cons_inv λZ Z e' a b=>?_
   cases e'
   cases hk with
   | head=>rw[e] at ev;cases ev;exact(zv w hw a)
   | tail _ hk=>exact h2 ρ' frz' b k hk v ev
theorem Kd{X:Cx}{ρ:List Addr}{frz:List (Addr×Obj)}:∀{ids:List Nat} {args:List PV} {aws:List Value},ids.Nodup->VRs ρ frz args aws ->
  (∀k,k∉ids->((ids.map X.nm).zip aws).reverse.lookup (X.nm k)=none) /\ ∀k v,lk k (ids.zip args)=some v->∃w,((ids.map X.nm).zip aws).reverse.lookup (X.nm k)=some w/\VR ρ frz v w
 | [],_,_,_,_=>⟨λZ Z=>rfl,λk v e=>by simp[lk] at e⟩
 | i::ids,[],_,_,h=>by
  simp only[VRs] at h;subst h;exact⟨λZ Z=>rfl,λk v e=>by simp[lk] at e⟩
 | i::ids,a::args,_,nd,h=>by
  refine zr h.cons_inv λw r Fy hv tl=>?_;subst Fy;refine zh (List.nodup_cons.mp nd) λn1 n2=>?_;refine zh (Kd (X:=X) n2 tl) λih1 ih2=>?_;have key:∀k,(((i::ids).map X.nm).zip (w::r)).reverse.lookup (X.nm k)=(((ids.map X.nm).zip r).reverse.lookup (X.nm k)).or (if k=i then some w else none):=by
   intro k;simp only[List.map_cons,List.zip_cons_cons,List.reverse_cons,List.lookup_append,List.lookup_cons,List.lookup_nil]
   by_cases q:k=i
   ·subst q;simp
   ·have:X.nm k≠X.nm i:=λx=>q (X.inj _ _ x)
    have hb:(X.nm k==X.nm i)=false:=beq_eq_false_iff_ne.mpr this;simp[hb,q]
  refine⟨λk hk=>?_,λk v e=>?_⟩
  ·rw[key,ih1 k (λx=>hk (.tail _ x))]
   have:k≠i:=λx=>hk (x▸.head _)
   simp[this]
  ·rw[key]
   by_cases q:k=i
   ·subst q
    simp[lk,Nat.beq_refl] at e;subst e;rw[ih1 k n1];exact(zv w (by simp) hv)
   ·simp only[List.zip_cons_cons,lk,zM q,cond_false] at e
    refine zd (ih2 k v e) λw' e1 e2=>?_;exact(zv w' (by rw[e1];rfl) e2)
noncomputable abbrev Jv:List Value->Args:=λaws=>⟨aws,[]⟩
structure FnOk(G:Gam)(ca:List Value->Args)(f:Addr)(ids:List Nat)(qual:Str)(body:List Stmt)(scope:Scope)(cdv:Value):Prop where
 data:∃name params dV kV doc pm an ct oc od osl,G.K.lookup f=some ⟨oc,od,.func (fnOf name qual params body scope dV kV doc pm an cdv ct),osl⟩ /\
  ∀(s:Shared) (aws:List Value),G.K.In s.heap->aws.length=ids.length->BindsTo s (fnOf name qual params body scope dV kV doc pm an cdv ct) (ca aws) ((ids.map G.X.nm).zip aws)
 code:codeIn G.K cdv qual=true
 nd:ids.Nodup
 locs:∀k∈ids,scope.names.lookup (G.X.nm k)=some .local
 cell:∀x∈scope.names,x.2≠.cell
 co:scope.isCoroutine=false
 gen:scope.isGenerator=false
 kind:scope.kind=.function
def zX(ids:List Nat)(W:PS->KF->Prop)(args:List PV)(hp:List PO)(k:PV->List PO->Prop):Prop:=
 args.length=ids.length/\W ⟨ids.zip args,hp⟩ λf O=>match f with
  | .ret v=>k v O.hp
  | .next=>k .none O.hp
  | .brk=>False
theorem f9{d:Nat}{body:List Stmt}{W:PS->KF->Prop}(ok:FnOk G ca f ids qual body scope cdv)
  (hb:∀{outer:List Env} {F0:Heap} {L:Addr} {A:Around},Act G outer F0 (envOf qual scope L f cdv) A d->SS G A F0 L (execs body (envOf qual scope L f cdv)) W)
  {args:List PV} {k:PV->List PO->Prop} (hw:zX ids W args O.hp k) {aws:List Value}
  (D:Act G outer F0 env A (d+1)) (hf:env.frame=some L) (hke:env.scope.kind=.function) (F:Fr F0 L s.heap m) (R:RL G.X F0 L s.heap m O (args.reverse++vs) (aws.reverse++ws)) (hlen:aws.length=args.length)
  {Q:Result->Shared->Prop} (hq:∀v hp' w' s',k v hp'->zn s s'->Fr F0 L s'.heap m->RL G.X F0 L s'.heap m { O with hp:=hp' } (v::vs) (w'::ws)->Q (.ok (.ret w')) s') :
  codeAny (model G.prog G.w) A (.call (.ref f) (ca aws)) Q s:=by
 refine byc λGa=>?_;refine zI D.B λR9 B=>?_;obtain⟨name,params,dV,kV,doc,pm,an,ct,oc,od,osl,ho,Fi⟩:=ok.data;refine zh hw λhargs hw=>?_;refine zi R λρ led frz q=>?_;refine yo (ao (O.loc.map (·.1)) λk Z v e=>q.loc k v e) λus xs c1 c2=>?_
 refine zr q.stk.split λx1 x2 e12 s1 s2=>?_;refine Ga ?_;have el:x1=aws.reverse/\x2=ws:=by
  have l1:=s1.length;simp only[List.length_reverse] at l1;exact List.append_inj e12.symm (by rw[l1,List.length_reverse,hlen])
 refine zh el λGe hx2=>?_;subst Ge
 obtain rfl:=hx2.symm;have sa:VRs ρ frz args aws:=by
  have rev:∀{a:List PV} {b:List Value},VRs ρ frz a b->VRs ρ frz a.reverse b.reverse:=by
   intro a
   induction a with
   | nil=>intro b hb;cases hb;exact VRs.nil
   | cons v a ih =>
    intro b hb;refine zr hb.cons_inv λw r Gf hv tl=>?_;subst Gf;simp only[List.reverse_cons];exact(ih tl).append (VRs.cons hv VRs.nil)
  have:=rev s1
  simpa using this
 refine code_def B F D.Kin q.all D.T D.fr hf hke ho ok.code (by have:=D.dep;lia) (Fi s aws (D.Kin.keeps F.keep) (hlen.trans hargs)) (λy hy=>?_) (λg L' F6 FG F' N' B' K' T'=>?_) ok.co ok.gen ok.kind ok.cell
 ·obtain⟨a,b⟩:=y
  refine byc λGc=>?_;refine zd (List.mem_map.mp (List.of_mem_zip hy).1) λi hi e=>?_;refine Gc ?_;show scope.names.lookup a=some .local;rw[<- e];exact ok.locs i hi
 ·have D':Act G (env::outer) g (envOf qual scope L' f cdv) (A.deeper (envOf qual scope L' f cdv)) d:=
   ⟨⟨A,B'⟩,K',T',by show A.frames.map _=_;rw[D.fr];rfl,D.hd,by have:=D.dep;show A.depth+1+d<_;lia,by have:=D.un;show A.units+3+8*d<_;lia⟩
  have R':RL G.X g L' F6 (λy=>((ids.map G.X.nm).zip aws).reverse.lookup y) ⟨ids.zip args,O.hp⟩ (us++vs) (xs++ws):=
   (zm ρ led frz ⟨q.hr,N',q.nd,q.off,q.offp,q.kept,λk v e=>(Kd (X:=G.X) ok.nd sa).2 k v e,c1.append s2⟩)
  have leave:∀v w' σ' m' s',k v σ'.hp->zn { s with heap:=F6,toks:=s.toks+((ids.map G.X.nm).zip aws).length } s'->Fr g L' s'.heap m'->RL G.X g L' s'.heap m' σ' (v::(us++vs)) (w'::(xs++ws))->LeaveK F0 L m g Q w' s':=by
   intro v w' σ' m' s' hk hr F'' R'';refine byc λGg=>?_;refine zi R'' λρ' led' frz' q'=>?_;refine Gg ?_;refine leaveK_ F'' q'.all λF3 N3=>hq v σ'.hp w' s' hk ⟨hr.1,hr.2.1,hr.2.2⟩ F3 ?_;refine byc λhN4=>?_;refine zr q'.stk.cons_inv λZ Z e' hv tl=>?_;refine hN4 ?_
   cases e'
   refine byc λhN5=>?_;refine zr tl.split λy1 y2 ey t1 t2=>?_
   have:=List.append_inj ey.symm (by rw[t1.length,c1.length])
   refine hN5 ?_;refine zh this λFy Fz=>?_;subst Fy;subst Fz;exact(zm ρ' led' frz' ⟨q'.hr,N3,q'.nd,q'.off,q'.offp,q'.kept,λk v e=>c2 ρ' frz' t1 k (Xd e) v e,VRs.cons hv t2⟩)
  refine hb D' hw F' R' ⟨λσ' m' s' hk hr F'' R''=>?_,λσ' m' s' hk hr F'' R''=>hk.elim,λv w' σ' m' s' hk hr F'' R''=>?_⟩
  ·exact leave .none .none σ' m' s' hk hr F'' (R''.push Qj)
  ·exact leave v w' σ' m' s' hk hr F'' R''
noncomputable def Hd.ext(H:Hd)(f:Addr)(S:List PV->List PO->(PV->List PO->Prop)->Prop):Hd:=λg args hp k=>cond (Nat.beq g f) (S args hp k) (H g args hp k)
theorem FnOk.pin{body:List Stmt}(ok:FnOk G ca f ids qual body scope cdv)(ps:Pn):FnOk (G.pin ps) ca f ids qual body scope cdv:=⟨ok.data,ok.code,ok.nd,ok.locs,ok.cell,ok.co,ok.gen,ok.kind⟩
theorem Act.pin{d:Nat}(D:Act G outer F0 env A d)(ps:Pn):Act (G.pin ps) outer F0 env A d:=⟨D.B,D.Kin,D.T,D.fr,D.hd,D.dep,D.un⟩
theorem Act.unpin{d:Nat}{ps:Pn}(D:Act (G.pin ps) outer F0 env A d):Act G outer F0 env A d:=⟨D.B,D.Kin,D.T,D.fr,D.hd,D.dep,D.un⟩
theorem HdS.ext{d:Nat}{body:List Stmt}{W:PS->KF->Prop}{S:List PV->List PO->(PV->List PO->Prop)->Prop}(hH:HdS G (d+1) H)(ok:FnOk G Jv f ids qual body scope cdv)
  (hb:∀(ps:Pn) {outer:List Env} {F0:Heap} {L:Addr} {A:Around},Act (G.pin ps) outer F0 (envOf qual scope L f cdv) A d->SS (G.pin ps) A F0 L (execs body (envOf qual scope L f cdv)) W)
  (hS:∀args hp k,S args hp k->zX ids W args hp k):HdS G (d+1) (H.ext f S):=by
 intro ps g args O k h;unfold Hd.ext at h
 cases e:Nat.beq g f with
 | false=>rw[e] at h;exact hH ps h
 | true =>
  rw[e] at h;obtain rfl:=Nat.eq_of_beq_eq_true e;intro outer F0 env L A m s vs ws aws D hf hke F R hl Q hq;exact f9 (G:=G.pin ps) (ok.pin ps) (hb ps) (hS _ _ _ h) (D.pin ps) hf hke F R hl hq
noncomputable def FR.bdd(n:Nat):List (Nat×PV)->Prop
 | []=>True
 | (_,v)::r=>Mine.bdd n v/\FR.bdd n r
noncomputable def POs.bdd(n:Nat):List PO->Prop
 | []=>True
 | .inst fs::r=>FR.bdd n fs/\POs.bdd n r
 | .ls vs::r=>Mine.qm n vs/\POs.bdd n r
 | .cell (some v)::r=>Mine.bdd n v/\POs.bdd n r
 | .dct fs::r=>Mine.qm n (fs.map (·.2))/\POs.bdd n r
 | .zip u v::r=>Mine.qm n [u,v]/\POs.bdd n r
 | _::r=>POs.bdd n r
theorem FR.bdd_of{nm:Nat->Str}{ρ:List Addr}{frz:List (Addr×Obj)}:∀{fs:List (Nat×PV)} {es:List DictEntry},FR nm ρ frz fs es->FR.bdd ρ.length fs
 | [],_,_=>trivial
 | (k,v)::fs,_,h=>by refine qg h λe r t Z Z e3 e4=>?_;exact⟨e3.bdd,FR.bdd_of e4⟩
theorem FR.cut{nm:Nat->Str}{ρ:List Addr}{frz:List (Addr×Obj)}{n:Nat}:∀{fs:List (Nat×PV)} {es:List DictEntry},FR nm ρ frz fs es->FR.bdd n fs->FR nm (ρ.take n) frz fs es
 | [],_,h,_=>h
 | (k,v)::fs,_,h,b=>by
  refine byc λGa=>?_;refine qg h λe r t e1 e2 e3 e4=>?_;refine Ga ?_;exact(Ko e r t e1 e2 (e3.cut v b.1) (FR.cut e4 b.2))
set_option tactic.hygienic true in
theorem HR.bdd_of{X:Cx}{frz:List (Addr×Obj)}{os:List PO}{as:List Addr}{l:List (Addr×Obj)}(h:HR X ρ frz os as l):POs.bdd ρ.length os:=by
 induction h with
 | nil=>trivial
 | cons x _ ih =>
  cases x with
  | il _=>exact ih
  | ls i=>exact⟨i.bdd,ih⟩
  | cell hd i =>
   rename_i v w _
   cases v with
   | none=>exact ih
   | some v=>refine zd i λu Z e=>?_;exact⟨e.bdd,ih⟩
  | gone=>exact ih
  | inst i=>exact⟨i.bdd_of,ih⟩
  | tab _=>exact ih
  | dct i _=>exact⟨i.bdd,ih⟩
  | zip i j _=>exact⟨⟨i.bdd,j.bdd,trivial⟩,ih⟩
set_option tactic.hygienic true in
theorem HR.cut{X:Cx}{frz:List (Addr×Obj)}{n:Nat}{os:List PO}{as:List Addr}{l:List (Addr×Obj)}(h:HR X ρ frz os as l):POs.bdd n os->HR X (ρ.take n) frz os as l:=by
 induction h with
 | nil=>intro _;exact .nil
 | cons x _ ih =>
  intro b
  cases x with
  | il i=>exact .il i (ih b)
  | ls i=>exact .ls (VRs.cut _ i b.1) (ih b.2)
  | cell hd i =>
   rename_i v w _
   cases v with
   | none=>exact .cell hd i (ih b)
   | some v=>refine zd i λu e1 e=>?_;exact .cell hd (zv u e1 (e.cut v b.1)) (ih b.2)
  | gone=>exact .gone (ih b)
  | inst i=>exact .inst (i.cut b.1) (ih b.2)
  | tab i=>exact HR.cons (.tab i) (ih b)
  | dct i d=>exact HR.cons (.dct (VRs.cut _ i b.1) d) (ih b.2)
  | zip i j d=>exact HR.cons (.zip (VR.cut _ i b.1.1) (VR.cut _ j b.1.2.1) d) (ih b.2)
noncomputable def Hd.cut(H:Hd)(f:Addr)(S:List PV->List PO->(PV->List PO->Prop)->Prop):Hd:=λg args hp k=>cond (Nat.beq g f) (S args hp k) (H g args hp k)
def x3(n:Nat)(k:PV->List PO->Prop):PV->List PO->Prop:=λv hp'=>∃L9 gs,hp'=L9++gs/\L9.length=n/\POs.bdd n L9/\bdd n v/\k v L9
theorem HdS.cut{d:Nat}{S S':List PV->List PO->(PV->List PO->Prop)->Prop}(hH:HdS G d (H.ext f S))(hS:∀args hp k,POs.bdd hp.length hp->qm hp.length args->S' args hp k->S args hp (x3 hp.length k)):HdS G d (H.cut f S'):=by
 intro ps g args O k h;unfold Hd.cut at h
 cases e:Nat.beq g f with
 | false =>
  rw[e] at h;intro outer F0 env L A m s vs ws aws D hf hke F R hl Q hq;exact hH ps (f:=g) (by unfold Hd.ext;rw[e];exact h) D hf hke F R hl hq
 | true =>
  rw[e] at h;intro outer F0 env L A m s vs ws aws D hf hke F R hl Q hq;refine byc λGa=>?_;refine zi R λρ led frz q=>?_;have hb0:=q.hr.bdd_of;have len0:=q.hr.len;refine yo (ao (X:=G.X.pin ps) (O.loc.map (·.1)) λk Z v e=>q.loc k v e) λus xs c1 c2=>?_
  have b1:=c1.bdd;refine zr q.stk.split λy1 y2 ey s1 s2=>?_;refine Ga ?_;have el:y1=aws.reverse/\y2=ws:=by
   have l1:=s1.length;simp only[List.length_reverse] at l1;exact List.append_inj ey.symm (by rw[l1,List.length_reverse,hl])
  refine zh el λFy Fz=>?_;subst Fy;subst Fz;have b2:=s2.bdd;have b3:=s1.bdd;rw[len0] at hb0 b1 b2 b3;have b3':qm O.hp.length args:=by
   have rev:∀(a b:List PV),qm O.hp.length a->qm O.hp.length b->qm O.hp.length (a.reverse++b):=by
    intro a
    induction a with
    | nil=>intro b _ hb;exact hb
    | cons x a ih=>intro b ha hb;simp only[qm] at ha;rw[List.reverse_cons,List.append_assoc];exact ih _ ha.2 (by simp only[List.singleton_append,qm];exact⟨ha.1,hb⟩)
   simpa using rev args.reverse [] b3 (by simp only[qm])
  have R':RL (G.X.pin ps) F0 L s.heap m O (args.reverse++(us++vs)) (aws.reverse++(xs++y2)):=(zm ρ led frz ⟨q.hr,q.all,q.nd,q.off,q.offp,q.kept,q.loc,s1.append (c1.append s2)⟩);refine hH ps (f:=g) (k:=x3 O.hp.length k) (by unfold Hd.ext;rw[e];exact hS _ _ _ hb0 b3' h) D hf hke F R' hl λv hp' w' s' hk hr F' R''=>?_
  obtain⟨L9,gs,rfl,hlen,hb1,hbv,hk⟩:=hk;refine byc λGc=>?_;obtain⟨ρ',led',frz',q'⟩:=R'';refine Gc ?_;obtain⟨a1,a2,l1,l2,e1,rfl,x,y⟩:=HR.unapp q'.hr;refine byc λGg=>?_;obtain⟨_,_,ee,hv,tl⟩:=q'.stk.cons_inv;refine Gg ?_
  cases ee
  refine byc λhN4=>?_;obtain⟨z1,z2,ez,t1,t2⟩:=tl.split;refine hN4 ?_;obtain⟨rfl,rfl⟩:=List.append_inj ez.symm (by rw[t1.length,c1.length])
  have hx:a1=ρ'.take O.hp.length:=by rw[e1,List.take_left' (x.len.trans hlen)]
  have t1':=VRs.cut us t1 b1;have sub:∀p,p∈l1->p∈l1++l2:=λp hp=>List.mem_append_left _ hp
  refine hq v L9 w' s' hk hr F' ⟨ρ'.take O.hp.length,l1,frz',?_,λp hp=>q'.all p ?_,?_,λp hp z hz=>q'.off p hp z (sub z hz),λp hp z hz=>q'.offp p hp z ?_,⟨q'.kept.1,λp hp=>?_⟩,λj u eu=>?_,VRs.cons (VR.cut v hv hbv) (VRs.cut vs t2 b2)⟩
  ·have:=x.cut (n:=O.hp.length) hb1
   rw[hx] at this;exact this
  ·simp only[List.mem_append] at hp ⊢
   rcases hp with (h | h) | h
   ·exact .inl (.inl (.inl h))
   ·exact .inl (.inr h)
   ·exact .inr h
  ·have:=q'.nd
   rw[List.map_append,List.nodup_append] at this;exact this.1
  ·simp only[List.mem_append] at hz ⊢
   rcases hz with h | h
   ·exact .inl (.inl h)
   ·exact .inr h
  ·have h1:=(List.getElem?_eq_some_iff.mp (q.kept.2 p hp)).1
   rw[len0] at h1;rw[List.getElem?_take,if_pos h1];exact q'.kept.2 p hp
  ·exact c2 _ frz' t1' j (Xd eu) u eu
theorem HdS.le{d:Nat}(h:HdS G d H)(hd:d<=d'):HdS G d' H:=by
 intro ps f args O k hk outer F0 env L A m s vs ws aws D;exact h ps hk (D.le hd)
end
noncomputable def zK:Expr->Bool
 | .Starred ..=>false
 | _=>true
noncomputable def yL:Expr->Bool
 | .ListComp ..=>false
 | .SetComp ..=>false
 | .DictComp ..=>false
 | _=>true
noncomputable def Xl:Expr->Bool
 | .Attribute ..=>false
 | _=>true
theorem jj{e:Expr}(h:zK e=true):starEach (e::rest) env=(false,eval e env)::starEach rest env:=by
 cases e<;>first | rfl | cases h
theorem yS{pos:Pos}{env:Env}:∀{es:List Expr},es.all zK=true->(backTo pos (starEach es env)).all (!·.1)=true/\(backTo pos (starEach es env)).any (·.1)=false
 | [],_=>⟨rfl,rfl⟩
 | e::es,h=>by
  simp only[List.all_cons,Bool.and_eq_true] at h;obtain⟨a,b⟩:=yS (pos:=pos) (env:=env) h.2;rw[jj h.1]
  show((!false)&&(backTo pos (starEach es env)).all (!·.1))=true/\(false||(backTo pos (starEach es env)).any (·.1))=false
  rw[a,b];exact⟨rfl,rfl⟩
theorem jS{t:Option Expr}(h:yL value=true):swapsWith value t line env=pure false:=by
 cases value<;>first | rfl | cases h
section
variable {A:Around}{m:Str->Option Value}{vs:List PV}{ws:List Value}{E:Value->Shared->Prop}
def EL(G:Gam)(A:Around)(F0:Heap)(L:Addr)(env:Env)(pos:Pos)(es:List Expr)(W:PS->(List PV->PS->Prop)->Prop):Prop:=
 ∀⦃O:PS⦄ ⦃k:List PV->PS->Prop⦄ ⦃m:Str->Option Value⦄ ⦃s:Shared⦄ ⦃vs:List PV⦄ ⦃ws:List Value⦄,W O k->Fr F0 L s.heap m->RL G.X F0 L s.heap m O vs ws ->
  ∀⦃Q:List Value->Shared->Prop⦄ ⦃E:Value->Shared->Prop⦄,
   (∀us σ' m' xs s',k us σ'->SR m s m' s'->Fr F0 L s'.heap m'->RL G.X F0 L s'.heap m' σ' (us.reverse++vs) (xs.reverse++ws)->xs.length=us.length->Q xs s')->wpAny (model G.prog G.w) A (spliced (backTo pos (starEach es env))) Q E s
theorem fx:EL G A F0 L env pos [] (λO k=>k [] O):=by
 intro O k m s vs ws h F R Q E hq;exact args_nil (hq [] O m [] s h (SR.refl _ _) F R rfl)
theorem aC{e:Expr}{es:List Expr}{Ws:PS->(List PV->PS->Prop)->Prop}(he:ES G A F0 L (eval e env) We)(hs:EL G A F0 L env pos es Ws)(hn:zK e=true):
  EL G A F0 L env pos (e::es) (λO k=>We O λv F1=>Ws F1 λus F5=>k (v::us) F5):=by
 intro O k m s vs ws h F R Q E hq;refine args_cons (he h F R λv F1 G3 wv F8 F6 F9 G0 G1=>hs F6 G0 G1 λus F5 G2 xs F7 G4 G6 G9 G8 hl=>hq (v::us) F5 G2 (wv::xs) F7 G4 (F9.trans G6) G9 ?_ (by simp[hl])) (jj hn)
 simpa using G8
theorem Uw{id name:Str}(hl:Fq.endLine=pos.line)(hn:args.length<30)(hst:args.all zK=true):eval (.Call (.Attribute (.Name id Fk) name Fq) args [] pos) env=(do
   let ov <- eval (.Name id Fk) env
   standAt Fq.atName
   let(f,first) <- holding [ov] (getMethod ov name (do return (<- importBound (.Name id Fk) env).getD true))
   callWith pos f first (backTo pos (starEach args env)) []):=by
 have e1:methodCallForm (args.length+([]:List Keyword).length) (backTo pos (starEach args env)) (backToKw pos (keywordEach [] env))=true:=by
  unfold methodCallForm;rw[(yS hst).1]
  show(true&&true&&decide (args.length+0+0<30))=true
  simp[hn]
 show(do
  let ov <- eval (.Name id Fk) env
  standAt Fq.atName
  methodCall (.Name id Fk) name Fq pos env ov (args.length+([]:List Keyword).length) (backTo pos (starEach args env)) (backToKw pos (keywordEach [] env)))=_
 congr 1
 funext ov
 congr 1
 funext _
 unfold methodCall;rw[e1];unfold calleeOf methodCallPos;simp only[if_true,hl,beq_self_eq_true,Bool.or_true];rfl
theorem Zb{d:Nat}(D:Act G outer F0 env A d)(F:Fr F0 L h m):G.K.In h:=D.Kin.keeps F.keep
def dX(H:Hd)(f:Addr)(first:List PV)(Wa:PS->(List PV->PS->Prop)->Prop)(O:PS)(k:KE):Prop:=
 Wa O λus F1=>H f (first++us) F1.hp λv hp'=>k v (F1.sh hp')
theorem QN{d:Nat}{first:List PV}{firstw:List Value}{k:KE}
  (hH:HdS G d H) (D:Act G outer F0 env A d) (hf:env.frame=some L) (hke:env.scope.kind=.function) (hk:keepIn G.K (.ref f)=true) (ha:EL G A F0 L env pos args Wa) (hst:args.all zK=true)
  (h:dX H f first Wa O k) (F:Fr F0 L s.heap m) (R:RL G.X F0 L s.heap m O (first.reverse++vs) (firstw.reverse++ws)) (hl:firstw.length=first.length)
  (hq:j6 G F0 L m s vs ws k Q):wpAny (model G.prog G.w) A (callWith pos (.ref f) firstw (backTo pos (starEach args env)) []) Q E s:=by
 have go:wpAny (model G.prog G.w) A (spliced (backTo pos (starEach args env))) (λxs F8=>G.K.In F8.heap/\wpAny (model G.prog G.w) A (call (.ref f) (firstw++xs)) Q E F8) E s:=by
  refine ha h F R λus F1 G3 xs F8 F6 F9 G0 G1 hl₁=>⟨Zb D G0,wpAny_call ?_⟩;refine hH G.X.pn F6 D hf hke G0 (aws:=firstw++xs) (vs:=vs) (ws:=ws) (by show RL G.X F0 L F8.heap G3 F1 ((first++us).reverse++vs) ((firstw++xs).reverse++ws);simpa using G1) (by simp[hl,hl₁]) λv hp' w' s' hk' r' F' R'=>?_
  exact hq v _ G3 w' s' hk' (F9.trans (.of r')) F' R'
 induction args with
 | nil =>
  refine callWith_K0 (Zb D F) hk ?_
  have:=go
  exact λΓ p hΓ=>by
   have z:=this Γ p hΓ;exact z.2 Γ p hΓ
 | cons e es =>
  simp only[List.all_cons,Bool.and_eq_true] at hst;exact callWith_K D.Kin hk go (jj hst.1) (yS hst.2).2
def gS(H:Hd)(x:Nat)(f:Addr)(Wa:PS->(List PV->PS->Prop)->Prop)(a:PV)(O:PS)(k:KE):Prop:=Vp a O λi fs=>cond (UK (lk x fs)) (dX H f [.ref i] Wa O k) False
theorem fG{d:Nat}{id:Str}
  (hH:HdS G d H) (D:Act G outer F0 env A d) (hf:env.frame=some L) (hke:env.scope.kind=.function) (ok:MethOk G x f) (ho:ES G A F0 L (eval (.Name id Fk) env) Wo) (ha:EL G A F0 L env pos args Wa)
  (hl:Fq.endLine=pos.line) (hn:args.length<30) (hst:args.all zK=true) :
  ES G A F0 L (eval (.Call (.Attribute (.Name id Fk) (G.X.nm x) Fq) args [] pos) env) (λO k=>Wo O λa F1=>gS H x f Wa a F1 k):=by
 intro O k m s vs ws h F R Q E hq;refine MethodCall_ (ho h F R λa F1 G3 wa F8 F6 F9 G0 G1=>?_) (Uw hl hn hst);obtain⟨i,fs,rfl,e,F6⟩:=Jp F6;obtain⟨ev,F6⟩:=ii F6;obtain⟨x',dx,es,n,ρ,pre,post,frz,I,rfl⟩:=G1.instTop e;have gw:=(I.fr.get G.X.inj).2 ev;refine method_inst G0 D.Kin I.at_ ok.pg ok.fi ok.fn gw ?_;exact QN (first:=[.ref i]) (firstw:=[.ref x']) hH D hf hke ok.ki ha hst F6 G0 (by simpa using G1) rfl λv G5 I3 wv H9 H3 I1 I0 H7=>hq v G5 I3 wv H9 H3 (F9.trans I1) I0 H7
def FnT(G:Gam)(fnT:Addr->Bool):Prop:=∀f,fnT f=true->keepIn G.K (.ref f)=true/\fnIn G.K f=true
def Zl(H:Hd)(fnT:Addr->Bool)(Wa:PS->(List PV->PS->Prop)->Prop)(none:Bool)(a:PV)(O:PS)(k:KE):Prop:=match a with
 | .top f=>fnT f=true/\dX H f [] Wa O k
 | .bound v f=>(fnT f=true/\none=true)/\H f [v] O.hp λv hp'=>k v (O.sh hp')
 | _=>False
theorem RL.drop2{v u:PV}{w x:Value}(r:RL G.X F0 L h m O (v::u::vs) (w::x::ws)):RL G.X F0 L h m O (v::vs) (w::ws):=by
 refine r.stack λρ frz q=>?_;refine zr q.cons_inv λZ Z e a b=>?_
 cases e
 refine zr b.cons_inv λZ Z e Z c=>?_
 cases e
 exact VRs.cons a c
theorem Zz{func:Expr}(h:Xl func=true):eval (.Call func args [] pos) env=(do callWith pos (<- eval func env) [] (backTo pos (starEach args env)) (backToKw pos (keywordEach [] env))):=by
 cases func<;>first | rfl | cases h
set_option tactic.hygienic true in
theorem fB{ne:Bool}{d:Nat}{fnT:Addr->Bool}{func:Expr}
  (hH:HdS G d H) (D:Act G outer F0 env A d) (hf:env.frame=some L) (hke:env.scope.kind=.function) (hT:FnT G fnT) (ho:ES G A F0 L (eval func env) Wo) (ha:EL G A F0 L env pos args Wa) (hst:args.all zK=true) (hna:Xl func=true) (hne:ne=args.isEmpty) :
  ES G A F0 L (eval (.Call func args [] pos) env) (λO k=>Wo O λa F1=>Zl H fnT Wa ne a F1 k):=by
 subst hne;intro O k m s vs ws h F R Q E hq;refine Call_ (ho h F R λa F1 G3 wa F8 F6 F9 G0 G1=>?_) (Zz hna)
 cases a<;>first | exact False.elim F6 | (delta Zl at F6;try dsimp only at F6)
 ·rename_i f
  obtain rfl:=G1.top;exact QN (first:=[]) (firstw:=[]) hH D hf hke (hT f F6.1).1 ha hst F6.2 G0 G1 rfl λv G5 I3 wv H9 H3 I1 I0 H7=>hq v G5 I3 wv H9 H3 (F9.trans I1) I0 H7.drop2
 ·rename_i u f
  obtain⟨⟨h2,h3⟩,F6⟩:=F6;obtain rfl:args = []:=by cases args with | nil=>rfl | cons=>cases h3
  obtain⟨ρ,led,frz,q,hv⟩:=G1.top1;obtain⟨b,sv,rfl,hm,hv⟩:=hv;obtain⟨_,_,e',_,tl⟩:=q.stk.cons_inv
  cases e'
  have hN:=q.news _ (List.mem_append_right _ hm);refine callWith_M0 (g:=f) (self:=sv) ⟨hN.1,Zb D G0⟩ (hT f h2).2 (call_meth q.news (List.mem_append_right _ hm) ?_);refine hH G.X.pn F6 D hf hke G0 (aws:=[sv]) (vs:=vs) (ws:=ws) (zm ρ led frz ⟨q.hr,q.all,q.nd,q.off,q.offp,q.kept,q.loc,VRs.cons hv tl⟩) rfl λv hp' w' s' hk' r' F' R'=>?_;exact hq v _ G3 w' s' hk' (F9.trans (.of r')) F' R'
end
noncomputable abbrev KB:=Bool->PS->Prop
section
variable {A:Around}{m:Str->Option Value}{vs:List PV}{ws:List Value}{E:Value->Shared->Prop}
abbrev p8(G:Gam)(F0:Heap)(L:Addr)(m:Str->Option Value)(s:Shared)(vs:List PV)(ws:List Value)(k:KB)(Q:Bool->Shared->Prop):Prop:=
 ∀b σ' m' s',k b σ'->SR m s m' s'->Fr F0 L s'.heap m'->RL G.X F0 L s'.heap m' σ' vs ws->Q b s'
def TS(G:Gam)(A:Around)(F0:Heap)(L:Addr)(t:Sem Bool)(W:PS->KB->Prop):Prop:=
 ∀⦃O:PS⦄ ⦃k:KB⦄ ⦃m:Str->Option Value⦄ ⦃s:Shared⦄ ⦃vs:List PV⦄ ⦃ws:List Value⦄,W O k->Fr F0 L s.heap m->RL G.X F0 L s.heap m O vs ws ->
  ∀⦃Q:Bool->Shared->Prop⦄ ⦃E:Value->Shared->Prop⦄,p8 G F0 L m s vs ws k Q->wpAny (model G.prog G.w) A t Q E s
def jT(a:PV)(O:PS)(k:KB):Prop:=match a with
 | .int x=>k (x !=0) O
 | .bool b=>k b O
 | .none=>k false O
 | .il xs=>xs.length<=2 ^ 24/\k (!xs.isEmpty) O
 | _=>False
set_option tactic.hygienic true in
theorem Xn{a:PV}{wa:Value}{k:KB}{Q:Bool->Shared->Prop}(h:jT a O k)(F:Fr F0 L s.heap m)(R:RL G.X F0 L s.heap m O (a::vs) (wa::ws))(hq:p8 G F0 L m s vs ws k Q):
  wpAny (model G.prog G.w) A (truthy wa) Q E s:=by
 cases a<;>first | exact False.elim h | (delta jT at h;try dsimp only at h)
 ·obtain rfl:=R.none;exact truthy_none (hq _ O m s h (SR.refl _ _) F R.pop)
 ·obtain rfl:=R.bool;exact wpAny_truthy_bool (hq _ O m s h (SR.refl _ _) F R.pop)
 ·refine zI R.int λt Fz=>?_;subst Fz;exact PySem.P.truthy_int (hq _ O m s h (SR.refl _ _) F R.pop)
 ·rename_i xs
  refine zi (R.ints (xs:=xs) rfl) λx items n Gb=>jc Gb λρ led frz I Fy=>?_;subst Fy;have hs:items.toArray.size=xs.length:=by rw[List.size_toArray,I.vals.length]
  have hz:(!items.toArray.isEmpty) = !xs.isEmpty:=by rw[Array.isEmpty,hs];induction xs<;>rfl
  exact wpAny_truthy_list I.isList (by rw[hs];lia) (hz▸hq _ O m _ h.2 (SR.mk' (h:=s.heap)) F R.pop)
noncomputable def Vz:Expr->Bool
 | .UnaryOp .Not _ _=>false
 | .BoolOp ..=>false
 | .IfExp ..=>false
 | .Compare ..=>false
 | _=>true
set_option tactic.hygienic true in
theorem Xa{e:Expr}(h:Vz e=true):isTrue e env Fj=(do let v <- Fj;standAt e.pos;holding [v] (truthy v)):=by
 cases e<;>try rfl
 all_goals first | cases h | (rename_i op _ _;induction op<;>first | rfl | cases h)
theorem qJ{e:Expr}{W:PS->KE->Prop}(he:ES G A F0 L (eval e env) W)(hp:Vz e=true):TS G A F0 L (isTrue e env (eval e env)) (λO k=>W O λa F1=>jT a F1 k):=by
 intro O k m s vs ws h F R Q E hq;exact isTrue_plain (he h F R λa F1 G3 wa F8 F6 F9 G0 G1=>Xn F6 G0 G1 λb F5 G2 F7 G4 G6 G9 G8=>hq b F5 G2 F7 G4 (F9.trans G6) G9 G8) (Xa hp)
theorem wH{l r:Expr}{op:CmpOp}{Wr:PS->KE->Prop}{Wo:PV->PV->PS->KE->Prop}(hl:ES G A F0 L (eval l env) Wl)(hr:ES G A F0 L (eval r env) Wr)(ho:O2 G A F0 L (compareOp op) Wo)(hm:behindInMarks op r=false):
  TS G A F0 L (isTrue (.Compare l [op] [r] pos) env Fj) (λO k=>Wl O λa F1=>Wr F1 λb F5=>Wo a b F5 λc G5=>jT c G5 k):=by
 intro O k m s vs ws h F R Q E hq;exact wpAny_isTrue_Compare1 (hl h F R λa F1 G3 wa F8 F6 F9 G0 G1=>hr F6 G0 G1 λb F5 G2 wb F7 G4 G6 G9 G8=>ho G4 G9 G8 λv G5 I3 wv H9 H3 I1 I0 H7 =>
  Xn H3 I0 H7 λc I8 O7 I9 L0 N8 N9 N5=>hq c I8 O7 I9 L0 (((F9.trans G6).trans I1).trans N8) N9 N5) hm
theorem wG{x:Expr}{W W':PS->KB->Prop}(hx:TS G A F0 L (isTrue x env (eval x env)) W)(hr:TS G A F0 L (isTrue (.BoolOp .And rest pos) env Fj) W'):
  TS G A F0 L (isTrue (.BoolOp .And (x::rest) pos) env Fj) (λO k=>W O λb F1=>cond b (W' F1 k) (k false F1)):=by
 intro O k m s vs ws h F R Q E hq;refine isTrue_and (hx h F R λb F1 G3 F8 F6 F9 G0 G1=>?_)
 induction b with
 | false=>exact hq _ F1 G3 F8 F6 F9 G0 G1
 | true=>exact hr F6 G0 G1 λc F5 G2 F7 G4 G6 G9 G8=>hq c F5 G2 F7 G4 (F9.trans G6) G9 G8
theorem CT{x:Expr}{W W':PS->KB->Prop}(hx:TS G A F0 L (isTrue x env (eval x env)) W)(hr:TS G A F0 L (isTrue (.BoolOp .Or rest pos) env Fj) W'):
  TS G A F0 L (isTrue (.BoolOp .Or (x::rest) pos) env Fj) (λO k=>W O λb F1=>cond b (k true F1) (W' F1 k)):=by
 intro O k m s vs ws h F R Q E hq;refine isTrue_or (hx h F R λb F1 G3 F8 F6 F9 G0 G1=>?_)
 induction b with
 | true=>exact hq _ F1 G3 F8 F6 F9 G0 G1
 | false=>exact hr F6 G0 G1 λc F5 G2 F7 G4 G6 G9 G8=>hq c F5 G2 F7 G4 (F9.trans G6) G9 G8
theorem pH:TS G A F0 L (isTrue (.BoolOp .And [] pos) env Fj) (λO k=>k true O):=by
 intro O k m s vs ws h F R Q E hq;exact isTrue_and_nil (hq _ O m s h (SR.refl _ _) F R)
theorem wI:TS G A F0 L (isTrue (.BoolOp .Or [] pos) env Fj) (λO k=>k false O):=by
 intro O k m s vs ws h F R Q E hq;exact isTrue_or_nil (hq _ O m s h (SR.refl _ _) F R)
theorem sX{t a b:Expr}{Wt:PS->KB->Prop}{Wa Wb:PS->KE->Prop}(ht:TS G A F0 L (isTrue t env (eval t env)) Wt)(ha:ES G A F0 L (eval a env) Wa)(hb:ES G A F0 L (eval b env) Wb):
  ES G A F0 L (eval (.IfExp t a b pos) env) (λO k=>Wt O λc F1=>cond c (Wa F1 k) (Wb F1 k)):=by
 intro O k m s vs ws h F R Q E hq;refine IfExp_ (ht h F R λc F1 G3 F8 F6 F9 G0 G1=>?_)
 induction c with
 | true=>exact ha F6 G0 G1 λv F5 G2 L8 F7 G4 G6 G9 G8=>hq v F5 G2 L8 F7 G4 (F9.trans G6) G9 G8
 | false=>exact hb F6 G0 G1 λv F5 G2 L8 F7 G4 G6 G9 G8=>hq v F5 G2 L8 F7 G4 (F9.trans G6) G9 G8
noncomputable def aX:PV->Option Bool
 | .none=>some true
 | .int _=>some false
 | .ref _=>some false
 | .bound _ _=>some false
 | _=>none
def xV(op:CmpOp)(a b:PV)(O:PS)(k:KE):Prop:=match b with
 | .int y=>yl a λx=>opt (xU op x y) λc=>k (.bool c) O
 | .none=>opt (aX a) λc=>isW op c λc=>k (.bool c) O
 | .str _=>yl a λZ=>eqW op false λc=>k (.bool c) O
 | _=>False
theorem RL.isNone{a:PV}{w:Value}{c:Bool}(r:RL G.X F0 L h m O (a::vs) (w::ws))(e:aX a=some c):plainIs w .none=true/\(w==.none)=c:=by
 refine jc r.top1 λZ Z Z Z q=>?_
 cases a with
 | none=>cases e;cases q;exact⟨rfl,beq_self_eq_true _⟩
 | int _=>cases e;refine zI q λx Gf=>?_;subst Gf;exact⟨rfl,beq_eq_false_iff_ne.mpr (λe=>nomatch e)⟩
 | ref _=>cases e;refine zd q λx Z Fz=>?_;subst Fz;exact⟨rfl,beq_eq_false_iff_ne.mpr (λe=>nomatch e)⟩
 | bound _ _=>cases e;refine yo q λx Z Fy Z=>?_;subst Fy;exact⟨rfl,beq_eq_false_iff_ne.mpr (λe=>nomatch e)⟩
 | _=>cases e
theorem Bk{op:CmpOp}:O2 G A F0 L (compareOp op) (xV op):=by
 intro O k m s vs ws a b wa wb h F R Q E hq;have R1:=R.pop;have fin:∀c,k (.bool c) O->Q (.bool c) s:=λc hc=>hq _ O m _ s hc (SR.refl _ _) F (R1.pop.push (yP c))
 cases b with
 | int y =>
  refine zd (z9 h) λx eZ6 g=>?_;subst eZ6;refine zd (zu g) λc ec h=>?_;refine zI R.int λt Gd=>?_;subst Gd;refine zI R1.int λu Ge=>?_;subst Ge;exact ly ec (fin _ h)
 | none =>
  obtain rfl:=R.none;refine zd (zu h) λc ec g=>?_
  refine zh (R1.isNone ec) λp q=>?_;subst q
  rcases tT g with ⟨rfl,g1⟩ | ⟨rfl,g1⟩
  ·exact wpAny_is_plain p (fin _ g1)
  ·exact wpAny_isNot_plain p (fin _ g1)
 | str y =>
  refine zd (z9 h) λx Gf g=>?_;subst Gf;refine zI R.str λt Fz=>?_;subst Fz;refine zI R1.int λu Fy=>?_;subst Fy
  rcases Ur g with ⟨rfl,g1⟩ | ⟨rfl,g1⟩
  ·exact EqMixed.eq_int_str (fin _ g1)
  ·exact EqMixed.ne_int_str (fin _ g1)
 | _=>exact False.elim h
def Zg(op:Operator)(a b:PV)(O:PS)(k:KE):Prop:=yl a λx=>yl b λy=>mO op x y λz=>k (.int z) O
theorem RL.two{a b:PV}{wa wb:Value}{k:Int->Int->Prop}(R:RL G.X F0 L h m O (b::a::vs) (wb::wa::ws))(g:yl a λx=>yl b λy=>k x y):∃x y t u,(a=.int x/\wa=.int x t)/\(b=.int y/\wb=.int y u)/\k x y:=by
 refine zd (z9 g) λx Ge g1=>?_;subst Ge;refine zd (z9 g1) λy Gf g2=>?_;subst Gf;refine zI R.int λt Fz=>?_;subst Fz;refine zI R.pop.int λu Fy=>?_;subst Fy;exact(zm x y u (jY t ⟨rfl,rfl⟩ ⟨rfl,rfl⟩ g2))
theorem Bj{op:Operator}:O2 G A F0 L (binaryOp op) (Zg op):=by
 intro O k m s vs ws a b wa wb h F R Q E hq;refine zi (R.two h) λx y t Gb=>jG Gb λu Fy Fz g=>?_;obtain⟨rfl,rfl⟩:=Fy;obtain⟨rfl,rfl⟩:=Fz;exact ll g λz t' n hz=>hq.push F R.pop.pop (jo z t') hz
theorem rL{op:Operator}:O2 G A F0 L (inplaceOp op) (Zg op):=by
 intro O k m s vs ws a b wa wb h F R Q E hq;refine zi (R.two h) λx y t Gb=>jG Gb λu Fy Fz g=>?_;obtain⟨rfl,rfl⟩:=Fy;obtain⟨rfl,rfl⟩:=Fz;exact mM g λz t' n hz=>hq.push F R.pop.pop (jo z t') hz
theorem vX:SS G A F0 L (execs [] env) (λO k=>k .next O):=by
 intro O k m s vs ws h F R Q E hq;exact wpAny_execs_nil (hq.next O m s h (zn.refl _) F R)
def Cn(W W':PS->KF->Prop)(O:PS)(k:KF):Prop:=W O λf F1=>match f with
 | .next=>W' F1 k
 | .brk=>k .brk F1
 | .ret v=>k (.ret v) F1
theorem oU{st:Stmt}{rest:List Stmt}{W W':PS->KF->Prop}(h1:SS G A F0 L (exec st env) W)(h2:SS G A F0 L (execs rest env) W'):SS G A F0 L (execs (st::rest) env) (Cn W W'):=by
 intro O k m s vs ws h F R Q E hq;refine wpAny_execs_cons (h1 h F R ⟨λσ' m' s' hk r F' R'=>?_,λσ' m' s' hk r F' R'=>?_,λv w' σ' m' s' hk r F' R'=>?_⟩)
 ·exact h2 hk F' R' (hq.after r)
 ·exact hq.brk σ' m' s' hk r F' R'
 ·exact hq.ret v w' σ' m' s' hk r F' R'
theorem oZ:SS G A F0 L (exec (.Pass pos) env) (λO k=>k .next O):=by
 intro O k m s vs ws h F R Q E hq;exact wpAny_Pass (hq.next O m s h (zn.refl _) F R)
theorem km:SS G A F0 L (exec (.Break pos) env) (λO k=>k .brk O):=by
 intro O k m s vs ws h F R Q E hq;show wpAny (model G.prog G.w) A (do standAt pos;pure .brk) Q E s
 exact wpAny_bind (wpAny_standAt (wpAny_pure (hq.brk O m s h (zn.refl _) F R)))
theorem vY{e:Expr}{W:PS->KE->Prop}(he:ES G A F0 L (eval e env) W):SS G A F0 L (exec (.Return (some e) pos) env) (λO k=>W O λv F1=>k (.ret v) F1):=by
 intro O k m s vs ws h F R Q E hq;exact wpAny_Return_some (he h F R λv F1 G3 I6 F8 F6 F9 G0 G1=>hq.ret v I6 F1 G3 F8 F6 F9 G0 G1)
theorem oW{e:Expr}{W:PS->KE->Prop}(he:ES G A F0 L (eval e env) W)(hi:interactive env=false)(hc:yL e=true):SS G A F0 L (exec (.Expr e pos) env) (λO k=>W O λZ F1=>k .next F1):=by
 intro O k m s vs ws h F R Q E hq;exact wpAny_Expr_any (he h F R λv F1 G3 I6 F8 F6 F9 G0 G1=>hq.next F1 G3 F8 F6 F9 G0 G1.pop) hi (jS hc)
theorem Cu{t:Expr}{a b:List Stmt}{Wt:PS->KB->Prop}{Wa:PS->KF->Prop}(ht:TS G A F0 L (isTrue t env (eval t env)) Wt)(ha:SS G A F0 L (execs a env) Wa)(hb:SS G A F0 L (execs b env) Wb):
  SS G A F0 L (exec (.If t a b pos) env) (λO k=>Wt O λc F1=>cond c (Wa F1 k) (Wb F1 k)):=by
 intro O k m s vs ws h F R Q E hq;refine wpAny_If (ht h F R λc F1 G3 F8 F6 F9 G0 G1=>?_)
 induction c with
 | true=>exact ha F6 G0 G1 (hq.after F9)
 | false=>exact hb F6 G0 G1 (hq.after F9)
theorem oY{e:Expr}{W:PS->KE->Prop}(V:EnvF env L)(hl:env.kindOf (G.X.nm x)=some .local)(he:ES G A F0 L (eval e env) W)(hc:yL e=true):
  SS G A F0 L (exec (.Assign [.Name (G.X.nm x) Fk] e pos) env) (λO k=>W O λv F1=>F1.slC x v (k .next)):=by
 intro O k m s vs ws h F R Q E hq;refine wpAny_Assign_Name (he h F R λv F1 G3 I6 F8 F6 F9 G0 G1=>?_) (jS hc);refine zi G1 λρ led frz q=>?_;refine stE V G0 q.all (λh' F' N'=>?_) hl;refine hq.next _ _ _ (zW.mp F6) (F9.rest.trans zn.mk') F' (RL.store (k:=x) (v:=v) (w:=I6) (zm ρ led frz ⟨q.hr,N',q.nd,q.off,q.offp,q.kept,q.loc,q.stk⟩))
theorem oS{o e:Expr}{d:Nat}(D:Act G outer F0 env A d)(ok:AttrOk G x)(ho:ES G A F0 L (eval o env) Wo)(he:ES G A F0 L (eval e env) We)(hc:yL e=true):
  SS G A F0 L (exec (.Assign [.Attribute o (G.X.nm x) Fq] e pos) env) (λO k=>We O λv F1=>Wo F1 λa F5=>YX x a v F5 λG5=>k .next G5):=by
 intro O k m s vs ws h F R Q E hq;exact plainObj_wpAny_Assign_Attribute (he h F R λv F1 G3 I6 F8 F6 F9 G0 G1=>ho F6 G0 G1 λa F5 G2 L8 F7 G4 G6 G9 G8=>iw D ok G4 G9 G8 λG5 H9 H3 I1 I0 H7=>hq.next G5 G2 H9 H3 ((F9.trans G6).rest.trans I1) I0 H7.pop.pop) (jS hc)
theorem ZX{o e:Expr}{op:Operator}{d:Nat}(D:Act G outer F0 env A d)(ok:AttrOk G x)(ho:ES G A F0 L (eval o env) Wo)(he:ES G A F0 L (eval e env) We):
  SS G A F0 L (exec (.AugAssign (.Attribute o (G.X.nm x) Fq) op e pos) env) (λO k=>Wo O λa F1=>XT x a F1 λold F5=>We F5 λv G5=>Zg op old v G5 λnew I8=>YX x a new I8 λO0=>k .next O0):=by
 intro O k m s vs ws h F R Q E hq;refine wpAny_AugAssign_AttributeAny (ho h F R λa F1 G3 I6 F8 F6 F9 G0 G1=>?_);have R1:RL G.X F0 L F8.heap G3 F1 (a::a::vs) (I6::I6::ws):=G1.stack λρ frz q=>by
  refine zr q.cons_inv λZ Z e x Z=>?_
  cases e
  exact VRs.cons x q
 refine ip D ok F6 G0 R1 λold F5 G2 L8 F7 G4 G6 G9 G8=>he G4 G9 G8 λv G5 I3 S0 H9 H3 I1 I0 H7=>rL H3 I0 H7 λnew I8 O7 w₄ I9 L0 N8 N9 N5=>?_;have R5:RL G.X F0 L I9.heap O7 I8 (a::new::vs) (I6::w₄::ws):=N5.stack λρ frz q=>by
  refine zr q.cons_inv λZ Z e x t=>?_
  cases e
  refine zr t.cons_inv λZ Z e y t=>?_
  cases e
  exact VRs.cons y (VRs.cons x t)
 exact iw D ok L0 N9 R5 λO0 s₅ P9 r₅ F₅ R₅=>hq.next O0 O7 s₅ P9 ((((F9.trans G6).trans I1).trans N8).rest.trans r₅) F₅ R₅.pop.pop
theorem ZY{e:Expr}{op:Operator}{W:PS->KE->Prop}(V:EnvF env L)(hl:env.kindOf (G.X.nm x)=some .local)(he:ES G A F0 L (eval e env) W):
  SS G A F0 L (exec (.AugAssign (.Name (G.X.nm x) Fk) op e pos) env) (λO k=>j7 x O λold F1=>W F1 λv F5=>Zg op old v F5 λnew G5=>G5.slC x new (k .next)):=by
 intro O k m s vs ws h F R Q E hq;unfold j7 at h
 cases el:lk x O.loc with
 | none=>rw[el] at h;exact h.elim
 | some v0 =>
  rw[el] at h;refine byc λGa=>?_;refine zd (R.local el) λw0 hm R'=>?_;refine Ga ?_;refine wpAny_AugAssign_Name (A0 V F hm (he h F R' λv F5 G2 L8 F7 G4 G6 G9 G8=>rL G4 G9 G8 λnew G5 I3 S0 H9 H3 I1 I0 H7=>?_) hl);refine byc λGc=>?_;refine zi H7 λρ led frz q=>?_;refine Gc ?_;refine stE V I0 q.all (λh' F' N'=>?_) hl;exact hq.next _ _ _ (zW.mp H3) ((G6.trans I1).rest.trans zn.mk') F' (RL.store (k:=x) (v:=new) (w:=S0) (zm ρ led frz ⟨q.hr,N',q.nd,q.off,q.offp,q.kept,q.loc,q.stk⟩))
theorem we{o i e:Expr}(ho:ES G A F0 L (eval o env) Wo)(hi:ES G A F0 L (eval i env) Wi)(he:ES G A F0 L (eval e env) We)(hc:yL e=true)(hns:y0 i=true):
  SS G A F0 L (exec (.Assign [.Subscript o i Fv] e pos) env) (λO k=>We O λv F1=>Wo F1 λa F5=>Wi F5 λj G5=>iU a j v G5 λI8=>k .next I8):=by
 intro O k m s vs ws h F R Q E hq;refine wpAny_Assign_stores (he h F R λv F1 G3 I6 F8 F6 F9 G0 G1=>?_) (show swapsWith e (some (.Subscript o i Fv)) pos.line env=pure false from jS hc) ?_
 ·show wpAny (model G.prog G.w) A (assign (.Subscript o i Fv) env I6) _ _ F8
  rw[arm_assign_Subscript];refine wpAny_bind (wpAny_holding (ho F6 G0 G1 λa F5 G2 L8 F7 G4 G6 G9 G8=>wpAny_bind (wpAny_holding (hi G4 G9 G8 λj G5 I3 S0 H9 H3 I1 I0 H7=>wpAny_bind (wpAny_standAt (wpAny_bind (wpAny_holding (rN H3 I0 H7 λI8 I9 L0 N8 N9 N5=>?_))))))));exact wpAny_release (hq.next I8 I3 I9 L0 (((F9.trans G6).trans I1).rest.trans N8) N9 N5)
 ·rfl
end
noncomputable def VW{α:Type}(o:α):List α->(List α->Prop)->Prop
 | [],c=>c [o]
 | a::r,c=>VW o r λr'=>c (a::r')
theorem jv{α:Type}{o:α}:∀{l:List α} {c:List α->Prop},VW o l c↔c (l ++ [o])
 | [],_=>Iff.rfl
 | a::r,c=>jv (l:=r) (c:=λr'=>c (a::r'))
def ZL(mt:Bool)(xs:List Int)(O:PS)(k:KE):Prop:=match O with
 | ⟨l,h⟩=>cond mt (VW (.il xs) h λh'=>k (.ref h.length) ⟨l,h'⟩) (k (.il xs) ⟨l,h⟩)
section
variable {A:Around}{m:Str->Option Value}{vs:List PV}{ws:List Value}{E:Value->Shared->Prop}
theorem Xk{mt:Bool}{xs:List Int}{items:List Value}{n:Nat}{k:KE}{frz:List (Addr×Obj)}(q:RW G.X F0 L s.heap m O vs ws ρ led frz)(F':Fr F0 L h' m)
  (N':News F0 L h' ((D,listOf items.toArray n)::((led++frz)++G.X.ps))) (lt:∀p∈(led++frz)++G.X.ps,p.1≠D) (hi:IntsAre items xs) (h:ZL mt xs O k) (hq:j6 G F0 L m s vs ws k Q):Q (.ref D) { s with heap:=h',toks:=tk }:=by
 obtain⟨l,hp⟩:=O;unfold ZL at h
 induction mt with
 | true =>
  simp only[cond_true] at h;replace h:=jv.mp h;have W:=q.own (po:=.il xs) N' lt (.il hi .nil);have len:ρ.length=hp.length:=q.hr.len;refine hq _ _ m _ _ h SR.mk' F' (zm _ _ _ ⟨W.hr,W.all,W.nd,W.off,W.offp,W.kept,W.loc,VRs.cons ?_ W.stk⟩);show Exists _;exact(zv D (by rw[List.getElem?_append_right (Nat.le_of_eq len),len];simp) rfl)
 | false =>
  simp only[cond_false] at h;have W:=q.freeze N' lt;refine hq _ _ m _ _ h SR.mk' F' (zm _ _ _ ⟨W.hr,W.all,W.nd,W.off,W.offp,W.kept,W.loc,VRs.cons ?_ W.stk⟩);show Exists _;exact(yW D items n rfl (.head _) hi)
theorem cU{us:List PV}{xs:List Value}{k:KE}{frz:List (Addr×Obj)}(q:RW G.X F0 L s.heap m O vs ws ρ led frz)(hu:VRs ρ frz us xs)(F':Fr F0 L h' m)
  (N':News F0 L h' ((D,j4 xs 0)::((led++frz)++G.X.ps))) (lt:∀p∈(led++frz)++G.X.ps,p.1≠D) (h:k (.tup us) O) (hq:j6 G F0 L m s vs ws k Q):Q (.ref D) { s with heap:=h',toks:=tk }:=by
 have W:=q.freeze N' lt;refine hq _ _ m _ _ h SR.mk' F' (zm _ _ _ ⟨W.hr,W.all,W.nd,W.off,W.offp,W.kept,W.loc,VRs.cons ?_ W.stk⟩);show Exists _;exact(yW D xs 0 rfl (.head _) (hu.mono (λZ Z e=>e) (λp hp=>.tail _ hp)))
theorem YG{us:List PV}{xs:List Value}{n:Nat}{k:KE}{frz:List (Addr×Obj)}(q:RW G.X F0 L s.heap m O vs ws ρ led frz)(hu:VRs ρ frz us xs)(F':Fr F0 L h' m)
  (N':News F0 L h' ((D,listOf xs.toArray n)::((led++frz)++G.X.ps))) (lt:∀p∈(led++frz)++G.X.ps,p.1≠D) (h:k (.ls us) O) (hq:j6 G F0 L m s vs ws k Q):Q (.ref D) { s with heap:=h',toks:=tk }:=by
 have W:=q.freeze N' lt;refine hq _ _ m _ _ h SR.mk' F' (zm _ _ _ ⟨W.hr,W.all,W.nd,W.off,W.offp,W.kept,W.loc,VRs.cons ?_ W.stk⟩);show Exists _;exact(yW D xs n rfl (.head _) (hu.mono (λZ Z e=>e) (λp hp=>.tail _ hp)))
noncomputable def jZ:List PV->Option (List Int)
 | []=>some []
 | .int i::r=>(jZ r).map (i :: ·)
 | _=>none
theorem qP{ρ:List Addr}{frz:List (Addr×Obj)}:∀{us:List PV} {xs:List Value} {l:List Int},jZ us=some l->VRs ρ frz us xs->IntsAre xs l
 | [],_,_,e,h=>by cases e;cases h;exact IntsAre.nil
 | u::us,xs,l,e,h=>by
  refine zr h.cons_inv λw r Gf hv tl=>?_;subst Gf
  cases u with
  | int i =>
   refine zd (Option.map_eq_some_iff.mp (show(jZ us).map (i :: ·)=some l from e)) λl' e' Fz=>?_;subst Fz
   refine zI hv λt Fy=>?_;subst Fy;exact .cons _ _ (qP e' tl)
  | _=>cases e
def Xj(mt:Bool)(us:List PV)(O:PS)(k:KE):Prop:=match jZ us with
 | some xs=>ZL mt xs O k
 | none=>cond mt False (k (.ls us) O)
def qf(mt:Bool)(us:List PV)(O:PS)(k:KE):Prop:=cond (Nat.ble us.length 1000) (Xj mt us O k) False
theorem bm{mt:Bool}{us:List PV}{xs:List Value}{n:Nat}{k:KE}{frz:List (Addr×Obj)}(q:RW G.X F0 L s.heap m O vs ws ρ led frz)(hu:VRs ρ frz us xs)(F':Fr F0 L h' m)
  (N':News F0 L h' ((D,listOf xs.toArray n)::((led++frz)++G.X.ps))) (lt:∀p∈(led++frz)++G.X.ps,p.1≠D) (h:Xj mt us O k) (hq:j6 G F0 L m s vs ws k Q):Q (.ref D) { s with heap:=h',toks:=tk }:=by
 unfold Xj at h
 cases e:jZ us with
 | some l=>rw[e] at h;exact Xk q F' N' lt (qP e hu) h hq
 | none=>rw[e] at h;exact YG q hu F' N' lt (jI h).2 hq
theorem QG{us:List PV}{xs:List Value}{frz:List (Addr×Obj)}(q:RW G.X F0 L h m O (us.reverse++vs) (xs.reverse++ws) ρ led frz)(hl:xs.length=us.length):VRs ρ frz us xs/\RW G.X F0 L h m O vs ws ρ led frz:=by
 refine zr q.stk.split λx1 x2 e12 s1 s2=>?_;have el:x1=xs.reverse/\x2=ws:=by
  have l1:=s1.length;simp only[List.length_reverse] at l1;exact List.append_inj e12.symm (by rw[l1,List.length_reverse,hl])
 refine zh el λFz Gf=>?_;subst Fz;subst Gf;refine⟨?_,q.hr,q.all,q.nd,q.off,q.offp,q.kept,q.loc,s2⟩;have rev:∀{a:List PV} {b:List Value},VRs ρ frz a b->VRs ρ frz a.reverse b.reverse:=by
  intro a
  induction a with
  | nil=>intro b hb;cases hb;exact VRs.nil
  | cons v a ih =>
   intro b hb;refine zr hb.cons_inv λw r Fy hv tl=>?_;subst Fy;simp only[List.reverse_cons];exact(ih tl).append (VRs.cons hv VRs.nil)
 have:=rev s1
 simpa using this
theorem lN{mt:Bool}{Ws:PS->(List PV->PS->Prop)->Prop}(he:EL G A F0 L env pos Ff Ws):ES G A F0 L (eval (.List Ff pos) env) (λO k=>Ws O λus F1=>qf mt us F1 k):=by
 intro O k m s vs ws h F R Q E hq;refine List_ (he h F R λus F1 G3 xs F8 F6 F9 G0 G1 hl=>?_);refine byc λGa=>?_;refine zi G1 λρ led frz q=>?_;refine zh (QG q hl) λhu q=>?_;have hq':j6 G F0 L G3 F8 vs ws k Q:=λv σ' m' w' s' a b c d=>hq v σ' m' w' s' a (F9.trans b) c d;refine zh (zS F6) λhb F6=>?_;have hlen:=Nat.le_of_ble_eq_true hb;refine Ga ?_;exact newList_K G0 q.all (λD h' F' N' lt=>bm q hu F' N' (λp hp=>Nat.ne_of_lt (lt p hp)) F6 hq') (by rw[hl];unfold sizeLine;exact qG hlen rfl)
def CV(us:List PV)(O:PS)(k:KE):Prop:=cond (Nat.ble us.length 1000) (k (.tup us) O) False
theorem tf{kd:Nat}{Ws:PS->(List PV->PS->Prop)->Prop}(he:EL G A F0 L env pos Ff Ws):ES G A F0 L (eval (.Tuple Ff kd pos) env) (λO k=>Ws O λus F1=>CV us F1 k):=by
 intro O k m s vs ws h F R Q E hq;refine Tuple_ (he h F R λus F1 G3 xs F8 F6 F9 G0 G1 hl=>?_);refine byc λGa=>?_;refine zi G1 λρ led frz q=>?_;refine zh (QG q hl) λhu q=>?_;have hq':j6 G F0 L G3 F8 vs ws k Q:=λv σ' m' w' s' a b c d=>hq v σ' m' w' s' a (F9.trans b) c d;refine zh (zS F6) λhb F6=>?_;have hlen:=Nat.le_of_ble_eq_true hb;refine Ga ?_;exact kup_newTuple G0 q.all (λD h' F' N' lt=>cU q hu F' N' (λp hp=>Nat.ne_of_lt (lt p hp)) F6 hq') (by rw[hl];unfold sizeLine;exact qG hlen rfl)
end
theorem IntsAre.app{a b:List Value}{x y:List Int}(h:IntsAre a x)(h':IntsAre b y):IntsAre (a++b) (x++y):=by
 induction h with
 | nil=>exact h'
 | cons n t _ ih=>exact .cons n t ih
noncomputable def qU{α:Type}:Nat->List α->List α
 | 0,_=>[]
 | n+1,l=>l++qU n l
theorem VC{a:List Value}{x:List Int}(h:IntsAre a x):∀n,IntsAre (qU n a) (qU n x)
 | 0=>.nil
 | n+1=>IntsAre.app h (VC h n)
theorem JV(a:Array Value):∀(n:Nat) (acc:Array Value),(List.foldl (λx1 x2=>x1++x2) acc (List.replicate n a)).toList=acc.toList++qU n a.toList
 | 0,acc=>by simp[qU]
 | n+1,acc=>by rw[List.replicate_succ,List.foldl_cons,JV a n,Array.toList_append,qU,List.append_assoc]
theorem YT{α:Type}:∀n,qU n ([]:List α) = []
 | 0=>rfl
 | n+1=>YT n
section
variable {A:Around}{m:Str->Option Value}{vs:List PV}{ws:List Value}{E:Value->Shared->Prop}
theorem Zf{frz:List (Addr×Obj)}(q:RW G.X F0 L s.heap m O vs ws ρ led frz):∀p∈(led++frz)++G.X.ps,p.1<s.heap.objs.size:=λp hp=>Heap.lt_size (q.all p hp).1
def rD(mt:Bool)(a b:PV)(O:PS)(k:KE):Prop:=yl b λi=>opt (Jd O a) λxs=>match i with
 | .ofNat n=>(xs.length*n<=2 ^ 24/\(n:Int)<2 ^ 63)/\ZL mt (qU n xs) O k
 | _=>False
theorem uV{mt:Bool}:O2 G A F0 L (binaryOp .Mult) (rD mt):=by
 intro O k m s vs ws a b wa wb h F R Q E hq;refine zd (z9 h) λi Ge g=>?_;subst Ge;clear h;refine zd (zu g) λxs e h=>?_;clear g
 induction i with
 | negSucc _=>exact False.elim h
 | ofNat n =>
 refine zh h λGf h=>?_;obtain⟨h1,h2⟩:=Gf;refine zI R.int λt Fz=>?_;subst Fz;have R1:=R.pop;refine zi (R1.ints e) λx items c Gb=>jc Gb λρ led frz I Fy=>?_;subst Fy;have hlen:=I.vals.length;refine mul_list F I.rw.all I.at_ (by show -(2 ^ 63:Int)<=(n:Int);lia) h2 (by show items.toArray.size*n<=2 ^ 24;rw[List.size_toArray,hlen];exact h1) λh' F' N'=>?_
 have e2:(List.foldl (λx1 x2=>x1++x2) #[] (List.replicate (if items.toArray.isEmpty=true then 0 else (Int.ofNat n).toNat) items.toArray))=(qU n items).toArray:=by
  apply Array.toList_inj.mp
  rw[JV]
  show[]++qU (if items.toArray.isEmpty=true then 0 else n) items=qU n items
  induction items with
  | nil=>simp[qU,YT]
  | cons=>simp
 rw[e2] at N';exact Xk (tk:=s.toks) (n:=0) I.rw.pop F' N' (λp hp=>Nat.ne_of_lt (Zf I.rw p hp)) (VC I.vals n) h hq
def rA(mt:Bool)(a b:PV)(O:PS)(k:KE):Prop:=opt (Jd O a) λxs=>opt (Jd O b) λys=>(xs.length+ys.length<=2 ^ 24)/\ZL mt (xs++ys) O k
theorem uT{mt:Bool}:O2 G A F0 L (binaryOp .Add) (rA mt):=by
 intro O k m s vs ws a b wa wb h F R Q E hq;refine zd (zu h) λxs ex h=>?_;refine zd (zu h) λys ey h=>?_;refine zi (R.ints ey) λy items2 c2 Gb=>jc Gb λρ2 led2 frz2 I2 Fz=>?_;subst Fz;have hl2:=I2.isList;refine zi (R.pop.ints ex) λx items c Gb=>jc Gb λρ led frz I Fy=>?_;subst Fy;have cJ:=I.vals.length;have mT:=I2.vals.length;refine add_lists F I.rw.all I.isList hl2 (λh' F' N'=>?_) (by rw[cJ,mT];exact h.1)
 exact Xk (tk:=s.toks) (n:=0) I.rw.pop F' N' (λp hp=>Nat.ne_of_lt (Zf I.rw p hp)) (IntsAre.app I.vals I2.vals) h.2 hq
def A5(op:CmpOp)(a b:PV)(O:PS)(k:KE):Prop:=opt (Jd O a) λxs=>opt (Jd O b) λys=>eqW op (decide (xs=ys)) λc=>k (.bool c) O
theorem Bm{op:CmpOp}(hu:A.units+64<cLine):O2 G A F0 L (compareOp op) (A5 op):=by
 intro O k m s vs ws a b wa wb h F R Q E hq;refine zd (zu h) λxs ex h=>?_;refine zd (zu h) λys ey h=>?_;refine zi (R.ints ey) λy items2 c2 Gb=>jc Gb λρ2 led2 frz2 I2 Fz=>?_;subst Fz;have hl2:=I2.isList;refine zi (R.pop.ints ex) λx items c Gb=>jc Gb λρ led frz I Fy=>?_;subst Fy;have fin:∀c,k (.bool c) O->Q (.bool c) s:=λc hc=>hq _ O m _ s hc (SR.refl _ _) F (R.pop.pop.push (yP c))
 rcases Ur h with ⟨rfl,g1⟩ | ⟨rfl,g1⟩
 ·exact eq_intsK I.isList I.vals hl2 I2.vals hu (fin _ g1)
 ·exact ne_intsK I.isList I.vals hl2 I2.vals hu (fin _ g1)
noncomputable def rE:PV->Option Nat
 | .ls us=>some us.length
 | _=>none
def A4(a:PV)(O:PS)(k:KE):Prop:=opt (((Jd O a).map List.length).or (rE a)) λn=>n<=16384/\k (.int n) O
theorem RL.len{a:PV}{wa:Value}{n:Nat}(R:RL G.X F0 L h m O (a::vs) (wa::ws))(e:((Jd O a).map List.length).or (rE a)=some n):∃x items,wa=.ref x/\h.IsList x items/\items.size=n:=by
 rcases rP e with e | e
 ·refine zd (Option.map_eq_some_iff.mp e) λxs e1 Gf=>?_;subst Gf
  refine zi (R.ints e1) λx items c Gb=>jc Gb λρ led frz I Fz=>?_;subst Fz;exact(jw x _ rfl I.isList I.vals.length)
 ·cases a with
  | ls us =>
   cases e
   refine jc R.top1 λρ led frz q hv=>?_;refine yp hv λb items n Fy hm hi=>?_;subst Fy;exact(jw b _ rfl (jM q.news (List.mem_append_right _ hm)) hi.length)
  | _=>cases e
theorem Bl{a:PV}{wa:Value}{k:KE}(h:A4 a O k)(F:Fr F0 L s.heap m)(R:RL G.X F0 L s.heap m O (a::vs) (wa::ws))(hq:j6 G F0 L m s vs ws k Q):wpAny (model G.prog G.w) A (call (.builtin "len") [wa]) Q E s:=by
 refine jG (zu h) λn e h1 h=>?_;refine zr (R.len e) λx items Fy il hl=>?_;subst Fy;exact kun_lenL il (k:=(n:Int)) (by rw[hl]) (Je (YQ h1) rfl) (hq.push F R.pop (jo _ _) h)
def CI(a:PV)(O:PS)(k:KE):Prop:=opt (Jd O a) λxs=>k (.int xs.sum) O
theorem Bu{a:PV}{wa:Value}{k:KE}(hh:A.handled=none)(h:CI a O k)(F:Fr F0 L s.heap m)(R:RL G.X F0 L s.heap m O (a::vs) (wa::ws))(hq:j6 G F0 L m s vs ws k Q):wpAny (model G.prog G.w) A (call (.builtin "sum") [wa]) Q E s:=by
 refine zd (zu h) λxs e h=>?_;refine zi (R.ints e) λx items c Gb=>jc Gb λρ led frz I Fy=>?_;subst Fy;refine sumK hh F I.rw.all I.isList I.vals λh' tk t' F' N'=>hq _ O m _ _ h SR.mk' F' ?_;have q:=I.rw.pop;exact RL.push (zm ρ led frz ⟨q.hr,N',q.nd,q.off,q.offp,q.kept,q.loc,q.stk⟩) (jo _ _)
def mxW(big:Bool)(a b:PV)(O:PS)(k:KE):Prop:=yl a λx=>yl b λy=>k (.int (cond big (if y>x then y else x) (if y<x then y else x))) O
theorem En{big:Bool}{a b:PV}{wa wb:Value}{k:KE}(hh:A.handled=none)(h:mxW big a b O k)(F:Fr F0 L s.heap m)(R:RL G.X F0 L s.heap m O (b::a::vs) (wb::wa::ws))(hq:j6 G F0 L m s vs ws k Q):
  wpAny (model G.prog G.w) A (call (.builtin (cond big "max" "min")) [wa,wb]) Q E s:=by
 refine zi (R.two h) λx y t Gb=>jG Gb λu Fy Fz g=>?_;obtain⟨rfl,rfl⟩:=Fy;obtain⟨rfl,rfl⟩:=Fz;clear h;refine zi R.pop.pop λρ led frz q=>?_
 induction big with
 | true=>exact max_two_N hh F q.all λh' tk F' N'=>hq _ O m _ _ g SR.mk' F' (RL.push (zm ρ led frz ⟨q.hr,N',q.nd,q.off,q.offp,q.kept,q.loc,q.stk⟩) (jo _ _))
 | false=>exact min_two_N hh F q.all λh' tk F' N'=>hq _ O m _ _ g SR.mk' F' (RL.push (zm ρ led frz ⟨q.hr,N',q.nd,q.off,q.offp,q.kept,q.loc,q.stk⟩) (jo _ _))
end
section
variable {prog:Program}{w:World}{A:Around}{E:Value->Shared->Prop}{b:Addr}{m:Str->Option Value}{news news':List (Addr×Obj)}
end
section
variable {A:Around}{m:Str->Option Value}{vs:List PV}{ws:List Value}{E:Value->Shared->Prop}
theorem kG{X:Cx}{its its':Array Value}{n:Nat}(f:Array Value->Array Value)(N:News F0 L h (pre++(D,listOf its n)::post))(a:∀p∈pre,p.1≠D)(c:∀p∈post,p.1≠D)(he:f its=its'):
  ∃n',News F0 L (h.update D (Obj.mapSeq f)) (pre++(D,listOf its' n')::post):=by
 by_cases hs:its'.size=its.size
 ·exact⟨n,kl_turn0 f N a c he hs⟩
 ·exact⟨n+1,kl_turn f N a c he hs⟩
theorem nj{frz:List (Addr×Obj)}{d:Addr}{o:Obj}(q:RW G.X F0 L h m O vs ws ρ (pre++(d,o)::post) frz):(∀p∈pre,p.1≠d) /\ ∀p∈(post++frz)++G.X.ps,p.1≠d:=by
 have nd:=q.nd;rw[List.map_append,List.map_cons] at nd;obtain⟨n1,n2⟩:=qF nd;refine⟨λp hp=>n1 p.1 (List.mem_map_of_mem hp),λp hp=>?_⟩
 rcases List.mem_append.mp hp with h1 | h1
 ·rcases List.mem_append.mp h1 with h1 | h1
  ·exact n2 p.1 (List.mem_map_of_mem h1)
  ·exact q.off p h1 (d,o) (by simp)
 ·exact q.offp p h1 (d,o) (List.mem_append_left _ (by simp))
noncomputable def gA(v:PV):Option Int:=match v with | .int i=>some i | _=>none
theorem mN{v:PV}{i:Int}(e:gA v=some i):v=.int i:=by
 cases v with
 | int j=>cases e;rfl
 | _=>cases e
def dW(xs:List Int)(v:PV)(k:Nat->PO->Prop):Prop:=match gA v with
 | some i=>k xs.length (.il (xs ++ [i]))
 | none=>cond xs.isEmpty (k 0 (.ls [v])) False
theorem lb{xs:List Int}{v:PV}{k:Nat->PO->Prop}(h:dW xs v k):(∃i,v=.int i/\k xs.length (.il (xs ++ [i])))∨(xs = []/\k 0 (.ls [v])):=by
 unfold dW at h
 cases e:gA v with
 | some i=>rw[e] at h;exact .inl ⟨i,mN e,h⟩
 | none =>
  rw[e] at h
  induction xs with
  | nil=>exact .inr ⟨rfl,h⟩
  | cons=>exact False.elim h
def lc(o:Option PO)(v:PV)(k:Nat->PO->Prop):Prop:=match o with
 | some (.il xs)=>dW xs v k
 | some (.ls us)=>k us.length (.ls (us ++ [v]))
 | _=>False
theorem ld{o:Option PO}{v:PV}{k:Nat->PO->Prop}(h:lc o v k):∃p n o',o=some p/\k n o' /\ ∀{X:Cx} {ρ:List Addr} {frz mid:List (Addr×Obj)} {a:Addr} {w:Value},OR X ρ frz p a mid->VR ρ frz v w ->
  ∃(items:List Value) (c:Nat),mid = [(a,listOf items.toArray c)]/\items.length=n /\ ∀c',OR X ρ frz o' a [(a,listOf (items ++ [w]).toArray c')]:=by
 induction o with
 | none=>exact False.elim h
 | some p =>
  induction p with
  | il xs =>
   have hx:=lb h;clear h
   rcases hx with ⟨i,rfl,h⟩ | ⟨rfl,h⟩
   ·refine(yW _ _ _ rfl h (λr hv=>?_))
    cases r with
    | il hi=>refine zI hv λt Fy=>?_;subst Fy;exact(jw _ _ rfl hi.length (λZ=>.il (IntsAre.app hi (.cons i t .nil))))
   ·refine(yW _ _ _ rfl h (λr hv=>?_))
    cases r with
    | il hi=>cases hi;exact(jw _ _ rfl rfl (λZ=>.ls (VRs.cons hv VRs.nil)))
  | ls us =>
   refine(yW _ _ _ rfl h (λr hv=>?_))
   cases r with
   | ls hi=>exact(jw _ _ rfl hi.length (λZ=>.ls (hi.append (VRs.cons hv VRs.nil))))
  | _=>exact False.elim h
def VX(a v:PV)(O:PS)(k:PS->Prop):Prop:=Va a λj=>lc O.hp[j]? v λn o'=>n<2 ^ 24/\O.siC j o' k
theorem io{a v:PV}{wa:Value}{k:PS->Prop}(h:VX a v O k)(F:Fr F0 L s.heap m)(R:RL G.X F0 L s.heap m O (v::a::vs) (wv::wa::ws))
  (hq:∀σ' s',k σ'->zn s s'->Fr F0 L s'.heap m->RL G.X F0 L s'.heap m σ' vs ws->Q .none s'):wpAny (model G.prog G.w) A (call (.builtin "list.append") [wa,wv]) Q E s:=by
 refine zd (yf h) λj Gf g=>?_;subst Gf;clear h;refine byc λGa=>?_;refine yp (ld g) λp n o' e Fz r=>?_;obtain⟨h1,h⟩:=Fz;refine Ga ?_;clear g;replace h:=jd.mp h;refine byc λGc=>?_;refine zi R λρ led frz q=>?_;refine zi (q.hr.at e) λx pre mid Gb=>jU Gb λpost e1 e2 e3 e4=>?_;refine zr q.stk.cons_inv λZ Z ee hv tl=>?_;refine Gc ?_
 cases ee
 refine zr (r e3 hv) λitems c Fy hl e5=>?_;subst Fy;rw[l1] at e2;subst e2;have q1:=q.pop;obtain rfl:=q1.ref e1;have hp:(items.toArray.push wv)=(items ++ [wv]).toArray:=List.push_toArray ..;have U:=q1.upd (listOf (items ++ [wv]).toArray (c+1));rw[<- hp] at U;refine append_K F q1.all U (λh' F' N'=>hq _ _ h zn.mk' F' ?_) (by rw[List.size_toArray,hl];unfold sizeLine;exact qG (di h1) rfl)
 rw[hp] at N';have E:=e4 _ _ (e5 (c+1));rw[l1] at E;exact(zm ρ _ frz ((q1.swap (by rw[List.map_append,List.map_append];rfl) E N').pop))
end
noncomputable abbrev KS:=PS->Prop
section
variable {M:Model}{A:Around}{E:Value->Shared->Prop}
theorem qK{o i:Expr}{v:Value}{Q:Unit->Shared->Prop}(h:wpAny M A (eval o env) (λov F7=>wpAny M A (eval i env) (λiv H9=>wpAny M A (setItem ov iv v) Q E H9) E F7) E s):wpAny M A (assign (.Subscript o i pos) env v) Q E s:=by
 rw[arm_assign_Subscript];exact wpAny_bind (wpAny_holding (wpAny_mono h (λov F7 G4=>wpAny_bind (wpAny_holding (wpAny_mono G4 (λiv H9 H3=>wpAny_bind (wpAny_standAt (wpAny_bind (wpAny_holding (wpAny_mono H3 (λZ I9 L0=>wpAny_release L0) λZ Z e=>e))))) λZ Z e=>e))) λZ Z e=>e))
theorem Um(o:Expr)(attr:Str)(pos:Pos)(v:Value):assign (.Attribute o attr pos) env v=(do
  let ov <- holding [v] (eval o env)
  standAt pos.atName
  holding [v,ov] (setAttr ov attr v)
  release [v,ov] []):=by first | rfl | (unfold assign;rfl) | simp only[assign]
theorem Qk{o:Expr}{attr:Str}{v:Value}{Q:Unit->Shared->Prop}(h:wpAny M A (eval o env) (λov F7=>wpAny M A (setAttr ov attr v) Q E F7) E s):wpAny M A (assign (.Attribute o attr pos) env v) Q E s:=λΓ p hΓ=>by
 simp only[Um,Sem.wp_bind',Sem.wp_holding,Sem.wp_cmd_standAt,Sem.wp_release,Sem.wp_pure'];exact Sem.wp_mono M Γ _ (λov p₂ F7 G4=>G4 Γ _ hΓ) (λZ Z Z h'=>h') _ _ (h Γ _ hΓ)
end
section
variable {A:Around}{m:Str->Option Value}{vs:List PV}{ws:List Value}{E:Value->Shared->Prop}
def AS(G:Gam)(A:Around)(F0:Heap)(L:Addr)(t:Value->Sem Unit)(W:PV->PS->KS->Prop):Prop:=
 ∀⦃v:PV⦄ ⦃w:Value⦄ ⦃O:PS⦄ ⦃k:KS⦄ ⦃m:Str->Option Value⦄ ⦃s:Shared⦄ ⦃vs:List PV⦄ ⦃ws:List Value⦄,W v O k->Fr F0 L s.heap m->RL G.X F0 L s.heap m O (v::vs) (w::ws) ->
  ∀⦃Q:Unit->Shared->Prop⦄ ⦃E:Value->Shared->Prop⦄,(∀σ' m' s',k σ'->zn s s'->Fr F0 L s'.heap m'->RL G.X F0 L s'.heap m' σ' vs ws->Q () s')->wpAny (model G.prog G.w) A (t w) Q E s
theorem li(V:EnvF env L)(hl:env.kindOf (G.X.nm x)=some .local):
  AS G A F0 L (assign (.Name (G.X.nm x) pos) env) (λv O k=>O.slC x v k):=by
 intro v w O k m s vs ws h F R Q E hq;refine zi R λρ led frz q=>?_;refine assign_Name (stE V F q.all (λh' F' N'=>?_) hl);exact hq _ _ _ (zW.mp h) zn.mk' F' (RL.store (k:=x) (v:=v) (w:=w) (zm ρ led frz ⟨q.hr,N',q.nd,q.off,q.offp,q.kept,q.loc,q.stk⟩))
theorem sj{o i:Expr}(ho:ES G A F0 L (eval o env) Wo)(hi:ES G A F0 L (eval i env) Wi):AS G A F0 L (assign (.Subscript o i pos) env) (λv O k=>Wo O λa F1=>Wi F1 λi F5=>iU a i v F5 k):=by
 intro v w O k m s vs ws h F R Q E hq;exact qK (ho h F R λa F1 G3 I6 F8 F6 F9 G0 G1=>hi F6 G0 G1 λi F5 G2 L8 F7 G4 G6 G9 G8=>rN G4 G9 G8 λG5 H9 H3 I1 I0 H7=>hq G5 G2 H9 H3 ((F9.trans G6).rest.trans I1) I0 H7)
theorem lf{o:Expr}{d:Nat}(D:Act G outer F0 env A d)(ok:AttrOk G x)(ho:ES G A F0 L (eval o env) Wo):AS G A F0 L (assign (.Attribute o (G.X.nm x) pos) env) (λv O k=>Wo O λa F1=>YX x a v F1 k):=by
 intro v w O k m s vs ws h F R Q E hq;exact Qk (ho h F R λa F1 G3 I6 F8 F6 F9 G0 G1=>iw D ok F6 G0 G1 λF5 F7 G4 G6 G9 G8=>hq F5 G3 F7 G4 (F9.rest.trans G6) G9 G8.pop.pop)
noncomputable def Vh:List (PV->PS->KS->Prop)->List PV->PS->KS->Prop
 | [],[],O,k=>k O
 | W::Ws,v::vs,O,k=>W v O λF1=>Vh Ws vs F1 k
 | _,_,_,_=>False
inductive ASs(G:Gam)(A:Around)(F0:Heap)(L:Addr):List (Value->Sem Unit)->List (PV->PS->KS->Prop)->Prop
 | nil:ASs G A F0 L [] []
 | cons {t ts W Ws}:AS G A F0 L t W->ASs G A F0 L ts Ws->ASs G A F0 L (t::ts) (W::Ws)
theorem V9{ts:List (Value->Sem Unit)}{Ws:List (PV->PS->KS->Prop)}(H:ASs G A F0 L ts Ws):∀{us:List PV} {xs:List Value} {O:PS} {k:KS} {m:Str->Option Value} {s:Shared} {vs:List PV} {ws:List Value},Vh Ws us O k->Fr F0 L s.heap m->RL G.X F0 L s.heap m O (us++vs) (xs++ws)->xs.length=us.length ->
  ∀{Q:Unit->Shared->Prop} {E:Value->Shared->Prop},(∀σ' m' s',k σ'->zn s s'->Fr F0 L s'.heap m'->RL G.X F0 L s'.heap m' σ' vs ws->Q () s')->wpAny (model G.prog G.w) A (assignInOrder ts xs) Q E s:=by
 induction H with
 | nil =>
  intro us xs O k m s vs ws h F R hl Q E hq
  induction us with
  | cons=>exact False.elim h
  | nil =>
   induction xs with
   | cons=>exact nomatch hl
   | nil=>exact assignInOrder_nil (hq O m s h (zn.refl _) F R)
 | cons hT hTs ih =>
  intro us xs O k m s vs ws h F R hl Q E hq
  induction us with
  | nil=>exact False.elim h
  | cons u us =>
   induction xs with
   | nil=>exact nomatch hl
   | cons x xs =>
    refine assignInOrder_cons (hT h F (vs:=us++vs) (ws:=xs++ws) R λF1 G3 F8 F6 F9 G0 G1=>ih F6 G0 G1 (Nat.succ.inj hl) λF5 G2 F7 G4 G6 G9 G8=>hq F5 G2 F7 G4 (F9.trans G6) G9 G8)
noncomputable def jm(O:PS):PV->Option (List PV)
 | .tup us=>some us
 | .ls us=>some us
 | .il xs=>some (xs.map .int)
 | _=>none
noncomputable def jD:PV->Bool
 | .tup _=>true
 | _=>false
theorem Ye{frz:List (Addr×Obj)}{items:List Value}{xs:List Int}(h:IntsAre items xs):VRs ρ frz (xs.map .int) items:=by
 induction h with
 | nil=>exact VRs.nil
 | cons n t _ ih=>exact VRs.cons (jo n t _ _) ih
theorem VR.seq{frz:List (Addr×Obj)}{v:PV}{w:Value}{items:List PV}(hv:VR ρ frz v w)(e:jm O v=some items):∃x vals n,w=.ref x/\(x,(cond (jD v) (j4 vals n) (listOf vals.toArray n):Obj))∈frz/\VRs ρ frz items vals:=by
 cases v with
 | tup us=>cases e;refine yp hv λb vals n Gf hm hi=>?_;subst Gf;exact(yW b vals n rfl hm hi)
 | ls us=>cases e;refine yp hv λb vals n Fz hm hi=>?_;subst Fz;exact(yW b vals n rfl hm hi)
 | il xs=>cases e;refine yp hv λb vals n Fy hm hi=>?_;subst Fy;exact(yW b vals n rfl hm (Ye hi))
 | _=>cases e
def bN(Ws:List (PV->PS->KS->Prop))(v:PV)(O:PS)(k:KS):Prop:=opt (jm O v) λus=>cond (Nat.beq us.length Ws.length) (Vh Ws us O k) False
theorem zZ:∀{Ff:List Expr},Ff.all zK=true->assignEach Ff env=Ff.map λt=>(false,assign t env)
 | [],_=>rfl
 | e::Ff,h=>by
  simp only[List.all_cons,Bool.and_eq_true] at h
  have:=zZ h.2
  cases e<;>first | (show(false,_)::assignEach Ff env=_;rw[this];rfl) | cases h.1
theorem Yv{t:Addr}{items:List Value}{n:Nat}{l:List (Addr×Obj)}(N:News F0 L h l)(hm:(t,j4 items n)∈l):IsTup h t items.toArray:=⟨_,(N _ hm).1,rfl,n,rfl⟩
theorem ASs.len{ts:List (Value->Sem Unit)}{Ws:List (PV->PS->KS->Prop)}(H:ASs G A F0 L ts Ws):ts.length=Ws.length:=by
 induction H with
 | nil=>rfl
 | cons _ _ ih=>simp[ih]
theorem dY{kd:Nat}{Ws:List (PV->PS->KS->Prop)}(hh:A.handled=none)(hst:Ff.all zK=true)(H:ASs G A F0 L (Ff.map λt=>assign t env) Ws):AS G A F0 L (assign (.Tuple Ff kd pos) env) (bN Ws):=by
 intro v w O k m s vs ws h F R Q E hq;have hm:(assignEach Ff env).map (·.2)=Ff.map λt=>assign t env:=by rw[zZ hst,List.map_map];rfl
 have hl1:(assignEach Ff env).length=Ws.length:=by rw[zZ hst,List.length_map];have:=H.len;simpa using this
 have hs:(assignEach Ff env).findIdx? (·.1)=none:=by
  rw[zZ hst,List.findIdx?_eq_none_iff];intro x hx;obtain⟨t,_,rfl⟩:=List.mem_map.mp hx;rfl
 obtain⟨us,e,g⟩:=zu h;clear h;obtain⟨hb,h⟩:=zS g;clear g;have hb:=Nat.eq_of_beq_eq_true hb;obtain⟨ρ,led,frz,q,hv⟩:=R.top1;obtain⟨t,items,n,rfl,hmem,hv⟩:=hv.seq e;have hlen:=hv.length;have q1:=q.pop;have fin:∀{h':Heap} {tk:Nat},Fr F0 L h' m->News F0 L h' ((led++frz)++G.X.ps)->wpAny (model G.prog G.w) A (assignInOrder ((assignEach Ff env).map (·.2)) items) Q E { s with heap:=h',toks:=tk }:=λF' N'=>by
  rw[hm];exact V9 H (us:=us) (xs:=items) (vs:=vs) (ws:=ws) h F' (zm ρ led frz ⟨q1.hr,N',q1.nd,q1.off,q1.offp,q1.kept,q1.loc,hv.append q1.stk⟩) hlen λF5 G2 F7 G4 G6 G9 G8=>hq F5 G2 F7 G4 ⟨G6.1,G6.2.1,G6.2.2⟩ G9 G8
 cases ht:jD v with
 | true =>
  rw[ht] at hmem;exact assign_Tuple_tuple hh (Yv q.news (List.mem_append_right _ hmem)) (by rw[hl1,List.size_toArray,hlen,hb]) hs λh' he=>fin (tk:=s.toks) (F.extBut he (Nat.le_refl _)) (q.all.extBut he (Nat.le_refl _))
 | false =>
  rw[ht] at hmem;exact kun_list F q.all (jM q.news (List.mem_append_right _ hmem)) hh (by rw[hl1,List.size_toArray,hlen,hb]) hs λh' F' N'=>fin (tk:=s.toks) F' N'
end
variable {Wt:PV->PS->KS->Prop}
structure RB(X:Cx)(m:Str->Option Value)(O:PS)(vs:List PV)(ws:List Value)(ρ:List Addr)(led frz:List (Addr×Obj)):Prop where
 hr:HR X ρ frz O.hp ρ led
 nd:(led.map (·.1)).Nodup
 off:∀p∈frz,∀q∈led,p.1≠q.1
 offp:∀p∈X.ps,∀q∈led++frz,p.1≠q.1
 kept:(∀p∈X.ks,p∈frz) /\ ∀p∈X.cl,ρ[p.1]?=some p.2
 loc:∀k v,lk k O.loc=some v->∃w,m (X.nm k)=some w/\VR ρ frz v w
 stk:VRs ρ frz vs ws
section
variable {X:Cx}{m:Str->Option Value}{vs:List PV}{ws:List Value}{frz:List (Addr×Obj)}
theorem RW.rb(q:RW X F0 L h m O vs ws ρ led frz):RB X m O vs ws ρ led frz:=⟨q.hr,q.nd,q.off,q.offp,q.kept,q.loc,q.stk⟩
theorem RB.rw(q:RB X m O vs ws ρ led frz)(N:News F0 L h ((led++frz)++X.ps)):RW X F0 L h m O vs ws ρ led frz:=⟨q.hr,N,q.nd,q.off,q.offp,q.kept,q.loc,q.stk⟩
theorem RB.into{its:List (Addr×Obj)}(q:RB X m O vs ws ρ led frz)(ho:∀p∈its,∀y∈led++frz,p.1≠y.1)(hk:∀p∈keep,p∈frz):RB (X.pil (its++X.ps,keep++X.ks)) m O vs ws ρ led frz:=
 ⟨q.hr.pil,q.nd,q.off,λp hp y hy=>by
  rcases List.mem_append.mp hp with hp | hp
  ·exact ho p hp y hy
  ·exact q.offp p hp y hy,⟨λp hp=>by
  rcases List.mem_append.mp hp with hp | hp
  ·exact hk p hp
  ·exact q.kept.1 p hp,q.kept.2⟩,q.loc,q.stk⟩
theorem RB.out{its:List (Addr×Obj)}(q:RB (X.pil (its++X.ps,keep++X.ks)) m O vs ws ρ led frz):RB X m O vs ws ρ led frz/\(∀p∈its,∀y∈led++frz,p.1≠y.1) /\ ∀p∈keep,p∈frz:=
 ⟨⟨q.hr.unpil,q.nd,q.off,λp hp=>q.offp p (List.mem_append_right _ hp),⟨λp hp=>q.kept.1 p (List.mem_append_right _ hp),q.kept.2⟩,q.loc,q.stk⟩,λp hp=>q.offp p (List.mem_append_left _ hp),λp hp=>q.kept.1 p (List.mem_append_left _ hp)⟩
end
theorem AllObj.intro:∀{ws:List (Addr×String)} {k:List (Addr×Obj)->Prop},(∀its,Objs ws its->k its)->AllObj ws k
 | [],k,h=>h [] trivial
 | w::ws,k,h=>λo ho=>AllObj.intro λits hi=>h ((w.1,o)::its) ⟨⟨rfl,ho⟩,hi⟩
theorem k6{l:List (Addr×Obj)}(h:∀p∈keep,p∈l):SubL keep l:=by
 induction keep with
 | nil=>trivial
 | cons p r ih=>exact⟨h p (.head _),ih λq hq=>h q (.tail _ hq)⟩
noncomputable def qn(Wt:PV->PS->KS->Prop)(Wb:PS->KF->Prop):List PV->PS->KF->Prop
 | [],O,k=>k .next O
 | v::r,O,k=>Wt v O λF1=>Wb F1 λf F5=>match f with
  | .next=>qn Wt Wb r F5 k
  | .brk=>k .next F5
  | .ret u=>k (.ret u) F5
section
variable {A:Around}{m:Str->Option Value}{vs:List PV}{ws:List Value}{E:Value->Shared->Prop}
def dP(G:Gam)(A:Around)(F0:Heap)(env:Env)(target:Expr)(Wt:PV->PS->KS->Prop)(v:PV)(us:List PV)(xs:List Value)(a:Itm):Prop:=
 ∀(pn:Pl) {O:PS} {k:KS} {m:Str->Option Value} {s:Shared} {u:Value} {vs:List PV} {ws:List Value},Wt v O k->a.Is u s.heap->Fr F0 env.locals s.heap m->RL (G.X.pil pn) F0 env.locals s.heap m O (us++vs) (xs++ws) ->
  ∀{Q:Unit->Shared->Prop} {E:Value->Shared->Prop},(∀σ' m' s',k σ'->zn s s'->Fr F0 env.locals s'.heap m'->RL (G.X.pil pn) F0 env.locals s'.heap m' σ' vs ws->Q () s')->wpAny (model G.prog G.w) A (assign target env u) Q E s
inductive TurnsOk(G:Gam)(A:Around)(F0:Heap)(env:Env)(target:Expr)(Wt:PV->PS->KS->Prop):List PV->List PV->List Value->List Itm->Prop
 | nil:TurnsOk G A F0 env target Wt [] [] [] []
 | cons {v r us xs us' xs' a r'}:us.length=xs.length->dP G A F0 env target Wt v us xs a->TurnsOk G A F0 env target Wt r us' xs' r'->TurnsOk G A F0 env target Wt (v::r) (us++us') (xs++xs') (a::r')
set_option tactic.hygienic true in
theorem K7{body:List Stmt}{Q:Flow->Shared->Prop}{zs:List (Addr×String)}{k:KF}
  (hb:∀pn,SS (G.pil pn) A F0 env.locals (execs body env) Wb) (hq:FCont G F0 env.locals s vs ws k Q) (hz:∀p∈G.X.ps,p.1∉zs.map (·.1)) :
  ∀{items us:List PV} {xs:List Value} {as:List Itm},TurnsOk G A F0 env target Wt items us xs as->∀{O:PS} {m:Str->Option Value} {ρ:List Addr} {led frz:List (Addr×Obj)},qn Wt Wb items O k->RB G.X m O (us++vs) (xs++ws) ρ led frz ->
   (∀p∈led++frz,p.1∉zs.map (·.1))->(∀p∈keep,p∈frz)->ItemsRest G.prog G.w A E F0 env target body Q s zs keep as m ((led++frz)++G.X.ps):=by
 intro items us xs as H
 induction H with
 | nil =>
  intro O m ρ led frz h q ho hk;intro h' tk F N;exact hq.next O m _ h zn.mk' F (zm ρ led frz (q.rw N))
 | cons hlen hT hTs ih =>
  rename_i v r us xs us' xs' a r'
  intro O m ρ led frz h q ho hk;intro u h' tk hIs F;refine AllObj.intro λits hits N=>?_;have hadr:its.map (·.1)=zs.map (·.1):=hits.map;have hoff:∀p∈its,∀y∈led++frz,p.1≠y.1:=λp hp y hy e=>ho y hy (hadr▸e▸List.mem_map_of_mem hp)
  have q':=q.into (its:=its) (keep:=keep) hoff hk;have N':News F0 env.locals h' ((led++frz)++(its++G.X.ps)):=λp hp=>N p (by
   simp only[List.mem_append] at hp ⊢
   rcases hp with (h | h) | h | h
   ·exact .inr (.inl (.inl h))
   ·exact .inr (.inl (.inr h))
   ·exact .inl h
   ·exact .inr (.inr h))
  have R:RL (G.X.pil (its++G.X.ps,keep++G.X.ks)) F0 env.locals h' m O (us++(us'++vs)) (xs++(xs'++ws)):=(zm ρ led frz (by simpa only[List.append_assoc] using q'.rw (F0:=F0) (L:=env.locals) (h:=h') N'))
  refine hT (its++G.X.ps,keep++G.X.ks) (s:={ s with heap:=h',toks:=tk }) h hIs F R λF1 G3 F8 F6 F9 G0 G1=>?_
  have drop:∀{σ':PS} {m':Str->Option Value} {s':Shared} {vz:List PV} {wz:List Value} {us':List PV} {xs':List Value},xs'.length=us'.length->RL (G.X.pil (its++G.X.ps,keep++G.X.ks)) F0 env.locals s'.heap m' σ' (us'++vz) (xs'++wz)->RL G.X F0 env.locals s'.heap m' σ' vz wz:=by
   intro σ' m' s' vz wz us' xs' hl R';refine zi R' λρ' led' frz' w'=>?_;refine yn w'.rb.out λb1 b2 b3=>?_;refine zr b1.stk.split λx1 x2 e12 s1 s2=>?_;have el:=List.append_inj e12.symm (by rw[s1.length,hl])
   refine zh el λFy Fz=>?_;subst Fy;subst Fz;exact⟨ρ',led',frz',b1.hr,λp hp=>w'.all p (by
    show p∈(led'++frz')++(its++G.X.ps);simp only[List.mem_append] at hp ⊢
    rcases hp with h | h
    ·exact .inl h
    ·exact .inr (.inr h)),b1.nd,b1.off,b1.offp,b1.kept,b1.loc,s2⟩
  have hlen':xs'.length=us'.length:=by
   have l1:=q.stk.length;refine zr q.stk.split λZ Z e s1 s2=>?_;have hl2:(us++us').length=(xs++xs').length:=by
    clear ih h hT R q' q l1 e s1 s2
    have:=hTs
    have key:∀{items us:List PV} {xs:List Value} {as:List Itm},TurnsOk G A F0 env target Wt items us xs as->us.length=xs.length:=by
     intro i u x a t
     induction t with
     | nil=>rfl
     | cons h _ _ ih=>simp[h,ih]
    simp[hlen,key hTs]
   simp only[List.length_append] at hl2
   lia
  refine hb (its++G.X.ps,keep++G.X.ks) F6 G0 G1 ⟨λF5 G2 F7 G4 G6 G9 G8=>?_,λF5 G2 F7 G4 G6 G9 G8=>?_,λu L8 F5 G2 F7 G4 G6 G9 G8=>?_⟩
  ·refine zi G8 λρ' led' frz' w'=>?_
   refine yn w'.rb.out λb1 b2 b3=>?_;have hz':∀p∈led'++frz',p.1∉zs.map (·.1):=λp hp hm=>by
    rw[<- hadr] at hm;refine zd (List.mem_map.mp hm) λz hz e=>?_;exact b2 z hz p hp e
   refine(zm F7.heap F7.toks G2 (Kn ((led'++frz')++G.X.ps) ?_ G9 (λp hp=>w'.all p ?_) ⟨λp hp z hz'=>?_,k6 λp hp=>?_,?_⟩))
   ·obtain⟨a,b,c,d,e⟩:=F7
    refine yn (F9.trans G6) λr1 r2 r3=>?_
    simp only at r1 r2 r3;subst r1 r2 r3;rfl
   ·show p∈(led'++frz')++(its++G.X.ps)
    simp only[List.mem_append] at hp ⊢
    rcases hp with h | (h | h) | h
    ·exact .inr (.inl h)
    ·exact .inl (.inl h)
    ·exact .inl (.inr h)
    ·exact .inr (.inr h)
   ·rcases List.mem_append.mp hp with hp | hp
    ·exact λe=>b2 z hz' p hp e.symm
    ·exact λe=>hz p hp (hadr▸e▸List.mem_map_of_mem hz')
   ·exact List.mem_append_left _ (List.mem_append_right _ (b3 p hp))
   ·exact ih G4 b1 hz' b3
  ·exact hq.next F5 G2 F7 G4 ⟨(F9.trans G6).1,(F9.trans G6).2.1,(F9.trans G6).2.2⟩ G9 (drop hlen' G8)
  ·have H7:RL (G.X.pil (its++G.X.ps,keep++G.X.ks)) F0 env.locals F7.heap G2 F5 (us'++(u::vs)) (xs'++(L8::ws)):=G8.stack λρ' frz' q3=>by
    refine zr q3.cons_inv λZ Z e a1 t1=>?_
    cases e
    refine zr t1.split λx1 x2 e12 s1 s2=>?_;obtain⟨rfl,rfl⟩:=List.append_inj e12.symm (by rw[s1.length,hlen'])
    exact s1.append (VRs.cons a1 s2)
   exact hq.ret u L8 F5 G2 F7 G4 ⟨(F9.trans G6).1,(F9.trans G6).2.1,(F9.trans G6).2.2⟩ G9 (drop hlen' H7)
end
section
variable {prog:Program}{w:World}{A:Around}{E:Value->Shared->Prop}{body:List Stmt}{Q:Flow->Shared->Prop}
theorem Q5{x left step:Int}{v:Value}{Q':Unit->Shared->Prop}(hit:IsRangeIter s'.heap I x left step)(h:Q' () s'):wpAny (model prog w) A (letOwnedTupleGo target (.ref I) v) Q' E s':=by
  unfold letOwnedTupleGo
  cases target<;>first
    | exact wpAny_pure h
    | (induction v<;>first
        | exact wpAny_pure h
        | (refine wpAny_bind (wpAny_load hit ?_)
           exact wpAny_pure h))
noncomputable def jF(c a:Int):Nat->List Itm
 | 0=>[]
 | n+1=>.tok (λt=>.int a t)::jF c (a+c) n
theorem qh(c:Int):∀(n:Nat) (a:Int),(jF c a n).length=n
 | 0,_=>rfl
 | n+1,a=>by simp[jF,qh c n]
theorem Jw(c:Int):∀(n:Nat) (a:Int) (i:Nat),i<n->(jF c a n)[i]?=some (.tok λt=>.int (a+i*c) t)
 | 0,_,_,h=>by lia
 | n+1,a,0,_=>by simp[jF]
 | n+1,a,i+1,h=>by
  rw[jF,List.getElem?_cons_succ,Jw c n (a+c) i (by lia)]
  congr 2;funext t;congr 1;push_cast;rw[Int.add_mul];lia
theorem Q4{r:Addr}{O9 S1 c:Int}{t₀ u₀ v₀:Tok}{n:Nat}{m₀:Str->Option Value}{news:List (Addr×Obj)}
  (hh:A.handled=none) (hr:IsRange s.heap r O9 S1 c t₀ u₀ v₀) (hsmall:Builtin.Range.small O9 S1 c=true) (hn:Builtin.Range.rangeSize O9 S1 c=(n:Int)) (F:Fr F0 env.locals s.heap m₀) (N:News F0 env.locals s.heap news)
  (rest₀:∀I:Addr,(∀p∈news,p.1<I)->ItemsRest prog w A E F0 env target body Q s [(I, "range_iterator")] [] (jF c O9 n) m₀ news) :
  wpAny (model prog w) A (pyIter (.ref r)) (λit F7=>TurnsAt prog w A F0 env target body Q E it F7) E s:=by
 refine wpAny_pyIter_range hr hsmall ?_;refine ktu_core (tk0:=s.toks) (keep:=[]) (KTurns.ofWalks (Walks.range hh s.heap.objs.size O9 c n).bound λi v s Q E st q=>Q5 st q) (by rw[qh]) (λi v h hp=>?_) (λi h st=>?_) (λb hb=>?_) (λb hb=>by simpa using hb) (λb hb=>?_) ?_ (λp hp hI=>?_) ?_ (F.push _) (λp hp=>⟨Heap.get?_push_of_some _ (N p hp).1,(N p hp).2⟩) trivial (rest₀ _ λp hp=>Heap.lt_size (N p hp).1)
 ·obtain⟨hi,t,rfl⟩:=hp
  exact(zv _ (Jw c n O9 i hi) ⟨t,rfl⟩)
 ·exact(zv ([(s.heap.objs.size,_)]) ⟨⟨rfl,rfl⟩,trivial⟩ (λp hp=>by rw[List.mem_singleton.mp hp];exact st))
 ·have hb':b=s.heap.objs.size:=by simpa using hb
  rw[hb'];exact⟨List.mem_cons_self ..,next_is_new F⟩
 ·exact .inl (by simpa using hb)
 ·intro hI
  exact absurd F.ns.lt ((List.mem_singleton.mp hI)▸Nat.lt_irrefl _)
 ·exact absurd (Heap.lt_size (N p hp).1) ((List.mem_singleton.mp hI)▸Nat.lt_irrefl _)
 ·show IsRangeIter _ _ _ _ _;rw[hn];simpa using Heap.get?_push_size _ rfl
end
section
variable {A:Around}{m:Str->Option Value}{vs:List PV}{ws:List Value}{E:Value->Shared->Prop}
theorem Z8{t:Sem Flow}{Q:Flow->Shared->Prop}(h:wpAny (model G.prog G.w) A t Q (λZ Z=>False) s):wpAny (model G.prog G.w) A t Q E s:=wpAny_mono h (λZ Z x=>x) λZ Z x=>x.elim
theorem QJ{target:Expr}{Wt:PV->PS->KS->Prop}(hT:∀pn,AS (G.pil pn) A F0 env.locals (assign target env) Wt):∀{items:List PV} {vals:List Value},vals.length=items.length->TurnsOk G A F0 env target Wt items items vals (vals.map .val)
 | [],[],_=>.nil
 | [],_::_,h=>by simp at h
 | _::_,[],h=>by simp at h
 | v::items,x::vals,h=>by
  refine TurnsOk.cons (us:=[v]) (xs:=[x]) rfl ?_ (QJ hT (by simpa using h))
  intro pn O k m s u vs ws hw hI F R Q E hq;obtain rfl:u=x:=hI;exact hT pn hw F R hq
noncomputable def jh(a:Int):Nat->List PV
 | 0=>[]
 | n+1=>.int a::jh (a+1) n
noncomputable def UE(c a:Int):Nat->List PV
 | 0=>[]
 | n+1=>.int a::UE c (a+c) n
theorem Qy:∀(n:Nat) (a:Int),jh a n=UE 1 a n
 | 0,_=>rfl
 | n+1,a=>congrArg (_ :: ·) (Qy n (a+1))
theorem QX{target:Expr}{Wt:PV->PS->KS->Prop}(hT:∀pn,AS (G.pil pn) A F0 env.locals (assign target env) Wt)(c:Int):∀(n:Nat) (a:Int),TurnsOk G A F0 env target Wt (UE c a n) [] [] (jF c a n)
 | 0,_=>.nil
 | n+1,a=>by
  refine TurnsOk.cons (us:=[]) (xs:=[]) rfl ?_ (QX hT c n (a+c));intro pn O k m s u vs ws hw hI F R Q E hq;obtain⟨t,rfl⟩:=hI;exact hT pn hw F (R.push (jo a t)) hq
def JZ(Ws:List (PV->PS->KS->Prop))(v:PV)(O:PS)(k:KS):Prop:=match v with
 | .tup us=>Vh Ws us O k
 | _=>False
theorem de{kd:Nat}{Ws:List (PV->PS->KS->Prop)}{f:Tok->Value}{x:Value}{a b:PV}{us:List PV}{xs:List Value}(hh:A.handled=none)(hst:Ff.all zK=true)(hl:Ff.length=2)(H:∀pn,ASs (G.pil pn) A F0 env.locals (Ff.map λt=>assign t env) Ws)(hu:xs.length=us.length)
  (hv:∀t ρ frz,VRs ρ frz us xs->VR ρ frz a (f t)/\VR ρ frz b x):dP G A F0 env (.Tuple Ff kd pos) (JZ Ws) (.tup [a,b]) us xs (.pair f x):=by
 intro pn O k m s u vs ws hw hI F R Q E hq;refine yo hI λT t Fz ht=>?_;subst Fz;have hm:(assignEach Ff env).map (·.2)=Ff.map λt=>assign t env:=by rw[zZ hst,List.map_map];rfl
 have hs:(assignEach Ff env).findIdx? (·.1)=none:=by
  rw[zZ hst,List.findIdx?_eq_none_iff];intro x hx;refine zd (List.mem_map.mp hx) λt Z Fy=>?_;subst Fy
  rfl
 refine assign_Tuple_tuple hh ht (by rw[zZ hst,List.length_map,hl];rfl) hs λh' he=>?_
 rw[hm];refine byc λGa=>?_;refine zi R λρ led frz q=>?_;have N':News F0 env.locals h' ((led++frz)++(G.X.pil pn).ps):=q.all.extBut he (Nat.le_refl _);refine zr q.stk.split λx1 x2 e12 s1 s2=>?_;refine Ga ?_;obtain⟨rfl,rfl⟩:=List.append_inj e12.symm (by rw[s1.length,hu])
 refine zh (hv t ρ frz s1) λv1 v2=>?_;exact V9 (H pn) (us:=[a,b]) (xs:=[f t,x]) (vs:=vs) (ws:=x2) hw (F.extBut he (Nat.le_refl _)) (zm ρ led frz ⟨q.hr,N',q.nd,q.off,q.offp,q.kept,q.loc,VRs.cons v1 (VRs.cons v2 s2)⟩) rfl λF5 G2 F7 G4 G6 G9 G8=>hq F5 G2 F7 G4 ⟨G6.1,G6.2.1,G6.2.2⟩ G9 G8
noncomputable def J3(i:Nat):List PV->List PV
 | []=>[]
 | v::r=>.tup [.int i,v]::J3 (i+1) r
noncomputable def U1:List PV->List PV->List PV
 | a::r,b::q=>.tup [a,b]::U1 r q
 | _,_=>[]
theorem UY{Ff:List Expr}{kd:Nat}{pos:Pos}{Ws:List (PV->PS->KS->Prop)}(hh:A.handled=none)(hst:Ff.all zK=true)(hl:Ff.length=2)(H:∀pn,ASs (G.pil pn) A F0 env.locals (Ff.map λt=>assign t env) Ws):
  ∀{items:List PV} {vals:List Value} {i:Nat},vals.length=items.length->TurnsOk G A F0 env (.Tuple Ff kd pos) (JZ Ws) (J3 i items) items vals (enumItems i vals)
 | [],[],_,_=>.nil
 | [],_::_,_,h=>by simp at h
 | _::_,[],_,h=>by simp at h
 | v::items,x::vals,i,h=>by
  refine TurnsOk.cons (us:=[v]) (xs:=[x]) rfl (de hh hst hl H rfl λt ρ frz hv=>?_) (UY hh hst hl H (by simpa using h))
  refine zr hv.cons_inv λZ Z e a Z=>?_
  cases e
  exact⟨jo _ _ _ _,a⟩
end
noncomputable def Xm:Expr->Bool
 | .Set ..=>false
 | _=>true
section
variable {A:Around}{m:Str->Option Value}{vs:List PV}{ws:List Value}{E:Value->Shared->Prop}
theorem Vl(h:Xm iter=true)(x:Value):foldedSetIterable iter env x=pure x:=by
 cases iter<;>first | rfl | cases h
structure SeqF(G:Gam)(F0:Heap)(L:Addr)(h:Heap)(m:Str->Option Value)(O:PS)(vs:List PV)(ws:List Value)(items:List PV)(tp:Bool)(x:Addr)(vals:List Value)(n:Nat)(ρ:List Addr)(led frz:List (Addr×Obj)):Prop where
 rw:RW G.X F0 L h m O vs ws ρ led frz
 mem:(x,(cond tp (j4 vals n) (listOf vals.toArray n):Obj))∈frz
 vals:VRs ρ frz items vals
theorem RL.seq{a:PV}{wa:Value}{items:List PV}(R:RL G.X F0 L h m O (a::vs) (wa::ws))(e:jm O a=some items):∃x vals n ρ led frz,SeqF G F0 L h m O vs ws items (jD a) x vals n ρ led frz/\wa=.ref x:=by
 refine byc λGa=>?_;refine jc R.top1 λρ led frz q hv=>?_;refine Ga ?_;refine yp (hv.seq e) λx vals n Fy hm hi=>?_;subst Fy;exact(zm x vals n (JW ρ led frz ⟨q.pop,hm,hi⟩ rfl))
def aM(We:PS->KE->Prop)(Wt:PV->PS->KS->Prop)(Wb:PS->KF->Prop)(O:PS)(k:KF):Prop:=We O λa F1=>opt (jm F1 a) λitems=>qn Wt Wb items F1 k
theorem dp{body:List Stmt}(hh:A.handled=none)(he:ES G A F0 env.locals (eval iter env) We)(hT:∀pn,AS (G.pil pn) A F0 env.locals (assign target env) Wt)(hb:∀pn,SS (G.pil pn) A F0 env.locals (execs body env) Wb)(hi:Xm iter=true):
  SS G A F0 env.locals (exec (.For target iter body [] pos) env) (aM We Wt Wb):=by
 intro O k m s vs ws h F R Q E hq;refine Z8 (For_turns F (he h F R λa F1 G3 I6 F8 F6 F9 G0 G1=>?_) (Vl hi) PassesOwn.never);refine zd (zu F6) λitems e F6=>?_;refine zi (G1.seq e) λx vals n Gb=>jc Gb λρ led frz I Fy=>?_;subst Fy;have hlen:=I.vals.length;have q:=I.rw;have q':RB G.X G3 F1 (items++vs) (vals++ws) ρ led frz:=⟨q.hr,q.nd,q.off,q.offp,q.kept,q.loc,I.vals.append q.stk⟩;have hm:(x,(cond (jD a) (j4 vals n) (listOf vals.toArray n):Obj))∈(led++frz)++G.X.ps:=List.mem_append_left _ (List.mem_append_right _ I.mem)
 cases ht:jD a with
 | false =>
  rw[ht] at hm;have hk:=I.mem;rw[ht] at hk;refine iter_listTurns hh G0 q.all hm rfl rfl λJ lt=>?_
  exact K7 hb (hq.after F9) (λp hp hz=>by simp at hz;exact Nat.lt_irrefl _ (hz▸lt p (List.mem_append_right _ hp))) (QJ hT hlen) F6 q'
   (λp hp hz=>by simp at hz;exact Nat.lt_irrefl _ (hz▸lt p (List.mem_append_left _ hp))) (λp hp=>by rw[List.mem_singleton.mp hp];exact hk)
 | true =>
  rw[ht] at hm;have hk:=I.mem;rw[ht] at hk;refine iter_tupTurns hh G0 q.all hm rfl rfl λJ lt=>?_
  exact K7 hb (hq.after F9) (λp hp hz=>by simp at hz;exact Nat.lt_irrefl _ (hz▸lt p (List.mem_append_right _ hp))) (QJ hT hlen) F6 q'
   (λp hp hz=>by simp at hz;exact Nat.lt_irrefl _ (hz▸lt p (List.mem_append_left _ hp))) (λp hp=>by rw[List.mem_singleton.mp hp];exact hk)
structure BltOk(G:Gam)(x:Nat)(v:Value):Prop where
 hv:bootBuiltins (G.X.nm x)=some v
 h1:G.X.nm x∉startupNames
 h2:G.X.nm x∉G.loose
 h3:G.X.nm x∉(recsOf G.p).map (·.name)
 h4:G.X.nm x∉(litsOf G.p).map (·.1)
 h4c:G.X.nm x∉(clssOf G.p G.loose).map (·.name)
 hn:G.X.nm x ≠ "__name__"
 hd:(G.X.nm x==("__debug__" : Str))=false
theorem YF{v:Value}{d:Nat}(ok:BltOk G x v)(D:Act G outer F0 env' A d)(V:EnvG env)(hx:env.kindOf (G.X.nm x)=some .globalImplicit)
  (F:Fr F0 L s.heap m) (h:Q v s):wpAny (model G.prog G.w) A (eval (.Name (G.X.nm x) pos) env) Q E s:=Dd V F D.T.g (D.T.free _ ok.h1 ok.h2 ok.h3 ok.h4 ok.h4c) D.T.b ((D.T.builtins _ ok.hn).trans ok.hv) h hx ok.hd
theorem Jm{id:String}{d:Nat}{Wo:List PV->PS->KE->Prop}(ok:BltOk G x (.builtin id))(D:Act G outer F0 env' A d)(V:EnvG env)(hx:env.kindOf (G.X.nm x)=some .globalImplicit)
  (ha:EL G A F0 L env pos args Wa) (hst:args.all zK=true) (hne:args.isEmpty=false)
  (ho:∀{us:List PV} {xs:List Value} {O:PS} {k:KE} {m:Str->Option Value} {s:Shared} {vs:List PV} {ws:List Value},Wo us O k->Fr F0 L s.heap m->RL G.X F0 L s.heap m O (us.reverse++vs) (xs.reverse++ws)->xs.length=us.length->∀{Q:Value->Shared->Prop} {E:Value->Shared->Prop},j6 G F0 L m s vs ws k Q->wpAny (model G.prog G.w) A (call (.builtin id) xs) Q E s) :
  ES G A F0 L (eval (.Call (.Name (G.X.nm x) np) args [] pos) env) (λO k=>Wa O λus F1=>Wo us F1 k):=by
 intro O k m s vs ws h F R Q E hq;refine Call_Name rfl (YF ok D V hx F ?_)
 induction args with
 | nil=>cases hne
 | cons e es =>
  simp only[List.all_cons,Bool.and_eq_true] at hst;refine callWith_builtin1 (ha h F R λus F1 G3 xs F8 F6 F9 G0 G1 hl=>?_) (jj hst.1) (yS hst.2).2;exact ho F6 G0 G1 hl λv σ' m' w' s' a b c d=>hq v σ' m' w' s' a (F9.trans b) c d
def one(us:List PV)(k:PV->Prop):Prop:=match us with | []=>False | a::r=>match r with | []=>k a | _::_=>False
def two(us:List PV)(k:PV->PV->Prop):Prop:=match us with | []=>False | a::r=>one r (k a)
def mU(us:List PV)(O:PS)(k:KE):Prop:=one us λa=>A4 a O k
def pj(us:List PV)(O:PS)(k:KE):Prop:=one us λa=>CI a O k
def mxB(big:Bool)(us:List PV)(O:PS)(k:KE):Prop:=two us λa b=>mxW big a b O k
theorem cJ{xs:List α}(h:xs.length=1):∃a,xs = [a]:=by
 induction xs with
 | nil=>simp at h
 | cons a r=>induction r with
  | nil=>exact⟨a,rfl⟩
  | cons=>simp at h
theorem mT{xs:List α}(h:xs.length=2):∃a b,xs = [a,b]:=by
 cases xs with
 | nil=>simp at h
 | cons a r =>
  obtain⟨b,rfl⟩:=cJ (xs:=r) (by simpa using h)
  exact(Jo a b rfl)
theorem uj{xs:List α}(h:xs.length=3):∃a b c,xs = [a,b,c]:=by
 cases xs with
 | nil=>simp at h
 | cons a r =>
  obtain⟨b,c,rfl⟩:=mT (xs:=r) (by simpa using h)
  exact(zm a b c rfl)
theorem y3{us:List PV}{xs:List Value}{k:PV->Prop}(h:one us k)(hl:xs.length=us.length):∃a w,us = [a]/\xs = [w]/\k a:=by
 cases us with
 | nil=>exact False.elim h
 | cons a r =>
  cases r with
  | cons=>exact False.elim h
  | nil=>obtain⟨w,rfl⟩:=cJ hl;exact(jw a w rfl rfl h)
theorem kH{us:List PV}{xs:List Value}{k:PV->PV->Prop}(h:two us k)(hl:xs.length=us.length):∃a b w x,us = [a,b]/\xs = [w,x]/\k a b:=by
 cases us with
 | nil=>exact False.elim h
 | cons a r =>
  cases xs with
  | nil=>cases hl
  | cons w xs=>refine zr (y3 (us:=r) h (Nat.succ.inj hl)) λb x Fy Fz h=>?_;subst Fy;subst Fz;exact(zm a b w (jY x rfl rfl h))
theorem uU{us:List PV}{xs:List Value}{k:KE}(h:mU us O k)(F:Fr F0 L s.heap m)(R:RL G.X F0 L s.heap m O (us.reverse++vs) (xs.reverse++ws))(hl:xs.length=us.length)(hq:j6 G F0 L m s vs ws k Q):wpAny (model G.prog G.w) A (call (.builtin "len") xs) Q E s:=by
 refine zr (y3 h hl) λa w Fy Fz g=>?_;subst Fy;subst Fz;exact Bl g F R hq
theorem uW{us:List PV}{xs:List Value}{k:KE}(hh:A.handled=none)(h:pj us O k)(F:Fr F0 L s.heap m)(R:RL G.X F0 L s.heap m O (us.reverse++vs) (xs.reverse++ws))(hl:xs.length=us.length)(hq:j6 G F0 L m s vs ws k Q):wpAny (model G.prog G.w) A (call (.builtin "sum") xs) Q E s:=by
 refine zr (y3 h hl) λa w Fy Fz g=>?_;subst Fy;subst Fz;exact Bu hh g F R hq
theorem Bn{big:Bool}{us:List PV}{xs:List Value}{k:KE}(hh:A.handled=none)(h:mxB big us O k)(F:Fr F0 L s.heap m)(R:RL G.X F0 L s.heap m O (us.reverse++vs) (xs.reverse++ws))(hl:xs.length=us.length)(hq:j6 G F0 L m s vs ws k Q):wpAny (model G.prog G.w) A (call (.builtin (cond big "max" "min")) xs) Q E s:=by
 refine zi (kH h hl) λa b w Gb=>jG Gb λx Fy Fz g=>?_;subst Fy;subst Fz;exact En hh g F R hq
noncomputable def jy(a b:Int):Nat:=(b-a).toNat
def BU(us:List PV)(A1:Int->Prop)(A2:Int->Int->Prop)(A3:Int->Int->Int->Prop):Prop:=match us with
 | []=>False
 | u::r=>match r with
  | []=>yl u A1
  | v::r'=>match r' with
   | []=>yl u λa=>yl v (A2 a)
   | _::_=>one r' λw=>yl u λa=>yl v λb=>yl w (A3 a b)
theorem oy{us:List PV}{A1:Int->Prop}{A2:Int->Int->Prop}{A3:Int->Int->Int->Prop}(h:BU us A1 A2 A3):(∃b,us = [.int b]/\A1 b)∨(∃a b,us = [.int a,.int b]/\A2 a b) ∨ ∃a b c,us = [.int a,.int b,.int c]/\A3 a b c:=by
 cases us with
 | nil=>exact False.elim h
 | cons u r=>cases r with
  | nil=>refine zd (z9 h) λa eZ6 h=>?_;subst eZ6;exact .inl (zv a rfl h)
  | cons v r=>cases r with
   | nil=>refine zd (z9 h) λa Gd g=>?_;subst Gd;refine zd (z9 g) λb Ge h=>?_;subst Ge;exact .inr (.inl (jL a b rfl h))
   | cons w r=>cases r with
    | nil=>refine zd (z9 h) λa Gf g=>?_;subst Gf;refine zd (z9 g) λb Fz g2=>?_;subst Fz;refine zd (z9 g2) λc Fy h=>?_;subst Fy;exact .inr (.inr (JW a b c rfl h))
    | cons _ _=>exact False.elim h
structure RngOk(a b c:Int):Prop where
 small:Builtin.Range.small a b c=true
 size:0<=Builtin.Range.rangeSize a b c
 nz:c≠0
 np:Builtin.divisionGoesByPylong (b-a) c=false
def Vm(Wa:PS->(List PV->PS->Prop)->Prop)(Wt:PV->PS->KS->Prop)(Wb:PS->KF->Prop)(O:PS)(k:KF):Prop:=Wa O λus F1=>BU us
 (λb=>(-(2 ^ 61:Int)<=b/\b<=2 ^ 61)/\qn Wt Wb (jh 0 (jy 0 b)) F1 k)
 (λa b=>(-(2 ^ 61:Int)<=a/\a<=2 ^ 61 /\ -(2 ^ 61:Int)<=b/\b<=2 ^ 61)/\qn Wt Wb (jh a (jy a b)) F1 k)
 (λa b c=>RngOk a b c/\qn Wt Wb (UE c a (Builtin.Range.rangeSize a b c).toNat) F1 k)
theorem Jx{a b:Int}(ha:-(2 ^ 61:Int)<=a)(ha':a<=2 ^ 61)(hb:-(2 ^ 61:Int)<=b)(hb':b<=2 ^ 61):Builtin.Range.small a b 1=true/\Builtin.Range.rangeSize a b 1=(jy a b:Nat):=by
 refine⟨small_one (Int.le_trans (by decide) ha) (Int.lt_of_le_of_lt ha' (by decide)) (Int.le_trans (by decide) hb) (Int.lt_of_le_of_lt hb' (by decide)),?_⟩
 rw[rangeSize_one];unfold jy;clear ha ha' hb hb'
 split<;>lia
theorem JC{T:String}{d:Nat}{k:List PV->PS->Prop}(ok:BltOk G x (.type T))(D:Act G outer F0 env' A d)(V:EnvG env)(hx:env.kindOf (G.X.nm x)=some .globalImplicit)
  (ha:EL G A F0 L env pos args Wa) (hst:args.all zK=true) (hne:args.isEmpty=false) (h:Wa O k) (F:Fr F0 L s.heap m) (R:RL G.X F0 L s.heap m O vs ws)
  (ho:∀us σ' m' xs s',k us σ'->SR m s m' s'->Fr F0 L s'.heap m'->RL G.X F0 L s'.heap m' σ' (us.reverse++vs) (xs.reverse++ws)->xs.length=us.length->wpAny (model G.prog G.w) A (call (.type T) xs) Q E s') :
  wpAny (model G.prog G.w) A (eval (.Call (.Name (G.X.nm x) np) args [] pos) env) Q E s:=by
 refine Call_Name rfl (YF ok D V hx F ?_)
 induction args with
 | nil=>cases hne
 | cons e es =>
  simp only[List.all_cons,Bool.and_eq_true] at hst;exact callWith_type1 (ha h F R λus F1 G3 xs F8 F6 F9 G0 G1 hl=>ho us F1 G3 xs F8 F6 F9 G0 G1 hl) (jj hst.1) (yS hst.2).2
theorem YY{body:List Stmt}{cp:Pos}{d:Nat}(ok:BltOk G x (.type "range"))(D:Act G outer F0 env A d)(V:EnvF env L)(hx:env.kindOf (G.X.nm x)=some .globalImplicit)
  (ha:EL G A F0 L env cp args Wa) (hst:args.all zK=true) (hne:args.isEmpty=false) (hT:∀pn,AS (G.pil pn) A F0 L (assign target env) Wt) (hb:∀pn,SS (G.pil pn) A F0 L (execs body env) Wb) :
  SS G A F0 L (exec (.For target (.Call (.Name (G.X.nm x) np) args [] cp) body [] pos) env) (Vm Wa Wt Wb):=by
 intro O k m s vs ws h F R Q E hq;obtain rfl:=V.loc;refine Z8 (For_turns (env:=env) F (JC ok D V.toEnvG hx ha hst hne h F R λus F1 G3 xs F8 F6 F9 G0 G1 hl=>?_) (λZ=>rfl) PassesOwn.never);have key:∀{lo hi c:Int} {n:Nat} {h':Heap} {tk:Nat} {N4 P5 I4:Tok} {r:Addr} {ρ:List Addr} {led frz:List (Addr×Obj)},Builtin.Range.small lo hi c=true/\Builtin.Range.rangeSize lo hi c=(n:Nat)->qn Wt Wb (UE c lo n) F1 k->IsRange h' r lo hi c N4 P5 I4->Fr F0 env.locals h' G3->News F0 env.locals h' ((led++frz)++G.X.ps)->RB G.X G3 F1 vs ws ρ led frz ->
   wpAny (model G.prog G.w) A (pyIter (.ref r)) (λit F7=>TurnsAt G.prog G.w A F0 env target body Q (λZ Z=>False) it F7) (λZ Z=>False) { F8 with heap:=h',toks:=tk }:=by
  intro lo hi c n h' tk N4 P5 I4 r ρ led frz hs hf hr F' N' q;refine Q4 (env:=env) (s:={ F8 with heap:=h',toks:=tk }) D.hd hr hs.1 hs.2 F' N' λJ lt=>?_
  exact K7 (env:=env) (s:={ F8 with heap:=h',toks:=tk }) hb (hq.after (F9.rest.trans zn.mk')) (λp hp hz=>by simp at hz;exact Nat.lt_irrefl _ (hz▸lt p (List.mem_append_right _ hp))) (QX hT c _ lo) hf q
   (λp hp hz=>by simp at hz;exact Nat.lt_irrefl _ (hz▸lt p (List.mem_append_left _ hp))) (λp hp=>(nomatch hp))
 rcases oy F6 with ⟨b,rfl,F6⟩ | ⟨lo,b,rfl,F6⟩ | ⟨lo,b,c,rfl,F6⟩
 ·refine zI (cJ (xs:=xs) hl) λw0 eZ9=>?_;subst eZ9
  refine zI (RL.int (vs:=vs) (ws:=ws) G1) λt eZ8=>?_;subst eZ8;refine byc λGa=>?_;refine zi (RL.pop (vs:=vs) (ws:=ws) G1) λρ led frz q=>?_;refine Ga ?_;refine range1_rows G0 q.all λh' tk N4 P5 I4 hr F' N' Z=>?_;exact key (Jx (by decide) (by decide) F6.1.1 F6.1.2) (Qy _ _▸F6.2) hr F' N' q.rb
 ·refine UQ (mT (xs:=xs) hl) λw0 w1 eZ7=>?_;subst eZ7
  have N6:RL G.X F0 env.locals F8.heap G3 F1 (.int b::.int lo::vs) (w1::w0::ws):=G1;refine zI N6.int λt eZ6=>?_;subst eZ6;refine zI N6.pop.int λu Gd=>?_;subst Gd;refine byc λGc=>?_;refine zi N6.pop.pop λρ led frz q=>?_;refine Gc ?_;refine range2_rows G0 q.all λh' tk N4 P5 I4 hr F' N' Z=>?_;exact key (Jx F6.1.1 F6.1.2.1 F6.1.2.2.1 F6.1.2.2.2) (Qy _ _▸F6.2) hr F' N' q.rb
 ·refine zi (uj (xs:=xs) hl) λw0 w1 w2 Ge=>?_;subst Ge
  have N6:RL G.X F0 env.locals F8.heap G3 F1 (.int c::.int b::.int lo::vs) (w2::w1::w0::ws):=G1;refine zI N6.int λt Gf=>?_;subst Gf;refine zI N6.pop.int λu Fz=>?_;subst Fz;refine zI N6.pop.pop.int λz Fy=>?_;subst Fy;refine byc λGg=>?_;refine zi N6.pop.pop.pop λρ led frz q=>?_;refine Gg ?_;refine range3_rows G0 q.all F6.1.nz (λh' tk N4 P5 I4 hr F' N' Z=>?_) (.inl F6.1.np);exact key ⟨F6.1.small,(Int.toNat_of_nonneg F6.1.size).symm⟩ F6.2 hr F' N' q.rb
theorem far{zs:List (Addr×String)}{J a:Nat}(h:a<J)(hz:∀z∈zs,J<=z.1):a∉zs.map (·.1):=λhm=>by
 obtain⟨z,hz',rfl⟩:=List.mem_map.mp hm;exact absurd (hz z hz') (Nat.not_le.mpr h)
def X9(Wa:PS->(List PV->PS->Prop)->Prop)(Ws:List (PV->PS->KS->Prop))(Wb:PS->KF->Prop)(O:PS)(k:KF):Prop:=Wa O λus F1=>one us λa=>cond (jD a) False (opt (jm F1 a) λitems=>qn (JZ Ws) Wb (J3 0 items) F1 k)
theorem ZZ{kd:Nat}{body:List Stmt}{cp:Pos}{d:Nat}{Ws:List (PV->PS->KS->Prop)}(ok:BltOk G x (.type "enumerate"))(D:Act G outer F0 env A d)(V:EnvF env L)(hx:env.kindOf (G.X.nm x)=some .globalImplicit)
  (ha:EL G A F0 L env cp args Wa) (hst:args.all zK=true) (hne:args.isEmpty=false) (hts:Ff.all zK=true) (htl:Ff.length=2) (hT:∀pn,ASs (G.pil pn) A F0 L (Ff.map λt=>assign t env) Ws) (hb:∀pn,SS (G.pil pn) A F0 L (execs body env) Wb) :
  SS G A F0 L (exec (.For (.Tuple Ff kd tp) (.Call (.Name (G.X.nm x) np) args [] cp) body [] pos) env) (X9 Wa Ws Wb):=by
 intro O k m s vs ws h F R Q E hq;obtain rfl:=V.loc;refine Z8 (For_turns (env:=env) F (JC ok D V.toEnvG hx ha hst hne h F R λus F1 G3 xs F8 F6 F9 G0 G1 hl=>?_) (λZ=>rfl) PassesOwn.never);refine zr (y3 F6 hl) λv w0 Fz Gf g=>?_;subst Fz;subst Gf;refine zh (jI g) λht g=>?_
 ·refine zd (zu g) λitems e F6=>?_
  refine zi (RL.seq (vs:=vs) (ws:=ws) G1 e) λy vals n Gb=>jc Gb λρ led frz I Fy=>?_;subst Fy;have hlen:=I.vals.length;have q:=I.rw;have q':RB G.X G3 F1 (items++vs) (vals++ws) ρ led frz:=⟨q.hr,q.nd,q.off,q.offp,q.kept,q.loc,I.vals.append q.stk⟩;have hk':=I.mem;rw[ht] at hk';refine ktu_enum (env:=env) D.hd G0 q.all (List.mem_append_left _ (List.mem_append_right _ hk')) rfl rfl rfl λJ lt=>?_
  exact K7 (env:=env) hb (hq.after F9) (λp hp=>far (lt p (List.mem_append_right _ hp)) (by simp only[List.forall_mem_cons];exact⟨Nat.le_add_right _ _,Nat.le_refl _,λZ h=>nomatch h⟩)) (UY D.hd hts htl hT hlen) F6 q'
   (λp hp=>far (lt p (List.mem_append_left _ hp)) (by simp only[List.forall_mem_cons];exact⟨Nat.le_add_right _ _,Nat.le_refl _,λZ h=>nomatch h⟩)) (λp hp=>by rw[List.mem_singleton.mp hp];exact hk')
end
section
open PySem.Spec PySem.SeqAt
theorem yM(ns:List Int):shaped (.tuple (ns.map PyData.int))=true:=by
 have h1:=PySem.W.depthAll_ints ns;have h2:PyData.depth (.tuple (ns.map PyData.int))<=64:=by simp only[PyData.depth];exact qG (oo h1 (Nat.le_refl _)) rfl
 show(PyData.canLay0 (.tuple (ns.map PyData.int))&&decide (PyData.depth (.tuple (ns.map PyData.int))<=64))=true
 rw[Bool.and_eq_true];exact⟨by simp only[PyData.canLay0];exact canLayAll0_ints ns,decide_eq_true h2⟩
section
variable {A:Around}{m:Str->Option Value}{vs:List PV}{ws:List Value}{E:Value->Shared->Prop}
noncomputable def kF:PV->Option (List Int)
 | .tup us=>jZ us
 | _=>none
theorem VR.til{frz:List (Addr×Obj)}{v:PV}{w:Value}{xs:List Int}(h:VR ρ frz v w)(e:kF v=some xs):∃a items n,w=.ref a/\(a,j4 items n)∈frz/\IntsAre items xs:=by
 cases v with
 | tup us=>refine yp h λa items n Fy hm hi=>?_;subst Fy;exact(yW a items n rfl hm (qP e hi))
 | _=>cases e
def CN(op:CmpOp)(a b:PV)(O:PS)(k:KE):Prop:=opt (kF a) λxs=>opt (kF b) λys=>eqW op (decide (xs=ys)) λc=>k (.bool c) O
theorem Bv{op:CmpOp}(hu:A.units+64<cLine):O2 G A F0 L (compareOp op) (CN op):=by
 intro O k m s vs ws a b wa wb h F R Q E hq;refine zd (zu h) λxs ex g=>?_;refine zd (zu g) λys ey g=>?_;have fin:∀c,k (.bool c) O->Q (.bool c) s:=λc hc=>hq _ O m _ s hc (SR.refl _ _) F (R.pop.pop.push (yP c));refine jc R.top1 λρ led frz q hv=>?_;refine zr q.stk.cons_inv λZ Z ee Z tl=>?_
 cases ee
 refine zr tl.cons_inv λZ Z ee hv1 Z=>?_
 cases ee
 refine yp (hv.til ey) λy i2 n2 Fz m2 r2=>?_;subst Fz;refine yp (hv1.til ex) λx i1 n1 Fy m1 r1=>?_;subst Fy;have g1:=(q.news _ (List.mem_append_right _ m1)).1;have g2:=(q.news _ (List.mem_append_right _ m2)).1;have d1:Reads s.heap (.ref x) (.tuple (xs.map PyData.int)) []:=Reads.tuple g1 rfl rfl (by simpa using readsAll_of_ints r1)
 have d2:Reads s.heap (.ref y) (.tuple (ys.map PyData.int)) []:=Reads.tuple g2 rfl rfl (by simpa using readsAll_of_ints r2)
 rcases Ur g with ⟨rfl,g1⟩ | ⟨rfl,g1⟩
 ·exact eq_dataH_same d1 d2 (yM xs) (yM ys) hu (by simp only[noMix];exact noMix_ints xs ys) (by simp only[PySem.Spec.same];rw[same_ints];exact fin _ g1)
 ·exact ne_dataH_same d1 d2 (yM xs) (yM ys) hu (by simp only[noMix];exact noMix_ints xs ys) (by simp only[PySem.Spec.same];rw[same_ints];exact fin _ g1)
noncomputable def jR(a b:Str):Bool:=a.cps.toList==b.cps.toList
def Y3(a:PV)(k:Str->Prop):Prop:=match a with | .str x=>k x | _=>False
theorem qW{a:PV}{k:Str->Prop}(h:Y3 a k):∃x,a=.str x/\k x:=by cases a<;>first | exact⟨_,rfl,h⟩ | exact False.elim h
def ky(op:CmpOp)(a b:PV)(O:PS)(k:KE):Prop:=Y3 b λy=>match a with
 | .str x=>eqW op (jR x y) λc=>k (.bool c) O
 | .int _=>eqW op false λc=>k (.bool c) O
 | _=>False
theorem nO{op:CmpOp}:O2 G A F0 L (compareOp op) (ky op):=by
 intro O k m s vs ws a b wa wb h F R Q E hq;have fin:∀c,k (.bool c) O->Q (.bool c) s:=λc hc=>hq _ O m _ s hc (SR.refl _ _) F (R.pop.pop.push (yP c))
 refine zd (qW h) λy Ge g=>?_;subst Ge;refine zI R.str λt Gf=>?_;subst Gf
 cases a with
 | int x =>
  refine zI R.pop.int λu Fz=>?_;subst Fz
  rcases Ur g with ⟨rfl,g1⟩ | ⟨rfl,g1⟩
  ·exact EqMixed.eq_int_str (fin _ g1)
  ·exact EqMixed.ne_int_str (fin _ g1)
 | str x =>
  refine zI R.pop.str λu Fy=>?_;subst Fy
  rcases Ur g with ⟨rfl,g1⟩ | ⟨rfl,g1⟩
  ·exact PySem.P.eq_str (fin _ g1)
  ·refine PySem.P.ne_str (fin _ ?_)
   simpa only[jR,bne] using g1
 | _=>exact False.elim g
noncomputable def V4(lo hi:Option Int)(xs:List Int):List Int:=(xs.drop (kms_lo lo xs.length)).take (kms_hi hi xs.length-kms_lo lo xs.length)
noncomputable def je:PV->Option (Option Int)
 | .none=>some none
 | .int i=>some (some i)
 | _=>none
def ZW(arg:PV->Option (List Int))(mt:Bool)(a lo hi:PV)(O:PS)(k:KE):Prop:=opt (je lo) λl=>opt (je hi) λu=>opt ((Jd O a).or (arg a)) λxs=>xs.length<=2 ^ 24/\ZL mt (V4 l u xs) O k
theorem Vt{frz:List (Addr×Obj)}{v:PV}{w:Value}{p:Option Int}(e:je v=some p)(h:VR ρ frz v w):IsPart w p:=by
 cases v with
 | none=>cases e;cases h;exact .none
 | int i=>cases e;obtain⟨t,rfl⟩:=h;exact .int _ _
 | _=>cases e
theorem YL{X:Cx}{m:Str->Option Value}{l u:PV}{vs:List PV}{wl wu:Value}{ws:List Value}{p1 p2:_}(R:RL X F0 L h m O (u::l::vs) (wu::wl::ws))(e1:je l=some p1)(e2:je u=some p2):IsPart wl p1/\IsPart wu p2:=by
 refine byc λGa=>?_;refine zi R λρ led frz q=>?_;refine zr q.stk.cons_inv λZ Z ee v2 tl=>?_;refine Ga ?_
 cases ee
 refine byc λGc=>?_;refine zr tl.cons_inv λZ Z ee v1 Z=>?_;refine Gc ?_
 cases ee
 exact⟨Vt e1 v1,Vt e2 v2⟩
theorem dn{mt:Bool}{a l u:PV}{k:KE}(h:ZW arg mt a l u O k):∃p1 p2 xs,je l=some p1/\je u=some p2/\(Jd O a=some xs∨arg a=some xs)/\xs.length<=2 ^ 24/\ZL mt (V4 p1 p2 xs) O k:=by
 refine byc λGa=>?_;refine zd (zu h) λp1 e1 h=>?_;refine zd (zu h) λp2 e2 h=>?_;refine zd (zu h) λxs e3 h=>?_;refine Ga ?_;exact(Ko p1 p2 xs e1 e2 (rP e3) h)
theorem fH{mt:Bool}{lo hi:Option Expr}{Wv:PS->KE->Prop}{Wh:PS->KE->Prop}(hv:ES G A F0 L (eval value env) Wv)(hl:ES G A F0 L (valueOrNone (evalOpt lo env)) Wl)(hh:ES G A F0 L (valueOrNone (evalOpt hi env)) Wh)
  (harg:∀{a:PV} {xs:List Int} {O:PS} {m:Str->Option Value} {h:Heap} {vs:List PV} {wa:Value} {ws:List Value},arg a=some xs->Fr F0 L h m->RL G.X F0 L h m O (a::vs) (wa::ws)->∃x items,wa=.ref x/\h.IsList x items.toArray/\IntsAre items xs) :
  ES G A F0 L (eval (.Subscript value (.Slice lo hi none sp) pos) env) (λO k=>Wv O λa F1=>Wl F1 λl F5=>Wh F5 λu G5=>ZW arg mt a l u G5 k):=by
 intro O k m s vs ws h F R Q E hq;refine Subscript_ (hv h F R λa F1 G3 wa F8 F6 F9 G0 G1=>?_);show wpAny _ A (do
  let l <- valueOrNone (evalOpt lo env)
  let u <- holding [l] (valueOrNone (evalOpt hi env))
  let s <- holding [l,u] (valueOrNone (evalOpt none env))
  newFields "slice" [l,u,s]) _ E F8
 refine wpAny_bind (hl F6 G0 G1 λl F5 G2 wl F7 G4 G6 G9 G8=>wpAny_bind (wpAny_holding (hh G4 G9 G8 λu G5 I3 wu H9 H3 I1 I0 H7=>wpAny_bind (wpAny_holding (wpAny_pure ?_)))));refine wpAny_newObj_type ?_ (by show(3:Nat)<=sizeLine+2;decide)
 refine byc λGa=>?_;refine qg (dn H3) λp1 p2 xs e1 e2 ha Gb=>zh Gb λhz hw=>?_;have R4:RL G.X F0 L H9.heap I3 G5 (a::vs) (wa::ws):=H7.pop.pop;have parts:=YL H7 e1 e2;refine Ga ?_;clear H3 H7 h F6 G4 R G1 G8 hv hl hh F G0 G9;have src:∃x items,wa=.ref x/\H9.heap.IsList x items.toArray/\IntsAre items xs:=by
  rcases ha with ex | ey
  ·refine zi (R4.ints ex) λx items c Gb=>jc Gb λρ led frz I Fz=>?_;subst Fz
   exact(jw x items rfl I.isList I.vals)
  ·exact harg ey I0 R4
 clear ha harg;refine zr src λx items Fy hx hi=>?_;subst Fy;refine byc λGc=>?_;refine zi R4 λρ led frz q=>?_;refine Gc ?_;refine kba_turn (value':=.Name (Str.ofString "_") ⟨0,0,0,0⟩) (λZ=>rfl) ?_;refine kms_slice_lit I0 q.all hx parts.1 parts.2 rfl (λD h' F' N' lt=>?_) rfl (λZ=>rfl) (by rw[List.size_toArray,hi.length];exact hz)
 refine Xk (tk:=H9.toks) (n:=0) q.pop F' N' (λp hp=>Nat.ne_of_lt (lt p hp)) ?_ hw (λv σ' m' w' s' a b c d=>hq v σ' m' w' s' a (((F9.trans G6).trans I1).trans b) c d);unfold kms_pick V4;rw[hi.length];exact(hi.drop _).take _
def kz(xs:List Nat)(v:PV)(O:PS)(k:KS):Prop:=match v with
 | .tup us=>cond (Nat.beq us.length xs.length) (Vh (xs.reverse.map λx=>λv O k=>O.slC x v k) us.reverse O k) False
 | _=>False
set_option tactic.hygienic true in
theorem o8{xs:List Nat}{kd:Nat}(hh:A.handled=none)(V:EnvF env L)(hl:∀x∈xs,env.kindOf (G.X.nm x)=some .local)(he:ES G A F0 L (eval value env) We)(hc:yL value=true)
  (hw:swappedStores [.Tuple Ff kd tp] value env=pure (some (xs.map G.X.nm))) :
  SS G A F0 L (exec (.Assign [.Tuple Ff kd tp] value pos) env) (λO k=>We O λv F1=>kz xs v F1 (k .next)):=by
 intro O k m s vs ws h F R Q E hq;refine Assign_Tuple_swapped (he h F R λv F1 G3 I6 F8 F6 F9 G0 G1=>?_) (show swapsWith value (some (.Tuple Ff kd tp)) pos.line env=pure false from jS hc) hw
 cases v<;>first | exact False.elim F6 | (delta kz at F6;try dsimp only at F6)
 rename_i us
 cases hb:Nat.beq us.length xs.length with
 | false=>rw[hb] at F6;exact F6.elim
 | true =>
  rw[hb] at F6;simp only[cond_true] at F6;have hb:=Nat.eq_of_beq_eq_true hb;refine byc λGa=>?_
  refine jc G1.top1 λρ led frz q hv=>?_;refine Ga ?_;obtain⟨t,items,n,rfl,hmem,hv⟩:=hv;have hlen:=hv.length;rw[show(xs.map G.X.nm).length=items.toArray.size by rw[List.length_map,List.size_toArray,hlen,hb]]
  refine unpackItems_tuple hh (Yv q.news (List.mem_append_right _ hmem)) λh' he'=>?_;have q1:=q.pop;have N':News F0 L h' ((led++frz)++G.X.ps):=q.all.extBut he' (Nat.le_refl _);have rev:∀{a:List PV} {b:List Value},VRs ρ frz a b->VRs ρ frz a.reverse b.reverse:=by
   intro a
   induction a with
   | nil=>intro b hb;cases hb;exact VRs.nil
   | cons v a ih =>
    intro b hb;refine zr hb.cons_inv λw r Fy hv tl=>?_;subst Fy;simp only[List.reverse_cons];exact(ih tl).append (VRs.cons hv VRs.nil)
  have H:∀(ys:List Nat),(∀x∈ys,x∈xs)->ASs G A F0 L ((ys.map G.X.nm).map λn=>bindName env n) (ys.map λx=>λv O k=>O.slC x v k):=by
   intro ys
   induction ys with
   | nil=>intro _;exact .nil
   | cons y ys ih =>
    intro hy;refine .cons ?_ (ih λx hx=>hy x (.tail _ hx));intro v w O k m s vs ws h F R Q E hq;refine byc λGc=>?_;refine zi R λρ led frz q=>?_;refine Gc ?_;refine bindName_ (stE V F q.all (λh' F' N'=>?_) (hl y (hy y (.head _))));exact hq _ _ _ (zW.mp h) zn.mk' F' (RL.store (k:=y) (v:=v) (w:=w) (zm ρ led frz ⟨q.hr,N',q.nd,q.off,q.offp,q.kept,q.loc,q.stk⟩))
  have e2:((xs.map G.X.nm).reverse.map λn=>bindName env n)=((xs.reverse.map G.X.nm).map λn=>bindName env n):=by rw[<- List.map_reverse]
  rw[e2];exact V9 (H xs.reverse λx hx=>List.mem_reverse.mp hx) (us:=us.reverse) (xs:=items.reverse) (vs:=vs) (ws:=ws) F6 (G0.extBut he' (Nat.le_refl _)) (zm ρ led frz ⟨q1.hr,N',q1.nd,q1.off,q1.offp,q1.kept,q1.loc,(rev hv).append q1.stk⟩) (by simp[hlen]) λF5 G2 F7 G4 G6 G9 G8=>hq.next F5 G2 F7 G4 (F9.rest.trans ⟨G6.1,G6.2.1,G6.2.2⟩) G9 G8
end
end
theorem hY{d:Addr}{o o':Obj}{l l':List (Addr×Obj)}(N:News F0 L h l)(U:Upd d o o' l l')(hs:Heap.SameBut d h h')(hd:h'.get? d=some o'):News F0 L h' l':=by
 refine Ju U.split λpre post Fy Fz a b=>?_;subst Fy;subst Fz;intro p hp;have hdo:=(N (d,o) (by simp)).2
 rcases List.mem_append.mp hp with hp | hp
 ·have:=N p (by simp[hp]);exact⟨hs.extBut _ _ (a p hp) this.1,this.2⟩
 ·cases hp with
  | head=>exact⟨hd,hdo⟩
  | tail _ hp=>have hp:p∈post:=hp;have:=N p (by simp[hp]);exact⟨hs.extBut _ _ (b p hp) this.1,this.2⟩
section
variable {A:Around}{m:Str->Option Value}{vs:List PV}{ws:List Value}{E:Value->Shared->Prop}
def aq(j:Nat)(O:PS)(k:KE):Prop:=eU O.hp[j]? λv=>opt v λv=>k v O
structure CellAt(G:Gam)(env:Env)(x:Nat)(j:Nat):Prop where
 at_:∃c,env.cells.lookup (G.X.nm x)=some c/\(j,c)∈G.X.cl
 kind:env.kindOf (G.X.nm x)=some .cell
theorem gM(V:EnvG env)(hc:CellAt G env x j){k:KE}(h:aq j O k)(F:Fr F0 L s.heap m)(R:RL G.X F0 L s.heap m O vs ws)(hq:j6 G F0 L m s vs ws k Q):wpAny (model G.prog G.w) A (loadName env (G.X.nm x)) Q E s:=by
 refine byc λGa=>?_;refine zd (ap h) λv0 e h=>?_;refine Ga ?_;refine zd (zu h) λv Fz h=>?_;subst Fz;refine byc λGc=>?_;refine zd hc.at_ λc hl hm=>?_;refine zi R λρ led frz q=>?_;refine zi (q.hr.at_cell e) λa o w Gb=>Ju Gb λpre post e1 e2 ed Gb=>zh Gb λe3 e4=>?_;refine Gc ?_;subst e2
 have:=q.kept.2 _ hm
 rw[e1] at this
 cases this
 refine zd e3 λu Fy hu=>?_;subst Fy;have N:=q.news (c,o) (List.mem_append_left _ (by simp))
 exact wpAny_loadName_cell V.kind hc.kind hl (zv _ N.1 ed) (hq v O m u s h (SR.refl _ _) F (zm ρ _ frz ⟨q.hr,q.all,q.nd,q.off,q.offp,q.kept,q.loc,VRs.cons hu q.stk⟩))
theorem lJ(V:EnvG env)(hc:CellAt G env x j)(hd:(G.X.nm x==("__debug__" : Str))=false):ES G A F0 L (eval (.Name (G.X.nm x) pos) env) (aq j):=by
 intro O k m s vs ws h F R Q E hq;exact wpAny_Name (gM V hc h F R hq) hd
def fg(j:Nat)(v:PV)(O:PS)(k:KS):Prop:=eU O.hp[j]? λZ=>O.siC j (.cell (some v)) k
theorem YZ(V:EnvG env)(hc:CellAt G env x j):AS G A F0 L (λv=>storeName env (G.X.nm x) v) (fg j):=by
 intro v w O k m s vs ws h F R Q E hq;refine byc λGa=>?_;refine zd (ap h) λv0 e h=>?_;refine Ga ?_;replace h:=jd.mp h;refine byc λGc=>?_;refine zd hc.at_ λc hl hm=>?_;refine zi R λρ led frz q=>?_;refine zi (q.hr.at_cell e) λa o w0 Gb=>Ju Gb λpre post e1 e2 ed Gb=>zh Gb λe3 e4=>?_;refine Gc ?_;subst e2
 have:=q.kept.2 _ hm
 rw[e1] at this
 cases this
 have N:=q.news (c,o) (List.mem_append_left _ (by simp))
 refine byc λGg=>?_;refine zr q.stk.cons_inv λZ Z ee hv tl=>?_;refine Gg ?_
 cases ee
 show wpAny _ A (storeName env (G.X.nm x) w) Q E s;have es:storeName env (G.X.nm x) w=(cellOf env (G.X.nm x) >>= λc=>cellSet c (some w)):=by
  delta storeName;rw[hc.kind,V.kind];rfl
 rw[es];refine wpAny_bind (wpAny_cellOf hl ?_);unfold cellSet;refine wpAny_bind (wpAny_load N.1 ?_);rw[ed];refine wpAny_update N.1 ?_;have hs:Heap.SameBut c s.heap (s.heap.update c λo=>{ o with data:=.cell (some w) }):=Heap.SameBut.update ..
 have hc':(s.heap.update c λo=>{ o with data:=.cell (some w) }).get? c=some { o with data:=.cell (some w) }:=Heap.get?_update_self _ N.1 rfl
 have N':=hY q.all (q.upd { o with data:=.cell (some w) }) hs hc'
 have W:=q.swap (by simp) (e4 (some v) (some w) _ rfl (zv w rfl hv)) N'
 exact hq _ m _ h ⟨rfl,rfl,rfl⟩ (F.change hs N.2.1 N.2.2) (zm ρ _ frz W.pop)
theorem lg(V:EnvG env)(hc:CellAt G env x j):AS G A F0 L (assign (.Name (G.X.nm x) pos) env) (fg j):=by
 intro v w O k m s vs ws h F R Q E hq;exact assign_Name (YZ V hc h F R hq)
theorem oT{e:Expr}{W:PS->KE->Prop}(V:EnvG env)(hc:CellAt G env x j)(he:ES G A F0 L (eval e env) W)(hn:yL e=true):
  SS G A F0 L (exec (.Assign [.Name (G.X.nm x) Fk] e pos) env) (λO k=>W O λv F1=>fg j v F1 (k .next)):=by
 intro O k m s vs ws h F R Q E hq;refine wpAny_Assign_Name (he h F R λv F1 G3 I6 F8 F6 F9 G0 G1=>?_) (jS hn);exact YZ V hc F6 G0 G1 λF5 G2 F7 G4 G6 G9 G8=>hq.next F5 G2 F7 G4 (F9.rest.trans G6) G9 G8
theorem sU{x y:Expr}{W W':PS->KE->Prop}(hx:ES G A F0 L (eval x env) W)(hr:ES G A F0 L (eval (.BoolOp .And (y::rest) pos) env) W'):
  ES G A F0 L (eval (.BoolOp .And (x::y::rest) pos) env) (λO k=>W O λa F1=>jT a F1 λb F5=>cond b (W' F5 k) (k a F5)):=by
 intro O k m s vs ws h F R Q E hq;refine BoolOp_and (hx h F R λa F1 G3 wa F8 F6 F9 G0 G1=>?_);have R1:RL G.X F0 L F8.heap G3 F1 (a::a::vs) (wa::wa::ws):=G1.stack λρ frz q=>by
  refine zr q.cons_inv λZ Z e x Z=>?_
  cases e
  exact VRs.cons x q
 refine Xn F6 G0 R1 λb F5 G2 F7 G4 G6 G9 G8=>?_
 induction b with
 | false=>exact hq a F5 G2 wa F7 G4 (F9.trans G6) G9 G8
 | true=>exact hr G4 G9 G8.pop λv σ' m' w' s' a b c d=>hq v σ' m' w' s' a ((F9.trans G6).trans b) c d
theorem fA{op:BoolOp}{x:Expr}{W:PS->KE->Prop}(hx:ES G A F0 L (eval x env) W):ES G A F0 L (eval (.BoolOp op [x] pos) env) W:=by
 intro O k m s vs ws h F R Q E hq;exact BoolOp_one (hx h F R hq)
noncomputable def cO(o:Option PO):Bool:=match o with
 | some (.il _)=>true
 | some (.ls _)=>true
 | _=>false
noncomputable def isLst(O:PS):PV->Bool
 | .ref j=>cO O.hp[j]?
 | .il _=>true
 | _=>false
theorem OR.lst{X:Cx}{frz mid:List (Addr×Obj)}{o:PO}{a:Addr}(h:OR X ρ frz o a mid)(e:cO (some o)=true):∃items n,mid = [(a,listOf items n)]:=by
 induction h with
 | il=>exact(Jo _ _ rfl)
 | ls=>exact(Jo _ _ rfl)
 | _=>cases e
theorem RL.isLst{a:PV}{wa:Value}(R:RL G.X F0 L h m O (a::vs) (wa::ws))(e:Mine.isLst O a=true):∃x items n,wa=.ref x/\h.get? x=some (listOf items n):=by
 cases a with
 | ref j =>
  refine zi R λρ led frz q=>?_
  cases eo:O.hp[j]? with
  | none=>cases e.symm.trans (congrArg cO eo)
  | some o =>
   refine zi (q.hr.at eo) λx pre mid Gb=>jU Gb λpost e1 e2 e3 Z=>?_;refine UQ (e3.lst ((congrArg cO eo).symm.trans e)) λitems n Fy=>?_;subst Fy
   obtain rfl:=q.ref e1;exact(JW x items n rfl ((q.news (x,listOf items n) (by rw[e2];exact List.mem_append_left _ (List.mem_append_left _ (List.mem_append_right _ (.head _))))).1))
 | il xs =>
  refine zi R λρ led frz q=>?_;refine zr q.stk.cons_inv λZ Z e1 Fy Z=>?_;obtain⟨x,items,n,e2,hm,hv⟩:=Fy
  cases e1
  subst e2;exact(JW x items.toArray n rfl (q.all _ (List.mem_append_left _ (List.mem_append_right _ hm))).1)
 | _=>cases e
theorem cn{id:Str}{e:Expr}(ho:ES G A F0 L (eval (.Name id Fk) env) Wo)(he:ES G A F0 L (eval e env) We)(hl:Fq.endLine=pos.line)(hst:zK e=true):
  ES G A F0 L (eval (.Call (.Attribute (.Name id Fk) "append" Fq) [e] [] pos) env) (λO k=>Wo O λa F1=>cond (isLst F1 a) (We F1 λv F5=>VX a v F5 λG5=>k .none G5) False):=by
 intro O k m s vs ws h F R Q E hq;refine MethodCall_ (ho h F R λa F1 G3 wa F8 F6 F9 G0 G1=>?_) (Uw hl (by show 1<30;exact BP (Nat.le_refl _) rfl) (by simp[hst]))
 refine zh (zS F6) λhb F6=>?_
 ·refine jc (G1.isLst hb) λx items n Fy hx=>?_;subst Fy
  refine getMethod_list_of PySem.F.slot_list_append PySem.F.type_list_append (jY _ hx rfl ⟨n,rfl⟩) (zv _ hx rfl) ?_;refine callWith_method1 ?_ (jj hst) rfl;refine args_cons (he F6 G0 G1 λv F5 G2 L8 F7 G4 G6 G9 G8=>args_nil ?_) (jj hst);exact io G4 G9 G8 λG5 H9 H3 I1 I0 H7=>hq .none G5 G2 .none H9 H3 ((F9.trans G6).trans (.of I1)) I0 (H7.push Qj)
end
section
open PySem.Spec
open PyProof.Rows.LCg
section
variable {P:α->Prop}{Q:β->Prop}{f:α->β}{a b c d e:α}{x y z u v:List α}
theorem ml:a∈x->a∈x++y:=List.mem_append_left _
theorem mr:a∈y->a∈x++y:=List.mem_append_right _
theorem me(h:a∈x++y)(k:a∈x->a∈z)(l:a∈y->a∈z):a∈z:=(List.mem_append.mp h).elim k l
theorem b9:∀w∈([]:List α),P w:=nofun
theorem Ze(h:P a):∀w ∈ [a],P w:=λw hw=>List.mem_singleton.mp hw▸h
theorem Uj(h:P a)(k:∀w∈x,P w):∀w∈a::x,P w:=λw hw=>(List.mem_cons.mp hw).elim (λe=>e▸h) (k w)
theorem Ui(h:P a)(k:P b):∀w ∈ [a,b],P w:=Uj h (Ze k)
theorem sf(h:P a)(k:P b)(l:P c):∀w ∈ [a,b,c],P w:=Uj h (Ui k l)
theorem jH(h:∀w∈x,P w)(k:∀w∈y,P w):∀w∈x++y,P w:=λw hw=>(List.mem_append.mp hw).elim (h w) (k w)
theorem k8(h:∀w∈x,Q (f w)):∀w∈x.map f,Q w:=List.forall_mem_map.mpr h
theorem cQ:a∈y->a∈x++y++z:=λh=>List.mem_append_left _ (List.mem_append_right _ h)
theorem vh:∀w∈x ++ []++z,w∈x++y++z:=jH (jH (λZ h=>List.mem_append_left _ (List.mem_append_left _ h)) nofun) λZ h=>List.mem_append_right _ h
theorem n7:∀w∈(x ++ []++z)++u,w∈(x++y++z)++u:=jH (λw h=>List.mem_append_left _ (vh w h)) λZ h=>List.mem_append_right _ h
theorem Eu:∀w∈((x ++ []++z)++u)++v,w∈((x++y++z)++u)++v:=jH (λw h=>List.mem_append_left _ (n7 w h)) λZ h=>List.mem_append_right _ h
theorem Ew:∀w∈((x ++ []++z)++u)++(a::v),w∈((x ++ [a]++z)++u)++v:=jH (λw h=>List.mem_append_left _ (n7 w h)) (Uj (List.mem_append_left _ (List.mem_append_left _ (cQ (.head _)))) λZ h=>List.mem_append_right _ h)
theorem hW(h:((x++y++z).map f).Nodup):((x ++ []++z).map f).Nodup:=by
 rw[List.map_append,List.map_append] at h;rw[List.append_nil,List.map_append];have n:=List.nodup_append.mp h;exact List.nodup_append.mpr ⟨(List.nodup_append.mp n.1).1,n.2.1,λa ha b hb=>n.2.2 a (List.mem_append_left _ ha) b hb⟩
theorem uL(h:((x++y++z).map f).Nodup):(y.map f).Nodup:=by
 rw[List.map_append,List.map_append] at h;exact(List.nodup_append.mp (List.nodup_append.mp h).1).2.1
theorem hV(h:((x++y++z).map f).Nodup):∀p∈x ++ []++z,∀q∈y,f p≠f q:=by
 rw[List.map_append,List.map_append] at h;have n:=List.nodup_append.mp h;exact jH (jH (λp hp q hq=>(List.nodup_append.mp n.1).2.2 _ (List.mem_map_of_mem hp) _ (List.mem_map_of_mem hq)) nofun) λp hp q hq e=>n.2.2 _ (List.mem_append_right _ (List.mem_map_of_mem hq)) _ (List.mem_map_of_mem hp) e.symm
end
noncomputable def yR(prog:Program)(w:World)(A:Around)(F0:Heap)(L:Addr)(m:Str->Option Value)(env:Env)(elt:Expr)(scope:Scope)(cl:List (Str×Addr))(s:Shared)(Pj:Nat->(Str->Option Value)->List (Addr×Obj)->Prop)
  (Fin:List Value->List (Addr×Obj)->Prop):Nat->Nat->List (Addr×Obj)->List Value->List (Addr×Obj)->Prop
 | 0,_,_,ys,news=>Fin ys news
 | k+1,i,K,ys,news=>∀nw its C oC G2 h tk (E':Value->Shared->Prop),Pj i G2 nw->(C,oC)∈its->NsObj oC G2->Fr F0 L h m->News F0 L h its->News F0 L h nw->News F0 L h news->(∀p∈its,∀q∈nw,p.1≠q.1)->(∀p∈its,∀q∈news,p.1≠q.1)->(∀p∈nw,∀q∈news,q.1≠p.1) ->
   wpAny (model prog w) A (eval elt (compEnvC scope cl C env)) (λy s'=>∃h' tk' news',s' = { ({ s with heap:=h,toks:=tk }:Shared) with heap:=h',toks:=tk' } /\ Fr F0 L h' m/\News F0 L h' its/\News F0 L h' news'/\(∀p∈its,∀q∈news',p.1≠q.1)/\(∀p∈nw++K,p∈news') /\
    yR prog w A F0 L m env elt scope cl s Pj Fin k (i+1) (nw++K) (ys ++ [y]) news') E' { s with heap:=h,toks:=tk }
theorem dj{prog:Program}{w:World}{A:Around}{m:Str->Option Value}{x:Str}{P:Nat->Value->Prop}{Fin:List Value->List (Addr×Obj)->Prop}{n:Nat}:
  ∀{i:Nat} {K:List (Addr×Obj)} {ys:List Value} {news:List (Addr×Obj)},yR prog w A F0 L m env elt scope cl s (λi G2 nw=>nw = [] /\ ∃v,G2 x=some v/\P i v) Fin n i K ys news->CompRest prog w A F0 L m env elt x scope cl s (λZ=>True) P Fin n i ys news:=by
 induction n with
 | zero=>exact λh=>h
 | succ n ih =>
  intro i K ys news H v I oI C oC D G2 h tk E' hP hn hm F N off dist;have o3:=off.mem;refine wpAny_mono (H [] [(I,oI),(C,oC),(D,lst ys)] C oC G2 h tk E' ⟨rfl,v,hm,hP⟩ (.tail _ (.head _)) hn F (λp hp=>N p (ml (y:=news) hp)) b9 (λp hp=>N p (mr (x:=[(I,oI),(C,oC),(D,lst ys)]) hp)) (λZ Z=>b9) (sf (λq hq=>(o3 q hq).1.symm) (λq hq=>(o3 q hq).2.1.symm) λq hq=>(o3 q hq).2.2.symm) b9) (λy s' z=>?_) λZ Z e=>e
  refine qg z λh' tk' news' e F' Ni zz=>jN zz λN' o' Z R=>?_;exact⟨h',tk',news',e,F',jH Ni N',Off3.of λp hp=>⟨(o' _ (.head _) p hp).symm,(o' _ (.tail _ (.head _)) p hp).symm,(o' _ (.tail _ (.tail _ (.head _))) p hp).symm⟩,trivial,ih R⟩
mutual
noncomputable def fX:PV->Bool
 | .ref _=>false
 | .tup vs=>JU vs
 | .ls vs=>JU vs
 | .bound v _=>fX v
 | _=>true
noncomputable def JU:List PV->Bool
 | []=>true
 | v::vs=>fX v&&JU vs
end
mutual
theorem UA:∀(v:PV),fX v=true->bdd 0 v
 | .none,_=>trivial
 | .bool _,_=>trivial
 | .int _,_=>trivial
 | .str _,_=>trivial
 | .top _,_=>trivial
 | .il _,_=>trivial
 | .ref _,h=>nomatch (show false=true from h)
 | .tup vs,h=>Qx vs h
 | .ls vs,h=>Qx vs h
 | .bound v _,h=>UA v h
theorem Qx:∀(vs:List PV),JU vs=true->qm 0 vs
 | [],_=>trivial
 | v::vs,h=>⟨UA v ((Bool.and_eq_true _ _).mp h).1,Qx vs ((Bool.and_eq_true _ _).mp h).2⟩
end
theorem JF:∀{vs:List PV},JU vs=true->∀{i:Nat} {v:PV},vs[i]?=some v->fX v=true
 | [],_,_,_,e=>by simp at e
 | u::vs,h,0,v,e=>by cases e;exact((Bool.and_eq_true _ _).mp h).1
 | u::vs,h,i+1,v,e=>JF (vs:=vs) ((Bool.and_eq_true _ _).mp h).2 e
theorem VR.abs{frz:List (Addr×Obj)}{v:PV}{w:Value}(h:VR ρ frz v w)(f:fX v=true):VR [] frz v w:=by
 have:=VR.cut v h (UA v f)
 simpa using this
theorem qN:∀(xs:List Int),JU (xs.map .int)=true
 | []=>rfl
 | x::xs=>qN xs
noncomputable def q7{ι:Type}(Wv:ι->PS->KE->Prop):List ι->List PV->PS->(List PV->PS->Prop)->Prop
 | [],acc,O,k=>k acc O
 | u::r,acc,O,k=>Wv u O λv F1=>q7 Wv r (acc ++ [v]) F1 k
section
variable {A:Around}{m:Str->Option Value}{vs:List PV}{ws:List Value}{E:Value->Shared->Prop}
structure CompVar(G:Gam)(C:Addr)(x:Nat)(v:PV):Prop where
 at_:∃oC G2 w,(C,oC)∈G.X.ps/\NsObj oC G2/\G2 (G.X.nm x)=some w/\VR [] G.X.ks v w
theorem lL{v:PV}(hC:CompVar G env.locals x v)(hk:env.scope.kind=.function)(hl:env.kindOf (G.X.nm x)=some .local)(hd:(G.X.nm x==("__debug__" : Str))=false):ES G A F0 L (eval (.Name (G.X.nm x) pos) env) (λO k=>k v O):=by
 intro O k m s vs ws h F R Q E hq;refine byc λGa=>?_;refine qg hC.at_ λoC G2 w hp hn hm hv=>?_;refine zi R λρ led frz q=>?_;have N:=(q.all _ (List.mem_append_right _ hp)).1;refine Ga ?_;refine wpAny_Name (wpAny_loadName_local hk hl (hn.ns N) hm ?_) hd;exact hq v O m w s h (SR.refl _ _) F (zm ρ led frz ⟨q.hr,q.all,q.nd,q.off,q.offp,q.kept,q.loc,VRs.cons (hv.mono (λi a e=>by simp at e) q.kept.1) q.stk⟩)
theorem RB.frz{X:Cx}{ρ:List Addr}{led frz nw:List (Addr×Obj)}(q:RB X m O vs ws ρ led frz)(hT:∀p∈nw,∀z∈(led++frz)++X.ps,z.1≠p.1):RB X m O vs ws ρ led (nw++frz):=
 ⟨q.hr.mono (λZ Z e=>e) λZ=>mr,q.nd,jH (λp hp z hz=>(hT p hp z (ml (ml hz))).symm) q.off,λp hp=>jH (λz hz=>q.offp p hp z (ml hz)) (jH (λz hz=>hT z hz p (mr hp)) λz hz=>q.offp p hp z (mr hz)),
  ⟨λp hp=>mr (q.kept.1 p hp),q.kept.2⟩,λk v e=>zd (q.loc k v e) λw c d=>⟨w,c,d.mono (λZ Z e=>e) λZ=>mr⟩,q.stk.mono (λZ Z e=>e) λZ=>mr⟩
theorem Uq{ι:Type}{V:ι->List (Nat×PV)}{Wv:ι->PS->KE->Prop}{Fin:List Value->List (Addr×Obj)->Prop}{k:List PV->PS->Prop}
  (he:∀(pn:Pl) (C:Addr) (u:ι),(∀p∈V u,CompVar (G.pil pn) C p.1 p.2)->ES (G.pil pn) A F0 L (eval elt (compEnvC scope cl C env)) (Wv u))
  (hfin:∀{O:PS} {acc:List PV} {ys:List Value} {ρ:List Addr} {led frz:List (Addr×Obj)},k acc O->RB G.X m O (acc++vs) (ys++ws) ρ led frz->ys.length=acc.length->Fin ys ((led++frz)++G.X.ps)) :
  ∀{items:List ι} {i:Nat} {acc:List PV} {ys:List Value} {O:PS} {ρ:List Addr} {led frz K:List (Addr×Obj)},q7 Wv items acc O k->RB G.X m O (acc++vs) (ys++ws) ρ led frz->ys.length=acc.length->(∀p∈K,p∈frz++G.X.ps) ->
   (∀j u,items[j]?=some u->∀G2 nw fz,Pj (i+j) G2 nw->(∀p∈nw++frz,p∈fz)->∀p∈V u,∃w,G2 (G.X.nm p.1)=some w/\VR [] fz p.2 w)->yR G.prog G.w A F0 L m env elt scope cl s Pj Fin items.length i K ys ((led++frz)++G.X.ps):=by
 intro items
 induction items with
 | nil=>exact λh q hl Z Z=>hfin h q hl
 | cons u r ih =>
  intro i acc ys O ρ led frz K h q hl hK hI nw its C oC G2 h' tk E' hP hm hN F Ni Nn N oin off hT;have q':=(q.frz hT).into (its:=its) (λp hp=>jH (λz hz=>off p hp z (ml (ml hz))) (jH (oin p hp) λz hz=>off p hp z (ml (mr hz)))) λZ hp=>hp
  refine he (its++G.X.ps,(nw++frz)++G.X.ks) C u (λp hp=>zd (hI 0 u rfl G2 nw ((nw++frz)++G.X.ks) hP (λZ=>ml) p hp) λw hw hv=>⟨oC,G2,w,ml hm,hN,hw,hv⟩) (s:={ s with heap:=h',toks:=tk }) h F
   (zm ρ led _ (q'.rw (jH (jH (λp hp=>N p (ml (ml hp))) (jH Nn λp hp=>N p (ml (mr hp)))) (jH Ni λp hp=>N p (mr hp))))) λv' F1 G3 I6 F8 F6 F9 G0 G1=>?_
  refine zi G1 λρ' led' frz' W'=>yn W'.rb.out λb1 b2 b3=>?_;have em:=F9.eq;subst em;have k':∀p∈nw++K,p∈frz'++G.X.ps:=jH (λp hp=>ml (b3 p (ml hp))) λp hp=>me (hK p hp) (λh=>ml (b3 p (mr h))) mr
  refine⟨F8.heap,F8.toks,(led'++frz')++G.X.ps,?_,G0,λp hp=>W'.all p (mr (ml hp)),jH (λp hp=>W'.all p (ml hp)) (λp hp=>W'.all p (mr (mr hp))),λp hp=>jH (b2 p hp) λz hz=>off p hp z (mr hz),λp hp=>me (k' p hp) (λh=>ml (mr h)) mr,
   ih F6 ⟨b1.hr,b1.nd,b1.off,b1.offp,b1.kept,b1.loc,?_⟩ (by rw[List.length_append,List.length_append,hl];rfl) k' λj u' ej m3 nw3 fz hP3 sub=>hI (j+1) u' ej m3 nw3 fz ((show i+1+j=i+(j+1) from Nat.succ_add i j)▸hP3) (jH (λp hp=>sub p (ml hp)) λp hp=>sub p (mr (b3 p (mr hp))))⟩
  ·obtain⟨a,b,c,d,e⟩:=F8
   refine yn F9.rest λr1 r2 r3=>?_
   simp only at r1 r2 r3;subst r1 r2 r3;rfl
  ·refine zr b1.stk.cons_inv λZ Z e a1 t1=>?_
   cases e
   refine zr t1.split λx1 x2 e12 s1 s2=>?_;obtain⟨rfl,rfl⟩:=List.append_inj e12.symm (by rw[s1.length,hl])
   exact(s1.append (VRs.cons a1 VRs.nil)).append s2
theorem Qb{D:Addr}:∀{l:List (Addr×Obj)},Off1 D l->∀p∈l,p.1≠D
 | [],_,_,h=>nomatch h
 | _::_,x,p,h=>by
  rcases List.mem_cons.mp h with rfl | h
  ·exact x.1
  ·exact Qb x.2 p h
theorem Wf{mt:Bool}{k:KE}(hq:j6 G F0 L m F7 vs ws k Q){acc:List PV}{ys:List Value}{frz:List (Addr×Obj)}(h:qf mt acc O k)(q:RB G.X m O (acc++vs) (ys++ws) ρ led frz)(hl:ys.length=acc.length):
  FinE F0 L m F7 Q ys ((led++frz)++G.X.ps):=by
 intro D h' tk F N off;have lt:=Qb off;refine zr q.stk.split λx1 x2 e12 s1 s2=>?_
 obtain⟨rfl,rfl⟩:=List.append_inj e12.symm (by rw[s1.length,hl])
 have W:RW G.X F0 L ({ F7 with heap:=h' }:Shared).heap m O vs x2 ρ led frz:=⟨q.hr,λp hp=>N p (.tail _ hp),q.nd,q.off,q.offp,q.kept,q.loc,s2⟩
 have hq':j6 G F0 L m { F7 with heap:=h' } vs x2 k Q:=λv σ' m' w' s' a b c d=>hq v σ' m' w' s' a (SR.trans (G2:=m) (b:={ F7 with heap:=h' }) ⟨⟨rfl,rfl,rfl⟩,rfl⟩ b) c d
 exact bm (s:={ F7 with heap:=h' }) (n:=x1.length) (tk:=tk) W s1 F N lt (zS h).2 hq'
structure BlkOk(G:Gam)(env:Env)(scope:Scope)(cl:List (Str×Addr))(x:Nat):Prop where
 clos:closureFor scope env=pure cl
 cell:∀y∈scope.names,y.2≠.cell
 kind:scope.kind=.function
 names:∀y∈scope.names,y.2=.local->scope.names.lookup y.1=some .local
 var:scope.names.lookup (G.X.nm x)=some .local
theorem wJ{u:PV}:∀{n:Nat} {a:Int},(jh a n)[j]?=some u->u=.int (a+j):=by
 induction j with
 | zero =>
  intro n a e
  induction n with
  | zero=>simp[jh] at e
  | succ n=>simp[jh] at e;rw[<- e];simp
 | succ j ih =>
  intro n a e
  induction n with
  | zero=>simp[jh] at e
  | succ n=>simp[jh] at e;rw[ih e];congr 1;lia
theorem VN:∀(n:Nat) (a:Int),(jh a n).length=n
 | 0,_=>rfl
 | n+1,a=>by simp[jh,VN n]
theorem bG{us:List PV}{xs:List Value}{k:List PV->PS->Prop}{Fin:Shared->List Value->List (Addr×Obj)->Prop}(hh:A.handled=none)
  (he:∀(pn:Pl) (C:Addr) (v:PV),CompVar (G.pil pn) C x v->ES (G.pil pn) A F0 L (eval elt (compEnvC scope cl C env)) (Wv v)) (F:Fr F0 L s.heap m) (R:RL G.X F0 L s.heap m O (us.reverse++vs) (xs.reverse++ws)) (hl:xs.length=us.length)
  (h:one us λb=>yl b λb=>(0<=b/\b<=100000)/\q7 Wv (jh 0 (jy 0 b)) [] O k)
  (hfin:∀{g:Heap} {tk:Nat} {O:PS} {acc:List PV} {ys:List Value} {ρ:List Addr} {led frz:List (Addr×Obj)},k acc O->RB G.X m O (acc++vs) (ys++ws) ρ led frz->ys.length=acc.length->Fin { s with heap:=g,toks:=tk } ys ((led++frz)++G.X.ps)) :
  wpAny (model G.prog G.w) A (call (.type "range") xs) (CompSrc G.prog G.w A F0 L m env elt (G.X.nm x) scope cl Fin) E s:=by
 refine zr (y3 h hl) λb0 w0 Ge Gd g=>?_;subst Ge;subst Gd;refine zd (z9 g) λb Gf F6=>?_;subst Gf;refine zI (RL.int (vs:=vs) (ws:=ws) R) λt Fz=>?_;subst Fz;refine byc λGa=>?_;refine zi (RL.pop (vs:=vs) (ws:=ws) R) λρ led frz q=>?_;have hs:=Jx (a:=0) (b:=b) (by decide) (by decide) (zo (zk g.1.1) rfl) (Je (vC g.1.2) rfl)
 refine Ga (range1_rows F q.all λh' tk N4 P5 I4 hr F' N' Z=>CompSrc.range (s₁:={ s with heap:=h',toks:=tk }) hh F' N' hr hs.1 hs.2 (by unfold jy sizeLine;lia) λg=>VN (jy 0 b) 0▸dj (K:=[]) (Uq (V:=λu=>[(x,u)]) (vs:=vs) (ws:=ws) (k:=k) (λpn C u hu=>he pn C u (hu _ (.head _))) hfin F6.2 (acc:=[]) (ys:=[]) q.rb rfl b9 λj u ej G2 nw fz hP Z=>Ze (zd hP.2 λv hv ht=>⟨v,hv,?_⟩)))
 refine zI ht λt Fy=>?_;subst Fy;rw[wJ ej,Nat.zero_add];exact jo _ _ _ _
def eX(Wa:PS->(List PV->PS->Prop)->Prop)(Wv:PV->PS->KE->Prop)(mt:Bool)(O:PS)(k:KE):Prop:=Wa O λus F1=>one us λb=>yl b λb=>(0<=b/\b<=100000)/\q7 Wv (jh 0 (jy 0 b)) [] F1 λus F5=>qf mt us F5 k
theorem fC{cp:Pos}{mt:Bool}{d:Nat}(ok:BltOk G y (.type "range"))(D:Act G outer F0 env' A d)(V:EnvG env)(hy:env.kindOf (G.X.nm y)=some .globalImplicit)(B:BlkOk G env scope cl x)
  (ha:EL G A F0 L env cp args Wa) (hst:args.all zK=true) (hne:args.isEmpty=false) (he:∀(pn:Pl) (C:Addr) (v:PV),CompVar (G.pil pn) C x v->ES (G.pil pn) A F0 L (eval elt (compEnvC scope cl C env)) (Wv v)) :
  ES G A F0 L (eval (.ListComp elt [⟨.Name (G.X.nm x) px,.Call (.Name (G.X.nm y) np) args [] cp,[],0⟩] scope pos) env) (eX Wa Wv mt):=by
 intro O k m s vs ws h F R Q E hq;refine ListComp_U (h₀:=F0) (m:=m) F B.clos B.cell B.kind B.names B.var (JC ok D V hy ha hst hne h F R λus F1 G3 xs F8 F6 F9 G0 G1 hl=>?_) (λZ=>rfl);have em:=F9.eq;subst em;exact bG D.hd he G0 G1 hl F6 λhk q hl'=>Wf (λv σ' m' w' s' a b c d=>hq v σ' m' w' s' a (F9.trans (SR.trans (G2:=G3) (b:={ F8 with heap:=_,toks:=_ }) ⟨⟨rfl,rfl,rfl⟩,rfl⟩ b)) c d) hk q hl'
end
end
section
variable {X:Cx}{m:Str->Option Value}{vs:List PV}{ws:List Value}
theorem RW.own2{frz:List (Addr×Obj)}(q:RW X F0 L h m O vs ws ρ led frz){o o2:Obj}{a b:Addr}(N:News F0 L h' ((a,o)::(b,o2)::((led++frz)++X.ps)))(hlt:∀p∈(led++frz)++X.ps,p.1≠a/\p.1≠b)(hab:a≠b)
  (ho:HR X (ρ ++ [a]) frz [po] [a] [(a,o),(b,o2)]):RW X F0 L h' m ⟨O.loc,O.hp ++ [po]⟩ vs ws (ρ ++ [a]) (led ++ [(a,o),(b,o2)]) frz:=by
 have up:∀(i:Nat) (b:Addr),ρ[i]?=some b->(ρ ++ [a])[i]?=some b:=λi b e=>Jn i b e;refine⟨(q.hr.mono up (λZ e=>e)).app ho,λp hp=>N p ?_,?_,?_,?_,⟨q.kept.1,λp hp=>up _ _ (q.kept.2 p hp)⟩,λk v e=>?_,q.stk.mono up (λZ e=>e)⟩
 ·simp only[List.mem_append,List.mem_cons,List.not_mem_nil,or_false] at hp ⊢
  rcases hp with ((h | h | h) | h) | h
  ·exact .inr (.inr (.inl (.inl h)))
  ·exact .inl h
  ·exact .inr (.inl h)
  ·exact .inr (.inr (.inl (.inr h)))
  ·exact .inr (.inr (.inr h))
 ·rw[List.map_append,List.nodup_append]
  refine⟨q.nd,by simp[hab],λx hx c hc e=>?_⟩
  simp only[List.map_cons,List.map_nil,List.mem_cons,List.not_mem_nil,or_false] at hc;refine zd (List.mem_map.mp hx) λp hp Fy=>?_;subst Fy;have z:=hlt p (List.mem_append_left _ (List.mem_append_left _ hp))
  rcases hc with rfl | rfl
  ·exact z.1 e
  ·exact z.2 e
 ·intro p hp y hy
  rcases List.mem_append.mp hy with hy | hy
  ·exact q.off p hp y hy
  ·have z:=hlt p (List.mem_append_left _ (List.mem_append_right _ hp))
   simp only[List.mem_cons,List.not_mem_nil,or_false] at hy
   rcases hy with rfl | rfl
   ·exact z.1
   ·exact z.2
 ·intro p hp y hy
  have z:=hlt p (List.mem_append_right _ hp);simp only[List.mem_append,List.mem_cons,List.not_mem_nil,or_false] at hy
  rcases hy with (hy | rfl | rfl) | hy
  ·exact q.offp p hp y (List.mem_append_left _ hy)
  ·exact z.1
  ·exact z.2
  ·exact q.offp p hp y (List.mem_append_right _ hy)
 ·refine zd (q.loc k v e) λw c d=>?_
  exact(zv w c (d.mono up (λZ e=>e)))
end
def JQ(G:Gam)(d:Nat)(f:Addr)(ca:List Value->Args)(S:List PV->List PO->(PV->List PO->Prop)->Prop):Prop:=
 ∀(ps:Pn) {args:List PV} {O:PS} {k:PV->List PO->Prop},S args O.hp k ->
  ∀{outer:List Env} {F0:Heap} {env:Env} {L:Addr} {A:Around} {m:Str->Option Value} {s:Shared} {vs:List PV} {ws aws:List Value},
   Act G outer F0 env A d->env.frame=some L->env.scope.kind=.function->Fr F0 L s.heap m->RL (G.X.pin ps) F0 L s.heap m O (args.reverse++vs) (aws.reverse++ws)->aws.length=args.length ->
   ∀{R:Result->Shared->Prop},(∀v hp' w' s',k v hp'->zn s s'->Fr F0 L s'.heap m->RL (G.X.pin ps) F0 L s'.heap m { O with hp:=hp' } (v::vs) (w'::ws)->R (.ok (.ret w')) s') ->
    codeAny (model G.prog G.w) A (.call (.ref f) (ca aws)) R s
noncomputable def Yd(n1 n2:Str):List Value->Args
 | [a,b,c]=>⟨[a],[(n1,b),(n2,c)]⟩
 | _=>⟨[],[]⟩
section
variable {A:Around}{m:Str->Option Value}{vs:List PV}{ws:List Value}{E:Value->Shared->Prop}
theorem JQ.of{d:Nat}{body:List Stmt}{W:PS->KF->Prop}{S:List PV->List PO->(PV->List PO->Prop)->Prop}(ok:FnOk G ca f ids qual body scope cdv)
  (hb:∀(ps:Pn) {outer:List Env} {F0:Heap} {L:Addr} {A:Around},Act (G.pin ps) outer F0 (envOf qual scope L f cdv) A d->SS (G.pin ps) A F0 L (execs body (envOf qual scope L f cdv)) W)
  (hS:∀args hp k,S args hp k->zX ids W args hp k):JQ G (d+1) f ca S:=by
 intro ps args O k h outer F0 env L A m s vs ws aws D hf hke F R hl Q hq;exact f9 (G:=G.pin ps) (ok.pin ps) (hb ps) (hS _ _ _ h) (D.pin ps) hf hke F R hl hq
def aw(S:List PV->List PO->(PV->List PO->Prop)->Prop)(a b:PV)(O:PS)(k:KE):Prop:=match O with
 | ⟨l,h⟩=>VW (.inst []) h λh'=>S [.ref h.length,a,b] h' λv hp'=>match v with
  | .none=>k (.ref h.length) ⟨l,hp'⟩
  | _=>False
structure CtorOk(G:Gam)(fI:Addr):Prop where
 makes:makesIn G.K G.X.C=true
 init:findIn G.K (.ref G.X.C) "__init__" = some (some (.ref fI))
 fn:isFn G.K (.ref fI)=true
 keep:keepIn G.K (.ref G.X.C)=true
theorem Act.under{d:Nat}(D:Act G outer F0 env A (d+1))(C:Addr)(vals:List Value)(kw:List (Str×Value)):Act G outer F0 env (A.under (.builtin "type.__call__" ⟨.ref C::vals,kw⟩)) d:=
 ⟨D.B,D.Kin,D.T,D.fr,D.hd,by have:=D.dep;rw[depth_under_kw];lia,by have:=D.un;show A.units+1+8*d<_;lia⟩
def pD(C:Addr)(c:PV)(K:Prop):Prop:=match c with
 | .top D=>cond (Nat.beq D C) K False
 | _=>False
set_option tactic.hygienic true in
theorem pF{c:PV}{K:Prop}(h:pD C c K):c=.top C/\K:=by
 cases c<;>first | exact h.elim | skip
 rename_i D
 have h:cond (Nat.beq D C) K False:=h
 cases e:Nat.beq D C with
 | false=>rw[e] at h;exact h.elim
 | true=>rw[e] at h;exact⟨congrArg _ (Nat.eq_of_beq_eq_true e),h⟩
theorem lK{S:List PV->List PO->(PV->List PO->Prop)->Prop}{d:Nat}{id n1 n2:Str}{p1 p2:Pos}{e1 e2:Expr}{Wn W1 W2:PS->KE->Prop}
  (hS:JQ G d fI (Yd n1 n2) S) (D:Act G outer F0 env A (d+1)) (hf:env.frame=some L) (hke:env.scope.kind=.function) (ok:CtorOk G fI)
  (hn:ES G A F0 L (eval (.Name id np) env) Wn) (h1:ES G A F0 L (eval e1 env) W1) (h2:ES G A F0 L (eval e2 env) W2) :
  ES G A F0 L (eval (.Call (.Name id np) [] [⟨some n1,e1,p1⟩,⟨some n2,e2,p2⟩] pos) env) (λO k=>Wn O λc O6=>pD G.X.C c (W1 O6 λa F1=>W2 F1 λb F5=>aw S a b F5 k)):=by
 intro O k m s vs ws h F R Q E hq;show wpAny _ A (do callWith pos (<- eval (.Name id np) env) [] (backTo pos (starEach [] env)) (backToKw pos (keywordEach [⟨some n1,e1,p1⟩,⟨some n2,e2,p2⟩] env))) Q E s
 refine wpAny_bind (hn h F R λc O6 m₀ wc T1 P7 r₀ F₀ T2=>?_);replace P7:=pF P7;obtain⟨rfl,P7⟩:=P7;obtain rfl:=T2.top;refine callWith_KW0 D.Kin ok.keep rfl ?_;refine kwAll_cons (h1 P7 F₀ T2.pop λa F1 G3 wa F8 F6 F9 G0 G1=>kwAll_cons (h2 F6 G0 G1 λb F5 G2 wb F7 G4 G6 G9 G8=>kwAll_nil ⟨D.Kin.keeps G9.keep,?_⟩));refine byc λGa=>?_;obtain⟨ρ,led,frz,q⟩:=G8;obtain⟨l,hp⟩:=F5;refine Ga ?_;unfold aw at G4;replace G4:=jv.mp G4;refine call_cls G9 D.Kin q.all ok.makes ok.init ok.fn λx dx h' F' N' l1 l2=>?_;have W:=q.own2 (po:=.inst []) N' (λp hp=>⟨Nat.ne_of_lt (Nat.lt_trans (l1 p hp) l2),Nat.ne_of_lt (l1 p hp)⟩) (Ne.symm (Nat.ne_of_lt l2)) (.inst rfl .nil);have len:ρ.length=hp.length:=q.hr.len;have hx:VR (ρ ++ [x]) frz (.ref hp.length) (.ref x):=by
  show Exists _;exact(zv x (by rw[List.getElem?_append_right (Nat.le_of_eq len),len];simp) rfl)
 refine byc λGc=>?_;obtain⟨_,_,ee,v2,tl⟩:=W.stk.cons_inv;refine Gc ?_
 cases ee
 refine byc λGg=>?_;obtain⟨_,_,ee,v1,tl⟩:=tl.cons_inv;refine Gg ?_
 cases ee
 have R3:RL G.X F0 L h' G2 ⟨l,hp ++ [.inst []]⟩ (([.ref hp.length,a,b]:List PV).reverse++(.ref hp.length::vs)) (([.ref x,wa,wb]:List Value).reverse++(.ref x::ws)):=
  (zm _ _ _ ⟨W.hr,W.all,W.nd,W.off,W.offp,W.kept,W.loc,VRs.cons v2 (VRs.cons v1 (VRs.cons hx (VRs.cons hx tl)))⟩)
 refine hS G.X.pn G4 (s:={ F7 with heap:=h' }) (aws:=[.ref x,wa,wb]) (D.under _ _ _) hf hke F' R3 rfl λv hp' w' s' hk hr F4 R4=>?_
 split at hk<;>try exact hk.elim
 obtain rfl:=R4.none
 exact⟨rfl,hq _ _ G2 _ s' hk (((r₀.trans F9).trans G6).trans ⟨⟨hr.1,hr.2.1,hr.2.2⟩,rfl⟩) F4 R4.pop⟩
end
theorem Un{kindOf:Str->Option NameKind}:∀{Fu:List (Str×Value)} {m:Str->Option Value} {y:Str},kindOf y=some .local->bindL kindOf Fu m y=(Fu.reverse.lookup y).or (m y)
 | [],m,y,h=>by simp[bindL]
 | (n,v)::r,m,y,h=>by
  show bindL kindOf r _ y=_;rw[Un h,List.reverse_cons,List.lookup_append,Option.or_assoc]
  congr 1
  by_cases e:y=n
  ·subst e;simp[h]
  ·have hb:(y==n)=false:=beq_eq_false_iff_ne.mpr e
   simp only[List.lookup_cons,hb,List.lookup_nil,Option.none_or]
   split
   ·simp[e]
   ·rfl
theorem XU{kindOf:Str->Option NameKind}:∀{Fu:List (Str×Value)} {m:Str->Option Value} {y:Str},kindOf y≠some .local->bindC kindOf Fu m y=(Fu.reverse.lookup y).or (m y)
 | [],m,y,h=>by simp[bindC]
 | (n,v)::r,m,y,h=>by
  show bindC kindOf r _ y=_;rw[XU h,List.reverse_cons,List.lookup_append,Option.or_assoc]
  congr 1
  by_cases e:y=n
  ·subst e;simp[h]
  ·have hb:(y==n)=false:=beq_eq_false_iff_ne.mpr e
   simp only[List.lookup_cons,hb,List.lookup_nil,Option.none_or]
   split
   ·rfl
   ·simp[e]
theorem yD:∀(names:List (Str×NameKind)) (n:Nat) (acc:List (Str×Addr)),(∀p∈acc,p.2<n)->(acc.map (·.2)).Nodup->∀lo,lo<=n->(∀p∈acc,lo<=p.2)->((cellsFrom n names acc).map (·.2)).Nodup /\ ∀p∈cellsFrom n names acc,lo<=p.2
 | [],_,acc,h1,h2,lo,h3,h4=>⟨h2,h4⟩
 | (y,k)::r,n,acc,h1,h2,lo,h3,h4=>by
  unfold cellsFrom
  split
  ·refine yD r (n+1) ((y,n)::acc) (λp hp=>?_) ?_ lo (Nat.le_succ_of_le h3) λp hp=>?_
   ·rcases List.mem_cons.mp hp with rfl | hp
    ·exact Nat.lt_succ_self _
    ·exact Nat.lt_succ_of_lt (h1 p hp)
   ·rw[List.map_cons,List.nodup_cons]
    refine⟨λhm=>?_,h2⟩;refine zd (List.mem_map.mp hm) λp hp e=>?_;exact Nat.lt_irrefl _ (e▸h1 p hp)
   ·rcases List.mem_cons.mp hp with rfl | hp
    ·exact h3
    ·exact h4 p hp
  ·exact yD r n acc h1 h2 lo h3 h4
structure FnOkC(G:Gam)(ca:List Value->Args)(f:Addr)(ids cids:List Nat)(qual:Str)(body:List Stmt)(scope:Scope)(cdv:Value):Prop where
 data:∃name params dV kV doc pm an ct oc od osl,G.K.lookup f=some ⟨oc,od,.func (fnOf name qual params body scope dV kV doc pm an cdv ct),osl⟩ /\
  ∀(s:Shared) (aws:List Value),G.K.In s.heap->aws.length=ids.length->BindsTo s (fnOf name qual params body scope dV kV doc pm an cdv ct) (ca aws) ((ids.map G.X.nm).zip aws)
 code:codeIn G.K cdv qual=true
 nd:ids.Nodup
 locs:∀k∈ids,scope.names.lookup (G.X.nm k)=some .local∨scope.names.lookup (G.X.nm k)=some .cell
 cells:(cellsFrom 0 scope.names []).map (·.1)=cids.map G.X.nm
 ckind:∀c∈cids,scope.names.lookup (G.X.nm c)=some .cell
 lkind:∀k∈ids,k∉cids->scope.names.lookup (G.X.nm k)=some .local
 cnd:cids.Nodup
 co:scope.isCoroutine=false
 gen:scope.isGenerator=false
 kind:scope.kind=.function
theorem FnOkC.pin{body:List Stmt}(ok:FnOkC G ca f ids cids qual body scope cdv)(ps:Pn):FnOkC (G.pin ps) ca f ids cids qual body scope cdv:=⟨ok.data,ok.code,ok.nd,ok.locs,ok.cells,ok.ckind,ok.lkind,ok.cnd,ok.co,ok.gen,ok.kind⟩
noncomputable def YK(cids:List Nat):List (Nat×PV)->List (Nat×PV)
 | []=>[]
 | (k,v)::r=>cond (cids.any (Nat.beq k)) (YK cids r) ((k,v)::YK cids r)
noncomputable def Vf(l:List (Nat×PV)):List Nat->List PO
 | []=>[]
 | c::r=>.cell (lk c l)::Vf l r
theorem VV{k:Nat}:∀{l:List Nat},l.any (Nat.beq k)=true->k∈l
 | [],h=>by cases h
 | a::l,h=>by
  simp only[List.any_cons,Bool.or_eq_true] at h
  rcases h with h | h
  ·rw[Nat.eq_of_beq_eq_true h];exact .head _
  ·exact .tail _ (VV h)
theorem Ul{k:Nat}:∀{l:List Nat},k∈l->l.any (Nat.beq k)=true
 | a::l,h=>by
  simp only[List.any_cons,Bool.or_eq_true]
  cases h with
  | head=>exact .inl (Nat.beq_refl _)
  | tail _ h=>exact .inr (Ul h)
theorem ZI{cids:List Nat}{k:Nat}{v:PV}:∀{l:List (Nat×PV)},lk k (YK cids l)=some v->lk k l=some v/\k∉cids
 | [],h=>by simp[YK,lk] at h
 | (j,u)::r,h=>by
  cases e:cids.any (Nat.beq j) with
  | true =>
   simp only[YK,e,cond_true] at h;obtain⟨h1,h2⟩:=ZI h
   have:k≠j:=λq=>h2 (q▸VV e)
   exact⟨by simp only[lk,zM this,cond_false];exact h1,h2⟩
  | false =>
   simp only[YK,e,cond_false,lk] at h
   cases q:Nat.beq k j with
   | true =>
    rw[q] at h
    have:=Nat.eq_of_beq_eq_true q
    subst this;exact⟨by simp only[lk,q];exact h,λhm=>by rw[Ul hm] at e;cases e⟩
   | false =>
    rw[q] at h;obtain⟨h1,h2⟩:=ZI h;exact⟨by simp only[lk,q,cond_false];exact h1,h2⟩
def Yb(ids cids:List Nat)(W:Nat->PS->KF->Prop)(args:List PV)(hp:List PO)(k:PV->List PO->Prop):Prop:=
 args.length=ids.length/\W hp.length ⟨YK cids (ids.zip args),hp++Vf (ids.zip args) cids⟩ λf O=>match f with
  | .ret v=>k v O.hp
  | .next=>k .none O.hp
  | .brk=>False
noncomputable def UC(n:Nat):List Addr->List (Nat×Addr)
 | []=>[]
 | a::r=>(n,a)::UC (n+1) r
theorem Ww{ρ:List Addr}:∀{as:List Addr} {n:Nat} {p:Nat×Addr},p∈UC n as->n=ρ.length->(ρ++as)[p.1]?=some p.2
 | [],_,_,h,_=>by cases h
 | a::r,n,p,h,e=>by
  cases h with
  | head=>subst e;simp
  | tail _ h =>
   have:=Ww (ρ:=ρ ++ [a]) h (by simp[e])
   simpa using this
theorem UD:∀{as:List Addr} {n j:Nat} {a:Addr},as[j]?=some a->(n+j,a)∈UC n as
 | [],_,_,_,h=>by simp at h
 | b::r,n,0,a,h=>by simp at h;subst h;exact .head _
 | b::r,n,j+1,a,h=>by
  simp at h
  have:=UD (n:=n+1) h
  exact .tail _ (by rw[show n+(j+1)=n+1+j by lia];exact this)
section
variable {A:Around}{m:Str->Option Value}{vs:List PV}{ws:List Value}{E:Value->Shared->Prop}
theorem Uo{X:Cx}{ρ:List Addr}{frz:List (Addr×Obj)}{cm:Str->Option Value}{l:List (Nat×PV)}:∀{cids:List Nat} {cs:List (Str×Addr)} {cells:List (Addr×Obj)},CellsAre cm cs cells->cs.map (·.1)=cids.map X.nm->(∀c∈cids,CR ρ frz (lk c l) (cm (X.nm c))) ->
  HR X ρ frz (Vf l cids) (cs.map (·.2)) cells/\cells.map (·.1)=cs.map (·.2)
 | [],_,_,.nil,_,_=>⟨.nil,rfl⟩
 | c::cids,_,_,.nil,e,_=>by simp at e
 | [],_,_,.cons _ _,e,_=>by simp at e
 | c::cids,_,_,.cons hd t,e,h=>by
  simp only[List.map_cons,List.cons.injEq] at e;refine zh (Uo (cids:=cids) t e.2 λc' hc'=>h c' (.tail _ hc')) λa b=>?_
  have:=h c (.head _)
  rw[<- e.1] at this;exact⟨.cell hd this a,by simp[b]⟩
theorem Jt{X:Cx}:∀{l:List Nat},l.Nodup->(l.map X.nm).Nodup
 | [],_=>List.nodup_nil
 | a::l,h=>by
  refine zh (List.nodup_cons.mp h) λh1 h2=>?_;rw[List.map_cons,List.nodup_cons];refine⟨λhm=>?_,Jt h2⟩;refine zd (List.mem_map.mp hm) λb hb e=>?_;exact h1 (X.inj _ _ e▸hb)
theorem mw{d:Nat}{body:List Stmt}{W:Nat->PS->KF->Prop}(ok:FnOkC G ca f ids cids qual body scope cdv)
  (hb:∀(n:Nat) (cl:List (Nat×Addr)) {outer:List Env} {F0:Heap} {L:Addr} {A:Around},(∀j c,cids[j]?=some c->∃a,(cellsFrom (L+1) scope.names []).lookup (G.X.nm c)=some a/\(n+j,a)∈cl)->Act (G.pin ⟨G.X.ps,G.X.ks,cl⟩) outer F0 (envOfC qual scope L f cdv) A d ->
   SS (G.pin ⟨G.X.ps,G.X.ks,cl⟩) A F0 L (execs body (envOfC qual scope L f cdv)) (W n))
  {args:List PV} {k:PV->List PO->Prop} (hw:Yb ids cids W args O.hp k) {aws:List Value}
  (D:Act G outer F0 env A (d+1)) (hf:env.frame=some L) (hke:env.scope.kind=.function) (F:Fr F0 L s.heap m) (R:RL G.X F0 L s.heap m O (args.reverse++vs) (aws.reverse++ws)) (hlen:aws.length=args.length)
  {Q:Result->Shared->Prop} (hq:∀v hp' w' s',k v hp'->zn s s'->Fr F0 L s'.heap m->RL G.X F0 L s'.heap m { O with hp:=hp' } (v::vs) (w'::ws)->Q (.ok (.ret w')) s') :
  codeAny (model G.prog G.w) A (.call (.ref f) (ca aws)) Q s:=by
 refine byc λGa=>?_;refine zI D.B λR9 B=>?_;obtain⟨name,params,dV,kV,doc,pm,an,ct,oc,od,osl,ho,Fi⟩:=ok.data;refine zh hw λhargs hw=>?_;refine zi R λρ led frz q=>?_;refine yo (ao (O.loc.map (·.1)) λk Z v e=>q.loc k v e) λus xs c1 c2=>?_
 refine zh (QG q hlen) λsa q0=>?_;have s2:=q0.stk;have hnd:((cellsFrom 0 scope.names []).map (·.1)).Nodup:=by rw[ok.cells];exact Jt ok.cnd
 refine Ga ?_;refine code_defC B F D.Kin q.all D.T D.fr hf hke ho ok.code (by have:=D.dep;lia) (Fi s aws (D.Kin.keeps F.keep) (hlen.trans hargs)) ?_ hnd (λg L' F6 tk cells FG F' N' CA B' K' T' l1=>?_) ok.co ok.gen ok.kind
 ·refine List.all_eq_true.mpr λy hy=>?_
  refine byc λGc=>?_;obtain⟨a,b⟩:=y;refine zd (List.mem_map.mp (List.of_mem_zip hy).1) λi hi e=>?_;refine Gc ?_
  show(scope.names.lookup a==some .local||scope.names.lookup a==some .cell)=true
  rw[<- e]
  rcases ok.locs i hi with h | h<;>rw[h]<;>rfl
 ·have hcs:(cellsFrom (L'+1) scope.names []).map (·.1)=cids.map G.X.nm:=(cellsFrom_names scope.names (L'+1) 0 [] [] rfl).trans ok.cells
  refine zh (yD scope.names (L'+1) [] (λZ h=>nomatch h) List.nodup_nil (L'+1) (Nat.le_refl _) (λZ h=>nomatch h)) λnd2 above=>?_;generalize hCS:cellsFrom (L'+1) scope.names []=cs at hcs nd2 above CA;have up:∀(i:Nat) (b:Addr),ρ[i]?=some b->(ρ++cs.map (·.2))[i]?=some b:=λi b e=>by
   rw[List.getElem?_append_left (List.getElem?_eq_some_iff.mp e).1];exact e
  have zl:=Kd (X:=G.X) ok.nd sa;have hCR:∀c∈cids,CR (ρ++cs.map (·.2)) frz (lk c (ids.zip args)) (bindC (envOfC qual scope L' f cdv).kindOf ((ids.map G.X.nm).zip aws) (λZ=>none) (G.X.nm c)):=by
   intro c hc;have hk:(envOfC qual scope L' f cdv).kindOf (G.X.nm c)=some .cell:=ok.ckind c hc;rw[XU (by rw[hk];simp),Option.or_none]
   cases e:lk c (ids.zip args) with
   | some v =>
    refine byc λGg=>?_;refine zd (zl.2 c v e) λw' e1 e2=>?_;refine Gg ?_;rw[e1];exact(zv w' rfl (e2.mono up λZ h=>h))
   | none =>
    have:c∉ids:=λhm=>by
     have key:∀{ids:List Nat} {args:List PV},args.length=ids.length->c∈ids->lk c (ids.zip args)≠none:=by
      intro ids
      induction ids with
      | nil=>intro args _ h;cases h
      | cons a ids ih =>
       intro args hl hm
       induction args with
       | nil=>simp at hl
       | cons b args =>
        simp only[List.zip_cons_cons,lk]
        cases q:Nat.beq c a with
        | true=>simp
        | false =>
         simp only[cond_false];refine ih (by simpa using hl) ?_
         cases hm with
         | head=>rw[Nat.beq_refl] at q;cases q
         | tail _ h=>exact h
     exact key hargs hm e
    rw[zl.1 c this];rfl
  refine zh (Uo (X:=G.X) CA hcs hCR) λhr hmap=>?_;have offc:∀p∈(led++frz)++G.X.ps,∀y∈cells,p.1≠y.1:=λp hp y hy e=>by
   have:y.1∈cs.map (·.2):=hmap▸List.mem_map_of_mem hy
   refine byc λhN4=>?_;refine zd (List.mem_map.mp this) λz hz ez=>?_;have h1:L'+1<=y.1:=ez▸above z hz;have h2:y.1<L':=e▸l1 p hp;refine hN4 ?_;exact Nat.lt_irrefl _ (Nat.lt_trans h2 (Nat.lt_of_succ_le h1))
  have len:ρ.length=O.hp.length:=q.hr.len;have D':Act (G.pin ⟨G.X.ps,G.X.ks,UC O.hp.length (cs.map (·.2))++G.X.cl⟩) (env::outer) g (envOfC qual scope L' f cdv) (A.deeper (envOfC qual scope L' f cdv)) d:=
   ⟨⟨A,B'⟩,K',T',by show A.frames.map _=_;rw[D.fr];rfl,D.hd,by have:=D.dep;show A.depth+1+d<_;lia,by have:=D.un;show A.units+3+8*d<_;lia⟩
  have R':RL (G.X.pin ⟨G.X.ps,G.X.ks,UC O.hp.length (cs.map (·.2))++G.X.cl⟩) g L' F6 (bindL (envOfC qual scope L' f cdv).kindOf ((ids.map G.X.nm).zip aws) λZ=>none) ⟨YK cids (ids.zip args),O.hp++Vf (ids.zip args) cids⟩ (us++vs) (xs++ws):=by
   refine(zm (ρ++cs.map (·.2)) (led++cells) frz ⟨((q.hr.mono up λZ h=>h).app hr).pin,λp hp=>N' p ?_,?_,?_,?_,⟨q.kept.1,λp hp=>?_⟩,λk v e=>?_,(c1.append s2).mono up λZ h=>h⟩)
   ·have hp:p∈((led++cells)++frz)++G.X.ps:=hp
    simp only[List.mem_append] at hp ⊢
    rcases hp with ((h | h) | h) | h
    ·exact .inr (.inl (.inl h))
    ·exact .inl h
    ·exact .inr (.inl (.inr h))
    ·exact .inr (.inr h)
   ·rw[List.map_append,List.nodup_append]
    refine⟨q.nd,hmap▸nd2,λx hx y hy e=>?_⟩;refine zd (List.mem_map.mp hx) λp hp Ge=>?_;subst Ge;refine zd (List.mem_map.mp hy) λp' hp' Gf=>?_;subst Gf;exact offc p (List.mem_append_left _ (List.mem_append_left _ hp)) p' hp' e
   ·intro p hp y hy
    rcases List.mem_append.mp hy with hy | hy
    ·exact q.off p hp y hy
    ·exact offc p (List.mem_append_left _ (List.mem_append_right _ hp)) y hy
   ·intro p hp y hy
    simp only[List.mem_append] at hy
    rcases hy with (hy | hy) | hy
    ·exact q.offp p hp y (List.mem_append_left _ hy)
    ·exact offc p (List.mem_append_right _ hp) y hy
    ·exact q.offp p hp y (List.mem_append_right _ hy)
   ·rcases List.mem_append.mp hp with hp | hp
    ·exact Ww hp len.symm
    ·exact up _ _ (q.kept.2 p hp)
   ·refine zh (ZI e) λe1 e2=>?_
    refine byc λhN5=>?_;refine zd (zl.2 k v e1) λw' e3 e4=>?_;refine hN5 ?_;have hk:k∈ids:=by
     have key:∀{ids:List Nat} {args:List PV},lk k (ids.zip args)=some v->k∈ids:=by
      intro ids
      induction ids with
      | nil=>intro args h;simp[lk] at h
      | cons a ids ih =>
       intro args h
       induction args with
       | nil=>simp[lk] at h
       | cons b args =>
        simp only[List.zip_cons_cons,lk] at h
        cases q:Nat.beq k a with
        | true=>rw[Nat.eq_of_beq_eq_true q];exact .head _
        | false=>rw[q] at h;exact .tail _ (ih h)
     exact key e1
    refine(zv w' ?_ (e4.mono up λZ h=>h));show bindL _ _ _ (G.X.nm k)=_;rw[Un (show(envOfC qual scope L' f cdv).kindOf (G.X.nm k)=some .local from ok.lkind k hk e2),Option.or_none]
    exact e3
  have leave:∀v w' σ' m' s',k v σ'.hp->zn { s with heap:=F6,toks:=tk } s'->Fr g L' s'.heap m'->RL (G.X.pin ⟨G.X.ps,G.X.ks,UC O.hp.length (cs.map (·.2))++G.X.cl⟩) g L' s'.heap m' σ' (v::(us++vs)) (w'::(xs++ws))->LeaveK F0 L m g Q w' s':=by
   intro v w' σ' m' s' hk hr F'' R'';refine byc λhN6=>?_;refine zi R'' λρ' led' frz' q'=>?_;refine hN6 ?_;refine leaveK_ F'' q'.all λF3 N3=>hq v σ'.hp w' s' hk ⟨hr.1,hr.2.1,hr.2.2⟩ F3 ?_;refine byc λhN7=>?_;refine zr q'.stk.cons_inv λZ Z e' hv tl=>?_;refine hN7 ?_
   cases e'
   refine byc λhN8=>?_;refine zr tl.split λy1 y2 ey t1 t2=>?_
   have:=List.append_inj ey.symm (by rw[t1.length,c1.length])
   refine hN8 ?_;refine zh this λFy Fz=>?_;subst Fy;subst Fz;exact(zm ρ' led' frz' ⟨q'.hr.unpin,N3,q'.nd,q'.off,q'.offp,⟨q'.kept.1,λp hp=>q'.kept.2 p (List.mem_append_right _ hp)⟩,λk v e=>c2 ρ' frz' t1 k (Xd e) v e,VRs.cons hv t2⟩)
  have Ft:∀j c,cids[j]?=some c->∃a,(cellsFrom (L'+1) scope.names []).lookup (G.X.nm c)=some a/\(O.hp.length+j,a)∈UC O.hp.length (cs.map (·.2))++G.X.cl:=by
   intro j c hj;have hj':(cs.map (·.1))[j]?=some (G.X.nm c):=by rw[hcs,List.getElem?_map,hj];rfl
   rw[List.getElem?_map] at hj'
   cases e:cs[j]? with
   | none=>rw[e] at hj';cases hj'
   | some p =>
    rw[e] at hj';obtain⟨pn,pa⟩:=p
    cases hj'
    refine(zv pa ?_ (List.mem_append_left _ (UD (by rw[List.getElem?_map,e];rfl))))
    rw[hCS];exact lookup_of_mem_nodup (by rw[hcs];exact Jt ok.cnd) (List.mem_of_getElem? e)
  refine hb O.hp.length _ Ft D' (s:={ s with heap:=F6,toks:=tk }) hw F' R' ⟨λσ' m' s' hk hr F'' R''=>?_,λσ' m' s' hk hr F'' R''=>hk.elim,λv w' σ' m' s' hk hr F'' R''=>?_⟩
  ·exact leave .none .none σ' m' s' hk hr F'' (R''.push Qj)
  ·exact leave v w' σ' m' s' hk hr F'' R''
end
noncomputable def fh(a b:Nat)(ys xs:Array Value):Array Value:=xs.extract 0 a++ys++xs.extract (max a b) xs.size
noncomputable def yz(a b:Nat)(xs ys:List α):List α:=xs.take a++ys++xs.drop (max a b)
section
variable {prog:Program}{w:World}{A:Around}{E:Value->Shared->Prop}
theorem wE(a b:Nat):(max (a:Int) b).toNat=max a b:=by
 rcases Nat.le_total a b with h | h
 ·rw[Int.max_eq_right (Int.ofNat_le.mpr h),Nat.max_eq_right h,Int.toNat_natCast]
 ·rw[Int.max_eq_left (Int.ofNat_le.mpr h),Nat.max_eq_left h,Int.toNat_natCast]
theorem CJ{p q lo m n k S:Nat}(g1:p<=lo)(h3:p<=n)(g2:q<=n-m)(hm:lo<=m)(hz:n+k<=S):p+k+q<=S+1:=by lia
theorem Vc{l sl b:Addr}{items new:Array Value}{nn:Nat}{vl vu:Value}{lo hi:Option Int}{Q:Unit->Shared->Prop}(ho:s.heap.get? l=some (listOf items nn))(hs:s.heap.IsSliceOf sl vl vu .none)(pl:IsPart vl lo)(pu:IsPart vu hi)(hv:s.heap.IsList b new)(hz:items.size+new.size<=sizeLine)
  (hQ:Q () { s with heap:=s.heap.update l (Obj.mapSeq (fh (kms_lo lo items.size) (kms_hi hi items.size) new)) }):wpAny (model prog w) A (setItem (.ref l) (.ref sl) (.ref b)) Q E s:=by
 have hl:s.heap.IsList l items:=(jY _ ho rfl ⟨nn,rfl⟩);refine byc λGa=>?_;refine jG (id hs) λos hos hcs hds=>?_;refine jG (id hv) λob hob hbc Fy=>?_;obtain⟨nb,hbd⟩:=Fy;have hTs:s.TypeIs (.ref sl) "slice" := (zv os hos hcs);refine Ga ?_;unfold setItem
 try with_reducible refine wpAny_holding ?_
 first | refine wpAny_bind (wpAny_pure ?_) | skip
 refine wpAny_bind (wpAny_sequenceKey hl.typeIs (by decide) ?_)
 refine wpAny_bind (wpAny_callSpecial?_slot (name:=Str.ofString "__setitem__") hl.typeIs slot_list_setitem
  (wpAny_call_entry slot_list_setitem hl.typeIs entry_list_setitem ?_ (args_list_setitem _ _ _)))
 show wpAny _ _ (Builtin.List.listSubscript? (.ref sl) >>= _) _ _ s;refine wpAny_bind ?_;unfold Builtin.List.listSubscript?;refine wpAny_bind (wpAny_specialOf hTs slice_no_index ?_);rw[if_pos (show(Option.isNone (none:Option Value))=true from rfl)]
 refine wpAny_pure ?_;show wpAny _ _ (typeOf (.ref sl) >>= _) _ _ s;refine wpAny_bind (wpAny_typeOf hTs ?_);rw[if_neg (by decide)]
 rw[listSliceParts_eq];refine wpAny_bind (wpAny_bind (wpAny_field hos hds (x:=.none) rfl (wpAny_bind (wpAny_listPart .none ?_))));rw[if_neg (show ¬ ((rawPart none==rawInt 0)=true) from Bool.false_ne_true)]
 refine wpAny_bind (wpAny_field hos hds (x:=vl) rfl (wpAny_bind (wpAny_listPart pl ?_)));refine wpAny_bind (wpAny_field hos hds (x:=vu) rfl (wpAny_bind (wpAny_listPart pu (wpAny_pure ?_))));have it:∀{B:Around} {E:Value->Shared->Prop} {a:Addr} {o:Obj} {xs:Array Value} {n:Nat} {R:Array Value->Shared->Prop},s.heap.get? a=some o->o.data=.seq xs n->R xs s->wpAny (model prog w) B (Builtin.List.listItems (.ref a)) R E s:=by
  intro B E a o xs n R h1 h2 h3;unfold Builtin.List.listItems;exact wpAny_bind (wpAny_seqItems h1 h2 (wpAny_pure h3))
 have key:∀{B:Around} {E:Value->Shared->Prop} {c:Prop} {d:Decidable c} {F:Array Value->Sem PySem.Fin} {R:PySem.Fin->Shared->Prop},wpAny (model prog w) B (F new) R E s ->
   wpAny (model prog w) B (@ite _ c d (Builtin.List.listItems (.ref b) >>= F) (Builtin.List.listAllItems (.ref b) "must assign iterable to extended slice" >>= F)) R E s:=by
  intro B E c d F R h
  by_cases hc:c
  ·rw[if_pos hc]
   exact wpAny_bind (m:=Builtin.List.listItems (.ref b)) (it hob hbd h)
  ·rw[if_neg hc]
   refine wpAny_bind (m:=Builtin.List.listAllItems (.ref b) _) ?_;unfold Builtin.List.listAllItems;refine wpAny_bind (wpAny_typeOf (T := "list") (zv ob hob hbc) ?_);rw[if_pos (by decide)]
   first
    | exact it hob hbd h
    | (refine wpAny_bind (m:=Builtin.List.listItems (.ref b)) (it hob hbd ?_);exact wpAny_pure h)
 refine key ?_;refine wpAny_bind (m:=Builtin.List.listItems (.ref l)) (it ho rfl ?_);refine wpAny_bind (wpAny_of_eq (sliceIndices_raw lo hi none items.size (λe=>nomatch e)) ?_);rw[kms_bounds];show wpAny _ _ (if ((1:Int)==1)=true then _ else _) _ _ s
 rw[if_pos (show((1:Int)==1)=true from rfl)]
 refine wpAny_bind (wpAny_rule ?_);show wpAny _ _ (if Builtin.List.listTooLong (items.size+new.size)=true then _ else _) _ _ s
 rw[if_neg (by unfold Builtin.List.listTooLong;exact λe=>absurd (of_decide_eq_true e) (Nat.not_lt.mpr hz))]
 have e0:(((kms_lo lo items.size:Nat):Int)).toNat=kms_lo lo items.size:=rfl;have e1:(max ((kms_lo lo items.size:Nat):Int) ((kms_hi hi items.size:Nat):Int)).toNat=max (kms_lo lo items.size) (kms_hi hi items.size):=wE _ _;rw[e1];refine wpAny_bind ?_;refine wpAny_updateSeq ho rfl ?_ (hz:=Nat.le_trans (Nat.le_add_right _ _) hz) (_hz':=?_)
 ·exact wpAny_bind (wpAny_letGo (wpAny_pure (zv .none rfl (wpAny_pure hQ))))
 ·have h1:(items.extract 0 (kms_lo lo items.size)).size<=kms_lo lo items.size:=by rw[Array.size_extract];exact Nat.le_trans (Nat.sub_le _ _) (Nat.min_le_left ..)
  have h3:(items.extract 0 (kms_lo lo items.size)).size<=items.size:=by rw[Array.size_extract];exact Nat.le_trans (Nat.sub_le _ _) (Nat.min_le_right ..)
  have h2:(items.extract (max (kms_lo lo items.size) (kms_hi hi items.size)) items.size).size<=items.size-max (kms_lo lo items.size) (kms_hi hi items.size):=by rw[Array.size_extract,Nat.min_self];exact Nat.le_refl _
  show(items.extract 0 (kms_lo lo items.size)++new++items.extract (max (kms_lo lo items.size) (kms_hi hi items.size)) items.size).size<=sizeLine+1
  rw[Array.size_append,Array.size_append];exact CJ h1 h3 h2 (Nat.le_max_left ..) hz
end
section
variable {A:Around}{m:Str->Option Value}{vs:List PV}{ws:List Value}{E:Value->Shared->Prop}
def rQ(a l u v:PV)(O:PS)(k:PS->Prop):Prop:=ilC a O λj xs=>opt (Jd O v) λys=>opt (je l) λlo=>opt (je u) λhi=>xs.length+ys.length<=2 ^ 24/\O.siC j (.il (yz (kms_lo lo xs.length) (kms_hi hi xs.length) xs ys)) k
theorem ZV{a b:Nat}{xs ys:List Value}:fh a b ys.toArray xs.toArray=(yz a b xs ys).toArray:=by
 apply Array.toList_inj.mp
 unfold yz fh;simp only[Array.toList_append,Array.toList_extract,List.extract_eq_take_drop,List.size_toArray,Nat.sub_zero,List.drop_zero];rw[List.take_of_length_le (l:=xs.drop (max a b)) (by rw[List.length_drop];exact Nat.le_refl _)]
theorem YW{a b:Nat}{xs:List Int}{us zs:List Value}(h:IntsAre us xs)(h2:IntsAre zs ys):IntsAre (yz a b us zs) (yz a b xs ys):=IntsAre.app (IntsAre.app (h.take a) h2) (h.drop _)
theorem dy{o i:Expr}:swapsWith value (some (.Subscript o i sp)) line env=pure false:=by cases value<;>rfl
theorem vZ{o e:Expr}{lo hi:Option Expr}{Wh:PS->KE->Prop}(ho:ES G A F0 L (eval o env) Wo)(hl:ES G A F0 L (valueOrNone (evalOpt lo env)) Wl)(hh:ES G A F0 L (valueOrNone (evalOpt hi env)) Wh)(he:ES G A F0 L (eval e env) We):
  SS G A F0 L (exec (.Assign [.Subscript o (.Slice lo hi none sp) Fv] e pos) env) (λO k=>We O λv F1=>Wo F1 λa F5=>Wl F5 λl G5=>Wh G5 λu I8=>rQ a l u v I8 λO0=>k .next O0):=by
 intro O k m s vs ws h F R Q E hq;refine wpAny_Assign_stores (he h F R λv F1 G3 I6 F8 F6 F9 G0 G1=>?_) (show swapsWith e (some (.Subscript o (.Slice lo hi none sp) Fv)) pos.line env=pure false from dy) ?_
 ·show wpAny (model G.prog G.w) A (assign (.Subscript o (.Slice lo hi none sp) Fv) env I6) _ _ F8
  rw[arm_assign_Subscript];refine wpAny_bind (wpAny_holding (ho F6 G0 G1 λa F5 G2 L8 F7 G4 G6 G9 G8=>wpAny_bind (wpAny_holding ?_)));show wpAny _ A (do
   let l <- valueOrNone (evalOpt lo env)
   let u <- holding [l] (valueOrNone (evalOpt hi env))
   let s <- holding [l,u] (valueOrNone (evalOpt none env))
   newFields "slice" [l,u,s]) _ E F7
  refine wpAny_bind (hl G4 G9 G8 λl G5 I3 wl H9 H3 I1 I0 H7=>wpAny_bind (wpAny_holding (hh H3 I0 H7 λu I8 O7 wu I9 L0 N8 N9 N5=>wpAny_bind (wpAny_holding (wpAny_pure ?_)))));refine wpAny_newObj_type ?_ (by show(3:Nat)<=sizeLine+2;decide)
  refine wpAny_bind (wpAny_standAt (wpAny_bind (wpAny_holding ?_)));refine zr (tO L0) λj xs Fz ej g=>?_;subst Fz;refine byc λGa=>?_;refine zd (zu g) λys ey g=>?_;refine zd (zu g) λp1 e1 g=>?_;refine jG (zu g) λp2 e2 hz g=>?_;refine Ga ?_;replace g:=jd.mp g;have parts:=YL N5 e1 e2;have R':RL G.X F0 L I9.heap O7 I8 (.ref j::v::vs) (L8::I6::ws):=N5.pop.pop;refine zi (R'.pop.ints ey) λb vit nb Gb=>jc Gb λρ2 led2 frz2 I2 Fy=>?_;subst Fy
  refine byc λGc=>?_;refine zi (R'.list ej) λx items n Gb=>zi Gb λρ pre post Gb=>zI Gb λfrz I=>?_;refine Gc ?_;obtain rfl:=I.rw.ref I.idx;have l1:=I.vals.length;have l2:=I2.vals.length;refine zh (nj I.rw) λo1 o2=>?_
  have N:=I.rw.all.pushKeep { cls:=.type "slice",data:=.fields #[wl,wu,.none] };rw[List.append_assoc,List.append_assoc,List.cons_append,<- List.append_assoc] at N;have z:=N (x,listOf items.toArray n) (by simp)
  refine zI (kG (X:=G.X) (fh (kms_lo p1 items.toArray.size) (kms_hi p2 items.toArray.size) vit.toArray) N o1 o2 (ZV (a:=kms_lo p1 items.toArray.size) (b:=kms_hi p2 items.toArray.size) (ys:=vit))) λn' N'=>?_;have F':=(N9.push { cls:=.type "slice",data:=.fields #[wl,wu,.none] }).change (Heap.SameBut.update _ x (Obj.mapSeq (fh (kms_lo p1 items.toArray.size) (kms_hi p2 items.toArray.size) vit.toArray))) z.2.1 z.2.2;refine Vc z.1 (Heap.IsSliceOf.new ..) parts.1 parts.2 (I2.isList.push _) (by rw[List.size_toArray,List.size_toArray,l1,l2];exact hz) ?_
  have W:=I.rw.swap (led':=pre++(x,listOf (yz (kms_lo p1 xs.length) (kms_hi p2 xs.length) items vit).toArray n')::post) (by simp) (I.put _ _ _ (YW I.vals I2.vals)) (by rw[List.append_assoc,List.append_assoc,List.cons_append,<- List.append_assoc,<- l1];exact N')
  exact wpAny_release (hq.next _ O7 _ g ((((F9.trans G6).trans I1).trans N8).rest.trans ⟨rfl,rfl,rfl⟩) F' (zm ρ _ frz W.pop.pop))
 ·rfl
end
section
variable {A:Around}
theorem VRs.reverse{ρ:List Addr}{frz:List (Addr×Obj)}:∀{us:List PV} {ws:List Value},VRs ρ frz us ws->VRs ρ frz us.reverse ws.reverse
 | [],_,h=>by cases h;exact VRs.nil
 | u::us,_,h=>by
  refine zr h.cons_inv λw r Fy a b=>?_;subst Fy;rw[List.reverse_cons,List.reverse_cons];exact(VRs.reverse b).append (VRs.cons a VRs.nil)
end
section
open PySem.Spec
open PyProof.Rows.LCg
section
variable {A:Around}{m:Str->Option Value}{vs:List PV}{ws:List Value}{E:Value->Shared->Prop}
theorem dw{z:Str}{zp:Pos}{gens:List Comprehension}(hk:env.scope.kind=.function)(hz:env.kindOf z=some .local)(hl:zp.line=pos.line)(hn:(scope.names.any λp=>p.1==z&&(p.2==.local||p.2==.cell))=false):
  swapsWith (.ListComp elt gens scope pos) (some (.Name z zp)) line env=pure true:=by
 have hb:env.blockKind=.function:=by
  unfold Env.blockKind;rw[hk];rfl
 show(pure (env.blockKind==.function&&env.kindOf z==some .local&&zp.line==pos.line && !(scope.names.any λp=>p.1==z&&(p.2==.local||p.2==.cell))):Sem Bool)=_
 rw[hb,hz,hl,hn,beq_self_eq_true pos.line];rfl
end
end
section
variable {A:Around}
def inW(a b:PV)(O:PS)(k:KE):Prop:=yl a λx=>opt (Jd O b) λys=>k (.bool (ys.any (· == x))) O
theorem Em:O2 G A F0 L (compareOp .In) inW:=by
 intro O k m s vs ws a b wa wb h F R Q E hq;refine zd (z9 h) λx Gf h=>?_;subst Gf;refine zd (zu h) λys ey h=>?_;refine zI R.pop.int λt Fz=>?_;subst Fz;refine zi (R.ints ey) λy items2 c2 Gb=>jc Gb λρ2 led2 frz2 I2 Fy=>?_;subst Fy;exact in_list_ints I2.isList I2.vals (hq _ O m _ s h (SR.refl _ _) F (R.pop.pop.push (yP _)))
def rz(a b:PV)(O:PS)(k:KE):Prop:=cond (jD a||jD b) False (opt (jm O a) λus=>opt (jm O b) λvs=>us.length+vs.length<=2 ^ 24/\k (.ls (us++vs)) O)
theorem nN:O2 G A F0 L (binaryOp .Add) rz:=by
 intro O k m s vs ws a b wa wb h F R Q E hq;refine byc λGa=>?_;refine zh (jI h) λht h=>?_;refine zd (zu h) λus ea h=>?_;refine jG (zu h) λvs' eb hl h=>?_;have ta:jD a=false:=by cases e:jD a;rfl;rw[e] at ht;cases ht
 have tb:jD b=false:=by cases e:jD b;rfl;rw[e,Bool.or_true] at ht;cases ht
 refine zi R λρ led frz q=>?_;refine zr q.stk.cons_inv λZ Z ee vb tl=>?_;refine Ga ?_
 cases ee
 refine byc λGc=>?_;refine zr tl.cons_inv λZ Z ee va Z=>?_;refine Gc ?_
 cases ee
 refine yp (vb.seq eb) λy items2 n2 Fz m2 i2=>?_;subst Fz;refine yp (va.seq ea) λx items n Fy m1 i1=>?_;subst Fy;rw[ta] at m1;rw[tb] at m2;have N:=q.news;have l1:s.heap.IsList x items.toArray:=jM N (List.mem_append_right _ m1);have l2:s.heap.IsList y items2.toArray:=jM N (List.mem_append_right _ m2);refine add_lists F q.all l1 l2 (λh' F' N'=>?_) (by rw[i1.length,i2.length];exact hl)
 exact YG (tk:=s.toks) (n:=0) q.pop.pop (i1.append i2) F' N' (λp hp=>Nat.ne_of_lt (Zf q p hp)) h hq
abbrev C7(G:Gam)(F0:Heap)(L:Addr)(arg:PV->Option (List Int)):Prop:=∀{a:PV} {xs:List Int} {O:PS} {m:Str->Option Value} {h:Heap} {vs:List PV} {wa:Value} {ws:List Value},arg a=some xs->Fr F0 L h m->RL G.X F0 L h m O (a::vs) (wa::ws)->∃x items,wa=.ref x/\h.IsList x items.toArray/\IntsAre items xs
def rl(arg:PV->Option (List Int))(y:Nat)(O:PS)(k:KE):Prop:=j7 y O λa F1=>opt (arg a) λxs=>xs.length<=16384/\k (.int (xs.length:Int)) F1
theorem lG{p:Pos}{d:Nat}(ok:BltOk G x (.builtin "len"))(D:Act G outer F0 env' A d)(V:EnvG env)(hx:env.kindOf (G.X.nm x)=some .globalImplicit)(harg:C7 G F0 L arg)(hn:ES G A F0 L (eval (.Name (G.X.nm y) p) env) (j7 y)):
  ES G A F0 L (eval (.Call (.Name (G.X.nm x) np) [.Name (G.X.nm y) p] [] pos) env) (rl arg y):=by
 have:=Jm (np:=np) (pos:=pos) (Wo:=λus O k=>one us λa=>opt (arg a) λxs=>xs.length<=16384/\k (.int (xs.length:Int)) O) ok D V hx (aC hn fx rfl) rfl rfl λh F R hl Q E hq=>?_
 ·exact this
 ·refine zr (y3 h hl) λa w Fz Gf g=>?_;subst Fz;subst Gf
  refine jG (zu g) λxs ex h1 h2=>?_;refine zr (harg ex F R) λb items Fy hI hi=>?_;subst Fy;exact kun_lenL hI (k:=(xs.length:Int)) (by rw[List.size_toArray,hi.length]) (Je (YQ h1) rfl) (hq.push F R.pop (jo _ _) h2)
theorem FR.bdd_lk{n:Nat}:∀{l:List (Nat×PV)} {k:Nat} {v:PV},FR.bdd n l->lk k l=some v->Mine.bdd n v
 | [],_,_,_,e=>nomatch e
 | (j,u)::l,k,v,h,e=>by
  replace e:cond (Nat.beq k j) (some u) (lk k l)=some v:=e
  cases q:Nat.beq k j with
  | true=>rw[q] at e;cases e;exact h.1
  | false=>rw[q] at e;exact FR.bdd_lk h.2 e
end
section
variable {prog:Program}{w:World}{A:Around}{E:Value->Shared->Prop}{t:Addr}{m:Str->Option Value}{news:List (Addr×Obj)}
theorem Js{items:Array Value}(hl:s.heap.IsTuple t items)
  (h:∀F7:Shared,F7 = { s with heap:=s.heap.push { cls:=.type "tuple_iterator",data:=.fields #[.ref t,.int 0 0] } } ->
   (F7.heap.IsTupleIter s.heap.objs.size t 0/\F7.heap.IsTuple t items)->(∀b ∈ [s.heap.objs.size,t],b<F7.heap.objs.size)->t≠s.heap.objs.size->Q (.ref s.heap.objs.size) F7) :
  wpAny (model prog w) A (pyIter (.ref t)) Q E s:=by
 have hlt:t<s.heap.objs.size:=by refine zd hl λZ e Z=>?_;exact Heap.lt_size e
 refine wpAny_pyIter_tuple hl (h _ rfl ⟨(jY _ (Heap.get?_push_size _ rfl) rfl rfl),hl.at λo e=>Heap.get?_push_of_some _ e⟩ (λb hb=>?_) (Nat.ne_of_lt hlt));show b<(s.heap.push _).objs.size;rw[Heap.size_push]
 rcases List.mem_cons.mp hb with rfl | hb
 ·exact Nat.lt_succ_self _
 ·rw[List.mem_singleton.mp hb];exact Nat.lt_succ_of_lt hlt
theorem UX{o:Obj}(hk:∀b x,b ∉ [s.heap.objs.size]->(s.heap.push o).get? b=some x->h'.get? b=some x):∀b x,s.heap.get? b=some x->h'.get? b=some x:=
 λb x e=>hk b x (λhm=>by rw[List.mem_singleton.mp hm] at e;exact Nat.lt_irrefl _ (Heap.lt_size e)) (Heap.get?_push_of_some _ e)
theorem pq{vs:List Value}(hh:A.handled=none)(F:Fr F0 L s.heap m)(N:News F0 L s.heap news)(hl:s.heap.IsTuple t vs.toArray)(hi:IntsAre vs ns)
  (h:∀h' tk t',Fr F0 L h' m->News F0 L h' news->Q (.int ns.sum t') { s with heap:=h',toks:=tk }):wpAny (model prog w) A (call (.builtin "sum") [.ref t]) Q E s:=by
 refine zI hi.allInts.items λxs hx=>?_;rw[hx] at hl;have e1:ns=xs.toList.map (·.1):=by
  rw[<- nums_intItems,<- hx];exact(show numsOf vs.toArray.toList=ns from hi.numsOf).symm
 have e2:preSum (numAt xs) xs.size=ns.sum:=by
  rw[preSum_eq,List.take_of_length_le (by simp),e1]
 refine call_sum_walkG (Js hl λF7 e st hfp hlI=>?_);subst e;refine(zm _ _ _ (zm _ _ _ (Kn (numAt xs) rfl (Walks.tuple (A:=A.in1) hh _ t hlI (intItems xs)) st ⟨hfp,λZ Z=>intItems_at,λh' tk t' hk=>?_⟩)));have hk':=UX hk;have e3:(intItems xs).size=xs.size:=by simp[intItems]
 rw[e3,e2];exact h h' tk t' (F.keeps hk') (N.grown hk')
noncomputable def ZA(x y:Int):Nat->Int | 0=>x | _+1=>y
theorem at2{x y:Int}{u v:Tok}:∀(i:Nat) {r:Value},(#[Value.int x u,.int y v]:Array Value)[i]?=some r->∃t,r=.int (ZA x y i) t
 | 0,r,h=>⟨u,(Option.some.inj h).symm⟩
 | 1,r,h=>⟨v,(Option.some.inj h).symm⟩
 | n+2,r,h=>by simp at h
theorem rm(bt:Nat->Nat->Bool):argBest bt 1=cond (bt 1 0) 1 0:=by
 show(if bt 1 0=true then 1 else 0)=_
 cases bt 1 0<;>rfl
theorem uJ{big:Bool}{x y:Int}{u v:Tok}(hh:A.handled=none)(F:Fr F0 L s.heap m)(N:News F0 L s.heap news)(hl:s.heap.IsTuple t #[.int x u,.int y v])
  (h:∀h' tk t',Fr F0 L h' m->News F0 L h' news->Q (.int (cond big (if y>x then y else x) (if y<x then y else x)) t') { s with heap:=h',toks:=tk }):wpAny (model prog w) A (call (.builtin (cond big "max" "min")) [.ref t]) Q E s:=by
 have fin:∀{c:Bool} {r:Value} {h':Heap} {tk:Nat},(#[Value.int x u,.int y v]:Array Value)[cond c 1 0]?=some r->c=cond big (decide (y>x)) (decide (y<x))->Fr F0 L h' m->News F0 L h' news->Q r { s with heap:=h',toks:=tk }:=by
  intro c r h' tk hr hc F' N';have e:(cond big (if y>x then y else x) (if y<x then y else x))=cond c y x:=by
   subst hc
   induction big
   ·show(if y<x then y else x)=cond (decide (y<x)) y x
    by_cases g:y<x
    ·rw[if_pos g,decide_eq_true g];rfl
    ·rw[if_neg g,decide_eq_false g];rfl
   ·show(if y>x then y else x)=cond (decide (y>x)) y x
    by_cases g:y>x
    ·rw[if_pos g,decide_eq_true g];rfl
    ·rw[if_neg g,decide_eq_false g];rfl
  rw[e] at h
  induction c
  ·obtain rfl:=Option.some.inj hr;exact h h' tk u F' N'
  ·obtain rfl:=Option.some.inj hr;exact h h' tk v F' N'
 induction big with
 | true =>
  refine call_max_walk (Js hl λF7 e st hfp hlI=>?_);subst e;refine(zm _ _ _ (zm _ _ _ (Kn _ rfl (Walks.tuple (A:=A.in1) hh _ t hlI #[.int x u,.int y v]) st ⟨hfp,Nat.succ_pos 1,CmpOf.ints_gt (ZA x y) (λi Z h=>at2 i h),λr h' tk hP hk=>?_⟩)));have hk':=UX hk;have hP:(#[Value.int x u,.int y v]:Array Value)[argBest (λi j=>decide (ZA x y i>ZA x y j)) 1]?=some r:=hP
  rw[rm] at hP;exact fin hP rfl (F.keeps hk') (N.grown hk')
 | false =>
  refine call_min_walk (Js hl λF7 e st hfp hlI=>?_);subst e;refine(zm _ _ _ (zm _ _ _ (Kn _ rfl (Walks.tuple (A:=A.in1) hh _ t hlI #[.int x u,.int y v]) st ⟨hfp,Nat.succ_pos 1,CmpOf.ints_lt (ZA x y) (λi Z h=>at2 i h),λr h' tk hP hk=>?_⟩)));have hk':=UX hk;have hP:(#[Value.int x u,.int y v]:Array Value)[argBest (λi j=>decide (ZA x y i<ZA x y j)) 1]?=some r:=hP
  rw[rm] at hP;exact fin hP rfl (F.keeps hk') (N.grown hk')
end
section
variable {A:Around}{m:Str->Option Value}{vs:List PV}{ws:List Value}{E:Value->Shared->Prop}
noncomputable def tupInts(a:PV):Option (List Int):=match a with
 | .tup us=>jZ us
 | _=>none
theorem RL.tupInts{a:PV}{wa:Value}{xs:List Int}{h:Heap}(R:RL G.X F0 L h m O (a::vs) (wa::ws))(e:tupInts a=some xs):∃x items ρ led frz,RW G.X F0 L h m O (a::vs) (wa::ws) ρ led frz/\h.IsTuple x items.toArray/\IntsAre items xs/\wa=.ref x:=by
 refine jc R.top1 λρ led frz q hv=>?_
 cases a with
 | tup us =>
  refine yp hv λx items n Fy hm hi=>?_;subst Fy;exact(zm x items ρ (yV led frz q (jY _ ((q.news _ (List.mem_append_right _ hm)).1) rfl ⟨n,rfl⟩) (qP e hi) rfl))
 | _=>cases e
def sumT(a:PV)(O:PS)(k:KE):Prop:=opt (tupInts a) λxs=>k (.int xs.sum) O
theorem uX{a:PV}{wa:Value}{k:KE}(hh:A.handled=none)(h:sumT a O k)(F:Fr F0 L s.heap m)(R:RL G.X F0 L s.heap m O (a::vs) (wa::ws))(hq:j6 G F0 L m s vs ws k Q):wpAny (model G.prog G.w) A (call (.builtin "sum") [wa]) Q E s:=by
 refine zd (zu h) λxs e h=>?_;refine zi (R.tupInts e) λx items ρ Gb=>Ju Gb λled frz q hl hi Fy=>?_;subst Fy;refine pq hh F q.all hl hi λh' tk t' F' N'=>hq _ O m _ _ h SR.mk' F' ?_;have q:=q.pop;exact RL.push (zm ρ led frz ⟨q.hr,N',q.nd,q.off,q.offp,q.kept,q.loc,q.stk⟩) (jo _ _)
def CY(xs:List Int)(k:Int->Int->Prop):Prop:=match xs with | [x,y]=>k x y | _=>False
theorem pJ{xs:List Int}{k:Int->Int->Prop}(h:CY xs k):∃x y,xs = [x,y]/\k x y:=by
 match xs,h with
 | [x,y],h=>exact(jL x y rfl h)
def mxT(big:Bool)(a:PV)(O:PS)(k:KE):Prop:=opt (tupInts a) λxs=>CY xs λx y=>k (.int (cond big (if y>x then y else x) (if y<x then y else x))) O
theorem rM{big:Bool}{a:PV}{wa:Value}{k:KE}(hh:A.handled=none)(h:mxT big a O k)(F:Fr F0 L s.heap m)(R:RL G.X F0 L s.heap m O (a::vs) (wa::ws))(hq:j6 G F0 L m s vs ws k Q):wpAny (model G.prog G.w) A (call (.builtin (cond big "max" "min")) [wa]) Q E s:=by
 refine zd (zu h) λxs e h=>?_;refine zi (R.tupInts e) λx items ρ Gb=>Ju Gb λled frz q hl hi Fz=>?_;subst Fz;refine yo (pJ h) λx' y' Fy h=>?_;subst Fy
 cases hi with
 | cons _ u t =>
  cases t with
  | cons _ v t =>
   cases t
   refine uJ hh F q.all hl λh' tk t' F' N'=>hq _ O m _ _ h SR.mk' F' ?_;have q:=q.pop;exact RL.push (zm ρ led frz ⟨q.hr,N',q.nd,q.off,q.offp,q.kept,q.loc,q.stk⟩) (jo _ _)
end
section
open PySem.Spec
open PyProof.Rows.LCg
noncomputable abbrev Asg:=Addr->(Value->Shared->Prop)->Value->Shared->(Shared->Prop)->Prop
def VQ(prog:Program)(w:World)(A:Around)(elt iter tgt:Expr)(scope:Scope)(cl:List (Str×Addr))(pos:Pos)(env:Env)(I:Addr)(T:Asg):Prop:=
 ∀{C D:Addr} {R:Result->Shared->Prop} {Er:Value->Shared->Prop} (Iv:Nat->Shared->Prop),Er=notedBy (model prog w) A (compEnvC scope cl C env) (λe s'=>R (.error e) s')->(∀n s,Iv n s->wpAny (model prog w) A (pyNext (.ref I)) (λr F8=>r.elim (R (.ok .next) F8) λv=>T C Er v F8 λF7 =>
  wpAny (model prog w) A (eval elt (compEnvC scope cl C env)) (λx H9=>wpAny (model prog w) A (call (.builtin "list.append") [.ref D,x]) (λZ I9=>∃m,m<n/\Iv m I9) Er H9) Er F7) Er s) ->
  ∀n s,Iv n s->codeAny (model prog w) A (.compLoop (.ListComp elt [⟨tgt,iter,[],0⟩] scope pos) 0 (.ref I) (.ref D) (compEnvC scope cl C env)) R s
structure WalksG(prog:Program)(w:World)(A:Around)(I:Addr)(fp wr:List Addr)(n:Nat)(T:Asg)(Pj:Nat->(Str->Option Value)->List (Addr×Obj)->Prop)(St:Nat->List (Addr×Obj)->Heap->Prop):Prop where
 sub:∀b∈wr,b∈fp
 live:∀{i K h},St i K h->∀b∈wr,∃o,h.get? b=some o
 frame:∀{i K h h'},St i K h->(∀b∈fp,∀o,h.get? b=some o->h'.get? b=some o)->St i K h'
 item:∀{i K} {s:Shared} {Q:Option Value->Shared->Prop} {E Er:Value->Shared->Prop} {C:Addr} {m k},i<n->St i K s.heap->(∀p∈K,s.heap.get? p.1=some p.2)->s.heap.Ns C m->C∉fp->(∀v F8,T C Er v F8 k->Q (some v) F8) ->
  (∀h tk m' nw,Pj i m' nw->St (i+1) (nw++K) h->h.Ns C m'->(∀p∈nw,h.get? p.1=some p.2/\s.heap.objs.size<=p.1)->(∀b o,b∉wr->b≠C->s.heap.get? b=some o->h.get? b=some o)->k { s with heap:=h,toks:=tk })->wpAny (model prog w) A (pyNext (.ref I)) Q E s
 done:∀{K} {s:Shared} {Q:Option Value->Shared->Prop} {E:Value->Shared->Prop},St n K s.heap->(∀p∈K,s.heap.get? p.1=some p.2) ->
  (∀h tk,(∀b o,b∉wr->s.heap.get? b=some o->h.get? b=some o)->Q none { s with heap:=h,toks:=tk })->wpAny (model prog w) A (pyNext (.ref I)) Q E s
 self:∀{i K} {s:Shared} {Q:Value->Shared->Prop} {E:Value->Shared->Prop},St i K s.heap->Q (.ref I) s->wpAny (model prog w) A (pyIter (.ref I)) Q E s
section
variable {prog:Program}{w:World}{A:Around}{E:Value->Shared->Prop}{m:Str->Option Value}
theorem Vw{a:Addr}{o:Obj}{l:List (Addr×Obj)}(h1:h.get? a=some o)(h2:a≠L/\F0.get? a=none)(N:News F0 L h l):News F0 L h ((a,o)::l):=Uj ⟨h1,h2⟩ N
theorem f5{wr:List Addr}(F:Fr F0 L h m)(hk:∀b o,b∉wr->b≠C->h.get? b=some o->h'.get? b=some o)(hw:∀b∈wr,b≠L/\F0.get? b=none)(hC:C≠L/\F0.get? C=none):Fr F0 L h' m:=
 ⟨F.ns.at' λo e=>hk L o (λh=>(hw L h).1 rfl) (Ne.symm hC.1) e,λb o e=>hk b o (λhm=>by rw[(hw b hm).2] at e;cases e) (λhm=>by rw[hm,hC.2] at e;cases e) (F.keep b o e),F.above⟩
theorem Xq{D:Addr}:∀{l:List (Addr×Obj)},(∀p∈l,p.1≠D)->Off1 D l
 | [],_=>trivial
 | _::_,h=>⟨h _ (.head _),Xq λp hp=>h p (.tail _ hp)⟩
theorem YA{h:Heap}:∀{wr:List Addr},(∀b∈wr,∃o,h.get? b=some o)->∃ib:List (Addr×Obj),ib.map (·.1)=wr /\ ∀p∈ib,h.get? p.1=some p.2
 | [],_=>⟨[],rfl,b9⟩
 | b::_,H=>zI (H b (.head _)) λo e=>zd (YA λb hb=>H b (.tail _ hb)) λib e1 e2=>⟨(b,o)::ib,congrArg (b :: ·) e1,Uj e e2⟩
theorem ul{tgt:Expr}{wr:List Addr}{n:Nat}{T:Asg}{St:Nat->List (Addr×Obj)->Heap->Prop}{K₀ news:List (Addr×Obj)}
  {Fin:List Value->List (Addr×Obj)->Prop} {RR:Result->Shared->Prop} {G3:Str->Option Value} {F6:Heap} {T3:Nat}
  (lo:VQ prog w A elt iter tgt scope cl pos env I T) (W:WalksG prog w A I fp wr n T Pj St) (hsz:n<=sizeLine)
  (hfk:∀b∈fp,b∈wr ∨ ∃o,(b,o)∈K₀) (hfC:∀b∈fp,b≠C/\b≠D) (hw:∀b∈wr,b≠L/\F0.get? b=none) (hC:C≠L/\F0.get? C=none) (hD:D≠L/\F0.get? D=none) (hDC:D≠C) (hkn:∀p∈K₀,p∈news)
  (hst:St 0 K₀ F6) (F:Fr F0 L F6 m) (hn:F6.Ns C G3) (N:News F0 L F6 ((D,lst [])::news)) (off:∀p∈news,p.1∉wr/\p.1≠C/\p.1≠D)
  (R:yR prog w A F0 L m env elt scope cl F7 Pj Fin n 0 K₀ [] news)
  (hRR:∀h tk m' ys news',Fr F0 L h m->News F0 L h ((D,lst ys)::news')->(∀p∈news',p.1∉wr/\p.1≠C/\p.1≠D)->h.Ns C m'->Fin ys news'->RR (.ok .next) { F7 with heap:=h,toks:=tk }) :
  codeAny (model prog w) A (.compLoop (.ListComp elt [⟨tgt,iter,[],0⟩] scope pos) 0 (.ref I) (.ref D) (compEnvC scope cl C env)) RR { F7 with heap:=F6,toks:=T3 }:=by
 have hCf:C∉fp:=λhm=>(hfC C hm).1 rfl;have hDw:D∉wr:=λhm=>(hfC D (W.sub _ hm)).2 rfl;refine lo (λk s'=>∃ys K m' h' tk news',s' = { F7 with heap:=h',toks:=tk } /\ k=n+1-ys.length/\(∀p∈K₀,p∈K)/\ys.length<=n/\St ys.length K h'/\Fr F0 L h' m/\h'.Ns C m'/\News F0 L h' ((D,lst ys)::news')/\(∀p∈news',p.1∉wr/\p.1≠C/\p.1≠D)/\(∀p∈K,p∈news') /\
  yR prog w A F0 L m env elt scope cl F7 Pj Fin (n-ys.length) ys.length K ys news') rfl (λk s' z=>?_) (n+1) _
  (zm [] K₀ G3 (Ko _ _ news rfl rfl (λZ h=>h) ⟨Nat.zero_le _,hst,F,hn,N,off,hkn,R⟩))
 refine zi z λys K m' Gb=>qg Gb λh' tk news' Fz Gf hKK Gb=>jN Gb λhi hst' F' Gb=>jN Gb λhn' N' off' Gb=>zh Gb λhS' R'=>?_;subst Fz;subst Gf;have hKh:∀p∈K,h'.get? p.1=some p.2:=λp hp=>(N' p (.tail _ (hS' p hp))).1
 rcases Nat.lt_or_eq_of_le hi with hlt | hlt
 ·rw[show n-ys.length=(n-(ys.length+1))+1 from(Nat.succ_pred_eq_of_pos (Nat.sub_pos_of_lt hlt)).symm] at R'
  refine W.item hlt hst' hKh hn' hCf (λZ Z h=>h) λH3 tk₃ I3 nw hP T4 P8 hnw old=>?_;have new:∀{b o},h'.get? b=some o->∀q∈nw,b≠q.1:=λe q hq=>Nat.ne_of_lt (Nat.lt_of_lt_of_le (Heap.lt_size e) (hnw q hq).2);refine zd (YA (W.live T4)) λib hib hval=>zd (ns_obj P8) λoC heC hoC=>?_;have ibw:∀p∈ib,p.1∈wr:=λp hp=>hib▸List.mem_map_of_mem hp;have T5:News F0 L H3 news':=λp hp=>⟨old _ _ (off' p hp).1 (off' p hp).2.1 (N' p (.tail _ hp)).1,(N' p (.tail _ hp)).2⟩;refine wpAny_mono (R' nw (ib ++ [(C,oC),(D,lst ys)]) C oC I3 H3 tk₃ _ hP (mr (.head _)) hoC (f5 F' old hw hC) (jH (λp hp=>⟨hval p hp,hw _ (ibw p hp)⟩) (Ui ⟨heC,hC⟩ ⟨old D _ hDw hDC (N' _ (.head _)).1,hD⟩))
   (λp hp=>⟨(hnw p hp).1,Nat.ne_of_gt (Nat.lt_of_lt_of_le F'.ns.lt (hnw p hp).2),ktu_new F' (hnw p hp).2⟩) T5 (jH (λp hp=>zI (W.live hst' _ (ibw p hp)) λo e=>new e) (Ui (zd (ns_obj hn') λo e Z=>new e) (new (N' _ (.head _)).1)))
   (jH (λp hp q hq e=>(off' q hq).1 (e▸ibw p hp)) (Ui (λq hq=>(off' q hq).2.1.symm) λq hq=>(off' q hq).2.2.symm)) λp hp q hq=>new (N' q (.tail _ hq)).1 p hp) (λy I9 L0=>?_) λZ Z e=>e
  refine qg L0 λh₇ tk₇ T6 Fy F₇ Ni Gb=>jN Gb λS2 S3 T7 R₇=>?_;subst Fy;have offn:∀p∈T6,p.1∉wr/\p.1≠C/\p.1≠D:=λp hp=>⟨λhm=>zd (List.mem_map.mp (hib▸hm)) λq hq e=>S3 q (ml hq) p hp e,λe=>S3 (C,oC) (mr (.head _)) p hp e.symm,λe=>S3 (D,lst ys) (mr (.tail _ (.head _))) p hp e.symm⟩;have kp:∀b∈fp,∀o,H3.get? b=some o->h₇.get? b=some o:=λb hb o e=>by
   refine(hfk b hb).elim (λhw=>?_) λhw=>zI hw λo' hk=>?_
   ·rw[<- hib] at hw
    refine zd (List.mem_map.mp hw) λp hp Fy=>?_;subst Fy;exact(Option.some.inj ((hval p hp).symm.trans e))▸(Ni p (ml hp)).1
   ·exact(Option.some.inj ((T5 _ (hS' _ (hKK _ hk))).1.symm.trans e))▸(S2 _ (T7 _ (mr (hKK _ hk)))).1
  refine append_at (hsz:=by show ys.toArray.size<=sizeLine;rw[List.size_toArray];exact Nat.le_trans hi hsz) (Ni (D,lst ys) (mr (.tail _ (.head _)))).1 λh₈ R0 hD₈=>?_
  have el:(ys ++ [y]).length=ys.length+1:=by rw[List.length_append,List.length_singleton]
  refine(zv (n+1-(ys ++ [y]).length) (by rw[el];exact Nat.sub_lt_sub_left (Nat.lt_succ_of_lt hlt) (Nat.lt_succ_self _)) ⟨ys ++ [y],nw++K,_,h₈,tk₇,T6,rfl,rfl,λp hp=>mr (hKK p hp),el.symm▸hlt,el.symm▸W.frame (W.frame T4 kp) λb hb o e=>R0.extBut b o (hfC b hb).2 e,F₇.change R0 hD.1 hD.2,
   (hoC.ns (Ni (C,oC) (mr (.head _))).1).sameBut R0 (Ne.symm hDC),Vw (hD₈.trans (congrArg some (lst_snoc ys y))) hD λp hp=>⟨R0.extBut _ _ (offn p hp).2.2 (S2 p hp).1,(S2 p hp).2⟩,offn,T7,?_⟩)
  rw[el];exact R₇
 ·subst hlt
  rw[Nat.sub_self] at R';refine W.done hst' hKh λG4 T8 O3=>?_;exact hRR G4 T8 _ ys news' (f5 F' (λb o hb Z=>O3 b o hb) hw hC) (λp hp=>⟨O3 _ _ (Uj (P:=λp:Addr×Obj=>p.1∉wr) hDw (λp hp=>(off' p hp).1) p hp) (N' p hp).1,(N' p hp).2⟩) off' (hn'.at' λo e=>O3 _ o (λh=>hCf (W.sub _ h)) e) R'
theorem aj{tgt:Expr}{wr:List Addr}{n:Nat}{T:Asg}{St:Nat->List (Addr×Obj)->Heap->Prop}{K₀ news:List (Addr×Obj)}
  (lo:VQ prog w A elt iter tgt scope cl pos env I T) (W:WalksG prog w A I fp wr n T Pj St) (hsz:n<=sizeLine)
  (hfk:∀b∈fp,b∈wr ∨ ∃o,(b,o)∈K₀) (hw:∀b∈wr,b≠L/\F0.get? b=none) (hkn:∀p∈K₀,p∈news)
  (Ft:∀y∈scope.names,y.2≠.cell) (Fs:scope.kind=.function) (hst:St 0 K₀ F7.heap) (F:Fr F0 L F7.heap m) (N:News F0 L F7.heap news) (off:∀p∈news,p.1∉wr)
  (R:yR prog w A F0 L m env elt scope cl F7 Pj (FinE F0 L m F7 Q) n 0 K₀ [] news) :
  wpAny (model prog w) A (newList []) (λacc H9=>wpAny (model prog w) A (newFunctionEnv scope env.globals cl [] env.qual none .none (some env)) (λJb I9 =>
   codeAny (model prog w) A (.compStart (.ListComp elt [⟨tgt,iter,[],0⟩] scope pos) 0 (.ref I) acc { Jb with scope:=relabel scope env }) (compPost (model prog w) A E none Q acc Jb.locals) I9) E H9) E F7:=by
 refine wpAny_newObj_type (wpAny_newFunctionEnv Ft (by intro y hy;simp at hy) (λF6 S4 R6=>?_) Fs)
 dsimp only at S4 R6 ⊢;have hC:(F7.heap.push { cls:=.type "list",dict:=none,data:=.seq ([]:List Value).toArray }).objs.size=F7.heap.objs.size+1:=Heap.size_push ..;rw[hC] at S4 R6 ⊢;have below:∀b,b<F7.heap.objs.size->b≠F7.heap.objs.size+1/\b≠F7.heap.objs.size:=λb hb=>⟨Nat.ne_of_lt (Nat.lt_succ_of_lt hb),Nat.ne_of_lt hb⟩
 have old:∀b o,F7.heap.get? b=some o->F6.get? b=some o:=λb o e=>R6.extBut b o (below b (Heap.lt_size e)).1 (Heap.get?_push_of_some _ (Heap.get?_push_of_some _ e));have T9:St 0 K₀ F6:=W.frame hst λb Z o e=>old b o e;have hLb:=below L F.ns.lt;have hC':F7.heap.objs.size+1≠L/\F0.get? (F7.heap.objs.size+1)=none:=⟨Ne.symm hLb.1,ktu_new F (Nat.le_succ _)⟩;have hD':F7.heap.objs.size≠L/\F0.get? F7.heap.objs.size=none:=⟨Ne.symm hLb.2,ktu_new F (Nat.le_refl _)⟩;have loop:=ul (RR:=compPost (model prog w) A E none Q (.ref F7.heap.objs.size) (F7.heap.objs.size+1)) (F7:=F7) (T3:=F7.toks+([]:List (Str×Value)).length) lo W hsz hfk (λb hb=>below b ((hfk b hb).elim (λh=>zI (W.live hst b h) λZ e=>Heap.lt_size e) λh=>zI h λo hm=>Heap.lt_size (N _ (hkn _ hm)).1)) hw hC' hD' (Nat.ne_of_lt (Nat.lt_succ_self _)) hkn T9 (F.keeps old) S4
  (Vw (R6.extBut _ _ (Nat.ne_of_lt (Nat.lt_succ_self _)) (Heap.get?_push_of_some _ (Heap.get?_push_size _ rfl))) hD' λp hp=>⟨old _ _ (N p hp).1,(N p hp).2⟩)
  (λp hp=>⟨off p hp,below _ (Heap.lt_size (N p hp).1)⟩) R
  (λh tk m' ys news' F N o n r=>zv m' n λh'' hs=>r _ h'' tk (F.change hs hC'.1 hC'.2) (λp hp=>⟨hs.extBut _ _ (Uj (P:=λp:Addr×Obj=>p.1≠F7.heap.objs.size+1) (Nat.ne_of_lt (Nat.lt_succ_self _)) (λp hp=>(o p hp).2.1) p hp) (N p hp).1,(N p hp).2⟩) (Xq λp hp=>(o p hp).2.2))
 exact codeAny_compStart_list loop (W.self T9 loop)
noncomputable def xe(prog:Program)(w:World)(A:Around)(scope:Scope)(cl:List (Str×Addr))(env:Env)(I:Addr)(Ff:List Expr)(kd:Nat)(tp:Pos):Asg:=λC Er v s k=>wpAny (model prog w) A (letOwnedTupleGo (.Tuple Ff kd tp) (.ref I) v) (λZ F8=>wpAny (model prog w) A (assign (.Tuple Ff kd tp) (compEnvC scope cl C env) v) (λZ F7=>k F7) Er F8) Er s
theorem mW{kd:Nat}:VQ prog w A elt iter (.Tuple Ff kd tp) scope cl pos env I (xe prog w A scope cl env I Ff kd tp):=λIv e h n s hI=>by
 subst e;exact LCp.codeAny_compLoop_pair Iv (λn s hI=>wpAny_mono (h n s hI) (λr F8 h=>by cases r<;>exact h) λZ Z e=>e) n hI
theorem vo{x R7:Str}{px₂:Pos}{kd:Nat}{wr:List Addr}{n:Nat}{Pt:Nat->Array Value->Prop}{P2:Nat->Value->Value->Prop}{St:Nat->Heap->Prop}{Mid:Nat->Addr->Heap->Prop}(hh:A.handled=none)
  (Fs:scope.kind=.function) (hx:scope.names.lookup x=some .local) (hx₂:scope.names.lookup R7=some .local) (hxx:x≠R7) (W:WalksT prog w A I fp wr n Pt St Mid) (hP:∀i vals,Pt i vals->∃I4 I7,vals = #[I4,I7]/\P2 i I4 I7) (live:∀{i h},St i h->∀b∈wr,∃o,h.get? b=some o) :
  WalksG prog w A I fp wr n (xe prog w A scope cl env I [.Name x px,.Name R7 px₂] kd tp) (λi G2 nw=>nw = [] /\ ∃I4 I7,G2 x=some I4/\G2 R7=some I7/\P2 i I4 I7) (λi Z h=>St i h) where
 sub:=W.sub
 live:=live
 frame:=W.frame _ _ _
 item:=λ{i K s Q E Er C m k} hi hst _ hn hC hQ hk=>W.item i s Q E hi hst λT vals G4 T8 hPv Z hT hMid O3=>by
  refine yo (hP _ vals hPv) λI4 I7 Gf hP2=>?_;subst Gf;refine hQ _ _ (W.go _ _ _ _ T _ _ _ hMid λL0 hst₄ S5=>?_);refine assign_Tuple_tuple hh (show IsTup L0 T #[I4,I7] from zd hT λo e r=>(zv o (S5 T o (W.apart _ T _ hMid) e) r)) rfl rfl λP9 he=>?_
  have he':∀b o,b∉wr->s.heap.get? b=some o->P9.get? b=some o:=λb o hb e=>he b o (Nat.ne_of_lt (Heap.lt_size (S5 b o hb (O3 b o hb e)))) (S5 b o hb (O3 b o hb e));refine assignInOrder_cons (wpAny_assign_Name (wpAny_storeName_local (lookup_relabel_local hx) (hn.at' λo e=>he' _ o (λh=>hC (W.sub _ h)) e) (λh₆ hn₆ hs₆=>?_) (by simp[compEnvC,relabel,Fs])))
  refine assignInOrder_cons (wpAny_assign_Name (wpAny_storeName_local (lookup_relabel_local hx₂) hn₆ (λH3 P8 N7=>assignInOrder_nil ?_) (by simp[compEnvC,relabel,Fs])))
  have old3:∀b o,b≠C->P9.get? b=some o->H3.get? b=some o:=λb o hb e=>N7.extBut b o hb (hs₆.extBut b o hb e);exact hk H3 _ _ [] ⟨rfl,I4,I7,by simp[hxx],by simp,hP2⟩ (W.frame _ _ _ hst₄ λb hb o e=>old3 b o (λh=>hC (h▸hb)) (he b o (Nat.ne_of_lt (Heap.lt_size e)) e)) P8 b9 λb o hb hc e=>old3 b o hc (he' b o hb e)
 done:=λhst Z hQ=>W.done _ _ _ hst hQ
 self:=λhst hQ=>W.self _ _ _ _ hst hQ
noncomputable def xb(prog:Program)(w:World)(A:Around)(scope:Scope)(cl:List (Str×Addr))(env:Env)(x:Str)(px:Pos):Asg:=λC Er v s k=>wpAny (model prog w) A (assign (.Name x px) (compEnvC scope cl C env) v) (λZ F7=>k F7) Er s
theorem mV{x:Str}:VQ prog w A elt iter (.Name x px) scope cl pos env I (xb prog w A scope cl env x px):=λIv e h n s hI=>by
 subst e;exact codeAny_compLoop_list Iv (λn s hI=>wpAny_mono (h n s hI) (λr F8 h=>by cases r<;>exact h) λZ Z e=>e) n hI
end
end
section
open PySem.Spec
open PyProof.Rows.LCg
def X0(Wv:PV->PV->PS->KE->Prop)(i:Nat)(items:List PV):List PV->PS->(List PV->PS->Prop)->Prop:=q7 (λp:PV×Nat=>Wv (.int (p.2:Int)) p.1) (items.zipIdx i)
section
variable {A:Around}{m:Str->Option Value}{vs:List PV}{ws:List Value}{E:Value->Shared->Prop}
def k5(G:Gam)(F0:Heap)(L:Addr)(h:Heap)(m:Str->Option Value)(vs:List PV)(ws:List Value)(Wv:PV->PV->PS->KE->Prop)(k:KE)(w:Value):Prop:=
 ∃(l:Addr) (vals:List Value) (n:Nat) (ps:List (Addr×Obj)) (O:PS),w=.ref l /\ ∃(vs':List PV) (ws':List Value) (ρ:List Addr) (led frz:List (Addr×Obj)) (items:List PV) (kk:List PV->PS->Prop),RB (G.pil (ps,G.X.ks)).X m O vs' ws' ρ led frz/\News F0 L h ((led++frz)++ps)/\(l,listOf vals.toArray n)∈frz++ps/\items.length=vals.length/\items.length<=100000/\X0 Wv 0 items [] O kk/\(∀{j:Nat} {u:PV},items[j]?=some u->∃w,vals[j]?=some w/\VR [] frz u w) /\
  ∀{F7:Shared} {Q:Value->Shared->Prop},j6 G F0 L m F7 vs ws k Q->∀{O:PS} {acc:List PV} {ys:List Value} {ρ:List Addr} {led frz:List (Addr×Obj)},kk acc O->RB (G.pil (ps,G.X.ks)).X m O (acc++vs') (ys++ws') ρ led frz->ys.length=acc.length->FinE F0 L m F7 Q ys ((led++frz)++ps)
structure BlkE(G:Gam)(env:Env)(scope:Scope)(cl:List (Str×Addr))(x y:Nat):Prop extends BlkOk G env scope cl x where
 var2:scope.names.lookup (G.X.nm y)=some .local
 ne:G.X.nm x≠G.X.nm y
theorem fD{z:Nat}{cp py:Pos}{kd:Nat}{Wv:PV->PV->PS->KE->Prop}{T:PV->PS->KE->Prop}{d:Nat}(ok:BltOk G z (.type "enumerate"))(D:Act G outer F0 env' A d)(V:EnvG env)(hz:env.kindOf (G.X.nm z)=some .globalImplicit)(B:BlkE G env scope cl x y)
  (ha:EL G A F0 L env cp args Wa) (hst:args.all zK=true) (hne:args.isEmpty=false)
  (he:∀(pn:Pl) (C:Addr) (u v:PV),CompVar (G.pil pn) C x u->CompVar (G.pil pn) C y v->ES (G.pil pn) A F0 L (eval elt (compEnvC scope cl C env)) (Wv u v))
  (src:∀{a O k h m w vs ws},T a O k->RL G.X F0 L h m O (a::vs) (w::ws)->k5 G F0 L h m vs ws Wv k w) :
  ES G A F0 L (eval (.ListComp elt [⟨.Tuple [.Name (G.X.nm x) px,.Name (G.X.nm y) py] kd tp,.Call (.Name (G.X.nm z) np) args [] cp,[],0⟩] scope pos) env) (λO k=>Wa O λus F1=>one us λa=>T a F1 k):=by
 intro O k m s vs ws h F R Q E hq;rw[eval_ListComp];refine wpAny_comprehension_free (use:=none) rfl (λZ=>rfl) B.clos B.kind B.names (JC ok D V hz ha hst hne h F R λus F1 G3 xs F8 F6 F9 G0 G1 hl=>?_);have em:=F9.eq;subst em;refine zr (y3 F6 hl) λv w0 Gf Ge g=>?_;subst Gf;subst Ge;refine zi (src (vs:=vs) (ws:=ws) g G1:k5 G F0 L F8.heap G3 vs ws Wv k w0) λl vals n Gb=>yo Gb λps σ' e Gb=>zi Gb λvs' ws' ρ Gb=>zi Gb λled frz items Gb=>jU Gb λkk q N hm Gb=>Bx Gb λhlen hsz hc hv fin=>?_;subst e;have hN:=(N _ (me hm (λh=>ml (mr h)) mr)).1
 have hli:F8.heap.IsList l vals.toArray:=(jY _ hN rfl ⟨n,rfl⟩);have hlt:l<F8.heap.objs.size:=Heap.lt_size hN;have hLs:L<F8.heap.objs.size:=G0.ns.lt;refine call_enumerate_list hli λh' hE hI hsz' hk=>?_
 refine wpAny_pyIter_enum hE ?_;have news_lt:∀p∈(led++frz)++ps,p.1<F8.heap.objs.size:=λp hp=>Heap.lt_size (N p hp).1
 refine aj (F7:={ F8 with heap:=h' }) (K₀:=[(l,listOf vals.toArray n)]) (news:=(led++frz)++ps) mW
  (vo (P2:=λi I4 I7=>(∃t,I4=.int (i:Int) t)/\vals[i]?=some I7) D.hd B.kind B.var B.var2 B.ne (WalksT.enumerate D.hd (F8.heap.objs.size+1) F8.heap.objs.size l (Nat.succ_ne_self _) (ktu_ne 1 hlt) (Nat.ne_of_lt hlt) vals.toArray) ?_ ?_)
  (by rw[List.size_toArray,<- hlen];unfold sizeLine;exact qG hsz rfl) (sf (.inl (.head _)) (.inl (.tail _ (.head _))) (.inr ⟨_,.head _⟩)) (Ui ⟨(ktu_ne 1 hLs).symm,ktu_new G0 (Nat.le_add_right _ _)⟩ ⟨(Nat.ne_of_lt hLs).symm,ktu_new G0 (Nat.le_refl _)⟩)
  (Ze (me hm (λh=>ml (mr h)) mr)) B.cell B.kind ⟨⟨.none,hE⟩,hI,hli.at λo e=>hk l o e⟩ (G0.keeps hk) (N.grown hk) (λp hp hI'=>Ui (P:=λb=>p.1≠b) (ktu_ne 1 (news_lt p hp)) (Nat.ne_of_lt (news_lt p hp)) p.1 hI' rfl) ?_
 ·rintro i vv ⟨t,x',hx',rfl⟩
  exact(jw _ _ rfl ⟨t,rfl⟩ (by simpa using hx'))
 ·rintro i g ⟨⟨old,he⟩,⟨oi,hoi,hic,_⟩,_⟩
  exact Ui ⟨_,he⟩ ⟨_,hoi⟩
 ·rw[List.size_toArray,<- hlen,<- List.length_zipIdx (i:=0)]
  refine Uq (G:=G.pil (ps,G.X.ks)) (V:=λp:PV×Nat=>[(x,.int (p.2:Int)),(y,p.1)]) (k:=kk) (λpn C u hu=>he pn C _ _ (hu _ (.head _)) (hu _ (.tail _ (.head _)))) (λhk' q' hl'=>fin (λv σ' m' w' s' a b c d=>hq v σ' m' w' s' a (F9.trans (SR.trans (G2:=G3) (b:={ F8 with heap:=h' }) ⟨⟨rfl,rfl,rfl⟩,rfl⟩ b)) c d) hk' q' hl') hc (acc:=[]) (ys:=[]) q rfl (Ze hm) λj u ej G2 nw fz hP sub=>?_
  rw[List.getElem?_zipIdx] at ej
  cases eu:items[j]? with
  | none=>rw[eu] at ej;cases ej
  | some u' =>
   rw[eu] at ej
   cases ej
   refine zh hP λZ hP=>zr hP λI4 I7 h1 h2 hP=>zh hP λh3 h4=>?_;refine zd (hv eu) λw' ew hv'=>zI h3 λt e3=>?_;rw[Nat.zero_add] at h4;rw[h4] at ew
   cases ew
   subst e3;exact Ui ⟨_,h1,jo _ _ _ _⟩ ⟨_,h2,hv'.mono (λZ Z e=>e) λp hp=>sub p (mr hp)⟩
def vU(Wv:PV->PV->PS->KE->Prop)(mt:Bool)(a:PV)(F1:PS)(k:KE):Prop:=cond (jD a) False (opt (jm F1 a) λitems=>(JU items=true/\items.length<=100000)/\X0 Wv 0 items [] F1 λus F5=>qf mt us F5 k)
theorem Cs{Wv:PV->PV->PS->KE->Prop}{mt:Bool}{a:PV}{k:KE}{w:Value}(g:vU Wv mt a O k)(R:RL G.X F0 L h m O (a::vs) (w::ws)):k5 G F0 L h m vs ws Wv k w:=by
 refine zh (jI g) λht g=>jG (zu g) λitems e Fz F6=>zh Fz λhf hsz=>?_;refine zi (R.seq e) λl vals n Gb=>jc Gb λρ led frz I Fy=>?_;subst Fy;have hm:=I.mem;rw[ht] at hm;replace hm:(l,listOf vals.toArray n)∈frz:=hm;exact⟨l,vals,n,G.X.ps,O,rfl,vs,ws,ρ,led,frz,items,_,I.rw.rb,I.rw.all,ml hm,I.vals.length.symm,hsz,F6,λej=>zd (I.vals.get ej) λw' ew hv=>⟨w',ew,hv.abs (JF hf ej)⟩,λhq Z Z Z Z Z Z hk q hl=>Wf hq hk q hl⟩
end
end
section
open PySem.Spec
open PyProof.Rows.LCg
section
variable {A:Around}{m:Str->Option Value}{vs:List PV}{ws:List Value}{E:Value->Shared->Prop}
def rS(Wa:PS->(List PV->PS->Prop)->Prop)(Wv:PV->PS->KE->Prop)(z:Nat)(O:PS)(k:KF):Prop:=Wa O λus F1=>one us λb=>yl b λb=>(0<=b/\b<=100000)/\q7 Wv (jh 0 (jy 0 b)) [] F1 λus F5=>F5.slC z (.ls us) (k .next)
theorem fV{z:Nat}{k:KF}{Q:Flow->Shared->Prop}(hq:FCont G F0 L F7 vs ws k Q){acc:List PV}{ys:List Value}{frz:List (Addr×Obj)}(h:O.slC z (.ls acc) (k .next))(q:RB G.X m O (acc++vs) (ys++ws) ρ led frz)(hl:ys.length=acc.length):
  FinA F0 L m F7 (G.X.nm z) Q ys ((led++frz)++G.X.ps):=by
 intro D h' tk F N off;have lt:=Qb off;refine zr q.stk.split λx1 x2 e12 s1 s2=>?_
 obtain⟨rfl,rfl⟩:=List.append_inj e12.symm (by rw[s1.length,hl])
 have W:RW G.X F0 L h' m O vs x2 ρ led frz:=⟨q.hr,λp hp=>N p (.tail _ hp),q.nd,q.off,q.offp,q.kept,q.loc,s2⟩;have W2:=W.freeze N lt;have R:RL G.X F0 L h' m O (.ls acc::vs) (.ref D::x2):=(zm ρ led _ ⟨W2.hr,W2.all,W2.nd,W2.off,W2.offp,W2.kept,W2.loc,VRs.cons (by show Exists _;exact(yW D x1 x1.length rfl (.head _) (s1.mono (λZ Z e=>e) λp hp=>.tail _ hp))) W2.stk⟩)
 exact hq.next _ _ { F7 with heap:=h',toks:=tk } (zW.mp h) zn.mk' F (R.store (k:=z))
theorem o6{z:Nat}{zp cp:Pos}{d:Nat}(ok:BltOk G y (.type "range"))(D:Act G outer F0 env' A d)(V:EnvF env L)(hz:env.kindOf (G.X.nm z)=some .local)(hy:env.kindOf (G.X.nm y)=some .globalImplicit)(B:BlkOk G env scope cl x)
  (ha:EL G A F0 L env cp args Wa) (hst:args.all zK=true) (hne:args.isEmpty=false) (he:∀(pn:Pl) (C:Addr) (v:PV),CompVar (G.pil pn) C x v->ES (G.pil pn) A F0 L (eval elt (compEnvC scope cl C env)) (Wv v))
  (hl:zp.line=pos.line) (hn:(scope.names.any λp=>p.1==G.X.nm z&&(p.2==.local||p.2==.cell))=false) :
  SS G A F0 L (exec (.Assign [.Name (G.X.nm z) zp] (.ListComp elt [⟨.Name (G.X.nm x) px,.Call (.Name (G.X.nm y) np) args [] cp,[],0⟩] scope pos) Fv) env) (rS Wa Wv z):=by
 intro O k m s vs ws h F R Q E hq;have hLe:env.locals=L:=V.loc;refine Assign_ListComp_U (h₀:=F0) (m:=m) F hLe (dw V.kind hz hl hn) B.clos B.cell B.kind B.names B.var hz (by rw[V.kind];rfl) (JC ok D V.toEnvG hy ha hst hne h F R λus F1 G3 xs F8 F6 F9 G0 G1 hl=>?_) (λZ=>rfl)
 have em:=F9.eq;subst em;exact bG D.hd he G0 G1 hl F6 λhk q hl'=>fV (hq.after (F9.rest.trans zn.mk')) hk q hl'
end
end
theorem XH{d:Addr}{o:Obj}{post:List (Addr×Obj)}(hp:∀p∈post,p.1≠d):∀{pre:List (Addr×Obj)},(∀p∈pre,p.1≠d)->UpdF d o (pre++(d,o)::post) (λo'=>pre++(d,o')::post)
 | [],_=>.head hp
 | p::pre,h=>.tail (h p (.head _)) (XH hp λq hq=>h q (.tail _ hq))
def V7(o:Option PO)(k:List (Nat×PV)->Prop):Prop:=match o with | some (.dct fs)=>k fs | _=>False
theorem Q7{o:Option PO}{k:List (Nat×PV)->Prop}(h:V7 o k):∃fs,o=some (.dct fs)/\k fs:=by
 cases o with
 | none=>exact False.elim h
 | some p=>cases p<;>first | exact⟨_,rfl,h⟩ | exact False.elim h
theorem Pairs.conv{p p':Program}{w:World}{es:List DictEntry}{kvs:List (Str×Value)}(h:Pairs (strKind p w) es kvs):Pairs (strKind p' w) es kvs:=by
 induction h with
 | nil=>exact .nil
 | cons a b _ ih=>exact .cons a b ih
theorem Qt{p p':Program}{w:World}{o:Obj}{kvs:List (Str×Value)}(h:o.IsDictOf (strKind p w) kvs):o.IsDictOf (strKind p' w) kvs:=
 let⟨es,ep,a,b,c,d,e⟩:=h;(yV es ep a b c ⟨Pairs.conv d,e⟩)
theorem ds{kv:Str×Value}{r:List (Str×Value)}{k:Str}{v:Value}(h:kv.1≠k):stored (kv::r) k v=kv::stored r k v:=by
 unfold stored;rw[List.any_cons,decide_eq_false h,Bool.false_or]
 split
 ·rw[List.map_cons,if_neg h]
 ·rfl
theorem dq{u:Value}{r:List (Str×Value)}{k:Str}{v:Value}(h:∀p∈r,p.1≠k):stored ((k,u)::r) k v=(k,v)::r:=by
 unfold stored;rw[List.any_cons,decide_eq_true rfl,Bool.true_or,if_pos rfl,List.map_cons,if_pos rfl]
 congr 1
 exact(List.map_congr_left λp hp=>if_neg (h p hp)).trans (List.map_id _)
section
variable {nm:Nat->Str}{frz:List (Addr×Obj)}{v:PV}{w:Value}
theorem V8(inj:∀i j,nm i=nm j->i=j):∀{fs:List (Nat×PV)} {ws:List Value},VRs ρ frz (fs.map (·.2)) ws->lk x fs=some v->∃w,valueAt (dkv nm fs ws) (nm x)=some w/\VR ρ frz v w
 | [],_,_,e=>by cases e
 | (j,u)::fs,_,h,e=>by
  refine zr (VRs.cons_inv h) λw r Fy a b=>?_;subst Fy;have e:cond (Nat.beq x j) (some u) (lk x fs)=some v:=e;show ∃w',Option.map _ (List.find? _ ((nm j,w)::dkv nm fs r))=some w'/\_;rw[List.find?_cons]
  by_cases q:x=j
  ·subst q
   rw[Nat.beq_refl] at e
   cases e
   rw[decide_eq_true rfl];exact(zv w rfl a)
  ·rw[zM q] at e
   refine zd (V8 inj b e) λw' e1 e2=>?_;rw[decide_eq_false λh=>q (inj _ _ h).symm];exact(zv w' e1 e2)
theorem aB(inj:∀i j,nm i=nm j->i=j)(hv:VR ρ frz v w):∀{fs:List (Nat×PV)} {ws:List Value},VRs ρ frz (fs.map (·.2)) ws->((dkv nm fs ws).map (·.1)).Nodup->∃ws',stored (dkv nm fs ws) (nm x) w=dkv nm (st x v fs) ws'/\VRs ρ frz ((st x v fs).map (·.2)) ws'
 | [],_,h,_=>by cases h;exact(zv ([w]) rfl (VRs.cons hv VRs.nil))
 | (j,u)::fs,_,h,n=>by
  refine zr (VRs.cons_inv h) λw0 r Fy a b=>?_;subst Fy;have n:=List.nodup_cons.mp (show(nm j::(dkv nm fs r).map (·.1)).Nodup from n)
  show ∃ws',stored ((nm j,w0)::dkv nm fs r) (nm x) w=dkv nm (cond (Nat.beq x j) ((j,v)::fs) ((j,u)::st x v fs)) ws'/\VRs ρ frz ((cond (Nat.beq x j) ((j,v)::fs) ((j,u)::st x v fs)).map (·.2)) ws'
  by_cases q:x=j
  ·subst q
   rw[Nat.beq_refl,dq λp hp e=>n.1 (by rw[<- e];exact List.mem_map_of_mem hp)]
   exact(zv (w::r) rfl (VRs.cons hv b))
  ·refine zd (aB inj hv b n.2) λws' e1 e2=>?_
   rw[zM q,ds (kv:=(nm j,w0)) λe=>q (inj _ _ e).symm,e1];exact(zv (w0::ws') rfl (VRs.cons a e2))
theorem lD{fs:List (Nat×PV)}{ws:List Value}:(dkv nm fs ws).length<=fs.length:=by
 unfold dkv;rw[List.length_zip,List.length_map];exact Nat.min_le_left _ _
end
section
variable {A:Around}{m:Str->Option Value}{vs:List PV}{ws:List Value}{E:Value->Shared->Prop}
structure DctF(G:Gam)(F0:Heap)(L:Addr)(h:Heap)(m:Str->Option Value)(O:PS)(vs:List PV)(ws:List Value)(i:Nat)(fs:List (Nat×PV))(x:Addr)(o:Obj)(us:List Value)(ρ:List Addr)(pre post frz:List (Addr×Obj)):Prop where
 rw:RW G.X F0 L h m O vs ws ρ (pre++(x,o)::post) frz
 vals:VRs ρ frz (fs.map (·.2)) us
 dic:o.IsDictOf (strKind G.prog G.w) (dkv G.X.nm fs us)
 idx:ρ[i]?=some x
 put:∀(fs':List (Nat×PV)) (us':List Value) (o':Obj),VRs ρ frz (fs'.map (·.2)) us'->o'.IsDictOf (strKind G.prog G.w) (dkv G.X.nm fs' us')->HR G.X ρ frz (O.hp.set i (.dct fs')) ρ (pre++(x,o')::post)
theorem RL.dct{i:Nat}{fs:List (Nat×PV)}(R:RL G.X F0 L h m O vs ws)(e:O.hp[i]?=some (.dct fs)):∃x o us ρ pre post frz,DctF G F0 L h m O vs ws i fs x o us ρ pre post frz:=by
 refine byc λhN=>?_;refine zi R λρ led frz q=>?_;refine zi (q.hr.at e) λa pre mid Gb=>jU Gb λpost e1 e2 e3 e4=>?_;refine hN ?_
 cases e3 with
 | @dct _ us o _ i d =>
  rw[l1] at e2;subst e2;exact(zm a o us (zm ρ pre post (aT frz ⟨q,i,Qt d,e1,λfs' us' o' hv hd=>by have:=e4 _ _ (.dct hv (Qt hd));rw[l1] at this;exact this⟩)))
def fm(x:Nat)(a:PV)(O:PS)(k:KE):Prop:=Va a λj=>V7 O.hp[j]? λfs=>opt (lk x fs) λv=>k v O
theorem uR{a:PV}{wa:Value}{t:Tok}{y:Str}{k:KE}(hs:y0 slice=true)(h:fm x a O k)(F:Fr F0 L s.heap m)(R:RL G.X F0 L s.heap m O (a::vs) (wa::ws))(hq:j6 G F0 L m s vs ws k Q):
  wpAny (model G.prog G.w) A (subscriptTail (.Name y np) slice wa (.str (G.X.nm x) t)) Q E s:=by
 refine zd (yf h) λj Fy h=>?_;subst Fy;refine byc λhN=>?_;refine zd (Q7 h) λfs e h=>?_;refine zd (zu h) λv ev h=>?_;refine zi (R.dct e) λb o us Gb=>zi Gb λρ pre post Gb=>zI Gb λfrz D=>?_;refine zd (V8 G.X.inj D.vals ev) λw ew hv=>?_;refine hN ?_;obtain rfl:=D.rw.ref D.idx;have q:=D.rw.pop;exact kda_item (knd:=strKind G.prog G.w) q.news (List.mem_append_left _ (List.mem_append_right _ (.head _))) D.dic (strKind_is _ _ _ _) ew (hq v O m w { s with toks:=s.toks+1 } h SR.mk' F (zm ρ _ frz ⟨q.hr,q.all,q.nd,q.off,q.offp,q.kept,q.loc,VRs.cons hv q.stk⟩)) (jB hs _ _)
def dgW(r x:Nat)(O:PS)(k:KE):Prop:=j7 r O λa F1=>fm x a F1 k
theorem lM{r kd:Nat}{kp:Pos}(hl:ES G A F0 L (eval (.Name (G.X.nm r) np) env) (j7 r)):ES G A F0 L (eval (.Subscript (.Name (G.X.nm r) np) (.Constant (.str (G.X.nm x)) kd kp) pos) env) (dgW r x):=by
 intro O k m s vs ws h F R Q E hq;refine Subscript_ (hl h F R λa F1 G3 wa F8 F6 F9 G0 G1=>?_);refine Us (k:=λb F5=>b=.str (G.X.nm x)/\F5=F1) ⟨rfl,rfl⟩ G0 G1 λb F5 G2 wb F7 G4 G6 G9 G8=>?_;obtain⟨rfl,rfl⟩:=G4;obtain⟨t,rfl⟩:=G8.str;exact uR rfl F6 G9 G8.pop λv G5 I3 wv H9 H3 I1 I0 H7=>hq v G5 I3 wv H9 H3 ((F9.trans G6).trans I1) I0 H7
def X3(x:Nat)(a v:PV)(O:PS)(k:PS->Prop):Prop:=Va a λj=>V7 O.hp[j]? λfs=>Nat.ble fs.length 1000=true/\O.siC j (.dct (st x v fs)) k
theorem iu{a v:PV}{wa:Value}{t:Tok}{k:PS->Prop}{Q:Unit->Shared->Prop}(h:X3 x a v O k)(F:Fr F0 L s.heap m)(R:RL G.X F0 L s.heap m O (a::v::vs) (wa::wv::ws))
  (hq:∀σ' s',k σ'->zn s s'->Fr F0 L s'.heap m->RL G.X F0 L s'.heap m σ' vs ws->Q () s'):wpAny (model G.prog G.w) A (setItem wa (.str (G.X.nm x) t) wv) Q E s:=by
 obtain⟨j,rfl,h⟩:=yf h;refine byc λhN=>?_;obtain⟨fs,e,hl,h⟩:=Q7 h;replace h:=jd.mp h;obtain⟨b,o,us,ρ,pre,post,frz,D⟩:=R.dct e;obtain⟨ee,hd,n1,n2⟩:(∃es ep,o.ExactDict/\o.data=.dict es ep)/\((dkv G.X.nm fs us).map (·.1)).Nodup/\True/\True:=let⟨es,ep,a,b,_,_,e⟩:=D.dic;⟨(jL es ep a b),e,trivial,trivial⟩
 refine hN ?_;obtain rfl:=D.rw.ref D.idx;have q1:=D.rw.pop;obtain⟨_,_,e1,hv,_⟩:=q1.stk.cons_inv
 cases e1
 obtain⟨us',e2,hv'⟩:=aB G.X.inj hv D.vals hd;have q2:=q1.pop;obtain⟨m1,m2⟩:=qF (show(pre.map (·.1)++b::post.map (·.1)).Nodup by have:=q2.nd;rwa [List.map_append,List.map_cons] at this)
 have U:UpdF b o (pre++(b,o)::(post++(frz++G.X.ps))) (λo'=>pre++(b,o')::(post++(frz++G.X.ps))):=XH (λp hp=>by
  rcases List.mem_append.mp hp with hp | hp
  ·exact m2 _ (List.mem_map_of_mem hp)
  ·rcases List.mem_append.mp hp with hp | hp
   ·exact q2.off p hp (b,o) (List.mem_append_right _ (.head _))
   ·exact q2.offp p hp (b,o) (List.mem_append_left _ (List.mem_append_right _ (.head _)))) λp hp=>m1 _ (List.mem_map_of_mem hp)
 have N:News F0 L s.heap (pre++(b,o)::(post++(frz++G.X.ps))):=by have:=q2.all;simpa [List.append_assoc] using this
 refine kda_set (knd:=strKind G.prog G.w) F N U D.dic (strKind_is _ _ _ _) (Nat.le_trans lD (Nat.le_trans (Nat.le_of_ble_eq_true hl) (by decide))) λh' o' F' N' hd'=>?_
 rw[e2] at hd';exact hq ⟨O.loc,O.hp.set j (.dct (st x v fs))⟩ { s with heap:=h',toks:=s.toks+1 } h zn.mk' F' (zm ρ _ frz (q2.swap (led':=pre++(b,o')::post) (by simp) (D.put _ _ _ hv' hd') (by simpa [List.append_assoc] using N')))
end
section
variable {A:Around}{m:Str->Option Value}{vs:List PV}{ws:List Value}{E:Value->Shared->Prop}
structure PlR(G:Gam)(ks:List Nat)(us:List PV)(ps:List (Value×Value)):Prop where
 len:ps.length=us.length
 klen:ks.length=us.length
 prs:strPairs ps=(ks.map G.X.nm).zip (ps.map (·.2))
 str:allStrKeys ps=true
def PL(G:Gam)(A:Around)(F0:Heap)(L:Addr)(env:Env)(pos:Pos)(ks:List Nat)(Fo:List (Option Expr))(vals:List Expr)(W:PS->(List PV->PS->Prop)->Prop):Prop:=
 ∀⦃O:PS⦄ ⦃k:List PV->PS->Prop⦄ ⦃m:Str->Option Value⦄ ⦃s:Shared⦄ ⦃vs:List PV⦄ ⦃ws:List Value⦄,W O k->Fr F0 L s.heap m->RL G.X F0 L s.heap m O vs ws ->
  ∀⦃Q:List (Value×Value)->Shared->Prop⦄ ⦃E:Value->Shared->Prop⦄,
   (∀us σ' m' ps s',k us σ'->SR m s m' s'->Fr F0 L s'.heap m'->RL G.X F0 L s'.heap m' σ' (us.reverse++vs) ((ps.map (·.2)).reverse++ws)->PlR G ks us ps->Q ps s')->wpAny (model G.prog G.w) A (evalPairs (pairTrees Fo vals env pos)) Q E s
theorem vt:PL G A F0 L env pos [] [] [] (λO k=>k [] O):=by
 intro O k m s vs ws h F R Q E hq;exact pairTrees_nil_walk (hq [] O m [] s h (SR.refl _ _) F R ⟨rfl,rfl,rfl,rfl⟩)
theorem oe{kd:Nat}{kp:Pos}{Fo:List (Option Expr)}{e:Expr}{es:List Expr}{Ws:PS->(List PV->PS->Prop)->Prop}(he:ES G A F0 L (eval e env) We)(hs:PL G A F0 L env pos ks Fo es Ws):
  PL G A F0 L env pos (x::ks) (some (.Constant (.str (G.X.nm x)) kd kp)::Fo) (e::es) (λO k=>We O λv F1=>Ws F1 λus F5=>k (v::us) F5):=by
 intro O k m s vs ws h F R Q E hq;refine pairTrees_cons_walk (Us (k:=λb F5=>b=.str (G.X.nm x)/\F5=O) ⟨rfl,rfl⟩ F R λb F5 G2 wb F7 G4 G6 G9 G8=>?_);obtain⟨rfl,rfl⟩:=G4;obtain⟨t,rfl⟩:=G8.str;refine he h G9 G8.pop λv F1 G3 wv F8 F6 F9 G0 G1=>hs F6 G0 G1 λus G5 I3 ps H9 H3 I1 I0 H7 P=>hq (v::us) G5 I3 _ H9 H3 ((G6.trans F9).trans I1) I0 ?_ ⟨congrArg (· + 1) P.len,congrArg (· + 1) P.klen,?_,P.str⟩
 ·simpa using H7
 ·show(G.X.nm x,wv)::strPairs ps=_
  rw[P.prs];rfl
def fq(ks:List Nat)(Ws:PS->(List PV->PS->Prop)->Prop)(O:PS)(k:KE):Prop:=VW (.dct []) O.hp λh'=>Ws ⟨O.loc,h'⟩ λus F5=>V7 F5.hp[O.hp.length]? λfs=>fs = []/\F5.siC O.hp.length (.dct (ks.zip us)) λG5=>k (.ref O.hp.length) G5
theorem aF{Fo:List (Option Expr)}{vals:List Expr}{Ws:PS->(List PV->PS->Prop)->Prop}(hb:F0.NoLimit)(hP:PL G A F0 L env pos ks Fo vals Ws)(hs:strLits Fo=true)(JR:Fo.all (·.isSome)=true)(hl:Fo.length=vals.length)(h0:Fo ≠ [])(hlen:Fo.length<=15)(hnd:ks.Nodup):
  ES G A F0 L (eval (.Dict Fo vals pos) env) (fq ks Ws):=by
 intro O k m s vs ws h F R Q E hq;refine zi R λρ led frz q=>?_;refine kdn_str hs F q.all hb JR hl h0 hlen λd h' o F' N' lt lo hd=>?_;have len:=q.hr.len;have q2:=q.own (po:=.dct []) N' (λp hp=>Nat.ne_of_lt (lt p hp)) (HR.cons (.dct (ws:=[]) VRs.nil (Qt hd)) .nil)
 have e0:(ρ ++ [d])[O.hp.length]?=some d:=by rw[<- len,List.getElem?_append_right (Nat.le_refl _),Nat.sub_self];rfl
 have R2:RL G.X F0 L h' m ⟨O.loc,O.hp ++ [.dct []]⟩ (.ref O.hp.length::vs) (.ref d::ws):=(zm _ _ _ ⟨q2.hr,q2.all,q2.nd,q2.off,q2.offp,q2.kept,q2.loc,VRs.cons (by show Exists _;exact(zv d e0 rfl)) q2.stk⟩)
 refine hP (jv.mp h) (s:={ s with heap:=h' }) F' R2 λus σ' m' ps s' h2 r F2 R3 P=>?_
 refine jG (Q7 h2) λfs e Ge h2=>?_;subst Ge;replace h2:=jd.mp h2;refine zi (R3.dct e) λb o2 us0 Gb=>zi Gb λρ2 pre post Gb=>zI Gb λfrz2 D=>?_;refine zr (VRs.split D.rw.stk) λw1 w2 ew v1 v2=>?_;have hlw:w1=(ps.map (·.2)).reverse/\w2=.ref d::ws:=List.append_inj ew.symm (by rw[v1.length,List.length_reverse,List.length_reverse,List.length_map,P.len])
 refine zh hlw λFz Gf=>?_;subst Fz;subst Gf;refine zr v2.cons_inv λZ Z e1 Fy v3=>?_;obtain⟨d',e3,e4⟩:=Fy
 cases e1
 cases e4
 have:some b=some d:=D.idx.symm.trans e3
 cases this
 have q:=D.rw;obtain⟨m1,m2⟩:=qF (show(pre.map (·.1)++d::post.map (·.1)).Nodup by have:=q.nd;rwa [List.map_append,List.map_cons] at this)
 have U:UpdF d o2 (pre++(d,o2)::(post++(frz2++G.X.ps))) (λo'=>pre++(d,o')::(post++(frz2++G.X.ps))):=XH (λp hp=>by
  rcases List.mem_append.mp hp with hp | hp
  ·exact m2 _ (List.mem_map_of_mem hp)
  ·rcases List.mem_append.mp hp with hp | hp
   ·exact q.off p hp (d,o2) (List.mem_append_right _ (.head _))
   ·exact q.offp p hp (d,o2) (List.mem_append_left _ (List.mem_append_right _ (.head _)))) λp hp=>m1 _ (List.mem_map_of_mem hp)
 have N:News F0 L s'.heap (pre++(d,o2)::(post++(frz2++G.X.ps))):=by have:=q.all;simpa [List.append_assoc] using this
 have hv:VRs ρ2 frz2 us (ps.map (·.2)):=by have:=v1.reverse;rwa [List.reverse_reverse,List.reverse_reverse] at this
 have k1:(ks.zip us).map (·.2)=us:=List.map_snd_zip (Nat.le_of_eq P.klen.symm);have k2:dkv G.X.nm (ks.zip us) (ps.map (·.2))=strPairs ps:=by
  rw[P.prs];unfold dkv;rw[show(ks.zip us).map (λp=>G.X.nm p.1)=((ks.zip us).map (·.1)).map G.X.nm by rw[List.map_map];rfl,List.map_fst_zip (Nat.le_of_eq P.klen)]
 have nd:((strPairs ps).map (·.1)).Nodup:=by
  rw[P.prs,List.map_fst_zip (by rw[List.length_map,List.length_map,P.len,P.klen];exact Nat.le_refl _)]
  exact List.Pairwise.map _ (λa b h e=>h (G.X.inj _ _ e)) hnd
 refine kdn_made_str F2 N U D.dic P.str nd λh3 o' F3 N3 hd3=>?_;refine hq (.ref O.hp.length) ⟨σ'.loc,σ'.hp.set O.hp.length (.dct (ks.zip us))⟩ m' (.ref d) { s' with heap:=h3,toks:=s'.toks+ps.length } h2 ((SR.mk' (t:=s.toks)).trans (r.trans SR.mk')) F3 ?_
 rw[<- k2] at hd3;have q3:=q.swap (led':=pre++(d,o')::post) (by simp) (D.put (ks.zip us) (ps.map (·.2)) o' (by rw[k1];exact hv) hd3) (by simpa [List.append_assoc] using N3)
 exact(zm ρ2 _ frz2 ⟨q3.hr,q3.all,q3.nd,q3.off,q3.offp,q3.kept,q3.loc,VRs.cons (by show Exists _;exact(zv d e3 rfl)) v3⟩)
end
section
variable {A:Around}{m:Str->Option Value}{vs:List PV}{ws:List Value}{E:Value->Shared->Prop}
theorem lh{r kd:Nat}{kp:Pos}(hl:ES G A F0 L (eval (.Name (G.X.nm r) np) env) (j7 r)):AS G A F0 L (assign (.Subscript (.Name (G.X.nm r) np) (.Constant (.str (G.X.nm x)) kd kp) pos) env) (λv O k=>j7 r O λa F1=>X3 x a v F1 k):=by
 intro v w O k m s vs ws h F R Q E hq;refine qK (hl h F R λa F1 G3 I6 F8 F6 F9 G0 G1=>Us (k:=λb F5=>b=.str (G.X.nm x)/\F5=F1) ⟨rfl,rfl⟩ G0 G1 λb F5 G2 wb F7 G4 G6 G9 G8=>?_);obtain⟨rfl,rfl⟩:=G4;obtain⟨t,rfl⟩:=G8.str;exact iu F6 G9 G8.pop λG5 H9 H3 I1 I0 H7=>hq G5 G2 H9 H3 ((F9.trans G6).rest.trans I1) I0 H7
end
theorem ft{P:Prop}(h:false=true):P:=nomatch h
noncomputable def YH:List Nat->Bool
 | []=>true
 | a::r=>cond (r.any (Nat.beq a)) false (YH r)
theorem JH:∀{l:List Nat},YH l=true->l.Nodup
 | [],_=>List.nodup_nil
 | a::r,h=>by
  have h:cond (r.any (Nat.beq a)) false (YH r)=true:=h
  cases e:r.any (Nat.beq a) with
  | true=>rw[e] at h;exact ft h
  | false =>
   rw[e] at h;exact List.nodup_cons.mpr ⟨λhm=>ft (e.symm.trans (Ul hm)),JH h⟩
section
variable {A:Around}{m:Str->Option Value}{vs:List PV}{ws:List Value}{E:Value->Shared->Prop}
def Bg(a b:PV)(O:PS)(k:KE):Prop:=yl a λx=>opt (Jd O b) λys=>k (.bool (!ys.any (· == x))) O
theorem Bo:O2 G A F0 L (compareOp .NotIn) Bg:=by
 intro O k m s vs ws a b wa wb h F R Q E hq;obtain⟨x,rfl,h⟩:=z9 h;refine byc λhN=>?_;obtain⟨ys,ey,h⟩:=zu h;obtain⟨t,rfl⟩:=R.pop.int;obtain⟨y,items2,c2,ρ2,led2,frz2,I2,rfl⟩:=R.ints ey;refine hN ?_;exact notin_list_ints I2.isList I2.vals (hq _ O m _ s h (SR.refl _ _) F (R.pop.pop.push (yP _)))
end
section
open PySem.Spec
open PyProof.Rows.LCg
section
variable {A:Around}{m:Str->Option Value}{vs:List PV}{ws:List Value}{E:Value->Shared->Prop}
theorem oV{r kd:Nat}{e:Expr}{kp:Pos}(hl:ES G A F0 L (eval (.Name (G.X.nm r) np) env) (j7 r))(he:ES G A F0 L (eval e env) We)(hc:yL e=true):
  SS G A F0 L (exec (.Assign [.Subscript (.Name (G.X.nm r) np) (.Constant (.str (G.X.nm x)) kd kp) sp] e pos) env) (λO k=>We O λv F1=>j7 r F1 λa F5=>X3 x a v F5 λG5=>k .next G5):=by
 intro O k m s vs ws h F R Q E hq;refine wpAny_Assign_Subscript (he h F R λv F1 G3 I6 F8 F6 F9 G0 G1=>hl F6 G0 G1 λa F5 G2 L8 F7 G4 G6 G9 G8=>Us (k:=λb G5=>b=.str (G.X.nm x)/\G5=F5) ⟨rfl,rfl⟩ G9 G8 λb G5 I3 wb H9 H3 I1 I0 H7=>?_) (jS hc);obtain⟨rfl,rfl⟩:=H3;obtain⟨t,rfl⟩:=H7.str;exact iu G4 I0 H7.pop λI8 I9 L0 N8 N9 N5=>hq.next I8 I3 I9 L0 (((F9.trans G6).trans I1).rest.trans N8) N9 N5
end
end
section
variable {A:Around}
def Cq(a b:PV)(O:PS)(k:KE):Prop:=Y3 a λy=>Y3 b λx=>k (.bool (Txt.contains x y)) O
theorem Bs:O2 G A F0 L (compareOp .In) Cq:=by
 intro O k m s vs ws a b wa wb h F R Q E hq;obtain⟨y,rfl,g⟩:=qW h;obtain⟨x,rfl,g1⟩:=qW g;obtain⟨t,rfl⟩:=R.str;obtain⟨u,rfl⟩:=R.pop.str;exact PySem.P.in_str (hq _ O m _ s g1 (SR.refl _ _) F (R.pop.pop.push (yP _)))
noncomputable def Jz:List PV->Option (List Str)
 | []=>some []
 | u::us=>match u with | .str x=>(Jz us).map (x :: ·) | _=>none
theorem Y5{ρ:List Addr}{frz:List (Addr×Obj)}:∀{us:List PV} {ws:List Value} {xs:List Str},Jz us=some xs->VRs ρ frz us ws->StrsAre ws xs
 | [],_,_,e,h=>by cases e;cases h;exact .nil
 | u::us,_,_,e,h=>by
  obtain⟨w,r,rfl,a,b⟩:=VRs.cons_inv h
  cases u with
  | str x =>
   obtain⟨t,rfl⟩:=a
   cases q:Jz us with
   | none=>rw[show Jz (.str x::us)=(Jz us).map (x :: ·) from rfl,q] at e;cases e
   | some l=>rw[show Jz (.str x::us)=(Jz us).map (x :: ·) from rfl,q] at e;cases e;exact .cons x t (Y5 q b)
  | _=>cases e
def CU(a:PV)(k:List PV->Prop):Prop:=match a with | .tup us=>k us | _=>False
theorem pI{a:PV}{k:List PV->Prop}(h:CU a k):∃us,a=.tup us/\k us:=by cases a<;>first | exact⟨_,rfl,h⟩ | exact False.elim h
def CO(a b:PV)(O:PS)(k:KE):Prop:=Y3 a λy=>CU b λus=>opt (Jz us) λxs=>xs.length<=1000/\k (.bool (xs.any (· == y))) O
theorem Bw:O2 G A F0 L (compareOp .In) CO:=by
 intro O k m s vs ws a b wa wb h F R Q E hq;obtain⟨y,rfl,g⟩:=qW h;obtain⟨us,rfl,g1⟩:=pI g;obtain⟨xs,e,hl,g2⟩:=zu g1;obtain⟨u,rfl⟩:=R.pop.str;obtain⟨ρ,led,frz,q⟩:=id R;obtain⟨_,_,ee,hv,_⟩:=q.stk.cons_inv
 cases ee
 obtain⟨t,items,n,rfl,hm,hv⟩:=hv;exact in_tuple_strs (items:=items.toArray) (ys:=xs) ⟨_,(q.news _ (List.mem_append_right _ hm)).1,rfl,n,rfl⟩ (Y5 e hv) (hq _ O m _ s g2 (SR.refl _ _) F (R.pop.pop.push (yP _)))
def Ca(a i:PV)(O:PS)(k:KE):Prop:=Y3 a λx=>yl i λj=>(-(2 ^ 63)<=j/\j<2 ^ 63)/\opt ((seqIndex? j x.length).bind (x.cps[·]?)) λc=>k (.str ⟨#[c]⟩) O
theorem Br(hs:y0 slice=true):O2 G A F0 L (subscriptTail value slice) Ca:=by
 intro O k m s vs ws a i wa wi h F R Q E hq;obtain⟨x,rfl,g⟩:=qW h;obtain⟨j,rfl,⟨j1,j2⟩,g1⟩:=z9 g;obtain⟨c,e,g2⟩:=zu g1;obtain⟨u,rfl⟩:=R.int;obtain⟨t,rfl⟩:=R.pop.str;exact tail_any (typeIs_str _ _ _) PySem.F.slot_str_getitem.lookup (PySem.P.getItem_str (by simp;exact g.1) e (hq _ O m _ _ g2 SR.mk' F (R.pop.pop.push λZ Z=>⟨_,rfl⟩))) (jB hs _ _)
def vg(a:PV)(O:PS)(k:KE):Prop:=Y3 a λx=>∃c,x=⟨#[c]⟩/\k (.int (c:Nat)) O
theorem Bp{a:PV}{wa:Value}{k:KE}{E:Value->Shared->Prop}{m:Str->Option Value}{vs:List PV}{ws:List Value}(h:vg a O k)(F:Fr F0 L s.heap m)(R:RL G.X F0 L s.heap m O (a::vs) (wa::ws))(hq:j6 G F0 L m s vs ws k Q):wpAny (model G.prog G.w) A (call (.builtin "ord") [wa]) Q E s:=by
 obtain⟨x,rfl,c,rfl,g⟩:=qW h;obtain⟨t,rfl⟩:=R.str;exact PySem.P.ord_of_char (hq _ O m _ _ g SR.mk' F (R.pop.push (jo _ _)))
end
section
variable {A:Around}
noncomputable def wD(n:Nat)(k:KE):KE:=λv σ'=>∃L9 gs,σ'.hp=L9++gs/\L9.length=n/\POs.bdd n L9/\FR.bdd n σ'.loc/\Mine.bdd n v/\k v ⟨σ'.loc,L9⟩
theorem td{e:Sem Value}{W:PS->KE->Prop}(he:ES G A F0 L e W):ES G A F0 L e (λO k=>W O (wD O.hp.length k)):=by
 intro O k m s vs ws h F R Q E hq;refine zi R λρ led frz q=>?_;have len:=q.hr.len;have b2:=q.stk.bdd;rw[len] at b2;refine he h F (zm ρ led frz q) λv σ' m' w' s' hk r F' R'=>?_
 refine Ju hk λL9 gs eg el hb Gb=>yn Gb λhl hv hk=>?_;obtain⟨l',hp'⟩:=σ';obtain rfl:hp'=L9++gs:=eg;refine zi R' λρ' led' frz' q'=>?_;refine zi (HR.unapp q'.hr) λa1 a2 l1 Gb=>jU Gb λl2 e1 Fy x y=>?_;subst Fy;have hx:a1=ρ'.take O.hp.length:=by rw[e1,List.take_left' (by rw[x.len,el])]
 have sub:∀p,p∈l1->p∈l1++l2:=λp hp=>List.mem_append_left _ hp;refine hq v _ m' w' s' hk r F' (zm (ρ'.take O.hp.length) l1 frz' ⟨?_,λp hp=>q'.all p ?_,?_,λp hp z hz=>q'.off p hp z (sub z hz),λp hp z hz=>q'.offp p hp z ?_,⟨q'.kept.1,λp hp=>?_⟩,λj u eu=>?_,?_⟩)
 ·have:=x.cut (n:=O.hp.length) hb
  rw[hx] at this;exact this
 ·simp only[List.mem_append] at hp ⊢
  rcases hp with (h | h) | h
  ·exact .inl (.inl (.inl h))
  ·exact .inl (.inr h)
  ·exact .inr h
 ·have:=q'.nd
  rw[List.map_append,List.nodup_append] at this;exact this.1
 ·simp only[List.mem_append] at hz ⊢
  rcases hz with h | h
  ·exact .inl (.inl h)
  ·exact .inr h
 ·have h1:=(List.getElem?_eq_some_iff.mp (q.kept.2 p hp)).1
  rw[len] at h1;rw[List.getElem?_take,if_pos h1];exact q'.kept.2 p hp
 ·refine zd (q'.loc j u eu) λw c d=>?_
  exact(zv w c (VR.cut u d (FR.bdd_lk hl eu)))
 ·refine zr q'.stk.cons_inv λZ Z ee hv' tl=>?_
  cases ee
  exact VRs.cons (VR.cut v hv' hv) (VRs.cut vs tl b2)
def fw(kxs:List (Str×Nat))(a b:PV)(O:PS)(k:KE):Prop:=Y3 b λy=>opt ((kxs.find? λp=>jR p.1 y).map (·.2)) λx=>fm x a O k
theorem uS(hn:∀p∈kxs,G.X.nm p.2=p.1)(hs:y0 slice=true):O2 G A F0 L (subscriptTail value slice) (fw kxs):=by
 intro O k m s vs ws a b wa wb h F R Q E hq;refine zd (qW h) λy Ge g=>?_;subst Ge;refine zd (zu g) λx e g1=>?_;refine zd (Option.map_eq_some_iff.mp e) λp e1 Gf=>?_;subst Gf;have hy:p.1=y:=by
  have:=List.find?_some e1
  have:=eq_of_beq this
  cases p with | mk a b=>cases a;cases y;exact congrArg Str.mk (Array.toList_inj.mp this)
 have hm:=hn p (List.mem_of_find?_eq_some e1);refine zI R.str λt Fz=>?_;subst Fz;refine zd (yf g1) λj Fy g2=>?_;subst Fy;refine zd (Q7 g2) λfs e3 g3=>?_;refine zd (zu g3) λv ev g4=>?_;refine zi (R.pop.dct e3) λb o us Gb=>zi Gb λρ pre post Gb=>zI Gb λfrz D=>?_;refine zd (V8 G.X.inj D.vals ev) λw ew hv=>?_
 obtain rfl:=D.rw.ref D.idx;have q:=D.rw.pop;have hD:=kda_dict q.news (List.mem_append_left _ (List.mem_append_right _ (.head _))) D.dic;rw[hm,hy] at ew;exact tail_any hD.typeIs slot_dict_getitem.lookup (wpAny_getItem_of (strKind_is _ _ _ _) hD.mapOf ew (hq v O m w { s with toks:=s.toks+1 } g4 SR.mk' F (zm ρ _ frz ⟨q.hr,q.all,q.nd,q.off,q.offp,q.kept,q.loc,VRs.cons hv q.stk⟩))) (jB hs _ _)
end
abbrev qj(h:Heap)(z TI TO I5:Addr)(b:Bool):Prop:=
 h.get? z=some { cls:=.type "zip",dict:=none,data:=.fields #[rawInt I5,.bool b,.bool false,.ref TI,.ref TO],slots:=#[] }
section
variable {prog:Program}{w:World}{A:Around}{E:Value->Shared->Prop}
theorem Ql{M:Model}{a:Addr}{Q:Option Obj->Shared->Prop}(h:Q (s.heap.get? a) s):wpAny M A (loadIfAlive a) Q E s:=λΓ p hΓ=>by
 show Sem.wp M Γ (.loadIfAlive a .pure) _ _ p s;rw[Sem.wp_loadIfAlive];exact h
theorem Vn{z TI TO:Addr}{b:Bool}{Q:Bool->Shared->Prop}(hz:qj s.heap z TI TO I5 b)(O4:s.heap.get? I5=some P6)(hQ:∀F6,qj F6 z TI TO I5 true->Heap.SameBut z s.heap F6->Q false { s with heap:=F6 }):
  wpAny (model prog w) A (Builtin.SmallTypes.ownedTupleIsFree (.ref z)) Q E s:=by
 unfold Builtin.SmallTypes.ownedTupleIsFree;refine wpAny_bind (wpAny_field hz rfl (x:=rawInt I5) rfl ?_);refine wpAny_bind (Ql ?_);rw[show(I5:Int).toNat=I5 from rfl,O4]
 show wpAny _ _ (field (.ref z) 1 >>= _) _ _ _;refine wpAny_bind (wpAny_field hz rfl (x:=.bool b) rfl ?_)
 cases b with
 | true =>
  rw[if_neg (by decide)]
  exact wpAny_pure (hQ _ hz ⟨rfl,λZ Z=>rfl⟩)
 | false =>
  rw[if_pos (by decide)]
  exact wpAny_bind (wpAny_setField_rec hz (by simp) λF6 R8 N0=>wpAny_pure (hQ F6 R8 N0))
theorem Vd{z TI TO i1 i2 l1 l2:Addr}{k2:Nat}{b:Bool}{xs ys:Array Value}{x y:Value}(D:ZipApart z TI TO i1 i2 l1 l2)
  (hz:qj s.heap z TI TO I5 b) (O4:s.heap.get? I5=some P6) (hTI:IsPair s.heap TI (.ref i1) (.ref i2))
  (h1:s.heap.IsListIter i1 l1 k1) (h2:s.heap.IsListIter i2 l2 k2) (hl1:s.heap.IsList l1 xs) (hl2:s.heap.IsList l2 ys) (hx:xs[k1]?=some x) (hy:ys[k2]?=some y)
  (hQ:∀h',qj h' z TI TO I5 true->h'.IsListIter i1 l1 (k1+1)->h'.IsListIter i2 l2 (k2+1)->IsPair h' s.heap.objs.size x y->h'.objs.size=s.heap.objs.size+1 ->
   (∀c o,c≠z->c≠i1->c≠i2->s.heap.get? c=some o->h'.get? c=some o)->Q (.ref s.heap.objs.size) { s with heap:=h' }) :
  wpAny (model prog w) A (Builtin.«zip.__next__» ⟨[.ref z],[]⟩) (λfin s'=>∃v,fin=.done (.ret v)/\Q v s') E s:=by
 show wpAny _ _ (field (.ref z) 2 >>= _) _ _ _;refine wpAny_bind (wpAny_field hz rfl (x:=.bool false) rfl ?_);show wpAny _ _ (field (.ref z) 3 >>= _) _ _ _;refine wpAny_bind (wpAny_field hz rfl (x:=.ref TI) rfl ?_);refine wpAny_bind (wpAny_seqItems hTI rfl ?_);show wpAny _ _ (Builtin.SmallTypes.ownedTupleIsFree (.ref z) >>= _) _ _ _;refine wpAny_bind (Vn hz O4 λF6 R8 N0=>?_)
 rw[if_neg (by decide)]
 refine wpAny_bind ?_;simp only[<- Array.forIn_toList,List.forIn_cons,List.forIn_nil];refine wpAny_bind (wpAny_bind (wpAny_holding ?_));show wpAny _ _ (Builtin.SmallTypes.nextOf (.ref i1) >>= _) _ _ _;refine wpAny_bind (wpAny_nextOf_list_item (h1.extBut N0.extBut D.i1z) (hl1.extBut N0.extBut D.l1z) hx λG4 h1₂ O8=>wpAny_pure ?_)
 refine wpAny_pure ?_;refine wpAny_bind (wpAny_bind (wpAny_holding ?_));show wpAny _ _ (Builtin.SmallTypes.nextOf (.ref i2) >>= _) _ _ _;refine wpAny_bind (wpAny_nextOf_list_item ((h2.extBut N0.extBut D.i2z).extBut O8.extBut D.i12.symm) ((hl2.extBut N0.extBut D.l2z).extBut O8.extBut D.l2i1) hy λH3 h2₃ N7=>wpAny_pure ?_)
 refine wpAny_pure (wpAny_pure ?_);show wpAny _ _ (newTuple [x,y] >>= λr=>ret r) _ _ _
 refine wpAny_bind (wpAny_newTuple ?_);have hsz:H3.objs.size=s.heap.objs.size:=by rw[N7.1,O8.1,N0.1]
 have up:∀c o,c≠z->c≠i1->c≠i2->s.heap.get? c=some o->H3.get? c=some o:=λc o c1 c2 c3 e=>N7.extBut _ _ c3 (O8.extBut _ _ c2 (N0.extBut _ _ c1 e));have hz₃:qj H3 z TI TO I5 true:=N7.extBut _ _ D.i2z.symm (O8.extBut _ _ D.i1z.symm R8);refine wpAny_pure ⟨_,rfl,?_⟩;show Q (.ref H3.objs.size) _;have hT:IsPair (H3.push { cls:=.type "tuple",data:=.seq #[x,y] }) s.heap.objs.size x y:=by
  have:=Heap.get?_push_size H3 (o:={ cls:=.type "tuple",data:=.seq #[x,y] }) rfl
  rwa [hsz] at this
 rw[hsz];exact hQ _ (Heap.get?_push_of_some _ hz₃) ((h1₂.extBut N7.extBut D.i12).at λo e=>Heap.get?_push_of_some _ e) (h2₃.at λo e=>Heap.get?_push_of_some _ e) hT (by rw[Heap.size_push,hsz]) λc o c1 c2 c3 e=>Heap.get?_push_of_some _ (up c o c1 c2 c3 e)
theorem XM{z TI TO i1 i2 l1 l2:Addr}{b:Bool}{xs:Array Value}{Q:PySem.Fin->Shared->Prop}(hh:A.handled=none)(D:ZipApart z TI TO i1 i2 l1 l2)
  (hz:qj s.heap z TI TO I5 b) (O4:s.heap.get? I5=some P6) (hTI:IsPair s.heap TI (.ref i1) (.ref i2))
  (h1:s.heap.IsListIter i1 l1 k1) (hl1:s.heap.IsList l1 xs) (hx:xs[k1]?=none)
  (hE:∀h' e,(∀c o,c≠z->c≠i1->s.heap.get? c=some o->h'.get? c=some o)->(∃o,h'.get? e=some o/\o.cls=.type "StopIteration")->E (.ref e) { s with heap:=h' }) :
  wpAny (model prog w) A (Builtin.«zip.__next__» ⟨[.ref z],[]⟩) Q E s:=by
 show wpAny _ _ (field (.ref z) 2 >>= _) _ _ _;refine wpAny_bind (wpAny_field hz rfl (x:=.bool false) rfl ?_);show wpAny _ _ (field (.ref z) 3 >>= _) _ _ _;refine wpAny_bind (wpAny_field hz rfl (x:=.ref TI) rfl ?_);refine wpAny_bind (wpAny_seqItems hTI rfl ?_);show wpAny _ _ (Builtin.SmallTypes.ownedTupleIsFree (.ref z) >>= _) _ _ _;refine wpAny_bind (Vn hz O4 λF6 R8 N0=>?_)
 rw[if_neg (by decide)]
 refine wpAny_bind ?_;simp only[<- Array.forIn_toList,List.forIn_cons,List.forIn_nil];refine wpAny_bind (wpAny_bind (wpAny_holding ?_));show wpAny _ _ (Builtin.SmallTypes.nextOf (.ref i1) >>= _) _ _ _;refine wpAny_bind (wpAny_nextOf_list_end hh (h1.extBut N0.extBut D.i1z) (hl1.extBut N0.extBut D.l1z) hx λG4 e O8 he=>?_)
 exact hE G4 e (λc o c1 c2 x=>O8 _ _ c2 (N0.extBut _ _ c1 x)) he
theorem cV{z TI TO i1 i2 l1 l2:Addr}{k2:Nat}{b:Bool}{xs ys:Array Value}{x y:Value}{Q:Option Value->Shared->Prop}(D:ZipApart z TI TO i1 i2 l1 l2)
  (hz:qj s.heap z TI TO I5 b) (O4:s.heap.get? I5=some P6) (hTI:IsPair s.heap TI (.ref i1) (.ref i2))
  (h1:s.heap.IsListIter i1 l1 k1) (h2:s.heap.IsListIter i2 l2 k2) (hl1:s.heap.IsList l1 xs) (hl2:s.heap.IsList l2 ys) (hx:xs[k1]?=some x) (hy:ys[k2]?=some y)
  (hQ:∀h',qj h' z TI TO I5 true->h'.IsListIter i1 l1 (k1+1)->h'.IsListIter i2 l2 (k2+1)->IsPair h' s.heap.objs.size x y->h'.objs.size=s.heap.objs.size+1 ->
   (∀c o,c≠z->c≠i1->c≠i2->s.heap.get? c=some o->h'.get? c=some o)->Q (some (.ref s.heap.objs.size)) { s with heap:=h' }) :
  wpAny (model prog w) A (pyNext (.ref z)) Q E s:=by
 have hT:s.TypeIs (.ref z) "zip" := ⟨_,hz,rfl⟩;unfold pyNext;exact wpAny_bind (wpAny_attempt (wpAny_callSpecial?_slot (name:=Str.ofString "__next__") hT F.slot_zip_next
  (wpAny_call_entry F.slot_zip_next hT F.entry_zip_next
   (Vd D hz O4 hTI h1 h2 hl1 hl2 hx hy λh' a1 a2 a3 a4 a5 a6=>wpAny_pure (hQ h' a1 a2 a3 a4 a5 a6)) (F.args_zip_next_1 _))))
theorem U7{z TI TO i1 i2 l1 l2:Addr}{b:Bool}{xs:Array Value}{Q:Option Value->Shared->Prop}(hh:A.handled=none)(D:ZipApart z TI TO i1 i2 l1 l2)
  (hz:qj s.heap z TI TO I5 b) (O4:s.heap.get? I5=some P6) (hTI:IsPair s.heap TI (.ref i1) (.ref i2))
  (h1:s.heap.IsListIter i1 l1 k1) (hl1:s.heap.IsList l1 xs) (hx:xs[k1]?=none)
  (hQ:∀h',(∀c o,c≠z->c≠i1->s.heap.get? c=some o->h'.get? c=some o)->Q none { s with heap:=h' }):wpAny (model prog w) A (pyNext (.ref z)) Q E s:=by
 have hT:s.TypeIs (.ref z) "zip" := ⟨_,hz,rfl⟩;unfold pyNext;refine wpAny_bind (wpAny_attempt (wpAny_callSpecial?_slot (name:=Str.ofString "__next__") hT F.slot_zip_next
  (wpAny_call_entry F.slot_zip_next hT F.entry_zip_next (XM hh D hz O4 hTI h1 hl1 hx λh' e hk he=>?_) (F.args_zip_next_1 _))))
 obtain⟨o,ho,hc⟩:=he;refine wpAny_bind (wpAny_isInstance (T := "StopIteration") (b:=true) ⟨o,ho,hc⟩ isSubtype_stop ?_);exact wpAny_pure (hQ _ hk)
end
def ZSt(z TI TO i1 i2 l1 l2:Addr)(xs ys:Array Value)(i:Nat)(K:List (Addr×Obj))(h:Heap):Prop:=
 ((i=0/\IsZip h z TI TO .none) ∨ ∃I5 b o,qj h z TI TO I5 b/\(I5,o)∈K)/\IsPair h TI (.ref i1) (.ref i2)/\(∃a b,IsPair h TO a b)/\h.IsListIter i1 l1 i/\h.IsListIter i2 l2 i/\h.IsList l1 xs/\h.IsList l2 ys
theorem dB{prog:Program}{w:World}{A:Around}{x:Str}(hh:A.handled=none)(Fs:scope.kind=.function)(hx:scope.names.lookup x=some .local)(z TI TO i1 i2 l1 l2:Addr)(D:ZipApart z TI TO i1 i2 l1 l2)(xs ys:Array Value)(hl:xs.size=ys.size):
  WalksG prog w A z [z,TI,TO,i1,i2,l1,l2] [z,TI,TO,i1,i2] xs.size (xb prog w A scope cl env x px) (λi G2 nw=>∃T I4 I7,nw = [(T,j4 [I4,I7] 0)]/\G2 x=some (.ref T)/\xs[i]?=some I4/\ys[i]?=some I7) (ZSt z TI TO i1 i2 l1 l2 xs ys):=by
 have fr:∀{i K h h'},ZSt z TI TO i1 i2 l1 l2 xs ys i K h->(∀b ∈ [z,TI,TO,i1,i2,l1,l2],∀o,h.get? b=some o->h'.get? b=some o)->ZSt z TI TO i1 i2 l1 l2 xs ys i K h':=λhst hk=>by
  refine jN hst λhz hTI Gf Gb=>jN Gb λh1 h2 hl1 hl2=>?_;obtain⟨a,b,hTO⟩:=Gf;refine⟨?_,hk TI (by simp) _ hTI,(Jo a b (hk TO (by simp) _ hTO)),h1.at λo e=>hk i1 (by simp) o e,h2.at λo e=>hk i2 (by simp) o e,hl1.at λo e=>hk l1 (by simp) o e,hl2.at λo e=>hk l2 (by simp) o e⟩
  rcases hz with ⟨h0,hz⟩ | ⟨I5,b,o,hz,hm⟩
  ·exact .inl ⟨h0,hk z (by simp) _ hz⟩
  ·exact .inr (JW I5 b o (hk z (by simp) _ hz) hm)
 refine{ sub:=λc hc=>ml (y:=[l1,l2]) hc,live:=λhst=>?_,frame:=fr,item:=λ{i K s Q E Er C m k} hi hst hK hn hC hQ hk=>?_,done:=λ{K s Q E} hst hK hQ=>?_,self:=λ{i K s Q E} hst hQ=>?_ }
 ·refine jN hst λhz hTI hTO Gb=>zh Gb λh1 Gb=>?_
  refine Uj (hz.elim (λh=>⟨_,h.2⟩) λh=>jc h λZ Z Z e Z=>⟨_,e⟩) (Uj ⟨_,hTI⟩ (sf (UQ hTO λZ Z e=>⟨_,e⟩) (zd h1 λZ e Z=>⟨_,e⟩) (zd Gb.1 λZ e Z=>⟨_,e⟩)))
 ·have key:∀T I4 I7 h',xs[i]?=some I4/\ys[i]?=some I7->s.heap.objs.size=T->h'.get? T=some (j4 [I4,I7] 0)->ZSt z TI TO i1 i2 l1 l2 xs ys (i+1) ((T,j4 [I4,I7] 0)::K) h'->(∀b o,b ∉ [z,TI,TO,i1,i2]->s.heap.get? b=some o->h'.get? b=some o)->Q (some (.ref T)) { s with heap:=h' }:=λT I4 I7 G4 hP hT hTo hst₂ O3=>by
   have hCw:C ∉ [z,TI,TO,i1,i2]:=λh=>hC (ml (y:=[l1,l2]) h);have hTC:T≠C:=zd (LCg.ns_obj hn) λoC e Z=>hT▸(Nat.ne_of_lt (Heap.lt_size e)).symm;exact hQ _ _ (wpAny_assign_Name (wpAny_storeName_local (lookup_relabel_local hx) (hn.at' λo e=>O3 _ o hCw e) (λH3 P8 N7=>hk H3 _ _ [(T,j4 [I4,I7] 0)] ⟨T,I4,I7,rfl,by simp,hP⟩ (fr hst₂ λb hb o e=>N7.extBut b o (λh=>hC ((show b=C from h)▸hb)) e) P8 (Ze ⟨N7.extBut _ _ hTC hTo,Nat.le_of_eq hT⟩) λb o hb hc e=>N7.extBut b o hc (O3 b o hb e)) (by simp[compEnvC,relabel,Fs])))
  refine jN hst λhz hTI Fz Gb=>jN Gb λh1 h2 hl1 hl2=>?_;obtain⟨a,b,hTO⟩:=Fz;have hiy:i<ys.size:=hl▸hi
  rcases hz with ⟨h0,hz⟩ | ⟨I5,b',o,hz,hm⟩
  ·refine wpAny_pyNext_zip_item D hz hTI hTO h1 h2 hl1 hl2 (Array.getElem?_eq_getElem hi) (Array.getElem?_eq_getElem hiy) λh' a1 a2 a3 a4 a5 a6 hk=>?_
   exact key s.heap.objs.size xs[i] ys[i] h' ⟨Array.getElem?_eq_getElem hi,Array.getElem?_eq_getElem hiy⟩ rfl a5
    ⟨.inr (JW _ false _ a1 (.head _)),hk _ _ D.TIz D.TITO D.TIi1 D.TIi2 hTI,(Jo _ _ a2),a3,a4,hl1.at λo e=>hk _ o D.l1z D.l1TO D.l1i1 D.l1i2 e,hl2.at λo e=>hk _ o D.l2z D.l2TO D.l2i1 D.l2i2 e⟩
    λc o hc e=>hk c o (λx=>hc (by simp[x])) (λx=>hc (by simp[x])) (λx=>hc (by simp[x])) (λx=>hc (by simp[x])) e
  ·refine cV D hz (hK _ hm) hTI h1 h2 hl1 hl2 (Array.getElem?_eq_getElem hi) (Array.getElem?_eq_getElem hiy) λh' a1 a3 a4 a5 a6 hk=>?_
   exact key s.heap.objs.size xs[i] ys[i] h' ⟨Array.getElem?_eq_getElem hi,Array.getElem?_eq_getElem hiy⟩ rfl a5
    ⟨.inr (JW I5 true o a1 (.tail _ hm)),hk _ _ D.TIz D.TIi1 D.TIi2 hTI,(Jo a b (hk _ _ D.TOz D.TOi1 D.TOi2 hTO)),a3,a4,hl1.at λo e=>hk _ o D.l1z D.l1i1 D.l1i2 e,hl2.at λo e=>hk _ o D.l2z D.l2i1 D.l2i2 e⟩
    λc o hc e=>hk c o (λx=>hc (by simp[x])) (λx=>hc (by simp[x])) (λx=>hc (by simp[x])) e
 ·refine jN hst λhz hTI Fy Gb=>jN Gb λh1 h2 hl1 hl2=>?_;obtain⟨a,b,hTO⟩:=Fy
  have hx:xs[xs.size]?=none:=Array.getElem?_eq_none (Nat.le_refl _)
  rcases hz with ⟨h0,hz⟩ | ⟨I5,b',o,hz,hm⟩
  ·exact wpAny_pyNext_zip_end hh D hz hTI hTO h1 h2 hl1 hl2 (.inl hx) λh' hk=>hQ h' _ λc o hc e=>hk c o (λx=>hc (by simp[x])) (λx=>hc (by simp[x])) (λx=>hc (by simp[x])) (λx=>hc (by simp[x])) e
  ·exact U7 hh D hz (hK _ hm) hTI h1 hl1 hx λh' hk=>hQ h' _ λc o hc e=>hk c o (λx=>hc (by simp[x])) (λx=>hc (by simp[x])) e
 ·rcases hst.1 with ⟨h0,hz⟩ | ⟨I5,b',o,hz,hm⟩
  ·exact wpAny_pyIter_zip hz hQ
  ·have hT:s.TypeIs (.ref z) "zip" := (zv _ hz rfl)
   refine wpAny_pyIter_slot hT F.slot_zip_iter (wpAny_call_entry F.slot_zip_iter hT F.entry_zip_iter ?_ (F.args_zip_iter_1 _));show wpAny _ _ (ret (.ref z)) _ _ s;exact wpAny_pure (zv _ rfl ⟨"zip",_,hT,F.slot_zip_next.lookup,hQ⟩)
section
variable {A:Around}
end
section
variable {A:Around}{m:Str->Option Value}{vs:List PV}{ws:List Value}{E:Value->Shared->Prop}
theorem RW.ownN{frz:List (Addr×Obj)}(q:RW G.X F0 L h m O vs ws ρ led frz){mid:List (Addr×Obj)}{a:Addr}(N:News F0 L h' (mid++((led++frz)++G.X.ps)))(hlt:∀p∈(led++frz)++G.X.ps,∀c∈mid,p.1≠c.1)(hnd:(mid.map (·.1)).Nodup)
  (ho:HR G.X (ρ ++ [a]) frz [po] [a] mid):RW G.X F0 L h' m ⟨O.loc,O.hp ++ [po]⟩ vs ws (ρ ++ [a]) (led++mid) frz:=by
 have up:∀(i:Nat) (b:Addr),ρ[i]?=some b->(ρ ++ [a])[i]?=some b:=λi b e=>Jn i b e;refine⟨(q.hr.mono up (λZ e=>e)).app ho,λp hp=>N p ?_,?_,?_,?_,⟨q.kept.1,λp hp=>up _ _ (q.kept.2 p hp)⟩,λk v e=>?_,q.stk.mono up (λZ e=>e)⟩
 ·simp only[List.mem_append] at hp ⊢
  rcases hp with ((h | h) | h) | h
  ·exact .inr (.inl (.inl h))
  ·exact .inl h
  ·exact .inr (.inl (.inr h))
  ·exact .inr (.inr h)
 ·rw[List.map_append,List.nodup_append]
  refine⟨q.nd,hnd,λb hb c hc e=>?_⟩;refine zd (List.mem_map.mp hb) λp hp Fz=>?_;subst Fz;refine zd (List.mem_map.mp hc) λz hz Fy=>?_;subst Fy;exact hlt p (List.mem_append_left _ (List.mem_append_left _ hp)) z hz e
 ·intro p hp z hz
  rcases List.mem_append.mp hz with hz | hz
  ·exact q.off p hp z hz
  ·exact hlt p (List.mem_append_left _ (List.mem_append_right _ hp)) z hz
 ·intro p hp z hz
  simp only[List.mem_append] at hz
  rcases hz with (hz | hz) | hz
  ·exact q.offp p hp z (List.mem_append_left _ hz)
  ·exact hlt p (List.mem_append_right _ hp) z hz
  ·exact q.offp p hp z (List.mem_append_right _ hz)
 ·refine zd (q.loc k v e) λw c d=>?_
  exact(zv w c (d.mono up (λZ e=>e)))
def C6(Wa:PS->(List PV->PS->Prop)->Prop)(O:PS)(k:KE):Prop:=Wa O λus F1=>two us λa b=>cond (jD a||jD b) False (opt (jm F1 a) λZ=>opt (jm F1 b) λZ=>VW (.zip a b) F1.hp λh'=>k (.ref F1.hp.length) ⟨F1.loc,h'⟩)
theorem tg{d:Nat}{cp:Pos}(ok:BltOk G x (.type "zip"))(D:Act G outer F0 env' A d)(V:EnvG env)(hx:env.kindOf (G.X.nm x)=some .globalImplicit)
  (ha:EL G A F0 L env cp args Wa) (hst:args.all zK=true) (hne:args.isEmpty=false):ES G A F0 L (eval (.Call (.Name (G.X.nm x) np) args [] cp) env) (C6 Wa):=by
 intro O k m s vs ws h F R Q E hq;refine JC ok D V hx ha hst hne h F R λus F1 G3 xs F8 F6 F9 G0 G1 hl=>?_;refine zi (kH F6 hl) λv1 v2 w0 Gb=>jG Gb λw1 Gf Ge g=>?_;subst Gf;subst Ge;refine zh (jI g) λht g=>?_;refine zh (Bool.or_eq_false_iff.mp ht) λt1 t2=>?_;refine zd (zu g) λi1 e1 g=>?_;refine zd (zu g) λi2 e2 g=>?_;replace g:=jv.mp g;have N6:RL G.X F0 L F8.heap G3 F1 (v2::v1::vs) (w1::w0::ws):=G1;refine zi N6 λρ led frz q0=>?_
 refine zr q0.stk.cons_inv λZ Z ee vv2 tl=>?_
 cases ee
 refine zr tl.cons_inv λZ Z ee vv1 tl2=>?_
 cases ee
 refine yp (vv1.seq e1) λx1 a1 n1 Fz m1 r1=>?_;subst Fz;refine yp (vv2.seq e2) λx2 a2 n2 Fy m2 r2=>?_;subst Fy;rw[t1] at m1;rw[t2] at m2;have N1:=(q0.all _ (List.mem_append_left _ (List.mem_append_right _ m1))).1;have N2:=(q0.all _ (List.mem_append_left _ (List.mem_append_right _ m2))).1;have hl1:F8.heap.IsList x1 a1.toArray:=(jY _ N1 rfl ⟨n1,rfl⟩);have hl2:F8.heap.IsList x2 a2.toArray:=(jY _ N2 rfl ⟨n2,rfl⟩);refine call_zip_2 hl1 hl2 λh' hz hTI hTO hi1 hi2 hsz hk=>?_
 refine jG hi1 λo1 g1 c1 d1=>?_;refine jG hi2 λo2 g2 c2 d2=>?_;have q1:=q0.pop.pop;have hLs:L<F8.heap.objs.size:=G0.ns.lt;have new:∀j o,h'.get? (F8.heap.objs.size+j)=some o->h'.get? (F8.heap.objs.size+j)=some o/\F8.heap.objs.size+j≠L/\F0.get? (F8.heap.objs.size+j)=none:=λj o e=>⟨e,by lia,ktu_new G0 (Nat.le_add_right _ _)⟩
 have q2:=q1.ownN (h':=h') (mid:=[(F8.heap.objs.size+4,Kc (F8.heap.objs.size+2) (F8.heap.objs.size+3)),(F8.heap.objs.size+2,jA (.ref (F8.heap.objs.size+0)) (.ref (F8.heap.objs.size+1))),(F8.heap.objs.size+3,jA .none .none),(F8.heap.objs.size+0,o1),(F8.heap.objs.size+1,o2)])
  (a:=F8.heap.objs.size+4) (po:=.zip v1 v2) (λp hp=>?_) (λp hp c hc=>?_) ?_ (HR.cons (OR.zip (vv1.mono (λi b e=>Jn i b e) (λZ e=>e)) (vv2.mono (λi b e=>Jn i b e) (λZ e=>e)) ⟨⟨c1,d1⟩,c2,d2⟩) .nil)
 ·refine hq (.ref F1.hp.length) _ G3 _ _ g (F9.trans (SR.mk' (t:=F8.toks))) (G0.keeps hk) (zm _ _ frz ⟨q2.hr,q2.all,q2.nd,q2.off,q2.offp,q2.kept,q2.loc,VRs.cons (zv _ ?_ rfl) q2.stk⟩)
  rw[<- q1.hr.len,List.getElem?_append_right (Nat.le_refl _),Nat.sub_self];rfl
 ·rcases List.mem_append.mp hp with hp | hp
  ·simp only[List.mem_cons,List.not_mem_nil,or_false] at hp
   rcases hp with rfl | rfl | rfl | rfl | rfl
   ·exact new 4 _ hz
   ·exact new 2 _ hTI
   ·exact new 3 _ hTO
   ·exact new 0 _ g1
   ·exact new 1 _ g2
  ·have z:=q1.all p hp
   exact⟨hk _ _ z.1,z.2⟩
 ·have z:=Heap.lt_size (q1.all p hp).1
  simp only[List.mem_cons,List.not_mem_nil,or_false] at hc
  rcases hc with rfl | rfl | rfl | rfl | rfl<;>exact Nat.ne_of_lt (by show p.1<_+_;lia)
 ·simp
end
section
open PySem.Spec
open PyProof.Rows.LCg
section
variable {A:Around}{m:Str->Option Value}{vs:List PV}{ws:List Value}{E:Value->Shared->Prop}
def w4(o:Option PO)(k:PV->PV->Prop):Prop:=match o with | some (.zip a b)=>k a b | _=>False
theorem p7{o:Option PO}{k:PV->PV->Prop}(h:w4 o k):∃a b,o=some (.zip a b)/\k a b:=by
 cases o with
 | none=>exact False.elim h
 | some p=>cases p<;>first | exact⟨_,_,rfl,h⟩ | exact False.elim h
def eY(Wi:PS->KE->Prop)(Wv:PV->PS->KE->Prop)(mt:Bool)(O:PS)(k:KE):Prop:=Wi O λv F1=>Va v λj=>w4 F1.hp[j]? λa b=>cond (jD a||jD b) False (opt (jm F1 a) λi1=>opt (jm F1 b) λi2 =>
 ((JU i1=true/\JU i2=true)/\i1.length=i2.length/\i1.length<=100000)/\dm .gone F1.hp j λhp'=>q7 Wv (U1 i1 i2) [] ⟨F1.loc,hp'⟩ λus F5=>qf mt us F5 k)
theorem VP:∀{a b:List PV},a.length=b.length->(U1 a b).length=a.length
 | [],[],_=>rfl
 | x::a,y::b,h=>congrArg (· + 1) (VP (Nat.succ.inj h))
theorem VO:∀{a b:List PV} {j:Nat} {u:PV},(U1 a b)[j]?=some u->∃x y,u=.tup [x,y]/\a[j]?=some x/\b[j]?=some y
 | [],_,j,u,e=>by simp[U1] at e
 | x::a,[],j,u,e=>by simp[U1] at e
 | x::a,y::b,0,u,e=>by cases e;exact(jw x y rfl rfl rfl)
 | x::a,y::b,j+1,u,e=>VO (a:=a) (b:=b) (j:=j) e
theorem zA5{z TI TO a b c d:Addr}(n:[z,TI,TO,a,b].Nodup)(h:∀x ∈ [z,TI,TO,a,b],c≠x)(k:∀x ∈ [z,TI,TO,a,b],d≠x):ZipApart z TI TO a b c d:=by
 simp only[List.nodup_cons,List.mem_cons,List.not_mem_nil,or_false,not_or,not_false_eq_true,List.nodup_nil,and_true] at n;obtain⟨⟨n01,n02,n03,n04⟩,⟨n12,n13,n14⟩,⟨n23,n24⟩,n34⟩:=n;exact⟨Ne.symm n01,Ne.symm n02,Ne.symm n03,Ne.symm n04,n12,n13,n14,n23,n24,n34,h _ (.head _),h _ (.tail _ (.tail _ (.head _))),h _ (.tail _ (.tail _ (.tail _ (.head _)))),h _ (.tail _ (.tail _ (.tail _ (.tail _ (.head _))))),k _ (.head _),k _ (.tail _ (.tail _ (.head _))),k _ (.tail _ (.tail _ (.tail _ (.head _)))),k _ (.tail _ (.tail _ (.tail _ (.tail _ (.head _)))))⟩
theorem fE{mt:Bool}(hh:A.handled=none)(B:BlkOk G env scope cl x)
  (hi:ES G A F0 L (eval iter env) Wi) (he:∀(pn:Pl) (C:Addr) (u:PV),CompVar (G.pil pn) C x u->ES (G.pil pn) A F0 L (eval elt (compEnvC scope cl C env)) (Wv u)) (hn:Xm iter=true) :
  ES G A F0 L (eval (.ListComp elt [⟨.Name (G.X.nm x) px,iter,[],0⟩] scope pos) env) (eY Wi Wv mt):=by
 intro O k m s vs ws h F R Q E hq;rw[eval_ListComp];refine wpAny_comprehension_free (use:=none) rfl (Vl hn) B.clos B.kind B.names (hi h F R λv F1 G3 wa F8 F6 F9 G0 G1=>?_);have em:=F9.eq;subst em;refine zd (yf F6) λj eZ11 g=>?_;subst eZ11;refine yo (p7 g) λa b ez g=>?_;refine zh (jI g) λht g=>?_;refine zh (Bool.or_eq_false_iff.mp ht) λt1 t2=>?_;refine zd (zu g) λi1 e1 g=>?_;refine jG (zu g) λi2 e2 eZ10 g=>?_;obtain⟨⟨f1,f2⟩,hl12,hsz⟩:=eZ10;replace g:=qI.mp g;refine zi G1 λρ led frz q0=>?_;refine zi (q0.hr.at ez) λz pre mid Gb=>jU Gb λpost ea eZ9 oz hput=>?_;subst eZ9
 obtain rfl:=q0.ref ea;have q:=q0.pop
 cases oz with
 | @zip _ _ xa ya p1 p2 TI TO _ o1 o2 va vb ho =>
 refine yn ho λeZ8 c2 d2=>?_;obtain⟨c1,d1⟩:=eZ8;refine yp (va.seq e1) λy1 a1 n1 e m1 r1=>?_
 cases e
 refine yp (vb.seq e2) λy2 a2 n2 e m2 r2=>?_
 cases e
 rw[t1] at m1;rw[t2] at m2;replace m1:(xa,listOf a1.toArray n1)∈frz:=m1;replace m2:(ya,listOf a2.toArray n2)∈frz:=m2;have N1:=(q.all _ (List.mem_append_left _ (List.mem_append_right _ m1))).1;have N2:=(q.all _ (List.mem_append_left _ (List.mem_append_right _ m2))).1;have hl1:F8.heap.IsList xa a1.toArray:=(jY _ N1 rfl ⟨n1,rfl⟩);have hl2:F8.heap.IsList ya a2.toArray:=(jY _ N2 rfl ⟨n2,rfl⟩);have hlen1:=r1.length;have hlen2:=r2.length;have Nm:∀p ∈ [(z,Kc TI TO),(TI,jA (.ref p1) (.ref p2)),(TO,jA .none .none),(p1,o1),(p2,o2)],F8.heap.get? p.1=some p.2/\p.1≠L/\F0.get? p.1=none:=λp hp=>q.all p (List.mem_append_left _ (List.mem_append_left _ (cQ hp)))
 have offl:∀p∈frz,∀c ∈ [(z,Kc TI TO),(TI,jA (.ref p1) (.ref p2)),(TO,jA .none .none),(p1,o1),(p2,o2)],p.1≠c.1:=λp hp c hc=>q.off p hp c (cQ hc);have D:ZipApart z TI TO p1 p2 xa ya:=zA5 (uL q.nd) (k8 (offl _ m1)) (k8 (offl _ m2));have q2:RB G.X G3 ⟨F1.loc,F1.hp.set j .gone⟩ vs ws ρ (pre ++ []++post) frz:=⟨hput .gone [] .gone,hW q.nd,λp hp y hy=>q.off p hp y (vh y hy),λp hp y hy=>q.offp p hp y (n7 y hy),q.kept,q.loc,q.stk⟩
 have hq':j6 G F0 L G3 F8 vs ws k Q:=λv σ' m' w' s' a b c d=>hq v σ' m' w' s' a (F9.trans b) c d;have offn:∀p∈((pre ++ []++post)++frz)++G.X.ps,∀c ∈ [(z,Kc TI TO),(TI,jA (.ref p1) (.ref p2)),(TO,jA .none .none),(p1,o1),(p2,o2)],p.1≠c.1:=jH (jH (hV q.nd) offl) λp hp c hc=>q.offp p hp c (List.mem_append_left _ (cQ hc));refine wpAny_pyIter_zip (Nm _ (.head _)).1 ?_;refine aj (F7:=F8) (K₀:=[(xa,listOf a1.toArray n1),(ya,listOf a2.toArray n2)]) (news:=((pre ++ []++post)++frz)++G.X.ps) mV
  (dB hh B.kind B.var z TI TO p1 p2 xa ya D a1.toArray a2.toArray (by simp[hlen1,hlen2,hl12]))
  (by rw[List.size_toArray,hlen1];unfold sizeLine;exact qG hsz rfl) (jH (x:=[z,TI,TO,p1,p2]) (λb hb=>.inl hb) (Ui (.inr ⟨_,.head _⟩) (.inr ⟨_,.tail _ (.head _)⟩)))
  (k8 (Q:=λb=>b≠L/\F0.get? b=none) (f:=λp:Addr×Obj=>p.1) (x:=[(z,Kc TI TO),(TI,jA (.ref p1) (.ref p2)),(TO,jA .none .none),(p1,o1),(p2,o2)]) λp hp=>(Nm p hp).2)
  (Ui (ml (mr m1)) (ml (mr m2))) B.cell B.kind ⟨.inl ⟨rfl,(Nm _ (.head _)).1⟩,(Nm _ (.tail _ (.head _))).1,(Jo _ _ (Nm _ (.tail _ (.tail _ (.head _)))).1),(jY o1 (Nm _ (.tail _ (.tail _ (.tail _ (.head _))))).1 c1 d1),(jY o2 (Nm _ (.tail _ (.tail _ (.tail _ (.tail _ (.head _)))))).1 c2 d2),hl1,hl2⟩ G0 (λp hp=>q.all p (Eu p hp))
  (λp hp hb=>k8 (Q:=λb=>p.1≠b) (x:=[(z,Kc TI TO),(TI,jA (.ref p1) (.ref p2)),(TO,jA .none .none),(p1,o1),(p2,o2)]) (offn p hp) p.1 hb rfl) ?_
 rw[List.size_toArray,hlen1,<- VP hl12];refine Uq (V:=λu=>[(x,u)]) (vs:=vs) (ws:=ws) (k:=λus F5=>qf mt us F5 k) (λpn C u hu=>he pn C u (hu _ (.head _))) (λhk q hl'=>Wf hq' hk q hl') g (acc:=[]) (ys:=[]) q2 rfl (Ui (ml m1) (ml m2)) λj' u ej G2 nw fz hP sub=>?_;refine qg hP λT I4 I7 eN hT e3 e4=>zr (VO ej) λx' y' Fy ex ey=>?_;subst Fy;subst eN;rw[Nat.zero_add,List.getElem?_toArray] at e3 e4;refine zd (r1.get ex) λw1 ew1 hv1=>zd (r2.get ey) λw2 ew2 hv2=>?_;rw[e3] at ew1
 cases ew1
 rw[e4] at ew2
 cases ew2
 refine Ze ⟨_,hT,?_⟩;show Exists _;exact(yW T ([I4,I7]) 0 rfl (sub _ (.head _)) (VRs.cons ((hv1.abs (JF f1 ex)).mono (λZ Z e=>e) λp hp=>sub p (mr hp)) (VRs.cons ((hv2.abs (JF f2 ey)).mono (λZ Z e=>e) λp hp=>sub p (mr hp)) VRs.nil)))
end
end
section
open PySem.Spec
open PyProof.Rows.LCg
section
variable {A:Around}{m:Str->Option Value}{vs:List PV}{ws:List Value}{E:Value->Shared->Prop}
def eA(j:Nat)(xs:List Int)(O:PS)(k:PS->Prop):Prop:=match O.hp[j]? with | some .gone=>O.siC j (.il xs) k | _=>False
theorem eB{xs:List Int}{k:PS->Prop}(h:eA j xs O k):O.hp[j]?=some .gone/\k (O.si j (.il xs)):=by
 unfold eA at h
 cases e:O.hp[j]? with
 | none=>rw[e] at h;exact False.elim h
 | some o =>
  rw[e] at h
  cases o with
  | gone=>exact⟨rfl,jd.mp h⟩
  | _=>exact False.elim h
def vV(Wv:PV->PV->PS->KE->Prop)(mt:Bool)(a:PV)(F1:PS)(k:KE):Prop:=Va a λj=>ilO F1.hp[j]? λxs=>xs.length<=100000/\dm .gone F1.hp j λhp'=>X0 Wv 0 (xs.map .int) [] ⟨F1.loc,hp'⟩ λus F5=>eA j xs F5 λG5=>qf mt us G5 k
def sP(Wa:PS->(List PV->PS->Prop)->Prop)(Wv:PV->PV->PS->KE->Prop)(mt:Bool)(O:PS)(k:KE):Prop:=Wa O λus F1=>one us λa=>vU Wv mt a F1 k∨vV Wv mt a F1 k
theorem in1{P:α->Prop}{a:α}{x z:List α}(h:∀y∈x ++ []++z,P y)(k:P a):∀y∈x ++ [a]++z,P y:=jH (jH (λy hy=>h y (ml (ml hy))) (Ze k)) λy hy=>h y (mr hy)
theorem Bf{f:α->β}{a:α}{x z:List α}(h:((x ++ []++z).map f).Nodup)(k:∀y∈x ++ []++z,f y≠f a):((x ++ [a]++z).map f).Nodup:=by
 rw[List.append_nil] at h k;rw[List.append_assoc];exact((List.perm_middle.map f).nodup_iff).mpr (List.nodup_cons.mpr ⟨λhm=>zd (List.mem_map.mp hm) λy hy e=>k y hy e,h⟩)
theorem Ct{Wv:PV->PV->PS->KE->Prop}{mt:Bool}{a:PV}{k:KE}{w:Value}(g0:vV Wv mt a O k)(R:RL G.X F0 L h m O (a::vs) (w::ws)):k5 G F0 L h m vs ws Wv k w:=by
 refine zd (yf g0) λj eZ6 g=>jG (gt g) λis e hsz g=>?_;subst eZ6;replace g:=qI.mp g;refine zi R λρ led frz q0=>zi (q0.hr.at e) λl pre mid Gb=>jU Gb λpost e1 Gd e3 e4=>?_;subst Gd
 obtain rfl:=q0.ref e1
 cases e3 with
 | @il _ vals n _ hi =>
 refine⟨l,vals,n,(l,listOf vals.toArray n)::G.X.ps,⟨O.loc,O.hp.set j .gone⟩,rfl,.ref j::vs,.ref l::ws,ρ,pre ++ []++post,frz,is.map .int,_,⟨(e4 .gone [] .gone).pil,hW q0.nd,λp hp y hy=>q0.off p hp y (vh y hy),Uj (λy hy=>(jH (P:=λp=>∀c ∈ [(l,listOf vals.toArray n)],p.1≠c.1) (hV q0.nd) (λp hp c hc=>q0.off p hp c (cQ hc)) y hy _ (.head _)).symm) λp hp y hy=>q0.offp p hp y (n7 y hy),q0.kept,q0.loc,q0.stk⟩,
  λp hp=>q0.all p (Ew p hp),mr (.head _),by rw[List.length_map];exact hi.length.symm,by rw[List.length_map];exact hsz,g,λej=>(Ye (ρ:=[]) (frz:=frz) hi).get ej,λhq σ' acc ys ρ' led' frz' hk q hl'=>?_⟩
 refine zh (eB hk) λeg hk=>zr q.stk.split λx1 x2 e12 s1 s2=>?_;obtain⟨rfl,rfl⟩:=List.append_inj e12.symm (by rw[s1.length,hl'])
 refine zr s2.cons_inv λZ Z ee Ge t2=>zd Ge λb hbj eb=>?_
 cases ee
 cases eb
 refine zi (q.hr.unpil.at eg) λl' pre' mid' Gb=>jU Gb λpost' f1 Gf f3 f4=>?_;subst Gf
 cases f3
 cases f1.symm.trans hbj
 have ol:∀y∈(pre' ++ []++post')++frz',l≠y.1:=λy hy=>q.offp (l,listOf vals.toArray n) (.head _) y hy;have fin:=Wf hq hk (⟨f4 (.il is) [(l,listOf vals.toArray n)] (.il hi),Bf q.nd λy hy=>(ol y (ml hy)).symm,λp hp=>in1 (q.off p hp) (ol p (mr hp)).symm,λp hp=>jH (in1 (λy hy=>q.offp p (.tail _ hp) y (ml hy)) (q0.offp p hp (l,listOf vals.toArray n) (ml (cQ (.head _))))) λy hy=>q.offp p (.tail _ hp) y (mr hy),⟨q.kept.1,q.kept.2⟩,q.loc,s1.append t2⟩:RB G.X m (σ'.si j (.il is)) (acc++vs) (x1++ws) ρ' (pre' ++ [(l,listOf vals.toArray n)]++post') frz') hl';have sub:∀p∈((pre' ++ [(l,listOf vals.toArray n)]++post')++frz')++G.X.ps,p∈((pre' ++ []++post')++frz')++((l,listOf vals.toArray n)::G.X.ps):=jH (jH (in1 (λZ hy=>ml (ml hy)) (mr (.head _))) λZ hy=>ml (mr hy)) λZ hy=>mr (.tail _ hy);exact λD' h'' tk F' N' off=>fin D' h'' tk F' (Uj (N' _ (.head _)) λp hp=>N' p (.tail _ (sub p hp))) (Xq λp hp=>Qb off p (sub p hp))
end
end
set_option genCtorIdx false in
inductive BK where
 | i | mul (mt:Bool) | add (mt:Bool) | addV
inductive CK where
 | i | l | t | s | n | ss | st
inductive Blt where
 | len | sum | min
 | sumT | maxT | minT | ord
 deriving DecidableEq
set_option genCtorIdx false in
inductive IE where
 | int (i:Int)
 | none
 | bool (b:Bool)
 | str (s:Str)
 | loc (x:Nat)
 | cel (x:Nat) (off:Nat)
 | cv (x:Nat)
 | top (x:Nat) (a:Addr)
 | bin (kd:BK) (op:Operator) (l r:IE)
 | un (op:UnaryOp) (e:IE)
 | cmp (kd:CK) (op:CmpOp) (l r:IE)
 | or (es:List IE)
 | andV (es:List IE)
 | ite (t a b:IE)
 | attr (x y:Nat)
 | cint (x y:Nat) (i:Int)
 | ctop (x y:Nat) (a:Addr)
 | meth (x y:Nat) (f:Addr)
 | mcall (x y:Nat) (f:Addr) (args:List IE)
 | callv (f:IE) (args:List IE)
 | sub (a i:IE)
 | list (mt:Bool) (es:List IE)
 | tup (es:List IE)
 | slice (mt:Bool) (v:IE) (lo hi:Option IE)
 | blt (b:Blt) (x:Nat) (args:List IE)
 | compR (mt:Bool) (x:Nat) (elt:IE) (y:Nat) (args:List IE)
 | append (x:IE) (e:IE)
 | ctor (x:IE) (a b:IE)
 | compE (mt:Bool) (x y:Nat) (elt:IE) (z:Nat) (args:List IE)
 | argL (x y:Nat)
 | dget (r x:Nat)
 | disp (ks:List Nat) (es:List IE)
 | dsel (kxs:List (Str×Nat)) (es:List IE) (i:IE)
 | sat (a i:IE)
 | zip (z:Nat) (args:List IE)
 | compZ (mt:Bool) (x:Nat) (elt iter:IE)
set_option genCtorIdx false in
variable {hi:Option IE}
inductive IT where
 | name (x:Nat)
 | cel (x off:Nat)
 | sub (o i:IE)
 | attr (x y:Nat)
 | dset (r x:Nat)
set_option genCtorIdx false in
inductive IS where
 | pass
 | brk
 | ret (e:IE)
 | expr (e:IE)
 | name (x:Nat) (e:IE)
 | cel (x off:Nat) (e:IE)
 | attr (x y:Nat) (e:IE)
 | aattr (x y:Nat) (op:Operator) (e:IE)
 | aname (x:Nat) (op:Operator) (e:IE)
 | put (o i e:IE)
 | slp (o:IE) (lo hi:Option IE) (e:IE)
 | tup (ts:List IT) (e:IE)
 | swap (xs:List Nat) (e:IE)
 | ite (t:IE) (a b:List IS)
 | forS (t:IT) (e:IE) (body:List IS)
 | forR (t:IT) (y:Nat) (args:List IE) (body:List IS)
 | forE (ts:List IT) (y:Nat) (args:List IE) (body:List IS)
 | two (a b:IT) (e:IE)
 | frz (x:Nat)
 | keep (xs:List Nat)
 | rowT (z x:Nat) (elt:IE) (y:Nat) (args:List IE)
 | dput (r x:Nat) (e:IE)
variable {B ir is:List IS}
structure Pm where
 atts:List Nat
 cis:List (Nat×Int)
 cts:List (Nat×Addr)
 mths:List (Nat×Addr)
 tops:List (Nat×Addr)
 gis:List (Nat×Int)
 blts:List (Nat×Blt)
 rngs:List Nat
 enms:List Nat
 zips:List Nat
 cels:List (Nat×Nat)
 n1:Str
 n2:Str
structure Pi extends Pm where
 tab:Addr->List PV
 fnT:Addr->Bool
 base:Nat
 cvs:List (Nat×PV)
 arg:PV->Option (List Int)
 ctr:List PV->List PO->(PV->List PO->Prop)->Prop
 C:Addr
variable {P:Pi}
noncomputable def Pi.cv(P:Pi)(x:Nat)(v:PV):Pi:={ P with cvs:=[(x,v)] }
noncomputable def Pi.cv2(P:Pi)(x:Nat)(u:PV)(y:Nat)(v:PV):Pi:={ P with cvs:=[(x,u),(y,v)] }
def sq(kd:BK)(op:Operator)(a b:PV)(O:PS)(k:KE):Prop:=match kd with
 | .i=>Zg op a b O k
 | .mul mt=>(match op with | .Mult=>rD mt a b O k | _=>False)
 | .add mt=>(match op with | .Add=>rA mt a b O k | _=>False)
 | .addV=>(match op with | .Add=>rz a b O k | _=>False)
def sM(kd:CK)(op:CmpOp)(a b:PV)(O:PS)(k:KE):Prop:=match kd with
 | .i=>xV op a b O k
 | .l=>A5 op a b O k
 | .t=>CN op a b O k
 | .s=>ky op a b O k
 | .n=>(match op with | .In=>inW a b O k | .NotIn=>Bg a b O k | _=>False)
 | .ss=>(match op with | .In=>Cq a b O k | _=>False)
 | .st=>(match op with | .In=>CO a b O k | _=>False)
def xm(b:Blt)(us:List PV)(O:PS)(k:KE):Prop:=match b with
 | .len=>mU us O k
 | .sum=>pj us O k
 | .min=>mxB false us O k
 | .sumT=>one us λa=>sumT a O k
 | .maxT=>one us λa=>mxT true a O k
 | .minT=>one us λa=>mxT false a O k
 | .ord=>one us λa=>vg a O k
def cvW(cvs:List (Nat×PV))(x:Nat)(O:PS)(k:KE):Prop:=opt (lk x cvs) λv=>k v O
noncomputable def bs:List Nat->List (Nat×PV)->(List (Nat×PV)->Prop)->Prop
 | [],_,c=>c []
 | x::xs,l,c=>opt (lk x l) λv=>bs xs l λr=>c ((x,v)::r)
def ry(xs:List Nat)(O:PS)(k:KS):Prop:=match O with
 | ⟨l,h⟩=>bs xs l λl'=>k ⟨l',h⟩
def Ak(x:Nat)(O:PS)(k:KS):Prop:=opt (lk x O.loc) λv=>Va v λj=>opt O.hp[j]? λo=>opt (tC o) λu=>O.siC j .gone λF1=>F1.slC x u k
mutual
noncomputable def pE(P:Pi)(H:Hd):IE->PS->KE->Prop
 | .int i,O,k=>k (.int i) O
 | .none,O,k=>k .none O
 | .bool b,O,k=>k (.bool b) O
 | .str x,O,k=>k (.str x) O
 | .loc x,O,k=>j7 x O k
 | .cel _ off,O,k=>aq (P.base+off) O k
 | .cv x,O,k=>cvW P.cvs x O k
 | .top _ a,O,k=>k (.top a) O
 | .bin kd op l r,O,k=>pE P H l O λa F1=>pE P H r F1 λb F5=>sq kd op a b F5 k
 | .un op e,O,k=>pE P H e O λa F1=>unW op a F1 k
 | .cmp kd op l r,O,k=>pE P H l O λa F1=>pE P H r F1 λb F5=>sM kd op a b F5 k
 | .or _,_,_=>False
 | .andV es,O,k=>iP P H es O k
 | .ite t a b,O,k=>pT P H t O λc F1=>cond c (pE P H a F1 k) (pE P H b F1 k)
 | .attr x y,O,k=>j7 x O λa F1=>XT y a F1 k
 | .cint x y i,O,k=>j7 x O λa F1=>Zm y (.int i) a F1 k
 | .ctop x y b,O,k=>j7 x O λa F1=>Zm y (.top b) a F1 k
 | .meth x y f,O,k=>j7 x O λa F1=>eH y f a F1 k
 | .mcall x y f args,O,k=>j7 x O λa F1=>gS H y f (pEs P H args) a F1 k
 | .callv f args,O,k=>pE P H f O λa F1=>Zl H P.fnT (pEs P H args) args.isEmpty a F1 k
 | .sub o i,O,k=>pE P H o O λa F1=>pE P H i F1 λb F5=>CH P.tab a b F5 k
 | .list mt es,O,k=>pEs P H es O λus F1=>qf mt us F1 k
 | .tup es,O,k=>pEs P H es O λus F1=>CV us F1 k
 | .slice mt v lo hi,O,k=>pE P H v O λa F1=>pO P H lo F1 λl F5=>pO P H hi F5 λu G5=>ZW P.arg mt a l u G5 k
 | .blt b _ args,O,k=>pEs P H args O λus F1=>xm b us F1 k
 | .compR mt x elt _ args,O,k=>eX (pEs P H args) (λv=>pE (P.cv x v) H elt) mt O k
 | .append o e,O,k=>pE P H o O λa F1=>cond (isLst F1 a) (pE P H e F1 λv F5=>VX a v F5 λG5=>k .none G5) False
 | .ctor c a b,O,k=>pE P H c O λc O6=>pD P.C c (pE P H a O6 λa F1=>pE P H b F1 λb F5=>aw P.ctr a b F5 k)
 | .compE mt x y elt _ args,O,k=>sP (pEs P H args) (λu v=>pE (P.cv2 x u y v) H elt) mt O k
 | .argL _ y,O,k=>rl P.arg y O k
 | .dget r x,O,k=>dgW r x O k
 | .disp ks es,O,k=>fq ks (pEs P H es) O k
 | .dsel kxs es i,O,k=>fq (kxs.map (·.2)) (pEs P H es) O λa F1=>pE P H i F1 λb F5=>fw kxs a b F5 (wD O.hp.length k)
 | .sat a i,O,k=>pE P H a O λa F1=>pE P H i F1 λb F5=>Ca a b F5 k
 | .zip _ args,O,k=>C6 (pEs P H args) O k
 | .compZ mt x elt iter,O,k=>eY (pE P H iter) (λv=>pE (P.cv x v) H elt) mt O k
noncomputable def pO(P:Pi)(H:Hd):Option IE->PS->KE->Prop
 | none,O,k=>k .none O
 | some e,O,k=>pE P H e O k
noncomputable def pEs(P:Pi)(H:Hd):List IE->PS->(List PV->PS->Prop)->Prop
 | [],O,k=>k [] O
 | e::es,O,k=>pE P H e O λv F1=>pEs P H es F1 λus F5=>k (v::us) F5
noncomputable def iP(P:Pi)(H:Hd):List IE->PS->KE->Prop
 | [],_,_=>False
 | e::es,O,k=>cond es.isEmpty (pE P H e O k) (pE P H e O λa F1=>jT a F1 λb F5=>cond b (iP P H es F5 k) (k a F5))
noncomputable def pT(P:Pi)(H:Hd):IE->PS->KB->Prop
 | .cmp kd op l r,O,k=>pE P H l O λa F1=>pE P H r F1 λb F5=>sM kd op a b F5 λc G5=>jT c G5 k
 | .or es,O,k=>pOr P H es O k
 | .int i,O,k=>jT (.int i) O k
 | .none,O,k=>jT .none O k
 | .bool b,O,k=>jT (.bool b) O k
 | .loc x,O,k=>j7 x O λa F1=>jT a F1 k
 | .cel _ off,O,k=>aq (P.base+off) O λa F1=>jT a F1 k
 | .bin kd op l r,O,k=>pE P H l O λa F1=>pE P H r F1 λb F5=>sq kd op a b F5 λc G5=>jT c G5 k
 | .attr x y,O,k=>j7 x O λa F1=>XT y a F1 λc G5=>jT c G5 k
 | _,_,_=>False
noncomputable def BH(P:Pi)(H:Hd):List IE->PS->KB->Prop
 | [],O,k=>k true O
 | e::es,O,k=>pT P H e O λb F1=>cond b (BH P H es F1 k) (k false F1)
noncomputable def pOr(P:Pi)(H:Hd):List IE->PS->KB->Prop
 | [],O,k=>k false O
 | e::es,O,k=>pT P H e O λb F1=>cond b (k true F1) (pOr P H es F1 k)
end
noncomputable def pA(P:Pi)(H:Hd):IT->PV->PS->KS->Prop
 | .name x,v,O,k=>O.slC x v k
 | .cel _ off,v,O,k=>fg (P.base+off) v O k
 | .sub o i,v,O,k=>pE P H o O λa F1=>pE P H i F1 λi F5=>iU a i v F5 k
 | .attr x y,v,O,k=>j7 x O λa F1=>YX y a v F1 k
 | .dset r x,v,O,k=>j7 r O λa F1=>X3 x a v F1 k
noncomputable def pAs(P:Pi)(H:Hd):List IT->List (PV->PS->KS->Prop)
 | []=>[]
 | t::ts=>pA P H t::pAs P H ts
mutual
noncomputable def pS(P:Pi)(H:Hd):IS->PS->KF->Prop
 | .pass,O,k=>k .next O
 | .brk,O,k=>k .brk O
 | .ret e,O,k=>pE P H e O λv F1=>k (.ret v) F1
 | .expr e,O,k=>pE P H e O λZ F1=>k .next F1
 | .name x e,O,k=>pE P H e O λv F1=>F1.slC x v (k .next)
 | .cel _ off e,O,k=>pE P H e O λv F1=>fg (P.base+off) v F1 (k .next)
 | .attr x y e,O,k=>pE P H e O λv F1=>j7 x F1 λa F5=>YX y a v F5 λG5=>k .next G5
 | .aattr x y op e,O,k=>j7 x O λa F1=>XT y a F1 λold F5=>pE P H e F5 λv G5=>Zg op old v G5 λnew I8=>YX y a new I8 λO0=>k .next O0
 | .aname x op e,O,k=>j7 x O λold F1=>pE P H e F1 λv F5=>Zg op old v F5 λnew G5=>G5.slC x new (k .next)
 | .put o i e,O,k=>pE P H e O λv F1=>pE P H o F1 λa F5=>pE P H i F5 λj G5=>iU a j v G5 λI8=>k .next I8
 | .slp o lo hi e,O,k=>pE P H e O λv F1=>pE P H o F1 λa F5=>pO P H lo F5 λl G5=>pO P H hi G5 λu I8=>rQ a l u v I8 λO0=>k .next O0
 | .tup ts e,O,k=>pE P H e O λv F1=>bN (pAs P H ts) v F1 (k .next)
 | .swap xs e,O,k=>pE P H e O λv F1=>kz xs v F1 (k .next)
 | .ite t a b,O,k=>pT P H t O λc F1=>cond c (pSs P H a F1 k) (pSs P H b F1 k)
 | .forS t e body,O,k=>aM (pE P H e) (pA P H t) (pSs P H body) O k
 | .forR t _ args body,O,k=>Vm (pEs P H args) (pA P H t) (pSs P H body) O k
 | .forE ts _ args body,O,k=>X9 (pEs P H args) (pAs P H ts) (pSs P H body) O k
 | .two a b e,O,k=>pE P H e O λv F1=>pA P H a v F1 λF5=>pA P H b v F5 (k .next)
 | .frz x,O,k=>Ak x O (k .next)
 | .keep xs,O,k=>ry xs O (k .next)
 | .dput r x e,O,k=>pE P H e O λv F1=>j7 r F1 λa F5=>X3 x a v F5 λG5=>k .next G5
 | .rowT z x elt _ args,O,k=>rS (pEs P H args) (λv=>pE (P.cv x v) H elt) z O k
noncomputable def pSs(P:Pi)(H:Hd):List IS->PS->KF->Prop
 | [],O,k=>k .next O
 | i::is,O,k=>Cn (pS P H i) (pSs P H is) O k
end
theorem za{a b:Bool}(h:(a&&b)=true):a=true/\b=true:=(Bool.and_eq_true a b).mp h
noncomputable def Cf:Scope:=⟨.function,[],false,false,[]⟩
noncomputable def ps0:Pos:=⟨0,0,0,0⟩
noncomputable def obs(f:α->Bool)(x:Sem α):Bool:=match x with | .pure a=>f a | _=>false
theorem iK{f:α->Bool}{x:Sem α}(h:obs f x=true):∃a,x=.pure a/\f a=true:=by
 cases x<;>first | exact⟨_,rfl,h⟩ | exact Bool.noConfusion h
noncomputable def swE(sc:Scope):Env:=⟨sc,0,0,[],Str.empty,none,.none,none,0⟩
noncomputable def vk(e:Expr):List Expr:=match e with
 | .BinOp l _ r _=>[l,r]
 | .UnaryOp _ a _=>[a]
 | .Compare l _ cs _=>l::cs
 | .BoolOp _ vs _=>vs
 | .IfExp t a b _=>[t,a,b]
 | .Attribute v _ _=>[v]
 | .Call f args kws _=>f::(args++kws.map (·.value))
 | .Subscript v i _=>[v,i]
 | .Slice lo hi st _=>[lo.getD e,hi.getD e,st.getD e]
 | .List es _=>es
 | .Tuple es _ _=>es
 | .ListComp elt gens _ _=>elt::gens.flatMap λg=>g.target::g.iter::g.ifs
 | _=>[]
noncomputable def vn(e:Expr):Nat:=match e with
 | .Constant _ n _=>n
 | .Tuple _ n _=>n
 | _=>0
noncomputable def vs(e:Expr):Scope:=match e with
 | .ListComp _ _ sc _=>sc
 | _=>Cf
noncomputable def vq(e:Expr):List Pos:=match e with
 | .Call _ _ kws _=>kws.map (·.pos)
 | _=>[]
noncomputable def nth{α:Type}(d:α):List α->Nat->α
 | [],_=>d
 | a::_,0=>a
 | _::r,n+1=>nth d r n
noncomputable def tl:List α->List α
 | []=>[]
 | _::r=>r
noncomputable def kd(e:Expr)(n:Nat):Expr:=nth e (vk e) n
noncomputable def dk(e:Expr):List Expr:=match e with
 | .Dict ks _ _=>ks.map λk=>k.getD e
 | _=>[]
noncomputable def dv(e:Expr):List Expr:=match e with
 | .Dict _ vs _=>vs
 | _=>[]
noncomputable def nmI(i:IE):Nat:=match i with
 | .loc x=>x
 | .cel x _=>x
 | .cv x=>x
 | .top x _=>x
 | _=>0
section
variable (nm:Nat->Str)(P:Pm)
noncomputable def nE(x:Nat)(e:Expr):Expr:=.Name (nm x) e.pos
noncomputable def aE(x y:Nat)(e:Expr):Expr:=.Attribute (nE nm x (kd e 0)) (nm y) e.pos
noncomputable def toK(x:Nat)(e:Expr):Expr:=.Constant (.str (nm x)) (vn e) e.pos
noncomputable def Z2:List Nat->List Expr->List (Option Expr)
 | [],_=>[]
 | x::xs,es=>some (toK nm x (nth (.List [] ps0) es 0))::Z2 xs (tl es)
mutual
noncomputable def toE:IE->Expr->Expr
 | .int i,e=>.Constant (.int i) (vn e) e.pos
 | .none,e=>.Constant .none (vn e) e.pos
 | .bool b,e=>.Constant (.bool b) (vn e) e.pos
 | .str x,e=>.Constant (.str x) (vn e) e.pos
 | .loc x,e=>nE nm x e
 | .cel x _,e=>nE nm x e
 | .cv x,e=>nE nm x e
 | .top x _,e=>nE nm x e
 | .bin _ op l r,e=>.BinOp (toE l (kd e 0)) op (toE r (kd e 1)) e.pos
 | .un op a,e=>.UnaryOp op (toE a (kd e 0)) e.pos
 | .cmp _ op l r,e=>.Compare (toE l (kd e 0)) [op] [toE r (kd e 1)] e.pos
 | .or es,e=>.BoolOp .Or (toEs es (vk e)) e.pos
 | .andV es,e=>.BoolOp .And (toEs es (vk e)) e.pos
 | .ite t a b,e=>.IfExp (toE t (kd e 0)) (toE a (kd e 1)) (toE b (kd e 2)) e.pos
 | .attr x y,e=>aE nm x y e
 | .cint x y _,e=>aE nm x y e
 | .ctop x y _,e=>aE nm x y e
 | .meth x y _,e=>aE nm x y e
 | .mcall x y _ args,e=>.Call (aE nm x y (kd e 0)) (toEs args (tl (vk e))) [] e.pos
 | .callv f args,e=>.Call (toE f (kd e 0)) (toEs args (tl (vk e))) [] e.pos
 | .sub a i,e=>.Subscript (toE a (kd e 0)) (toE i (kd e 1)) e.pos
 | .list _ es,e=>.List (toEs es (vk e)) e.pos
 | .tup es,e=>.Tuple (toEs es (vk e)) (vn e) e.pos
 | .slice _ v lo hi,e=>.Subscript (toE v (kd e 0)) (.Slice (toO lo (kd (kd e 1) 0)) (toO hi (kd (kd e 1) 1)) none (kd e 1).pos) e.pos
 | .blt _ x args,e=>.Call (nE nm x (kd e 0)) (toEs args (tl (vk e))) [] e.pos
 | .compR _ x elt y args,e=>.ListComp (toE elt (kd e 0)) [⟨nE nm x (kd e 1),.Call (nE nm y (kd (kd e 2) 0)) (toEs args (tl (vk (kd e 2)))) [] (kd e 2).pos,[],0⟩] (vs e) e.pos
 | .append o a,e=>.Call (.Attribute (nE nm (nmI o) (kd (kd e 0) 0)) ("append" : Str) (kd e 0).pos) [toE a (kd e 1)] [] e.pos
 | .ctor c a b,e=>.Call (nE nm (nmI c) (kd e 0)) [] [⟨some P.n1,toE a (kd e 1),nth ps0 (vq e) 0⟩,⟨some P.n2,toE b (kd e 2),nth ps0 (vq e) 1⟩] e.pos
 | .argL x y,e=>.Call (nE nm x (kd e 0)) [nE nm y (kd e 1)] [] e.pos
 | .dget r x,e=>.Subscript (nE nm r (kd e 0)) (toK nm x (kd e 1)) e.pos
 | .disp ks es,e=>.Dict (Z2 nm ks (dk e)) (toEs es (dv e)) e.pos
 | .compE _ x y elt z args,e=>.ListComp (toE elt (kd e 0)) [⟨.Tuple [nE nm x (kd (kd e 1) 0),nE nm y (kd (kd e 1) 1)] (vn (kd e 1)) (kd e 1).pos,.Call (nE nm z (kd (kd e 2) 0)) (toEs args (tl (vk (kd e 2)))) [] (kd e 2).pos,[],0⟩] (vs e) e.pos
 | .dsel kxs es i,e=>.Subscript (.Dict (Z2 nm (kxs.map (·.2)) (dk (kd e 0))) (toEs es (dv (kd e 0))) (kd e 0).pos) (toE i (kd e 1)) e.pos
 | .sat a i,e=>.Subscript (toE a (kd e 0)) (toE i (kd e 1)) e.pos
 | .zip z args,e=>.Call (nE nm z (kd e 0)) (toEs args (tl (vk e))) [] e.pos
 | .compZ _ x elt iter,e=>.ListComp (toE elt (kd e 0)) [⟨nE nm x (kd e 1),toE iter (kd e 2),[],0⟩] (vs e) e.pos
noncomputable def toO:Option IE->Expr->Option Expr
 | none,_=>none
 | some i,e=>some (toE i e)
noncomputable def toEs:List IE->List Expr->List Expr
 | [],_=>[]
 | i::is,es=>toE i (nth (.List [] ps0) es 0)::toEs is (tl es)
end
noncomputable def yK(sc:Scope)(x:Nat):Bool:=sc.names.lookup (nm x)==some .local
noncomputable def Yc(sc:Scope)(x:Nat):Bool:=sc.names.lookup (nm x)==some .globalImplicit
noncomputable def eT(sc:Scope)(cv:Option (Nat×Nat))(x off:Nat):Bool:=P.cels.contains (x,off)&&(sc.names.lookup (nm x)==some (cond cv.isNone NameKind.cell NameKind.free))
noncomputable def nmB(sc:Scope)(cv:Option (Nat×Nat))(i:IE):Bool:=match i with
 | .loc x=>cv.isNone&&yK nm sc x
 | .cel c off=>eT nm P sc cv c off
 | .cv x=>(match cv with | some p=>Nat.beq x p.1||Nat.beq x p.2 | none=>false)&&yK nm sc x
 | .top x a=>Yc nm sc x&&P.tops.contains (x,a)
 | _=>false
noncomputable def Zh(sc csc:Scope)(x:Nat):Bool:=csc.names.all (λy=>y.2 !=.cell)&&(csc.kind==.function)&&csc.names.all (λy=>y.2 !=.local||csc.names.lookup y.1==some .local)&&(csc.names.lookup (nm x)==some .local)
 && csc.names.all (λy=>y.2 !=.free||P.cels.any (λp=>nm p.1==y.1&&sc.names.lookup y.1==some .cell))
noncomputable def xT(sc:Scope)(op:CmpOp)(r:IE)(e:Expr):Bool:=!(behindInMarks op (toE nm P r (kd e 1)))
mutual
noncomputable def okE(sc:Scope)(cv:Option (Nat×Nat)):IE->Expr->Bool
 | .int _,_=>true
 | .none,_=>true
 | .bool _,_=>true
 | .str _,_=>true
 | .loc x,_=>nmB nm P sc cv (.loc x)
 | .cel x o,_=>nmB nm P sc cv (.cel x o)
 | .cv x,_=>nmB nm P sc cv (.cv x)
 | .top x a,_=>nmB nm P sc cv (.top x a)
 | .bin _ _ l r,e=>okE sc cv l (kd e 0)&&okE sc cv r (kd e 1)
 | .un _ a,e=>okE sc cv a (kd e 0)
 | .cmp _ op l r,e=>xT nm P sc op r e&&(okE sc cv l (kd e 0)&&okE sc cv r (kd e 1))
 | .or _,_=>false
 | .andV es,e=>okEs sc cv es (vk e)
 | .ite t a b,e=>okT sc cv t (kd e 0)&&(okE sc cv a (kd e 1)&&okE sc cv b (kd e 2))
 | .attr x y,_=>cv.isNone&&(yK nm sc x&&P.atts.contains y)
 | .cint x y i,_=>cv.isNone&&(yK nm sc x&&P.cis.contains (y,i))
 | .ctop x y a,_=>cv.isNone&&(yK nm sc x&&P.cts.contains (y,a))
 | .meth x y f,_=>cv.isNone&&(yK nm sc x&&P.mths.contains (y,f))
 | .mcall x y f args,e=>cv.isNone&&((yK nm sc x&&P.mths.contains (y,f))&&(okEs sc cv args (tl (vk e))&&(decide ((kd e 0).pos.endLine=e.pos.line)&&Nat.blt (toEs nm P args (tl (vk e))).length 30)))
 | .callv f args,e=>cv.isNone&&(okE sc cv f (kd e 0)&&(okEs sc cv args (tl (vk e))&&Xl (toE nm P f (kd e 0))))
 | .sub a i,e=>okE sc cv a (kd e 0)&&okE sc cv i (kd e 1)
 | .list _ es,e=>okEs sc cv es (vk e)
 | .tup es,e=>okEs sc cv es (vk e)
 | .slice _ v lo hi,e=>cv.isNone&&(okE sc cv v (kd e 0)&&(okO sc cv lo (kd (kd e 1) 0)&&okO sc cv hi (kd (kd e 1) 1)))
 | .blt b x args,e=>(Yc nm sc x&&P.blts.contains (x,b))&&(okEs sc cv args (tl (vk e)) && !args.isEmpty)
 | .compR _ x elt y args,e=>cv.isNone&&(Zh nm P sc (vs e) x&&(((Yc nm sc y&&P.rngs.contains y)&&(okEs sc cv args (tl (vk (kd e 2))) && !args.isEmpty))&&okE (vs e) (some (x,x)) elt (kd e 0)))
 | .append o a,e=>(nmB nm P sc cv o&&okE sc cv a (kd e 1))&&decide ((kd e 0).pos.endLine=e.pos.line)
 | .ctor c a b,e=>cv.isNone&&(nmB nm P sc cv c&&(okE sc cv a (kd e 1)&&okE sc cv b (kd e 2)))
 | .argL x y,_=>(Yc nm sc x&&P.blts.contains (x,.len))&&(cv.isNone&&yK nm sc y)
 | .dget r _,_=>nmB nm P sc cv (.loc r)
 | .disp ks es,e=>(YH ks&&Nat.beq ks.length es.length)&&((Nat.blt 0 ks.length&&Nat.ble ks.length 15)&&okEs sc cv es (dv e))
 | .compE _ x y elt z args,e=>cv.isNone&&((Zh nm P sc (vs e) x&&(yK nm (vs e) y&&nm x !=nm y))&&(((Yc nm sc z&&P.enms.contains z)&&(okEs sc cv args (tl (vk (kd e 2))) && !args.isEmpty))&&okE (vs e) (some (x,y)) elt (kd e 0)))
 | .dsel kxs es i,e=>(kxs.all (λp=>nm p.2==p.1)&&((YH (kxs.map (·.2))&&Nat.beq (kxs.map (·.2)).length es.length)&&((Nat.blt 0 (kxs.map (·.2)).length&&Nat.ble (kxs.map (·.2)).length 15)&&okEs sc cv es (dv (kd e 0)))))&&okE sc cv i (kd e 1)
 | .sat a i,e=>okE sc cv a (kd e 0)&&okE sc cv i (kd e 1)
 | .zip z args,e=>(Yc nm sc z&&P.zips.contains z)&&(okEs sc cv args (tl (vk e)) && !args.isEmpty)
 | .compZ _ x elt iter,e=>cv.isNone&&(Zh nm P sc (vs e) x&&(okE sc cv iter (kd e 2)&&okE (vs e) (some (x,x)) elt (kd e 0)))
noncomputable def okO(sc:Scope)(cv:Option (Nat×Nat)):Option IE->Expr->Bool
 | none,_=>true
 | some i,e=>okE sc cv i e
noncomputable def okEs(sc:Scope)(cv:Option (Nat×Nat)):List IE->List Expr->Bool
 | [],_=>true
 | i::is,es=>okE sc cv i (nth (.List [] ps0) es 0)&&okEs sc cv is (tl es)
noncomputable def okT(sc:Scope)(cv:Option (Nat×Nat)):IE->Expr->Bool
 | .cmp _ op l r,e=>xT nm P sc op r e&&(okE sc cv l (kd e 0)&&okE sc cv r (kd e 1))
 | .or es,e=>n0 sc cv es (vk e)
 | .int _,_=>true
 | .none,_=>true
 | .bool _,_=>true
 | .loc x,_=>nmB nm P sc cv (.loc x)
 | .cel x o,_=>nmB nm P sc cv (.cel x o)
 | .bin _ _ l r,e=>okE sc cv l (kd e 0)&&okE sc cv r (kd e 1)
 | .attr x y,_=>cv.isNone&&(yK nm sc x&&P.atts.contains y)
 | _,_=>false
noncomputable def n0(sc:Scope)(cv:Option (Nat×Nat)):List IE->List Expr->Bool
 | [],_=>true
 | i::is,es=>okT sc cv i (nth (.List [] ps0) es 0)&&n0 sc cv is (tl es)
end
noncomputable def toA:IT->Expr->Expr
 | .name x,e=>nE nm x e
 | .cel x _,e=>nE nm x e
 | .sub o i,e=>.Subscript (toE nm P o (kd e 0)) (toE nm P i (kd e 1)) e.pos
 | .attr x y,e=>aE nm x y e
 | .dset r x,e=>.Subscript (nE nm r (kd e 0)) (toK nm x (kd e 1)) e.pos
noncomputable def okA(sc:Scope):IT->Expr->Bool
 | .name x,_=>yK nm sc x
 | .cel x off,_=>eT nm P sc none x off
 | .sub o i,e=>okE nm P sc none o (kd e 0)&&okE nm P sc none i (kd e 1)
 | .attr x y,_=>yK nm sc x&&P.atts.contains y
 | .dset r _,_=>yK nm sc r
noncomputable def Y7:List IT->List Expr->List Expr
 | [],_=>[]
 | t::ts,es=>toA nm P t (nth (.List [] ps0) es 0)::Y7 ts (tl es)
noncomputable def nZ(sc:Scope):List IT->List Expr->Bool
 | [],_=>true
 | t::ts,es=>okA nm P sc t (nth (.List [] ps0) es 0)&&nZ sc ts (tl es)
noncomputable def wF:List Nat->List Expr->List Expr
 | [],_=>[]
 | x::xs,es=>nE nm x (nth (.List [] ps0) es 0)::wF xs (tl es)
set_option backward.match.sparseCases true in
noncomputable def ig(sc:Scope)(ts:List Expr)(v:Expr):Bool:=obs Option.isNone (swappedStores [.Tuple ts 0 ps0] v (swE sc))
set_option backward.match.sparseCases true in
noncomputable def gH(sc:Scope)(xs:List Nat)(ts:List Expr)(v:Expr):Bool:=obs (λr=>r==some (xs.map nm)) (swappedStores [.Tuple ts 0 ps0] v (swE sc))&&xs.all (λx=>sc.names.lookup (nm x)==some .local)
end
noncomputable def sk(s:Stmt):List Expr:=match s with
 | .Return (some v) _=>[v]
 | .Expr v _=>[v]
 | .Assign ts v _=>v::ts
 | .AugAssign t _ v _=>[v,t]
 | .For t i _ _ _=>[i,t]
 | .If t _ _ _=>[t]
 | _=>[]
noncomputable def sb(s:Stmt):List Stmt×List Stmt:=match s with
 | .For _ _ b _ _=>(b,[])
 | .If _ a b _=>(a,b)
 | _=>([],[])
noncomputable def isG(i:IS):Bool:=match i with
 | .frz _=>true
 | .keep _=>true
 | _=>false
noncomputable def kx(s:Stmt)(n:Nat):Expr:=nth (.List [] ps0) (sk s) n
section
variable (nm:Nat->Str)(P:Pm)
noncomputable def cE(y:Nat)(args:List IE)(e:Expr):Expr:=.Call (nE nm y (kd e 0)) (toEs nm P args (tl (vk e))) [] e.pos
mutual
noncomputable def toS:IS->Stmt->Stmt
 | .pass,s=>.Pass s.pos
 | .brk,s=>.Break s.pos
 | .ret e,s=>.Return (some (toE nm P e (kx s 0))) s.pos
 | .expr e,s=>.Expr (toE nm P e (kx s 0)) s.pos
 | .name x e,s=>.Assign [nE nm x (kx s 1)] (toE nm P e (kx s 0)) s.pos
 | .cel x _ e,s=>.Assign [nE nm x (kx s 1)] (toE nm P e (kx s 0)) s.pos
 | .attr x y e,s=>.Assign [aE nm x y (kx s 1)] (toE nm P e (kx s 0)) s.pos
 | .aattr x y op e,s=>.AugAssign (aE nm x y (kx s 1)) op (toE nm P e (kx s 0)) s.pos
 | .aname x op e,s=>.AugAssign (nE nm x (kx s 1)) op (toE nm P e (kx s 0)) s.pos
 | .put o i e,s=>.Assign [.Subscript (toE nm P o (kd (kx s 1) 0)) (toE nm P i (kd (kx s 1) 1)) (kx s 1).pos] (toE nm P e (kx s 0)) s.pos
 | .slp o lo hi e,s=>.Assign [.Subscript (toE nm P o (kd (kx s 1) 0)) (.Slice (toO nm P lo (kd (kd (kx s 1) 1) 0)) (toO nm P hi (kd (kd (kx s 1) 1) 1)) none (kd (kx s 1) 1).pos) (kx s 1).pos] (toE nm P e (kx s 0)) s.pos
 | .tup ts e,s=>.Assign [.Tuple (Y7 nm P ts (vk (kx s 1))) (vn (kx s 1)) (kx s 1).pos] (toE nm P e (kx s 0)) s.pos
 | .swap xs e,s=>.Assign [.Tuple (wF nm xs (vk (kx s 1))) (vn (kx s 1)) (kx s 1).pos] (toE nm P e (kx s 0)) s.pos
 | .ite t a b,s=>.If (toE nm P t (kx s 0)) (QI a (sb s).1) (QI b (sb s).2) s.pos
 | .forS t e body,s=>.For (toA nm P t (kx s 1)) (toE nm P e (kx s 0)) (QI body (sb s).1) [] s.pos
 | .forR t y args body,s=>.For (toA nm P t (kx s 1)) (cE nm P y args (kx s 0)) (QI body (sb s).1) [] s.pos
 | .forE ts y args body,s=>.For (.Tuple (Y7 nm P ts (vk (kx s 1))) (vn (kx s 1)) (kx s 1).pos) (cE nm P y args (kx s 0)) (QI body (sb s).1) [] s.pos
 | .two a b e,s=>.Assign [toA nm P a (kx s 1),toA nm P b (kx s 2)] (toE nm P e (kx s 0)) s.pos
 | .frz _,s=>s
 | .keep _,s=>s
 | .dput r x e,s=>.Assign [.Subscript (nE nm r (kd (kx s 1) 0)) (toK nm x (kd (kx s 1) 1)) (kx s 1).pos] (toE nm P e (kx s 0)) s.pos
 | .rowT z x elt y args,s=>.Assign [nE nm z (kx s 1)] (toE nm P (.compR false x elt y args) (kx s 0)) s.pos
noncomputable def QI:List IS->List Stmt->List Stmt
 | [],_=>[]
 | i::is,ss=>cond (isG i) (QI is ss) (toS i (nth (.Pass ps0) ss 0)::QI is (tl ss))
end
noncomputable def cB(sc:Scope)(ys:List Nat)(y:Nat)(args:List IE)(e:Expr):Bool:=(Yc nm sc y&&ys.contains y)&&(okEs nm P sc none args (tl (vk e)) && !args.isEmpty)
noncomputable def ncB(e:IE)(x:Expr):Bool:=yL (toE nm P e x)
noncomputable def ED(z:Str)(t e:Expr):Bool:=decide (t.pos.line=e.pos.line) && !((vs e).names.any λp=>p.1==z&&(p.2==.local||p.2==.cell))
mutual
noncomputable def okS(sc:Scope):IS->Stmt->Bool
 | .pass,_=>true
 | .brk,_=>true
 | .ret e,s=>okE nm P sc none e (kx s 0)
 | .expr e,s=>okE nm P sc none e (kx s 0)&&ncB nm P e (kx s 0)
 | .name x e,s=>yK nm sc x&&(okE nm P sc none e (kx s 0)&&ncB nm P e (kx s 0))
 | .cel x off e,s=>eT nm P sc none x off&&(okE nm P sc none e (kx s 0)&&ncB nm P e (kx s 0))
 | .attr x y e,s=>(yK nm sc x&&P.atts.contains y)&&(okE nm P sc none e (kx s 0)&&ncB nm P e (kx s 0))
 | .aattr x y _ e,s=>(yK nm sc x&&P.atts.contains y)&&okE nm P sc none e (kx s 0)
 | .aname x _ e,s=>yK nm sc x&&okE nm P sc none e (kx s 0)
 | .put o i e,s=>(okE nm P sc none o (kd (kx s 1) 0)&&okE nm P sc none i (kd (kx s 1) 1))&&(okE nm P sc none e (kx s 0)&&ncB nm P e (kx s 0))
 | .slp o lo hi e,s=>(okE nm P sc none o (kd (kx s 1) 0)&&okE nm P sc none e (kx s 0))&&(okO nm P sc none lo (kd (kd (kx s 1) 1) 0)&&okO nm P sc none hi (kd (kd (kx s 1) 1) 1))
 | .tup ts e,s=>(nZ nm P sc ts (vk (kx s 1))&&okE nm P sc none e (kx s 0))&&ig sc (Y7 nm P ts (vk (kx s 1))) (toE nm P e (kx s 0))
 | .swap xs e,s=>(okE nm P sc none e (kx s 0)&&ncB nm P e (kx s 0))&&gH nm sc xs (wF nm xs (vk (kx s 1))) (toE nm P e (kx s 0))
 | .ite t a b,s=>okT nm P sc none t (kx s 0)&&(QE sc a (sb s).1&&QE sc b (sb s).2)
 | .forS t e body,s=>okA nm P sc t (kx s 1)&&(okE nm P sc none e (kx s 0)&&QE sc body (sb s).1)
 | .forR t y args body,s=>okA nm P sc t (kx s 1)&&(cB nm P sc P.rngs y args (kx s 0)&&QE sc body (sb s).1)
 | .forE ts y args body,s=>(nZ nm P sc ts (vk (kx s 1))&&Nat.beq (Y7 nm P ts (vk (kx s 1))).length 2)&&(cB nm P sc P.enms y args (kx s 0)&&QE sc body (sb s).1)
 | .two a b e,s=>(okA nm P sc a (kx s 1)&&okA nm P sc b (kx s 2))&&okE nm P sc none e (kx s 0)
 | .frz _,_=>true
 | .keep _,_=>true
 | .dput r _ e,s=>yK nm sc r&&(okE nm P sc none e (kx s 0)&&ncB nm P e (kx s 0))
 | .rowT z x elt y args,s=>(yK nm sc z&&okE nm P sc none (.compR false x elt y args) (kx s 0))&&ED (nm z) (kx s 1) (kx s 0)
noncomputable def QE(sc:Scope):List IS->List Stmt->Bool
 | [],_=>true
 | i::is,ss=>cond (isG i) (QE sc is ss) (okS sc i (nth (.Pass ps0) ss 0)&&QE sc is (tl ss))
end
def mSs(sc:Scope)(is:List IS)(ss:List Stmt):Prop:=QE nm P sc is ss=true/\QI nm P is ss=ss
end
noncomputable def Qr(cells:List (Str×Addr)):List (Str×NameKind)->List (Str×Addr)->Option (List (Str×Addr))
 | [],acc=>some acc
 | (n,k)::r,acc=>if k==.free then (match cells.lookup n with | some a=>Qr cells r ((n,a)::acc) | none=>none) else Qr cells r acc
set_option tactic.hygienic true in
theorem J1{env:Env}{cl:List (Str×Addr)}:∀(names:List (Str×NameKind)) (acc:List (Str×Addr)),Qr env.cells names acc=some cl ->
  (forIn (m:=Sem) names acc λx r=>match x with | (name,kind)=>if kind==.free then do let a <- cellOf env name;pure (ForInStep.yield ((name,a)::r)) else pure (ForInStep.yield r))=pure cl
 | [],acc,h=>by cases h;rfl
 | (n,k)::r,acc,h=>by
  unfold Qr at h;rw[List.forIn_cons]
  cases hk:(k==NameKind.free) with
  | false =>
   rw[hk] at h;simp only[Bool.false_eq_true,if_false] at h
   have:=J1 r acc h
   simp only[hk,Bool.false_eq_true,if_false];exact this
  | true =>
   rw[hk] at h;simp only[if_true] at h
   split at h<;>try (cases h;done)
   rename_i a e
   have:=J1 r ((n,a)::acc) h
   simp only[hk,if_true];unfold cellOf;rw[e];exact this
theorem Zn(h:Qr env.cells scope.names []=some cl):closureFor scope env=pure cl:=by
 have:=J1 scope.names [] h
 unfold closureFor;dsimp only;exact(congrArg (λt=>t >>= λcs=>(pure cs:Sem (List (Str×Addr)))) this).trans rfl
theorem Qs{cells:List (Str×Addr)}:∀{names:List (Str×NameKind)} {acc:List (Str×Addr)},(∀p∈names,p.2=.free->∃a,cells.lookup p.1=some a)->∃cl,Qr cells names acc=some cl
 | [],acc,_=>⟨acc,rfl⟩
 | (n,k)::r,acc,h=>by
  unfold Qr
  split
  ·rename_i hk
   obtain⟨a,e⟩:=h (n,k) (.head _) (by simpa using hk)
   rw[show cells.lookup n=some a from e]
   exact Qs λp hp=>h p (.tail _ hp)
  ·exact Qs λp hp=>h p (.tail _ hp)
theorem Up{cells:List (Str×Addr)}{cl:List (Str×Addr)}:∀{names:List (Str×NameKind)} {acc:List (Str×Addr)},Qr cells names acc=some cl->(∀p∈acc,cells.lookup p.1=some p.2) ->
  (∀p∈cl,cells.lookup p.1=some p.2)/\(∀p∈acc,p∈cl) /\ ∀p∈names,p.2=.free->∃a,(p.1,a)∈cl
 | [],acc,h,ha=>by cases h;exact⟨ha,λZ h=>h,λZ h=>nomatch h⟩
 | (n,k)::r,acc,h,ha=>by
  unfold Qr at h
  split at h
  ·split at h<;>try (cases h;done)
   rename_i a e
   obtain⟨a1,a2,a3⟩:=Up h λp hp=>by
    rcases List.mem_cons.mp hp with rfl | hp
    ·exact e
    ·exact ha p hp
   refine⟨a1,λp hp=>a2 p (.tail _ hp),λp hp hf=>?_⟩
   rcases List.mem_cons.mp hp with rfl | hp
   ·exact⟨a,a2 _ (.head _)⟩
   ·exact a3 p hp hf
  ·rename_i hk
   refine yn (Up h ha) λa1 a2 a3=>?_;refine⟨a1,a2,λp hp hf=>?_⟩
   rcases List.mem_cons.mp hp with rfl | hp
   ·exact absurd (by simpa using hf) (by simpa using hk)
   ·exact a3 p hp hf
theorem QT:∀{l:List (Str×Addr)} {n:Str} {a:Addr},(n,a)∈l->∃b,l.lookup n=some b/\(n,b)∈l
 | (m,b)::l,n,a,h=>by
  by_cases e:n=m
  ·subst e;exact(zv b (by simp) (.head _))
  ·rcases List.mem_cons.mp h with h | h
   ·cases h;exact absurd rfl e
   ·refine zd (QT h) λc c1 c2=>?_
    exact(zv c (by rw[List.lookup_cons,beq_eq_false_iff_ne.mpr e];exact c1) (.tail _ c2))
theorem J7:∀{l:List (Str×NameKind)} {n:Str} {k:NameKind},l.lookup n=some k->(n,k)∈l
 | (m,b)::l,n,k,h=>by
  by_cases e:n=m
  ·subst e;simp at h;subst h;exact .head _
  ·rw[List.lookup_cons,beq_eq_false_iff_ne.mpr e] at h;exact .tail _ (J7 h)
theorem XY{cells:List (Str×Addr)}{names:List (Str×NameKind)}{n:Str}(h:Qr cells names []=some cl)(hn:names.lookup n=some .free):cl.lookup n=cells.lookup n:=by
 refine yn (Up h (λZ h=>nomatch h)) λa1 Z a3=>?_;refine zI (a3 _ (J7 hn) rfl) λa ha=>?_;refine zd (QT ha) λb b1 b2=>?_;rw[b1,a1 _ b2]
theorem Jy{x:Str}:(relabel scope env).names.lookup x=(scope.names.lookup x).map λk=>if (k==.free&&env.scope.kind==.function&&env.kindOf x==some .cell) then .cell else k:=by
 show(scope.names.map _).lookup x=_
 induction scope.names with
 | nil=>rfl
 | cons p r ih =>
  obtain⟨n,k⟩:=p;show List.lookup x ((if (k==NameKind.free&&env.scope.kind==.function&&env.kindOf n==some .cell)=true then (n,NameKind.cell) else (n,k))::List.map _ r)=_
  by_cases e:x=n
  ·subst e
   by_cases hc:(k==NameKind.free&&env.scope.kind==.function&&env.kindOf x==some .cell)=true
   ·rw[if_pos hc];simp only[List.lookup_cons,beq_self_eq_true,Option.map_some,hc,if_true]
   ·rw[if_neg hc];simp only[List.lookup_cons,beq_self_eq_true,Option.map_some,hc,if_false,Bool.false_eq_true]
  ·have hb:(x==n)=false:=beq_eq_false_iff_ne.mpr e
   by_cases hc:(k==NameKind.free&&env.scope.kind==.function&&env.kindOf n==some .cell)=true
   ·rw[if_pos hc];simp only[List.lookup_cons,hb];exact ih
   ·rw[if_neg hc];simp only[List.lookup_cons,hb];exact ih
structure PiOk(G:Gam)(P:Pi):Prop where
 tab:dO G P.tab
 fnT:FnT G P.fnT
 atts:∀x∈P.atts,AttrOk G x
 cis:∀p∈P.cis,∃c,ConstOk G p.1 (.int p.2) c
 cts:∀p∈P.cts,∃c,ConstOk G p.1 (.top p.2) c
 mths:∀p∈P.mths,MethOk G p.1 p.2
 tops:∀p∈P.tops,nsIn G.K mainGlobals (G.X.nm p.1)=some (some (.ref p.2))
 gis:∀p∈P.gis,∃t,nsIn G.K mainGlobals (G.X.nm p.1)=some (some (.int p.2 t))
 blts:∀p∈P.blts,BltOk G p.1 (.builtin (match p.2 with | .len => "len" | .sum => "sum" | .min => "min" | .sumT => "sum" | .maxT => "max" | .minT => "min" | .ord => "ord"))
 rngs:∀x∈P.rngs,BltOk G x (.type "range")
 enms:∀x∈P.enms,BltOk G x (.type "enumerate")
 zips:∀x∈P.zips,BltOk G x (.type "zip")
 dbg:∀x,(G.X.nm x==("__debug__" : Str))=false
 C:P.C=G.X.C
 ctor:∃fI,CtorOk G fI
structure FnEnv(G:Gam)(P:Pi)(env:Env)(sc:Scope)(L:Addr)(F0:Heap):Prop where
 V:EnvF env L
 fr:env.frame=some L
 esc:env.scope=sc
 cel:∀p∈P.cels,sc.names.lookup (G.X.nm p.1)=some .cell->CellAt G env p.1 (P.base+p.2)
 arg:∀a xs,P.arg a=some xs->∃x items,a=.top x/\F0.IsList x items.toArray/\IntsAre items xs
structure CpEnv(G:Gam)(P:Pi)(env:Env)(sc:Scope)(y:Nat×Nat):Prop where
 V:EnvG env
 glo:∀n,sc.names.lookup n=some .globalImplicit->env.kindOf n=some .globalImplicit
 cv:∀z,(Nat.beq z y.1||Nat.beq z y.2)=true->∃v,lk z P.cvs=some v/\CompVar G env.locals z v/\env.kindOf (G.X.nm z)=some .local
 cel:∀p∈P.cels,sc.names.lookup (G.X.nm p.1)=some .free->CellAt G env p.1 (P.base+p.2)
inductive EvOk(G:Gam)(P:Pi)(env:Env)(sc:Scope)(L:Addr)(F0:Heap):Option (Nat×Nat)->Prop
 | fn:FnEnv G P env sc L F0->EvOk G P env sc L F0 none
 | cp {y:Nat×Nat}:CpEnv G P env sc y->EvOk G P env sc L F0 (some y)
section
variable {A:Around}{d:Nat}
theorem PiOk.pil(ok:PiOk G P)(pn:Pl):PiOk (G.pil pn) P where
 tab:=ok.tab
 fnT:=ok.fnT
 atts:=λx hx=>let a:=ok.atts x hx;⟨a.pg,a.hd,a.fi,a.sa,a.po,a.tk⟩
 cis:=λp hp=>let⟨c,a⟩:=ok.cis p hp;⟨c,a.pg,a.hd,a.fi,a.ng,a.hh,a.cp,a.vr⟩
 cts:=λp hp=>let⟨c,a⟩:=ok.cts p hp;⟨c,a.pg,a.hd,a.fi,a.ng,a.hh,a.cp,a.vr⟩
 mths:=λp hp=>let a:=ok.mths p hp;⟨a.pg,a.hd,a.fi,a.fn,a.gf,a.tk,a.cp,a.ki,a.fk⟩
 tops:=ok.tops
 gis:=ok.gis
 blts:=λp hp=>let a:=ok.blts p hp;⟨a.hv,a.h1,a.h2,a.h3,a.h4,a.h4c,a.hn,a.hd⟩
 rngs:=λp hp=>let a:=ok.rngs p hp;⟨a.hv,a.h1,a.h2,a.h3,a.h4,a.h4c,a.hn,a.hd⟩
 enms:=λp hp=>let a:=ok.enms p hp;⟨a.hv,a.h1,a.h2,a.h3,a.h4,a.h4c,a.hn,a.hd⟩
 zips:=λp hp=>let a:=ok.zips p hp;⟨a.hv,a.h1,a.h2,a.h3,a.h4,a.h4c,a.hn,a.hd⟩
 dbg:=ok.dbg
 C:=ok.C
 ctor:=let⟨f,a⟩:=ok.ctor;⟨f,a.makes,a.init,a.fn,a.keep⟩
theorem PiOk.cv(ok:PiOk G P)(x:Nat)(v:PV):PiOk G (P.cv x v):=⟨ok.tab,ok.fnT,ok.atts,ok.cis,ok.cts,ok.mths,ok.tops,ok.gis,ok.blts,ok.rngs,ok.enms,ok.zips,ok.dbg,ok.C,ok.ctor⟩
theorem PiOk.cv2(ok:PiOk G P)(x:Nat)(u:PV)(y:Nat)(v:PV):PiOk G (P.cv2 x u y v):=⟨ok.tab,ok.fnT,ok.atts,ok.cis,ok.cts,ok.mths,ok.tops,ok.gis,ok.blts,ok.rngs,ok.enms,ok.zips,ok.dbg,ok.C,ok.ctor⟩
theorem Act.pil(D:Act G outer F0 env A d)(pn:Pl):Act (G.pil pn) outer F0 env A d:=⟨D.B,D.Kin,D.T,D.fr,D.hd,D.dep,D.un⟩
theorem Act.unpil{pn:Pl}(D:Act (G.pil pn) outer F0 env A d):Act G outer F0 env A d:=⟨D.B,D.Kin,D.T,D.fr,D.hd,D.dep,D.un⟩
theorem HdS.pil(hH:HdS G d H)(pn:Pl):HdS (G.pil pn) d H:=by
 intro ps f args O k h outer F0 env L A m s vs ws aws D hf hke F R hl Q hq;exact hH ps h D.unpil hf hke F R hl hq
theorem FnEnv.pil(V:FnEnv G P env sc L F0)(pn:Pl):FnEnv (G.pil pn) P env sc L F0:=⟨V.V,V.fr,V.esc,λp hp hs=>let c:=V.cel p hp hs;⟨c.at_,c.kind⟩,V.arg⟩
theorem EvOk.V:∀{cv:Option (Nat×Nat)},EvOk G P env sc L F0 cv->EnvG env
 | _,.fn V=>V.V.toEnvG
 | _,.cp V=>V.V
theorem EvOk.glo{cv:Option (Nat×Nat)}(W:EvOk G P env sc L F0 cv)(h:Yc G.X.nm sc x=true):env.kindOf (G.X.nm x)=some .globalImplicit:=by
 have h:=eq_of_beq h
 cases W with
 | fn V=>have e:=V.esc;subst e;exact h
 | cp V=>exact V.glo _ h
theorem FnEnv.loc(V:FnEnv G P env sc L F0)(h:yK G.X.nm sc x=true):env.kindOf (G.X.nm x)=some .local:=by
 have e:=V.esc;subst e;exact eq_of_beq h
theorem FnEnv.name(V:FnEnv G P env sc L F0)(ok:PiOk G P)(h:yK G.X.nm sc x=true):ES G A F0 L (eval (.Name (G.X.nm x) pos) env) (j7 x):=
 sY V.V (V.loc h) (ok.dbg x)
theorem EvOk.cel{cv:Option (Nat×Nat)}(W:EvOk G P env sc L F0 cv)(h:eT G.X.nm P.toPm sc cv x off=true):CellAt G env x (P.base+off):=by
 have h:=za h;have h1:=List.contains_iff_mem.mp h.1
 cases W with
 | fn V=>exact V.cel _ h1 (eq_of_beq h.2)
 | cp V=>exact V.cel _ h1 (eq_of_beq h.2)
set_option tactic.hygienic true in
theorem Aa{cv:Option (Nat×Nat)}{i:IE}(ok:PiOk G P)(V:EvOk G P env sc L F0 cv)(D:Act G outer F0 env' A d)(h:nmB G.X.nm P.toPm sc cv i=true):ES G A F0 L (eval (.Name (G.X.nm (nmI i)) pos) env) (pE P H i):=by
 cases i
 case loc x =>
  cases V with
  | cp=>exact ft h
  | fn V=>exact V.name ok h
 case cel c off=>exact lJ V.V (V.cel h) (ok.dbg c)
 case cv x =>
  have h:=za h
  cases V with
  | fn=>exact ft h.1
  | cp V =>
   refine jG (V.cv x h.1) λv e hv hk=>?_;rw[show pE P H (.cv x)=λO k=>k v O from by
    show(λ(O:PS) (k:KE)=>opt (lk x P.cvs) λv=>k v O)=_
    rw[e];rfl]
   exact lL hv V.V.kind hk (ok.dbg _)
 case top x a =>
  have h:=za h;exact te D V.V (V.glo h.1) (ok.dbg x) (ok.tops _ (List.contains_iff_mem.mp h.2))
 all_goals exact ft h
end
section
variable {A:Around}{d:Nat}{csc:Scope}
structure BlkF(nm:Nat->Str)(P:Pm)(sc csc:Scope)(x:Nat):Prop where
 cell:∀y∈csc.names,y.2≠.cell
 kind:csc.kind=.function
 names:∀y∈csc.names,y.2=.local->csc.names.lookup y.1=some .local
 var:csc.names.lookup (nm x)=some .local
 free:∀y∈csc.names,y.2=.free->∃p∈P.cels,nm p.1=y.1/\sc.names.lookup y.1=some .cell
theorem xl{nm:Nat->Str}{P:Pm}(h:Zh nm P sc csc x=true):BlkF nm P sc csc x:=by
 simp only[Zh,Bool.and_eq_true,List.all_eq_true,bne_iff_ne,ne_eq,beq_iff_eq,Bool.or_eq_true] at h;obtain⟨⟨⟨⟨h1,h2⟩,h3⟩,h4⟩,h5⟩:=h;refine⟨h1,h2,λy hy e=>?_,h4,λy hy e=>?_⟩
 ·rcases h3 y hy with h | h
  ·exact absurd e h
  ·exact h
 ·rcases h5 y hy with h | h
  ·exact absurd e h
  ·obtain⟨p,hp,hq⟩:=List.any_eq_true.mp h
   simp only[Bool.and_eq_true,beq_iff_eq] at hq;exact⟨p,hp,hq.1,hq.2⟩
theorem fe(V:FnEnv G P env sc L F0)(B:BlkF G.X.nm P.toPm sc csc x)(hcl:Qr env.cells csc.names []=some cl)(pn:Pl)(C:Addr)(v:PV)(hv:CompVar (G.pil pn) C x v):CpEnv (G.pil pn) (P.cv x v) (compEnvC csc cl C env) csc (x,x):=by
 have hk:∀n,(compEnvC csc cl C env).kindOf n=(csc.names.lookup n).map λk=>if (k==.free&&env.scope.kind==.function&&env.kindOf n==some .cell) then .cell else k:=λn=>Jy
 refine⟨⟨V.V.glo,V.V.blt,B.kind⟩,λn hn=>by rw[hk,hn];rfl,λz hz=>?_,λp hp hs=>?_⟩
 ·obtain rfl:z=x:=by rcases(Bool.or_eq_true _ _).mp hz with h | h<;>exact Nat.eq_of_beq_eq_true h
  refine⟨v,?_,hv,?_⟩
  ·show cond (Nat.beq z z) (some v) none=_
   rw[Nat.beq_refl];rfl
  ·have:=B.var
   show(compEnvC csc cl C env).kindOf (G.X.nm z)=_
   rw[hk,this];rfl
 ·obtain⟨q,hq,e1,e2⟩:=B.free _ (J7 hs) rfl
  have c:=V.cel p hp e2;refine⟨?_,?_⟩
  ·obtain⟨a,h1,h2⟩:=c.at_
   exact⟨a,(XY hcl hs).trans h1,h2⟩
  ·show(compEnvC csc cl C env).kindOf (G.X.nm p.1)=_
   have hs':csc.names.lookup (G.X.nm p.1)=some .free:=hs;have ck:env.kindOf (G.X.nm p.1)=some .cell:=c.kind;rw[hk,hs',ck,V.V.kind];rfl
theorem lz(V:FnEnv G P env sc L F0)(B:BlkF G.X.nm P.toPm sc csc x)(hy:csc.names.lookup (G.X.nm y)=some .local)(hne:x≠y)(hcl:Qr env.cells csc.names []=some cl)(pn:Pl)(C:Addr)(u v:PV)(hu:CompVar (G.pil pn) C x u)(hv:CompVar (G.pil pn) C y v):CpEnv (G.pil pn) (P.cv2 x u y v) (compEnvC csc cl C env) csc (x,y):=by
 have hk:∀n,(compEnvC csc cl C env).kindOf n=(csc.names.lookup n).map λk=>if (k==.free&&env.scope.kind==.function&&env.kindOf n==some .cell) then .cell else k:=λn=>Jy
 have a:=fe V B hcl pn C u hu;refine⟨a.V,a.glo,λz hz=>?_,a.cel⟩;have hyx:Nat.beq y x=false:=zM (Ne.symm hne)
 rcases(Bool.or_eq_true _ _).mp hz with h | h
 ·obtain rfl:=Nat.eq_of_beq_eq_true h
  refine⟨u,?_,hu,(a.cv z (by show(Nat.beq z z||Nat.beq z z)=true;rw[Nat.beq_refl];rfl)).choose_spec.2.2⟩
  show cond (Nat.beq z z) (some u) _=_;rw[Nat.beq_refl];rfl
 ·obtain rfl:y=z:=(Nat.eq_of_beq_eq_true h).symm
  refine⟨v,?_,hv,?_⟩
  ·show cond (Nat.beq y x) (some u) (cond (Nat.beq y y) (some v) none)=_
   rw[hyx,Nat.beq_refl];rfl
  ·show(compEnvC csc cl C env).kindOf (G.X.nm y)=_
   rw[hk,hy];rfl
theorem eF(V:FnEnv G P env sc L F0)(B:BlkF G.X.nm P.toPm sc csc x):∃cl,Qr env.cells csc.names []=some cl/\BlkOk G env csc cl x:=by
 obtain⟨cl,h⟩:=Qs (cells:=env.cells) (names:=csc.names) (acc:=[]) λp hp hf=>by
  obtain⟨q,hq,e1,e2⟩:=B.free p hp hf;obtain⟨a,h1,_⟩:=(V.cel q hq (by rw[e1];exact e2)).at_
  exact⟨a,by rw[<- e1];exact h1⟩
 exact⟨cl,h,Zn h,B.cell,B.kind,B.names,B.var⟩
theorem uQ{kd:BK}{op:Operator}:O2 G A F0 L (binaryOp op) (sq kd op):=by
 cases kd with
 | i=>exact Bj
 | mul mt =>
  intro O k m s vs ws a b wa wb h F R Q E hq
  cases op with
  | Mult=>exact uV h F R hq
  | _=>exact False.elim h
 | add mt =>
  intro O k m s vs ws a b wa wb h F R Q E hq
  cases op with
  | Add=>exact uT h F R hq
  | _=>exact False.elim h
 | addV =>
  intro O k m s vs ws a b wa wb h F R Q E hq
  cases op with
  | Add=>exact nN h F R hq
  | _=>exact False.elim h
theorem iq{kd:CK}{op:CmpOp}(hu:A.units+64<cLine):O2 G A F0 L (compareOp op) (sM kd op):=by
 cases kd with
 | i=>exact Bk
 | l=>exact Bm hu
 | t=>exact Bv hu
 | s=>exact nO
 | n =>
  intro O k m s vs ws a b wa wb h F R Q E hq
  cases op with
  | In=>exact Em h F R hq
  | NotIn=>exact Bo h F R hq
  | _=>exact False.elim h
 | ss =>
  intro O k m s vs ws a b wa wb h F R Q E hq
  cases op with
  | In=>exact Bs h F R hq
  | _=>exact False.elim h
 | st =>
  intro O k m s vs ws a b wa wb h F R Q E hq
  cases op with
  | In=>exact Bw h F R hq
  | _=>exact False.elim h
theorem lI{b:Blt}(ok:PiOk G P)(hb:(y,b)∈P.blts)(D:Act G outer F0 env' A d)(V:EnvG env)(hx:env.kindOf (G.X.nm y)=some .globalImplicit)
  (ha:EL G A F0 L env pos args Wa) (hst:args.all zK=true) (hne:args.isEmpty=false):ES G A F0 L (eval (.Call (.Name (G.X.nm y) np) args [] pos) env) (λO k=>Wa O λus F1=>xm b us F1 k):=by
 cases b with
 | len =>
  have o:BltOk G y (.builtin "len"):=ok.blts _ hb;show ES G A F0 L _ (λO k=>Wa O λus F1=>mU us F1 k)
  exact Jm (Wo:=mU) o D V hx ha hst hne λh F R hl Z Z hq=>uU h F R hl hq
 | sum =>
  have o:BltOk G y (.builtin "sum"):=ok.blts _ hb;show ES G A F0 L _ (λO k=>Wa O λus F1=>pj us F1 k)
  exact Jm (Wo:=pj) o D V hx ha hst hne λh F R hl Z Z hq=>uW D.hd h F R hl hq
 | min =>
  have o:BltOk G y (.builtin "min"):=ok.blts _ hb;show ES G A F0 L _ (λO k=>Wa O λus F1=>mxB false us F1 k)
  exact Jm (Wo:=mxB false) o D V hx ha hst hne λh F R hl Z Z hq=>Bn (big:=false) D.hd h F R hl hq
 | sumT =>
  have o:BltOk G y (.builtin "sum"):=ok.blts _ hb;show ES G A F0 L _ (λO k=>Wa O λus F1=>one us λa=>sumT a F1 k)
  exact Jm (Wo:=λus O k=>one us λa=>sumT a O k) o D V hx ha hst hne λh F R hl Z Z hq=>by
   obtain⟨a,w,rfl,rfl,g⟩:=y3 h hl;exact uX D.hd g F R hq
 | maxT =>
  have o:BltOk G y (.builtin "max"):=ok.blts _ hb;show ES G A F0 L _ (λO k=>Wa O λus F1=>one us λa=>mxT true a F1 k)
  exact Jm (Wo:=λus O k=>one us λa=>mxT true a O k) o D V hx ha hst hne λh F R hl Z Z hq=>by
   obtain⟨a,w,rfl,rfl,g⟩:=y3 h hl;exact rM (big:=true) D.hd g F R hq
 | minT =>
  have o:BltOk G y (.builtin "min"):=ok.blts _ hb;show ES G A F0 L _ (λO k=>Wa O λus F1=>one us λa=>mxT false a F1 k)
  exact Jm (Wo:=λus O k=>one us λa=>mxT false a O k) o D V hx ha hst hne λh F R hl Z Z hq=>by
   obtain⟨a,w,rfl,rfl,g⟩:=y3 h hl;exact rM (big:=false) D.hd g F R hq
 | ord =>
  have o:BltOk G y (.builtin "ord"):=ok.blts _ hb;refine Jm (Wo:=λus O k=>one us λa=>vg a O k) o D V hx ha hst hne λ{us xs O k m s vs ws} h F R hl _ _ hq=>?_;obtain⟨a,w,rfl,rfl,g⟩:=y3 h hl;exact Bp g F (show RL G.X F0 L s.heap m O (a::vs) (w::ws) from R) hq
theorem FnEnv.harg{a:PV}{xs:List Int}{m:Str->Option Value}{vs:List PV}{wa:Value}{ws:List Value}(V:FnEnv G P env sc L F0)(e:P.arg a=some xs)(F:Fr F0 L h m)(R:RL G.X F0 L h m O (a::vs) (wa::ws)):∃x items,wa=.ref x/\h.IsList x items.toArray/\IntsAre items xs:=by
 obtain⟨x,items,rfl,hl,hi⟩:=V.arg a xs e;obtain rfl:=R.top;obtain⟨o,h1,h2⟩:=hl;exact⟨x,items,rfl,⟨o,F.keep _ _ h1,h2⟩,hi⟩
end
def CtS(G:Gam)(d:Nat)(P:Pi):Prop:=∃d' fI,d=d'+1/\CtorOk G fI/\JQ G d' fI (Yd P.n1 P.n2) P.ctr
theorem JQ.pil{d:Nat}{S:List PV->List PO->(PV->List PO->Prop)->Prop}(h:JQ G d f ca S)(pn:Pl):JQ (G.pil pn) d f ca S:=by
 intro ps args O k hs outer F0 env L A m s vs ws aws D hf hke F R hl Q hq;exact h ps hs D.unpil hf hke F R hl hq
theorem CtS.pil{d:Nat}(h:CtS G d P)(pn:Pl):CtS (G.pil pn) d P:=let⟨d',f,e,a,b⟩:=h;⟨d',f,e,⟨a.makes,a.init,a.fn,a.keep⟩,b.pil pn⟩
structure Sc where
 G:Gam
 P:Pi
 H:Hd
 A:Around
 F0:Heap
 L:Addr
 outer:List Env
 d:Nat
 env:Env
 env':Env
 sc:Scope
 cv:Option (Nat×Nat)
structure Sx(c:Sc):Prop where
 ok:PiOk c.G c.P
 hH:HdS c.G c.d c.H
 hC:CtS c.G c.d c.P
 h9:9<=c.d
 D:Act c.G c.outer c.F0 c.env' c.A c.d
 V:EvOk c.G c.P c.env c.sc c.L c.F0 c.cv
 he:c.cv=none->c.env'=c.env
abbrev Sc.es(c:Sc)(e:Expr)(W:PS->KE->Prop):Prop:=ES c.G c.A c.F0 c.L (eval e c.env) W
abbrev Sc.ts(c:Sc)(e:Expr)(W:PS->KB->Prop):Prop:=TS c.G c.A c.F0 c.L (isTrue e c.env (eval e c.env)) W
def Sc.okE(c:Sc)(i:IE)(e:Expr):Prop:=Mine.okE c.G.X.nm c.P.toPm c.sc c.cv i e=true
def Sc.okT(c:Sc)(i:IE)(e:Expr):Prop:=Mine.okT c.G.X.nm c.P.toPm c.sc c.cv i e=true
def Sc.okEs(c:Sc)(i:List IE)(e:List Expr):Prop:=Mine.okEs c.G.X.nm c.P.toPm c.sc c.cv i e=true
noncomputable def Sc.toE(c:Sc)(i:IE)(e:Expr):Expr:=Mine.toE c.G.X.nm c.P.toPm i e
noncomputable def Sc.toEs(c:Sc)(i:List IE)(e:List Expr):List Expr:=Mine.toEs c.G.X.nm c.P.toPm i e
def ME(i:IE):Prop:=∀(c:Sc),Sx c->∀e,c.okE i e->c.es (c.toE i e) (pE c.P c.H i)
def MT(i:IE):Prop:=∀(c:Sc),Sx c->∀e,c.okT i e->c.ts (c.toE i e) (pT c.P c.H i)
def MO(i:Option IE):Prop:=∀(c:Sc),Sx c->∀e,okO c.G.X.nm c.P.toPm c.sc c.cv i e=true->ES c.G c.A c.F0 c.L (valueOrNone (evalOpt (toO c.G.X.nm c.P.toPm i e) c.env)) (pO c.P c.H i)
def MEs(is:List IE):Prop:=∀(c:Sc),Sx c->∀es pos,c.okEs is es->EL c.G c.A c.F0 c.L c.env pos (c.toEs is es) (pEs c.P c.H is)
def MPs(is:List IE):Prop:=∀(c:Sc),Sx c->∀ks es kl pos,c.okEs is es->ks.length=is.length->PL c.G c.A c.F0 c.L c.env pos ks (Z2 c.G.X.nm ks kl) (c.toEs is es) (pEs c.P c.H is)
def MAV(is:List IE):Prop:=∀(c:Sc),Sx c->∀es pos,c.okEs is es->ES c.G c.A c.F0 c.L (eval (.BoolOp .And (c.toEs is es) pos) c.env) (iP c.P c.H is)
def MAn(is:List IE):Prop:=∀(c:Sc),Sx c->∀es pos w,n0 c.G.X.nm c.P.toPm c.sc c.cv is es=true->TS c.G c.A c.F0 c.L (isTrue (.BoolOp .And (c.toEs is es) pos) c.env w) (BH c.P c.H is)
def MOr(is:List IE):Prop:=∀(c:Sc),Sx c->∀es pos w,n0 c.G.X.nm c.P.toPm c.sc c.cv is es=true->TS c.G c.A c.F0 c.L (isTrue (.BoolOp .Or (c.toEs is es) pos) c.env w) (pOr c.P c.H is)
theorem Sx.un{c:Sc}(X:Sx c):c.A.units+64<cLine:=by
 have h:=X.D.un;have h9:=X.h9
 lia
theorem Kb{nm:Nat->Str}{P:Pm}(i:IE)(e:Expr):zK (toE nm P i e)=true:=by cases i<;>rfl
theorem JN{nm:Nat->Str}{P:Pm}(i:IE)(e:Expr):y0 (toE nm P i e)=true:=by cases i<;>rfl
theorem bM{nm:Nat->Str}{P:Pm}(i:IE)(e:Expr):Xm (toE nm P i e)=true:=by cases i<;>rfl
theorem jb{nm:Nat->Str}{P:Pm}:∀(is:List IE) (es:List Expr),(toEs nm P is es).all zK=true
 | [],_=>rfl
 | i::is,es=>by
  show(zK _&&(toEs nm P is (tl es)).all zK)=true
  rw[Kb,jb is];rfl
theorem yr{nm:Nat->Str}{P:Pm}:∀(is:List IE) (es:List Expr),is.isEmpty=(toEs nm P is es).isEmpty
 | [],_=>rfl
 | i::is,es=>rfl
theorem JY{b:Bool}(h:(!b)=true):b=false:=(Bool.not_eq_true' b).mp h
section
variable {c:Sc}(X:Sx c)
include X
theorem Sx.fn(h:c.cv.isNone=true):FnEnv c.G c.P c.env c.sc c.L c.F0/\c.env'=c.env:=by
 have he:=X.he (Option.isNone_iff_eq_none.mp h);have V:=X.V;rw[Option.isNone_iff_eq_none.mp h] at V
 cases V with
 | fn V=>exact⟨V,he⟩
theorem Sx.Dn(h:c.cv.isNone=true):Act c.G c.outer c.F0 c.env c.A c.d:=(X.fn h).2▸X.D
theorem Sx.nm{i:IE}(e:Expr)(h:nmB c.G.X.nm c.P.toPm c.sc c.cv i=true):c.es (nE c.G.X.nm (nmI i) e) (pE c.P c.H i):=Aa X.ok X.V X.D h
theorem Sx.att{e:Expr}{Wo:PV->PS->KE->Prop}(h:c.cv.isNone=true)(hx:yK c.G.X.nm c.sc x=true)(ho:O1 c.G c.A c.F0 c.L (λo=>getAttr o (c.G.X.nm y) true) Wo):c.es (aE c.G.X.nm x y e) (λO k=>j7 x O λa F1=>Wo a F1 k):=
 lH ((X.fn h).1.name X.ok hx) ho
theorem Sx.inner{csc:Scope}(h:c.cv.isNone=true)(hb:Zh c.G.X.nm c.P.toPm c.sc csc x=true):∃cl,BlkOk c.G c.env csc cl x /\ ∀(pn:Pl) (C:Addr) (v:PV),CompVar (c.G.pil pn) C x v ->
  Sx ⟨c.G.pil pn,c.P.cv x v,c.H,c.A,c.F0,c.L,c.outer,c.d,compEnvC csc cl C c.env,c.env',csc,some (x,x)⟩:=by
 have B:=xl hb;have V:=(X.fn h).1;obtain⟨cl,hcl,BO⟩:=eF V B
 exact⟨cl,BO,λpn C v hv=>⟨(X.ok.pil pn).cv x v,X.hH.pil pn,X.hC.pil pn,X.h9,X.D.pil pn,.cp (fe V B hcl pn C v hv),λe=>nomatch e⟩⟩
end
theorem Sx.inner2{c:Sc}(X:Sx c){csc:Scope}(h:c.cv.isNone=true)(hb:(Zh c.G.X.nm c.P.toPm c.sc csc x&&(yK c.G.X.nm csc y&&c.G.X.nm x !=c.G.X.nm y))=true):∃cl,BlkE c.G c.env csc cl x y /\ ∀(pn:Pl) (C:Addr) (u v:PV),CompVar (c.G.pil pn) C x u->CompVar (c.G.pil pn) C y v ->
  Sx ⟨c.G.pil pn,c.P.cv2 x u y v,c.H,c.A,c.F0,c.L,c.outer,c.d,compEnvC csc cl C c.env,c.env',csc,some (x,y)⟩:=by
 obtain⟨h1,h2⟩:=za hb;obtain⟨h2,h3⟩:=za h2;have hy:csc.names.lookup (c.G.X.nm y)=some .local:=eq_of_beq h2;have hne:c.G.X.nm x≠c.G.X.nm y:=bne_iff_ne.mp h3;have B:=xl h1;have V:=(X.fn h).1;obtain⟨cl,hcl,BO⟩:=eF V B
 exact⟨cl,⟨BO,hy,hne⟩,λpn C u v hu hv=>⟨(X.ok.pil pn).cv2 x u y v,X.hH.pil pn,X.hC.pil pn,X.h9,X.D.pil pn,.cp (lz V B hy (λe=>hne (congrArg _ e)) hcl pn C u v hu hv),λe=>nomatch e⟩⟩
theorem gT{kd:BK}{op:Operator}{l r:IE}(hl:ME l)(hr:ME r):ME (.bin kd op l r):=λc X e h=>sV (hl c X _ (za h).1) (hr c X _ (za h).2) (uQ (kd:=kd))
theorem Bb{op:UnaryOp}{a:IE}(ha:ME a):ME (.un op a):=λc X e h=>Ab (W:=pE c.P c.H a) (ha c X _ h) Eo
theorem uq{kd:CK}{op:CmpOp}{l r:IE}(hl:ME l)(hr:ME r):ME (.cmp kd op l r):=λc X e h=>sW (hl c X _ (za (za h).2).1) (hr c X _ (za (za h).2).2) (iq (kd:=kd) X.un) (JY (za h).1)
theorem m4{es:List IE}(h:MAV es):ME (.andV es):=λc X e q=>h c X _ _ q
theorem ur{t a b:IE}(ht:MT t)(ha:ME a)(hb:ME b):ME (.ite t a b):=λc X e h=>sX (ht c X _ (za h).1) (ha c X _ (za (za h).2).1) (hb c X _ (za (za h).2).2)
theorem bf:ME (.attr x y):=λc X e h=>X.att (za h).1 (za (za h).2).1 (ip X.D (X.ok.atts _ (List.contains_iff_mem.mp (za (za h).2).2)))
theorem m6{i:Int}:ME (.cint x y i):=λc X e h=>let⟨_,hc⟩:=X.ok.cis _ (List.contains_iff_mem.mp (za (za h).2).2);X.att (za h).1 (za (za h).2).1 (bq X.D hc)
theorem m7{a:Addr}:ME (.ctop x y a):=λc X e h=>let⟨_,hc⟩:=X.ok.cts _ (List.contains_iff_mem.mp (za (za h).2).2);X.att (za h).1 (za (za h).2).1 (bq X.D hc)
theorem nh:ME (.meth x y g):=λc X e h=>X.att (za h).1 (za (za h).2).1 (nM X.D (X.ok.mths _ (List.contains_iff_mem.mp (za (za h).2).2)))
theorem gY{args:List IE}(ha:MEs args):ME (.mcall x y g args):=λc X e h=>by
 obtain⟨h0,h⟩:=za h;obtain⟨h1,h⟩:=za h;obtain⟨h2,h⟩:=za h;obtain⟨h3,h4⟩:=za h;have V:=(X.fn h0).1;exact fG X.hH (X.Dn h0) V.fr V.V.kind (X.ok.mths _ (List.contains_iff_mem.mp (za h1).2)) (V.name X.ok (za h1).1) (ha c X _ _ h2) (of_decide_eq_true h3) (Nat.le_of_ble_eq_true h4) (jb _ _)
theorem gU{g:IE}{args:List IE}(hg:ME g)(ha:MEs args):ME (.callv g args):=λc X e h=>by
 obtain⟨h0,h⟩:=za h;obtain⟨h1,h⟩:=za h;obtain⟨h2,h3⟩:=za h;have V:=(X.fn h0).1;exact fB X.hH (X.Dn h0) V.fr V.V.kind X.ok.fnT (hg c X _ h1) (ha c X _ _ h2) (jb _ _) h3 (yr _ _)
theorem uv{a i:IE}(ha:ME a)(hi:ME i):ME (.sub a i):=λc X e h=>Zt (ha c X _ (za h).1) (hi c X _ (za h).2) (Bt X.D X.ok.tab (JN _ _))
theorem nf{mt:Bool}{es:List IE}(h:MEs es):ME (.list mt es):=λc X e q=>lN (mt:=mt) (h c X _ _ q)
theorem uw{es:List IE}(h:MEs es):ME (.tup es):=λc X e q=>tf (h c X _ _ q)
theorem gZ{mt:Bool}{v:IE}{lo:Option IE}(hv:ME v)(hl:MO lo)(hh:MO hi):ME (.slice mt v lo hi):=λc X e h=>by
 obtain⟨h0,h⟩:=za h;obtain⟨h1,h2⟩:=za h;exact fH (arg:=c.P.arg) (mt:=mt) (hv c X _ h1) (hl c X _ (za h2).1) (hh c X _ (za h2).2) (X.fn h0).1.harg
theorem uo{b:Blt}{args:List IE}(ha:MEs args):ME (.blt b y args):=λc X e h=>by
 obtain⟨h1,h2⟩:=za h;exact lI X.ok (List.contains_iff_mem.mp (za h1).2) X.D X.V.V (X.V.glo (za h1).1) (ha c X _ _ (za h2).1) (jb _ _) ((yr _ _).symm.trans (JY (za h2).2))
theorem gW{mt:Bool}{elt:IE}{args:List IE}(hl:ME elt)(ha:MEs args):ME (.compR mt x elt y args):=λc X e h=>by
 obtain⟨h0,h⟩:=za h;obtain⟨h1,h⟩:=za h;obtain⟨h,h4⟩:=za h;obtain⟨h2,h3⟩:=za h;obtain⟨cl,B,I⟩:=X.inner h0 h1;exact fC (mt:=mt) (X.ok.rngs _ (List.contains_iff_mem.mp (za h2).2)) X.D X.V.V (X.V.glo (za h2).1) B (ha c X _ _ (za h3).1) (jb _ _) ((yr _ _).symm.trans (JY (za h3).2)) (λpn C v hv=>hl _ (I pn C v hv) _ h4)
theorem cP{o a:IE}(ha:ME a):ME (.append o a):=λc X e h=>cn (X.nm _ (za (za h).1).1) (ha c X _ (za (za h).1).2) (of_decide_eq_true (za h).2) (Kb _ _)
theorem m8{q a b:IE}(ha:ME a)(hb:ME b):ME (.ctor q a b):=λc X e h=>by
 obtain⟨h0,h⟩:=za h;obtain⟨h1,h⟩:=za h;have V:=(X.fn h0).1;obtain⟨d',fI,e1,e2,e3⟩:=X.hC;have D:=e1▸X.Dn h0;show c.es _ (λO k=>pE c.P c.H q O λv O6=>pD c.P.C v (pE c.P c.H a O6 λa F1=>pE c.P c.H b F1 λb F5=>aw c.P.ctr a b F5 k))
 rw[X.ok.C];exact lK e3 D V.fr V.V.kind e2 (X.nm _ h1) (ha c X _ (za h).1) (hb c X _ (za h).2)
theorem m5:ME (.argL x y):=λc X e h=>by
 obtain⟨h1,h2⟩:=za h;exact lG (X.ok.blts _ (List.contains_iff_mem.mp (za h1).2)) X.D X.V.V (X.V.glo (za h1).1) (X.fn (za h2).1).1.harg ((X.fn (za h2).1).1.name X.ok (za h2).2)
theorem gV{mt:Bool}{z:Nat}{elt:IE}{args:List IE}(hl:ME elt)(ha:MEs args):ME (.compE mt x y elt z args):=λc X e h=>by
 obtain⟨h0,h⟩:=za h;obtain⟨h1,h⟩:=za h;obtain⟨h,h4⟩:=za h;obtain⟨h2,h3⟩:=za h;obtain⟨cl,B,I⟩:=X.inner2 h0 h1;exact fD (Wv:=λu v=>pE (c.P.cv2 x u y v) c.H elt) (T:=λa O k=>vU _ mt a O k∨vV _ mt a O k) (X.ok.enms _ (List.contains_iff_mem.mp (za h2).2)) X.D X.V.V (X.V.glo (za h2).1) B (ha c X _ _ (za h3).1) (jb _ _) ((yr _ _).symm.trans (JY (za h3).2)) (λpn C u v hu hv=>hl _ (I pn C u v hu hv) _ h4) λg R=>g.elim (λg=>Cs g R) λg=>Ct g R
theorem uI{kd:CK}{op:CmpOp}{l r:IE}(hl:ME l)(hr:ME r):MT (.cmp kd op l r):=λc X e h=>wH (hl c X _ (za (za h).2).1) (hr c X _ (za (za h).2).2) (iq (kd:=kd) X.un) (JY (za h).1)
theorem Be{es:List IE}(h:MOr es):MT (.or es):=λc X e q=>h c X _ _ _ q
theorem rG{i:IE}(hp:∀(c:Sc) e,c.toE i e=nE c.G.X.nm (nmI i) e)(hq:∀P H,pT P H i=λO k=>pE P H i O λa F1=>jT a F1 k)(ho:∀(c:Sc) e,c.okT i e->nmB c.G.X.nm c.P.toPm c.sc c.cv i=true):MT i:=λc X e h=>by
 rw[hp,hq];exact qJ (X.nm e (ho c e h)) rfl
theorem uH{kd:BK}{op:Operator}{l r:IE}(hl:ME l)(hr:ME r):MT (.bin kd op l r):=λc X e h=>qJ (gT (kd:=kd) hl hr c X e h) rfl
theorem nJ:MT (.attr x y):=λc X e h=>qJ (bf c X e h) rfl
theorem bg:MEs []:=λc X es pos h=>fx
theorem YC{i:IE}{is:List IE}(hi:ME i)(hs:MEs is):MEs (i::is):=λc X es pos h=>aC (hi c X _ (za h).1) (hs c X _ _ (za h).2) (Kb _ _)
theorem nq:MPs []:=λc X ks es kl pos h hl=>by
 obtain rfl:=List.length_eq_zero_iff.mp hl;exact vt
theorem g8{i:IE}{is:List IE}(hi:ME i)(hs:MPs is):MPs (i::is):=λc X ks es kl pos h hl=>by
 cases ks with
 | nil=>cases hl
 | cons x ks=>exact oe (hi c X _ (za h).1) (hs c X ks _ _ pos (za h).2 (Nat.succ.inj hl))
theorem Z3{nm:Nat->Str}:∀(ks:List Nat) (es:List Expr),strLits (Z2 nm ks es)=true/\(Z2 nm ks es).all (·.isSome)=true/\(Z2 nm ks es).length=ks.length
 | [],_=>⟨rfl,rfl,rfl⟩
 | k::ks,es=>let⟨a,b,c⟩:=Z3 (nm:=nm) ks (tl es);⟨a,b,congrArg (· + 1) c⟩
theorem UW{nm:Nat->Str}{P:Pm}:∀(is:List IE) (es:List Expr),(toEs nm P is es).length=is.length
 | [],_=>rfl
 | i::is,es=>congrArg (· + 1) (UW is (tl es))
theorem na{es:List IE}(h:MPs es):ME (.disp ks es):=λc X e q=>by
 obtain⟨q1,q2⟩:=za q;obtain⟨q1,q3⟩:=za q1;obtain⟨q2,q4⟩:=za q2;obtain⟨q2,q5⟩:=za q2;obtain⟨k1,k2,k3⟩:=Z3 (nm:=c.G.X.nm) ks (dk e);have hl:=Nat.eq_of_beq_eq_true q3;refine aF X.D.T.nolimit (h c X ks _ _ _ q4 hl) k1 k2 (k3.trans (hl.trans (UW _ _).symm)) (λe0=>?_) (k3▸Nat.le_of_ble_eq_true q5) (JH q1)
 rw[<- k3,e0] at q2
 cases q2
theorem m9{r:Nat}:ME (.dget r x):=λc X e h=>lM (X.nm (i:=.loc r) _ h)
theorem nc{es:List IE}{i:IE}(hd:MPs es)(hi:ME i):ME (.dsel kxs es i):=λc X e q=>by
 obtain⟨q,q6⟩:=za q;obtain⟨q0,q⟩:=za q;obtain⟨q1,q2⟩:=za q;obtain⟨q1,q3⟩:=za q1;obtain⟨q2,q4⟩:=za q2;obtain⟨q2,q5⟩:=za q2;obtain⟨k1,k2,k3⟩:=Z3 (nm:=c.G.X.nm) (kxs.map (·.2)) (dk (kd e 0));have hl:=Nat.eq_of_beq_eq_true q3;have hn:∀p∈kxs,c.G.X.nm p.2=p.1:=λp hp=>eq_of_beq (List.all_eq_true.mp q0 p hp)
 exact td (Zt (aF X.D.T.nolimit (hd c X (kxs.map (·.2)) _ _ _ q4 hl) k1 k2 (k3.trans (hl.trans (UW _ _).symm)) (λe0=>by rw[<- k3,e0] at q2;cases q2) (k3▸Nat.le_of_ble_eq_true q5) (JH q1)) (hi c X _ q6) (uS hn (JN _ _)))
theorem ut{a i:IE}(ha:ME a)(hi:ME i):ME (.sat a i):=λc X e h=>Zt (ha c X _ (za h).1) (hi c X _ (za h).2) (Br (JN _ _))
theorem ux{z:Nat}{args:List IE}(ha:MEs args):ME (.zip z args):=λc X e h=>by
 obtain⟨h1,h2⟩:=za h;exact tg (X.ok.zips _ (List.contains_iff_mem.mp (za h1).2)) X.D X.V.V (X.V.glo (za h1).1) (ha c X _ _ (za h2).1) (jb _ _) ((yr _ _).symm.trans (JY (za h2).2))
theorem gX{mt:Bool}{elt iter:IE}(hi:ME iter)(hl:ME elt):ME (.compZ mt x elt iter):=λc X e h=>by
 obtain⟨h0,h⟩:=za h;obtain⟨h1,h⟩:=za h;obtain⟨cl,B,I⟩:=X.inner h0 h1;exact fE (mt:=mt) X.D.hd B (hi c X _ (za h).1) (λpn C v hv=>hl _ (I pn C v hv) _ (za h).2) (bM _ _)
theorem gR{i:IE}{is:List IE}(hi:ME i)(hs:MAV is):MAV (i::is):=λc X es pos h=>by
 have h1:=hi c X _ (za h).1
 cases is with
 | nil=>exact fA h1
 | cons j js=>exact sU h1 (hs c X _ pos (za h).2)
theorem gQ{i:IE}{is:List IE}(hi:MT i)(hs:MAn is):MAn (i::is):=λc X es pos w h=>wG (hi c X _ (za h).1) (hs c X _ _ _ (za h).2)
theorem g7{i:IE}{is:List IE}(hi:MT i)(hs:MOr is):MOr (i::is):=λc X es pos w h=>CT (hi c X _ (za h).1) (hs c X _ _ _ (za h).2)
theorem bk:MO none:=λc X e h O k m s vs ws hw F R Q E hq=>wpAny_pure (hq .none _ _ .none _ hw (SR.refl _ _) F (R.push Qj))
theorem i8:∀i,ME i/\MT i:=by
 have f {c:Sc} {e:Expr} {P:Prop} (h:false=true):P:=ft h;refine IE.rec (motive_1:=λi=>ME i/\MT i) (motive_2:=λis=>MEs is/\MAV is/\MAn is/\MOr is/\MPs is) (motive_3:=λo=>MO o)
  (λi=>⟨λc X e h=>fF,λc X e h=>qJ fF rfl⟩)
  ⟨λc X e h=>aG,λc X e h=>qJ aG rfl⟩
  (λb=>⟨λc X e h=>aD,λc X e h=>qJ aD rfl⟩)
  (λx=>⟨λc X e h=>Us,λc X e h=>ft h⟩)
  (λx=>⟨λc X e h=>X.nm e h,rG (λZ Z=>rfl) (λZ Z=>rfl) λZ Z h=>h⟩)
  (λx o=>⟨λc X e h=>X.nm e h,rG (λZ Z=>rfl) (λZ Z=>rfl) λZ Z h=>h⟩)
  (λx=>⟨λc X e h=>X.nm e h,λc X e h=>ft h⟩)
  (λx a=>⟨λc X e h=>X.nm e h,λc X e h=>ft h⟩)
  (λkd op l r hl hr=>⟨gT hl.1 hr.1,uH hl.1 hr.1⟩)
  (λop a ha=>⟨Bb ha.1,λc X e h=>ft h⟩)
  (λkd op l r hl hr=>⟨uq hl.1 hr.1,uI hl.1 hr.1⟩)
  (λes h=>⟨λc X e h=>ft h,Be h.2.2.2.1⟩)
  (λes h=>⟨m4 h.2.1,λc X e h=>ft h⟩)
  (λt a b ht ha hb=>⟨ur ht.2 ha.1 hb.1,λc X e h=>ft h⟩)
  (λx y=>⟨bf,nJ⟩)
  (λx y i=>⟨m6,λc X e h=>ft h⟩)
  (λx y a=>⟨m7,λc X e h=>ft h⟩)
  (λx y g=>⟨nh,λc X e h=>ft h⟩)
  (λx y g args h=>⟨gY h.1,λc X e h=>ft h⟩)
  (λg args hg h=>⟨gU hg.1 h.1,λc X e h=>ft h⟩)
  (λa i ha hi=>⟨uv ha.1 hi.1,λc X e h=>ft h⟩)
  (λmt es h=>⟨nf h.1,λc X e h=>ft h⟩)
  (λes h=>⟨uw h.1,λc X e h=>ft h⟩)
  (λmt v lo hi hv hl hh=>⟨gZ hv.1 hl hh,λc X e h=>ft h⟩)
  (λb y args h=>⟨uo h.1,λc X e h=>ft h⟩)
  (λmt x elt y args hl ha=>⟨gW hl.1 ha.1,λc X e h=>ft h⟩)
  (λo a ho ha=>⟨cP ha.1,λc X e h=>ft h⟩)
  (λq a b hq ha hb=>⟨m8 ha.1 hb.1,λc X e h=>ft h⟩)
  (λmt x y elt z args hl ha=>⟨gV hl.1 ha.1,λc X e h=>ft h⟩)
  (λx y=>⟨m5,λc X e h=>ft h⟩)
  (λr x=>⟨m9,λc X e h=>ft h⟩)
  (λks es h=>⟨na h.2.2.2.2,λc X e h=>ft h⟩)
  (λkxs es i h hi=>⟨nc h.2.2.2.2 hi.1,λc X e h=>ft h⟩)
  (λa i ha hi=>⟨ut ha.1 hi.1,λc X e h=>ft h⟩)
  (λz args h=>⟨ux h.1,λc X e h=>ft h⟩)
  (λmt x elt iter hl hi=>⟨gX hi.1 hl.1,λc X e h=>ft h⟩)
  ⟨bg,λc X es pos h O k m s vs ws hw F R Q E hq=>hw.elim,λc X es pos w h=>pH,λc X es pos w h=>wI,nq⟩
  (λi is hi hs=>⟨YC hi.1 hs.1,gR hi.1 hs.2.1,gQ hi.2 hs.2.2.1,g7 hi.2 hs.2.2.2.1,g8 hi.1 hs.2.2.2.2⟩)
  bk
  (λi hi c X e h=>hi.1 c X e h)
theorem sO:∀o,MO o
 | none=>bk
 | some i=>λc X e h=>(i8 i).1 c X e h
theorem sEs:∀is,MEs is
 | []=>bg
 | i::is=>YC (i8 i).1 (sEs is)
section
variable {A:Around}{d:Nat}
theorem dz{kd:Nat}:swapsWith value (some (.Tuple Ff kd tp)) line env=pure false:=by cases value<;>rfl
theorem bL{ts:List Expr}{v:Expr}{kd:Nat}:swappedStores [.Tuple ts kd tp] v env=swappedStores [.Tuple ts 0 ps0] v (swE env.scope):=by
 cases v<;>rfl
theorem cY{ts:List Expr}{v:Expr}{kd:Nat}(h:ig sc ts v=true)(hs:env.scope=sc):swappedStores [.Tuple ts kd tp] v env=pure none:=by
 subst hs;obtain⟨r,e,hr⟩:=iK h;obtain rfl:=Option.isNone_iff_eq_none.mp hr;exact bL.trans e
theorem cG{nm:Nat->Str}{xs:List Nat}{ts:List Expr}{v:Expr}{kd:Nat}(h:gH nm sc xs ts v=true)(hs:env.scope=sc):swappedStores [.Tuple ts kd tp] v env=pure (some (xs.map nm)) /\ ∀x∈xs,sc.names.lookup (nm x)=some .local:=by
 subst hs;obtain⟨h,h9⟩:=za h;obtain⟨r,e,hr⟩:=iK h;obtain rfl:=eq_of_beq hr;exact⟨bL.trans e,λx hx=>eq_of_beq (List.all_eq_true.mp h9 x hx)⟩
theorem o9{kd:Nat}(he:ES G A F0 L (eval value env) We)(hT:AS G A F0 L (assign (.Tuple Ff kd tp) env) Wt)(hw:swappedStores [.Tuple Ff kd tp] value env=pure none):
  SS G A F0 L (exec (.Assign [.Tuple Ff kd tp] value pos) env) (λO k=>We O λv F1=>Wt v F1 (k .next)):=by
 intro O k m s vs ws h F R Q E hq;exact Assign_Tuple (he h F R λv F1 G3 I6 F8 F6 F9 G0 G1=>hT F6 G0 G1 λF5 G2 F7 G4 G6 G9 G8=>hq.next F5 G2 F7 G4 (F9.rest.trans G6) G9 G8) (show swapsWith value (some (.Tuple Ff kd tp)) pos.line env=pure false from dz) hw
theorem wg{N4 S6:Expr}{W1 W2:PV->PS->KS->Prop}(he:ES G A F0 L (eval value env) We)(h1:AS G A F0 L (assign N4 env) W1)(h2:AS G A F0 L (assign S6 env) W2)(hn:[N4,S6].all zK=true):
  SS G A F0 L (exec (.Assign [N4,S6] value pos) env) (λO k=>We O λv F1=>W1 v F1 λF5=>W2 v F5 (k .next)):=by
 intro O k m s vs ws h F R Q E hq;refine wpAny_Assign_two (he h F R λv F1 G3 I6 F8 g₁ F9 G0 G1=>?_) (by rw[zZ hn];rfl) (by cases N4<;>rfl)
 have R1:RL G.X F0 L F8.heap G3 F1 (v::v::vs) (I6::I6::ws):=G1.stack λρ frz q=>by
  obtain⟨_,_,e,x,_⟩:=q.cons_inv
  cases e
  exact VRs.cons x q
 exact h1 g₁ G0 R1 λF5 G2 F7 g₂ G6 G9 G8=>h2 g₂ G9 G8 λG5 I3 H9 g₃ I1 I0 H7=>hq.next G5 I3 H9 g₃ ((F9.rest.trans G6).trans I1) I0 H7
theorem vW{ss:List Stmt}{W:PS->KF->Prop}(hs:SS G A F0 L (execs ss env) W):SS G A F0 L (execs ss env) (λO k=>Ak x O λσ'=>W σ' k):=by
 intro O k m s vs ws h F R Q E hq;obtain⟨v,e,g⟩:=zu h;obtain⟨j,rfl,g⟩:=yf g;obtain⟨o,eo,g⟩:=zu g;obtain⟨u,eu,g⟩:=zu g;clear h;have h:=zW.mp (jd.mp g);clear g;refine hs h F ?_ hq;obtain⟨ρ,led,frz,q⟩:=R;obtain⟨w,hw,hv⟩:=q.loc x _ e;obtain⟨a',ea,rfl⟩:=hv;obtain⟨a,b,pre,post,e1,e3,e4⟩:=q.thing eo eu;rw[e1] at ea
 cases ea
 refine⟨ρ,_,_,e4.hr,e4.all,e4.nd,e4.off,e4.offp,e4.kept,λk' v' ek=>?_,e4.stk⟩;have ek':lk k' (st x u O.loc)=some v':=ek;rw[gP] at ek'
 split at ek'
 ·rename_i eq
  subst eq
  cases ek'
  exact⟨_,hw,e3⟩
 ·exact e4.loc k' v' ek'
theorem YM:∀{xs:List Nat} {l:List (Nat×PV)} {c:List (Nat×PV)->Prop},bs xs l c->∃l',c l' /\ ∀k v,lk k l'=some v->lk k l=some v
 | [],_,_,h=>⟨[],h,λZ Z e=>nomatch e⟩
 | x::xs,l,c,h=>by
  obtain⟨v,e,h⟩:=zu h;have hx:=YM h;clear h;obtain⟨l',h1,h2⟩:=hx
  refine⟨(x,v)::l',h1,λk u eu=>?_⟩;replace eu:cond (Nat.beq k x) (some v) (lk k l')=some u:=eu
  cases q:Nat.beq k x with
  | true=>rw[q] at eu;obtain rfl:=Nat.eq_of_beq_eq_true q;cases eu;exact e
  | false=>rw[q] at eu;exact h2 k u eu
theorem oX{xs:List Nat}{ss:List Stmt}{W:PS->KF->Prop}(hs:SS G A F0 L (execs ss env) W):SS G A F0 L (execs ss env) (λO k=>ry xs O λσ'=>W σ' k):=by
 intro O k m s vs ws h F R Q E hq;obtain⟨l,hp⟩:=O;have hx:=YM h;clear h;obtain⟨l',h1,h2⟩:=hx;obtain⟨ρ,led,frz,q⟩:=R;exact hs h1 F ⟨ρ,led,frz,q.hr,q.all,q.nd,q.off,q.offp,q.kept,λk' v' ek=>q.loc k' v' (h2 k' v' ek),q.stk⟩ hq
end
abbrev Sc.ss(c:Sc)(s:Stmt)(W:PS->KF->Prop):Prop:=SS c.G c.A c.F0 c.L (exec s c.env) W
structure Sy(c:Sc):Prop extends Sx c where
 cv0:c.cv=none
 ee:c.env'=c.env
theorem Sy.fn{c:Sc}(X:Sy c):FnEnv c.G c.P c.env c.sc c.L c.F0:=(X.toSx.fn (by rw[X.cv0];rfl)).1
theorem Sy.Dn{c:Sc}(X:Sy c):Act c.G c.outer c.F0 c.env c.A c.d:=X.ee▸X.D
noncomputable def Sc.pil(c:Sc)(pn:Pl):Sc:={ c with G:=c.G.pil pn }
theorem Sy.pil{c:Sc}(X:Sy c)(pn:Pl):Sy (c.pil pn):=
 have V:=X.fn
 ⟨⟨X.ok.pil pn,X.hH.pil pn,X.hC.pil pn,X.h9,X.D.pil pn,(by show EvOk _ _ _ _ _ _ c.cv;rw[X.cv0];exact .fn (V.pil pn)),X.he⟩,X.cv0,X.ee⟩
section
variable {c:Sc}(X:Sy c)
include X
theorem Sy.e{i:IE}{e:Expr}(h:okE c.G.X.nm c.P.toPm c.sc none i e=true):c.es (toE c.G.X.nm c.P.toPm i e) (pE c.P c.H i):=(i8 i).1 c X.toSx e (by rw[<- X.cv0] at h;exact h)
theorem Sy.o{i:Option IE}{e:Expr}(h:okO c.G.X.nm c.P.toPm c.sc none i e=true):ES c.G c.A c.F0 c.L (valueOrNone (evalOpt (toO c.G.X.nm c.P.toPm i e) c.env)) (pO c.P c.H i):=(sO i) c X.toSx e (by rw[<- X.cv0] at h;exact h)
theorem Sy.t{i:IE}{e:Expr}(h:okT c.G.X.nm c.P.toPm c.sc none i e=true):c.ts (toE c.G.X.nm c.P.toPm i e) (pT c.P c.H i):=(i8 i).2 c X.toSx e (by rw[<- X.cv0] at h;exact h)
theorem Sy.es{is:List IE}{es:List Expr}{pos:Pos}(h:okEs c.G.X.nm c.P.toPm c.sc none is es=true):EL c.G c.A c.F0 c.L c.env pos (toEs c.G.X.nm c.P.toPm is es) (pEs c.P c.H is):=sEs is c X.toSx es pos (by rw[<- X.cv0] at h;exact h)
theorem Sy.cel(h:eT c.G.X.nm c.P.toPm c.sc none x off=true):CellAt c.G c.env x (c.P.base+off):=X.V.cel (by rw[<- X.cv0] at h;exact h)
theorem Sy.nm{e:Expr}(h:yK c.G.X.nm c.sc x=true):c.es (nE c.G.X.nm x e) (j7 x):=X.fn.name X.ok h
theorem Sy.a:∀(t:IT) {e:Expr},okA c.G.X.nm c.P.toPm c.sc t e=true->AS c.G c.A c.F0 c.L (assign (toA c.G.X.nm c.P.toPm t e) c.env) (pA c.P c.H t)
 | .name x,e,h=>li X.fn.V (X.fn.loc h)
 | .cel x o,e,h=>lg X.fn.V.toEnvG (X.cel h)
 | .sub o i,e,h=>sj (X.e (za h).1) (X.e (za h).2)
 | .dset r x,e,h=>lh (X.nm h)
 | .attr x y,e,h=>lf X.Dn (X.ok.atts _ (List.contains_iff_mem.mp (za h).2)) (X.nm (za h).1)
theorem Sy.as:∀(ts:List IT) {es:List Expr},nZ c.G.X.nm c.P.toPm c.sc ts es=true->ASs c.G c.A c.F0 c.L ((Y7 c.G.X.nm c.P.toPm ts es).map λt=>assign t c.env) (pAs c.P c.H ts)
 | [],es,h=>.nil
 | t::ts,es,h=>.cons (X.a t (za h).1) (Sy.as ts (za h).2)
end
theorem Ka{nm:Nat->Str}{P:Pm}(t:IT)(e:Expr):zK (toA nm P t e)=true:=by cases t<;>rfl
theorem JA{nm:Nat->Str}{P:Pm}:∀(is:List IT) (es:List Expr),(Y7 nm P is es).all zK=true
 | [],_=>rfl
 | i::is,es=>by
  show(zK _&&(Y7 nm P is (tl es)).all zK)=true
  rw[Ka,JA is];rfl
def MS(i:IS):Prop:=∀(c:Sc),Sy c->∀s,okS c.G.X.nm c.P.toPm c.sc i s=true->isG i=false->c.ss (toS c.G.X.nm c.P.toPm i s) (pS c.P c.H i)
def MSs(is:List IS):Prop:=∀(c:Sc),Sy c->∀ss,QE c.G.X.nm c.P.toPm c.sc is ss=true->SS c.G c.A c.F0 c.L (execs (QI c.G.X.nm c.P.toPm is ss) c.env) (pSs c.P c.H is)
section
variable {t:IT}{ts:List IT}{o:Nat}{e i a b:IE}{op:Operator}{args:List IE}{l r:List IS}{xs:List Nat}{u:IE}
theorem nx:MS (.expr e):=λc X s h Z=>oW (X.e (za h).1) (by show(c.env.scope.kind==.module&&_)=false;rw[X.fn.V.kind];rfl) (za h).2
theorem nD:MS (.name x e):=λc X s h Z=>oY X.fn.V (X.fn.loc (za h).1) (X.e (za (za h).2).1) (za (za h).2).2
theorem uz:MS (.cel x o e):=λc X s h Z=>oT X.fn.V.toEnvG (X.cel (za h).1) (X.e (za (za h).2).1) (za (za h).2).2
theorem nr:MS (.attr x y e):=λc X s h Z=>oS X.Dn (X.ok.atts _ (List.contains_iff_mem.mp (za (za h).1).2)) (X.nm (za (za h).1).1) (X.e (za (za h).2).1) (za (za h).2).2
theorem g9:MS (.aattr x y op e):=λc X s h Z=>ZX X.Dn (X.ok.atts _ (List.contains_iff_mem.mp (za (za h).1).2)) (X.nm (za (za h).1).1) (X.e (za h).2)
theorem hF:MS (.aname x op e):=λc X s h Z=>ZY X.fn.V (X.fn.loc (za h).1) (X.e (za h).2)
theorem nv:MS (.dput x y e):=λc X s h Z=>oV (X.nm (za h).1) (X.e (za (za h).2).1) (za (za h).2).2
theorem uB:MS (.put u i e):=λc X s h Z=>we (X.e (za (za h).1).1) (X.e (za (za h).1).2) (X.e (za (za h).2).1) (za (za h).2).2 (JN _ _)
theorem uD{lo:Option IE}:MS (.slp u lo hi e):=λc X s h Z=>vZ (X.e (za (za h).1).1) (X.o (za (za h).2).1) (X.o (za (za h).2).2) (X.e (za (za h).1).2)
theorem uF:MS (.tup ts e):=λc X s h Z=>o9 (X.e (za (za h).1).2) (dY X.D.hd (JA _ _) (X.as ts (za (za h).1).1)) (cY (za h).2 X.fn.esc)
theorem uG{p q:IT}:MS (.two p q e):=λc X s h Z=>wg (X.e (za h).2) (X.a p (za (za h).1).1) (X.a q (za (za h).1).2) (by
 show(zK _&&(zK _&&true))=true
 rw[Ka,Ka];rfl)
theorem nG:MS (.swap xs e):=λc X s h Z=>by
 obtain⟨hs,hx⟩:=cG (env:=c.env) (za h).2 X.fn.esc;exact o8 X.D.hd X.fn.V (λx hm=>by show c.env.scope.names.lookup _=_;rw[X.fn.esc];exact hx x hm) (X.e (za (za h).1).1) (za (za h).1).2 hs
theorem uA(ha:MSs l)(hb:MSs r):MS (.ite e l r):=λc X s h Z=>Cu (X.t (za h).1) (ha c X _ (za (za h).2).1) (hb c X _ (za (za h).2).2)
theorem nB(hb:MSs l):MS (.forS t e l):=λc X s h Z=>by
 obtain⟨G,P,H,A,F0,L,outer,d,env,env',sc,cv⟩:=c;have hL:env.locals=L:=X.fn.V.loc;subst hL;exact dp X.D.hd (X.e (za (za h).2).1) (λpn=>(X.pil pn).a t (za h).1) (λpn=>hb _ (X.pil pn) _ (za (za h).2).2) (bM _ _)
theorem nA(hb:MSs l):MS (.forR t y args l):=λc X s h Z=>by
 obtain⟨h1,h⟩:=za h;obtain⟨h2,h⟩:=za h;obtain⟨h3,h4⟩:=za h2;exact YY (X.ok.rngs _ (List.contains_iff_mem.mp (za h3).2)) X.Dn X.fn.V (X.V.glo (za h3).1) (X.es (za h4).1) (jb _ _) ((yr _ _).symm.trans (JY (za h4).2)) (λpn=>(X.pil pn).a t h1) (λpn=>hb _ (X.pil pn) _ h)
theorem ny(hb:MSs l):MS (.forE ts y args l):=λc X s h Z=>by
 obtain⟨h1,h⟩:=za h;obtain⟨h2,h⟩:=za h;obtain⟨h3,h4⟩:=za h2;exact ZZ (X.ok.enms _ (List.contains_iff_mem.mp (za h3).2)) X.Dn X.fn.V (X.V.glo (za h3).1) (X.es (za h4).1) (jb _ _) ((yr _ _).symm.trans (JY (za h4).2)) (JA _ _) (Nat.eq_of_beq_eq_true (za h1).2) (λpn=>(X.pil pn).as ts (za h1).1) (λpn=>hb _ (X.pil pn) _ h)
end
theorem nF{z:Nat}{elt:IE}{args:List IE}:MS (.rowT z x elt y args):=λc X s h Z=>by
 obtain⟨h,hr⟩:=za h;obtain⟨hz,h⟩:=za h;obtain⟨h0,h⟩:=za h;obtain⟨h1,h⟩:=za h;obtain⟨h,h4⟩:=za h;obtain⟨h2,h3⟩:=za h;obtain⟨cl,B,I⟩:=X.toSx.inner (by rw[X.cv0];rfl) h1
 exact o6 (X.ok.rngs _ (List.contains_iff_mem.mp (za h2).2)) X.D X.fn.V (X.fn.loc hz) (X.V.glo (za h2).1) B (X.es (za h3).1) (jb _ _) ((yr _ _).symm.trans (JY (za h3).2)) (λpn C v hv=>(i8 elt).1 _ (I pn C v hv) _ h4) (of_decide_eq_true (za hr).1) (JY (za hr).2)
theorem tS{i:IS}(h:isG i=true):(∃x,i=.frz x) ∨ ∃xs,i=.keep xs:=by
 cases i<;>first | exact ft h | exact .inl ⟨_,rfl⟩ | exact .inr ⟨_,rfl⟩
theorem hJ{i:IS}(hi:MS i)(hs:MSs is):MSs (i::is):=λc X ss h=>by
 have h:cond (isG i) (QE c.G.X.nm c.P.toPm c.sc is ss) (okS c.G.X.nm c.P.toPm c.sc i (nth (.Pass ps0) ss 0)&&QE c.G.X.nm c.P.toPm c.sc is (tl ss))=true:=h;show SS c.G c.A c.F0 c.L (execs (cond (isG i) (QI c.G.X.nm c.P.toPm is ss) (toS c.G.X.nm c.P.toPm i (nth (.Pass ps0) ss 0)::QI c.G.X.nm c.P.toPm is (tl ss))) c.env) _
 cases e:isG i with
 | false =>
  rw[e] at h;exact oU (hi c X _ (za h).1 e) (hs c X _ (za h).2)
 | true =>
  rw[e] at h
  rcases tS e with ⟨x,rfl⟩ | ⟨xs,rfl⟩
  ·exact vW (hs c X _ h)
  ·exact oX (hs c X _ h)
theorem B9:∀is,MSs is:=
 IS.rec_1 (motive_1:=λi=>MS i) (motive_2:=λis=>MSs is)
  (λc X s h Z=>oZ)
  (λc X s h Z=>km)
  (λe c X s h Z=>vY (X.e h))
  (λe=>nx)
  (λx e=>nD)
  (λx o e=>uz)
  (λx y e=>nr)
  (λx y op e=>g9)
  (λx op e=>hF)
  (λo i e=>uB)
  (λo lo hi e=>uD)
  (λts e=>uF)
  (λxs e=>nG)
  (λt a b ha hb=>uA ha hb)
  (λt e body hb=>nB hb)
  (λt y args body hb=>nA hb)
  (λts y args body hb=>ny hb)
  (λa b e=>uG)
  (λx c X s h g=>nomatch g)
  (λxs c X s h g=>nomatch g)
  (λz x elt y args=>nF)
  (λr x e=>nv)
  (λc X ss h=>vX)
  (λi is hi hs=>hJ hi hs)
theorem sSs{A:Around}{d:Nat}(ok:PiOk G P)(hH:HdS G d H)(hC:CtS G d P)(h9:9<=d)(D:Act G outer F0 env A d)(V:FnEnv G P env sc L F0)(is:List IS){ss:List Stmt}(h:mSs G.X.nm P.toPm sc is ss):SS G A F0 L (execs ss env) (pSs P H is):=
 h.2▸B9 is ⟨G,P,H,A,F0,L,outer,d,env,env,sc,none⟩ ⟨⟨ok,hH,hC,h9,D,.fn V,λZ=>rfl⟩,rfl,rfl⟩ ss h.1
set_option tactic.hygienic true in
theorem uh{d:Nat}{name:Str}{params:Arguments}{body:List Stmt}{cd doc:Value}{fa a:Addr}{o:Obj}{W:PS->KF->Prop}{R:Result->Shared->Prop}
  (hX:G.X.ps = []/\G.X.ks = []/\G.X.cl = []) (Kin:G.K.In s.heap) (T:Top G.p G.loose G.mean G.mg G.mb s.heap) (Fx:G.base=s.heap)
  (ho:s.heap.get? fa=some o) (hdata:o.data=.func (Calls.docDef name params body scope pm cd doc)) (hcd:s.heap.CodeRec cd name)
  (Fi:∀v,bindArgs (Calls.docDef name params body scope pm cd doc) ⟨[v],[]⟩=pure [(G.X.nm x,v)])
  (hx:scope.names.lookup (G.X.nm x)=some .local) (cells:(cellsFrom 0 scope.names []).map (·.1)=cids.map G.X.nm) (cnd:cids.Nodup) (hxc:x∉cids)
  (hroom:callerA.depth+1+d<recursionLimit) (hun:callerA.units+3+8*d<cLine)
  (hco:scope.isCoroutine=false) (hgen:scope.isGenerator=false) (hk:scope.kind=.function)
  (hb:∀(cl:List (Nat×Addr)) {outer:List Env} {F0:Heap} {L:Addr} {A:Around},F0=s.heap->(∀j c,cids[j]?=some c->∃a,(cellsFrom (L+1) scope.names []).lookup (G.X.nm c)=some a/\(j,a)∈cl)->Act (G.pin ⟨[],[],cl⟩) outer F0 (envOfC name scope L fa cd) A d ->
   SS (G.pin ⟨[],[],cl⟩) A F0 L (execs body (envOfC name scope L fa cd)) W)
  (hw:W ⟨[(x,.top a)],Vf [] cids⟩ λf O=>match f with | .ret (.bool true)=>True | _=>False)
  (hR:∀L h' m tk,Fr s.heap L h' m->R (.ok (.ret (.bool true))) { s with heap:=h',toks:=tk }) :
  codeAny (model G.prog G.w) callerA (.call (.ref fa) ⟨[.ref a],[]⟩) R s:=by
 have hnd:((cellsFrom 0 scope.names []).map (·.1)).Nodup:=by rw[cells];exact Jt cnd
 refine call_cellsN (by have:=hroom;lia) ho hdata (T.nolimit) hcd (Fi (.ref a)) (λy hy=>?_) hnd (λF6 tk cs' F N CA=>?_) hco hgen hk
 ·rw[List.mem_singleton.mp hy];exact .inl hx
 ·have hcs:(cellsFrom (s.heap.objs.size+1) scope.names []).map (·.1)=cids.map G.X.nm:=(cellsFrom_names scope.names (s.heap.objs.size+1) 0 [] [] rfl).trans cells
  obtain⟨nd2,above⟩:=yD scope.names (s.heap.objs.size+1) [] (λZ h=>nomatch h) List.nodup_nil (s.heap.objs.size+1) (Nat.le_refl _) (λZ h=>nomatch h);generalize hCS:cellsFrom (s.heap.objs.size+1) scope.names []=cs at hcs nd2 above CA;have hCR:∀c∈cids,CR (cs.map (·.2)) [] (lk c ([]:List (Nat×PV))) (bindC (envOfC name scope s.heap.objs.size fa cd).kindOf [(G.X.nm x,.ref a)] (λZ=>none) (G.X.nm c)):=by
   intro c hc;have hne:G.X.nm c≠G.X.nm x:=λe=>hxc (G.X.inj _ _ e▸hc)
   show bindC _ _ _ _=none;simp only[bindC]
   split
   ·rfl
   ·simp[hne]
  obtain⟨hr,hmap⟩:=Uo (X:=G.X) CA hcs hCR;have hL:∀v,(bindL (envOfC name scope s.heap.objs.size fa cd).kindOf [(G.X.nm x,v)] λZ=>none) (G.X.nm x)=some v:=by
   intro v;rw[Un (show(envOfC name scope s.heap.objs.size fa cd).kindOf (G.X.nm x)=some .local from hx)]
   simp
  have D':Act (G.pin ⟨[],[],UC 0 (cs.map (·.2))⟩) [] s.heap (envOfC name scope s.heap.objs.size fa cd) (callerA.deeper (envOfC name scope s.heap.objs.size fa cd)) d:=
   ⟨⟨callerA,by show Below callerA G.base [] s.heap;rw[Fx];exact below_caller _⟩,Kin,T,rfl,rfl,hroom,hun⟩
  have R':RL (G.X.pin ⟨[],[],UC 0 (cs.map (·.2))⟩) s.heap s.heap.objs.size F6 (bindL (envOfC name scope s.heap.objs.size fa cd).kindOf [(G.X.nm x,.ref a)] λZ=>none) ⟨[(x,.top a)],Vf [] cids⟩ [] []:=by
   refine(zm (cs.map (·.2)) cs' ([]) ⟨hr.pin,λp hp=>N p (by simpa using (show p∈(cs' ++ [])++([]:List (Addr×Obj)) from hp)),hmap▸nd2,λp hp=>(nomatch hp),λp hp=>(nomatch (show p∈([]:List (Addr×Obj)) from hp)),⟨λp hp=>(nomatch (show p∈([]:List (Addr×Obj)) from hp)),λp hp=>?_⟩,λk v e=>?_,VRs.nil⟩)
   ·have:=Ww (ρ:=[]) (show p∈UC 0 (cs.map (·.2)) from hp) rfl
    simpa using this
   ·simp only[lk] at e
    cases q:Nat.beq k x with
    | false=>rw[q] at e;cases e
    | true =>
     rw[q] at e;obtain rfl:=Nat.eq_of_beq_eq_true q
     cases e
     exact(zv (.ref a) (hL _) (Z6 a _ _))
  have Ft:∀j c,cids[j]?=some c->∃a,(cellsFrom (s.heap.objs.size+1) scope.names []).lookup (G.X.nm c)=some a/\(j,a)∈UC 0 (cs.map (·.2)):=by
   intro j c hj;have hj':(cs.map (·.1))[j]?=some (G.X.nm c):=by rw[hcs,List.getElem?_map,hj];rfl
   rw[List.getElem?_map] at hj'
   cases e:cs[j]? with
   | none=>rw[e] at hj';cases hj'
   | some p =>
    rw[e] at hj';obtain⟨pn,pa⟩:=p
    cases hj'
    refine(zv pa ?_ (by have:=UD (n:=0) (as:=cs.map (·.2)) (j:=j) (a:=pa) (by rw[List.getElem?_map,e];rfl);simpa using this))
    rw[hCS];exact lookup_of_mem_nodup (by rw[hcs];exact Jt cnd) (List.mem_of_getElem? e)
  refine hb _ rfl Ft D' (s:={ s with heap:=F6,toks:=tk }) hw F R' ⟨λσ' m' s' hk hr F'' R''=>hk.elim,λσ' m' s' hk hr F'' R''=>hk.elim,λv w' σ' m' s' hk hr F'' R''=>?_⟩
  split at hk<;>try exact hk.elim
  rename_i e
  cases e
  obtain rfl:=R''.bool;obtain⟨hh,hg,hd',ht,hos⟩:=s';obtain⟨r1,r2,r3⟩:=hr;simp only at r1 r2 r3;subst r1 r2 r3;exact hR _ _ _ _ F''
noncomputable def bt(k:Nat)(x:Int):Bool:=decide (x/2 ^ k%2=1)
theorem dS(x y:Int):Builtin.bitAnd x y/2=Builtin.bitAnd (x/2) (y/2):=by
 have:=kbt_halves x y
 split at this<;>lia
theorem dU(x y:Int):Builtin.bitAnd x y%2=if x%2=1/\y%2=1 then 1 else 0:=by
 have:=kbt_halves x y
 split at this<;>simp only[*]<;>simp<;>omega
theorem Qe(x:Int)(k:Nat):x/2 ^ (k+1)=x/2/2 ^ k:=by
 rw[Int.pow_succ,Int.mul_comm,Int.ediv_ediv_of_nonneg (by decide)]
theorem y6(k:Nat)(x:Int):bt (k+1) x=bt k (x/2):=by unfold bt;rw[Qe]
theorem y7(x:Int):bt 0 x=decide (x%2=1):=by unfold bt;simp
theorem Jj:∀(k:Nat) (x y:Int),bt k (zA x y)=(bt k x&&bt k y)
 | 0,x,y=>by
  rw[y7,y7,y7,jf,dU]
  by_cases h1:x%2=1<;>by_cases h2:y%2=1<;>simp[h1,h2]
 | k+1,x,y=>by
  have:=Jj k (x/2) (y/2)
  rw[jf] at this;rw[y6,y6,y6,jf,dS,this]
theorem xd{X Y A a b r:Int}(h0:0<=a+b-2*r)(h1:a+b-2*r<2):(2*X+a+(2*Y+b)-2*(2*A+r))/2=X+Y-2*A:=by
 rw[show 2*X+a+(2*Y+b)-2*(2*A+r)=a+b-2*r+2*(X+Y-2*A) by lia,Int.add_mul_ediv_left _ _ (by decide),Int.ediv_eq_zero_of_lt h0 h1,Int.zero_add]
theorem kQ(x y:Int):Builtin.bitXor x y/2=Builtin.bitXor (x/2) (y/2):=by
 rw[bitXor_and,bitXor_and,kbt_halves x y];have e:∀r:Int,0<=x%2+y%2-2*r->x%2+y%2-2*r<2->(x+y-2*(2*Builtin.bitAnd (x/2) (y/2)+r))/2=x/2+y/2-2*Builtin.bitAnd (x/2) (y/2):=λr h0 h1=>by
  have:=xd (X:=x/2) (Y:=y/2) (A:=Builtin.bitAnd (x/2) (y/2)) h0 h1
  rw[Int.mul_ediv_add_emod,Int.mul_ediv_add_emod] at this;exact this
 refine e _ ?_ ?_<;>rcases Int.emod_two_eq x with h1 | h1<;>rcases Int.emod_two_eq y with h2 | h2<;>rw[h1,h2]<;>decide
theorem Qq:∀(k:Nat) (x y:Int),bt k (Jc x y)=(bt k x !=bt k y)
 | 0,x,y=>by
  rw[y7,y7,y7,qO,bitXor_and];rw[show(x+y-2*Builtin.bitAnd x y)%2=(x+y)%2 from Int.sub_mul_emod_self_left _ _ _,Int.add_emod]
  rcases Int.emod_two_eq x with h1 | h1<;>rcases Int.emod_two_eq y with h2 | h2<;>rw[h1,h2]<;>rfl
 | k+1,x,y=>by
  have:=Qq k (x/2) (y/2)
  rw[qO] at this;rw[y6,y6,y6,qO,kQ,this]
theorem ij(x:Int):Builtin.bitNot x/2=Builtin.bitNot (x/2):=by unfold Builtin.bitNot;lia
theorem Qp:∀(k:Nat) (x:Int),bt k (jW x) = !bt k x
 | 0,x=>by
  rw[y7,y7,y8];unfold Builtin.bitNot
  by_cases h1:x%2=1<;>simp[h1]<;>lia
 | k+1,x=>by
  have:=Qp k (x/2)
  rw[y8] at this;rw[y6,y6,y8,ij,this]
theorem rp(k:Nat)(x y:Int):bt k (iOr x y)=(bt k x||bt k y):=by
 have:iOr x y=jW (zA (jW x) (jW y)):=by rw[qp,y8,jf,y8,y8];rfl
 rw[this,Qp,Jj,Qp,Qp]
 cases bt k x<;>cases bt k y<;>rfl
noncomputable def b2(x:Bool):Int:=cond x 1 0
theorem xi(k:Nat)(x:Int):x/2 ^ k%2=b2 (bt k x):=by
 unfold bt b2
 by_cases h:x/2 ^ k%2=1
 ·simp[h]
 ·simp[h];lia
theorem Q6(k:Nat)(x:Int):zA x (2 ^ k)=b2 (bt k x)*2 ^ k:=by rw[jf,kbt_bit,xi]
theorem k9(x:Int):zA x 1=b2 (bt 0 x):=by have:=Q6 0 x;simpa using this
theorem Da(x:Int):zA x 2=b2 (bt 1 x)*2:=Q6 1 x
theorem Db(x:Int):zA x 8=b2 (bt 3 x)*8:=Q6 3 x
theorem dQ(x:Int):zA x 128=b2 (bt 7 x)*128:=Q6 7 x
theorem jC(x:Int):zA x 255=x%256:=by rw[jf];exact kbt_mask x 8
theorem la(x:Int):zA 255 x=x%256:=by rw[jf];exact kbt_mask' x 8
theorem Kg(x:Int):zA x 65535=x%65536:=by rw[jf];exact kbt_mask x 16
theorem ah(b:Bool):0<=b2 b/\b2 b<=1:=by induction b<;>decide
theorem dZ(b:Bool)(n:Int)(h:n≠0):(b2 b*n !=0)=b:=by induction b<;>simp[b2,h]
theorem d9(b:Bool):(b2 b !=0)=b:=by induction b<;>rfl
theorem wW(x:Int)(h:0<=x)(h2:x<256):Jc x 255=255-x:=by
 have:zA x 255=x:=by rw[jC];exact Int.emod_eq_of_lt h h2
 rw[jf] at this;rw[qO,bitXor_and,this];lia
theorem XR(x:Int):zA x 65280=x/256%256*256:=by
 have h:∀(k:Nat) (x y:Int),Builtin.bitAnd x (2 ^ k*y)=2 ^ k*Builtin.bitAnd (x/2 ^ k) y:=by
  intro k
  induction k with
  | zero=>intro x y;simp
  | succ k ih =>
   intro x y;rw[kbt_halves];have e1:(2:Int) ^ (k+1)*y/2=2 ^ k*y:=by
    rw[Int.pow_succ,Int.mul_comm (2 ^ k) 2,Int.mul_assoc];exact Int.mul_ediv_cancel_left _ (by decide)
   have e2:¬((2:Int) ^ (k+1)*y%2=1):=by
    rw[Int.pow_succ,Int.mul_comm (2 ^ k) 2,Int.mul_assoc];lia
   rw[e1,ih,if_neg (λh=>e2 h.2),Qe,Int.pow_succ];rw[Int.mul_comm (2 ^ k) 2,Int.mul_assoc];lia
 have:=h 8 x 255
 rw[jf];refine(show Builtin.bitAnd x 65280=_ from this).trans ?_
 have h2:Builtin.bitAnd (x/2 ^ 8) 255=x/2 ^ 8%256:=kbt_mask _ 8;rw[h2]
 have:(2:Int) ^ 8=256:=by decide
 rw[this];lia
theorem yB{n:Nat}{P:Int->Prop}(h:∀i:Fin n,P (i.val:Int)){x:Int}(h0:0<=x)(h1:x<n):P x:=by
 obtain⟨k,rfl⟩:=Int.eq_ofNat_of_zero_le h0;exact h ⟨k,Int.ofNat_lt.mp h1⟩
theorem Zj:∀i:Fin 256,((i.val:Nat):Int)=b2 (bt 0 i.val)+b2 (bt 1 i.val)*2+b2 (bt 2 i.val)*4+b2 (bt 3 i.val)*8+b2 (bt 4 i.val)*16+b2 (bt 5 i.val)*32+b2 (bt 6 i.val)*64+b2 (bt 7 i.val)*128:=by decide +kernel
theorem Ve{x:Int}(h:0<=x)(h2:x<256):x=b2 (bt 0 x)+b2 (bt 1 x)*2+b2 (bt 2 x)*4+b2 (bt 3 x)*8+b2 (bt 4 x)*16+b2 (bt 5 x)*32+b2 (bt 6 x)*64+b2 (bt 7 x)*128:=
 yB (P:=λx=>x=b2 (bt 0 x)+b2 (bt 1 x)*2+b2 (bt 2 x)*4+b2 (bt 3 x)*8+b2 (bt 4 x)*16+b2 (bt 5 x)*32+b2 (bt 6 x)*64+b2 (bt 7 x)*128) Zj h h2
structure Fl where
 n:Bool
 v:Bool
 u:Bool
 b:Bool
 d:Bool
 i:Bool
 z:Bool
 c:Bool
noncomputable def pk(f:Fl):Int:=b2 f.c+b2 f.z*2+b2 f.i*4+b2 f.d*8+b2 f.b*16+b2 f.u*32+b2 f.v*64+b2 f.n*128
noncomputable def unp(x:Int):Fl:=⟨bt 7 x,bt 6 x,bt 5 x,bt 4 x,bt 3 x,bt 2 x,bt 1 x,bt 0 x⟩
theorem iR{x:Int}(h:0<=x)(h2:x<256):pk (unp x)=x:=(Ve h h2).symm
theorem dg:∀n v u b d i z c:Bool,0<=pk ⟨n,v,u,b,d,i,z,c⟩/\pk ⟨n,v,u,b,d,i,z,c⟩<256:=by decide +kernel
theorem yq(f:Fl):0<=pk f/\pk f<256:=let⟨n,v,u,b,d,i,z,c⟩:=f;dg n v u b d i z c
theorem qY(f:Fl):unp (pk f)=f:=by
 obtain⟨n,v,u,b,d,i,z,c⟩:=f;have h:∀n v u b d i z c:Bool,(bt 7 (pk ⟨n,v,u,b,d,i,z,c⟩)=n/\bt 6 (pk ⟨n,v,u,b,d,i,z,c⟩)=v/\bt 5 (pk ⟨n,v,u,b,d,i,z,c⟩)=u/\bt 4 (pk ⟨n,v,u,b,d,i,z,c⟩)=b)/\bt 3 (pk ⟨n,v,u,b,d,i,z,c⟩)=d/\bt 2 (pk ⟨n,v,u,b,d,i,z,c⟩)=i/\bt 1 (pk ⟨n,v,u,b,d,i,z,c⟩)=z/\bt 0 (pk ⟨n,v,u,b,d,i,z,c⟩)=c:=by decide +kernel
 refine jN (h n v u b d i z c) λFy h5 h6 Gb=>zh Gb λh7 h8=>?_;obtain⟨h1,h2,h3,h4⟩:=Fy;unfold unp;rw[h1,h2,h3,h4,h5,h6,h7,h8]
theorem Zi(f:Fl):bt 0 (pk f)=f.c:=congrArg Fl.c (qY f)
theorem eK(f:Fl):bt 1 (pk f)=f.z:=congrArg Fl.z (qY f)
theorem sy(f:Fl):bt 2 (pk f)=f.i:=congrArg Fl.i (qY f)
theorem eL(f:Fl):bt 3 (pk f)=f.d:=congrArg Fl.d (qY f)
theorem sz(f:Fl):bt 4 (pk f)=f.b:=congrArg Fl.b (qY f)
theorem sC(f:Fl):bt 5 (pk f)=f.u:=congrArg Fl.u (qY f)
theorem sD(f:Fl):bt 6 (pk f)=f.v:=congrArg Fl.v (qY f)
theorem sE(f:Fl):bt 7 (pk f)=f.n:=congrArg Fl.n (qY f)
theorem Uk{x y:Int}(h:0<=x):0<=zA x y/\zA x y<=x:=by rw[jf,bitAnd_comm];exact bitAnd_range y h
theorem Qd{x y:Int}(h:0<=x)(h2:x<256)(h3:0<=y)(h4:y<256):0<=iOr x y/\iOr x y<256:=by
 have e:iOr x y=((x.toNat ||| y.toNat:Nat):Int):=by
  rw[qp];unfold Builtin.bitOr;have a1:Builtin.bitAnd (Builtin.bitNot x) (Builtin.bitNot y)=Builtin.bitNot ((Builtin.bitNot (Builtin.bitNot x)).toNat ||| (Builtin.bitNot (Builtin.bitNot y)).toNat:Nat):=by
   unfold Builtin.bitAnd;have hx:¬ (0<=Builtin.bitNot x):=by unfold Builtin.bitNot;lia
   have hy:¬ (0<=Builtin.bitNot y):=by unfold Builtin.bitNot;lia
   simp only[hx,hy,decide_false]
  rw[a1];unfold Builtin.bitNot;simp only[show ∀z:Int,-(-z-1)-1=z from λz=>by lia]
 rw[e]
 have:x.toNat ||| y.toNat<2 ^ 8:=Nat.or_lt_two_pow (by lia) (by lia)
 exact⟨zo U8 rfl,zQ (bC this) rfl⟩
theorem dD{x y:Int}(h:0<=x)(h2:x<256)(h3:0<=y)(h4:y<256):0<=Jc x y/\Jc x y<256:=by
 have e:Jc x y=iOr x y-zA x y:=by rw[qO,qp,jf];rfl
 have e2:iOr x y=x+y-zA x y:=by rw[qp,jf];exact bitOr_and x y
 have h5:=Qd h h2 h3 h4;have h6:=Uk (x:=x) (y:=y) h;have h7:zA x y<=y:=by rw[jf];exact(bitAnd_range x h3).2
 omega
theorem vp{x:Int}{f:Fl}(h:0<=x)(h2:x<256)(e:unp x=f):x=pk f:=by rw[<- e,iR h h2]
section
variable (f:Fl)
theorem eW:zA (pk f) (jW (iOr 2 128))=pk { f with n:=false,z:=false }:=by
 obtain⟨n,v,u,b,d,i,z,c⟩:=f
 revert n v u b d i z c
 show ∀n v u b d i z c:Bool,zA (pk ⟨n,v,u,b,d,i,z,c⟩) (jW (iOr 2 128))=pk ⟨false,v,u,b,d,i,false,c⟩
 decide +kernel
theorem V0:zA (pk f) (jW (iOr (iOr 1 128) 2))=pk { f with n:=false,z:=false,c:=false }:=by
 obtain⟨n,v,u,b,d,i,z,c⟩:=f
 revert n v u b d i z c
 show ∀n v u b d i z c:Bool,zA (pk ⟨n,v,u,b,d,i,z,c⟩) (jW (iOr (iOr 1 128) 2))=pk ⟨false,v,u,b,d,i,false,false⟩
 decide +kernel
theorem sJ:zA (pk f) (jW (iOr (iOr 1 2) 128))=pk { f with n:=false,z:=false,c:=false }:=by
 obtain⟨n,v,u,b,d,i,z,c⟩:=f
 revert n v u b d i z c
 show ∀n v u b d i z c:Bool,zA (pk ⟨n,v,u,b,d,i,z,c⟩) (jW (iOr (iOr 1 2) 128))=pk ⟨false,v,u,b,d,i,false,false⟩
 decide +kernel
theorem sK:zA (pk f) (jW (iOr (iOr 2 128) 64))=pk { f with n:=false,z:=false,v:=false }:=by
 obtain⟨n,v,u,b,d,i,z,c⟩:=f
 revert n v u b d i z c
 show ∀n v u b d i z c:Bool,zA (pk ⟨n,v,u,b,d,i,z,c⟩) (jW (iOr (iOr 2 128) 64))=pk ⟨false,false,u,b,d,i,false,c⟩
 decide +kernel
theorem lu:zA (pk f) (jW (iOr (iOr (iOr 1 64) 128) 2))=pk { f with n:=false,z:=false,v:=false,c:=false }:=by
 obtain⟨n,v,u,b,d,i,z,c⟩:=f
 revert n v u b d i z c
 show ∀n v u b d i z c:Bool,zA (pk ⟨n,v,u,b,d,i,z,c⟩) (jW (iOr (iOr (iOr 1 64) 128) 2))=pk ⟨false,false,u,b,d,i,false,false⟩
 decide +kernel
theorem lw:zA (pk f) (jW (iOr (iOr (iOr 1 2) 64) 128))=pk { f with n:=false,z:=false,v:=false,c:=false }:=by
 obtain⟨n,v,u,b,d,i,z,c⟩:=f
 revert n v u b d i z c
 show ∀n v u b d i z c:Bool,zA (pk ⟨n,v,u,b,d,i,z,c⟩) (jW (iOr (iOr (iOr 1 2) 64) 128))=pk ⟨false,false,u,b,d,i,false,false⟩
 decide +kernel
theorem eV:zA (pk f) (jW 1)=pk { f with c:=false }:=by
 obtain⟨n,v,u,b,d,i,z,c⟩:=f
 revert n v u b d i z c
 show ∀n v u b d i z c:Bool,zA (pk ⟨n,v,u,b,d,i,z,c⟩) (jW 1)=pk ⟨n,v,u,b,d,i,z,false⟩
 decide +kernel
theorem Dt:zA (pk f) (jW 4)=pk { f with i:=false }:=by
 obtain⟨n,v,u,b,d,i,z,c⟩:=f
 revert n v u b d i z c
 show ∀n v u b d i z c:Bool,zA (pk ⟨n,v,u,b,d,i,z,c⟩) (jW 4)=pk ⟨n,v,u,b,d,false,z,c⟩
 decide +kernel
theorem Du:zA (pk f) (jW 64)=pk { f with v:=false }:=by
 obtain⟨n,v,u,b,d,i,z,c⟩:=f
 revert n v u b d i z c
 show ∀n v u b d i z c:Bool,zA (pk ⟨n,v,u,b,d,i,z,c⟩) (jW 64)=pk ⟨n,false,u,b,d,i,z,c⟩
 decide +kernel
theorem UT:iOr (pk f) 1=pk { f with c:=true }:=by
 obtain⟨n,v,u,b,d,i,z,c⟩:=f
 revert n v u b d i z c
 show ∀n v u b d i z c:Bool,iOr (pk ⟨n,v,u,b,d,i,z,c⟩) 1=pk ⟨n,v,u,b,d,i,z,true⟩
 decide +kernel
theorem Vb:iOr (pk f) 2=pk { f with z:=true }:=by
 obtain⟨n,v,u,b,d,i,z,c⟩:=f
 revert n v u b d i z c
 show ∀n v u b d i z c:Bool,iOr (pk ⟨n,v,u,b,d,i,z,c⟩) 2=pk ⟨n,v,u,b,d,i,true,c⟩
 decide +kernel
theorem EF:iOr (pk f) 4=pk { f with i:=true }:=by
 obtain⟨n,v,u,b,d,i,z,c⟩:=f
 revert n v u b d i z c
 show ∀n v u b d i z c:Bool,iOr (pk ⟨n,v,u,b,d,i,z,c⟩) 4=pk ⟨n,v,u,b,d,true,z,c⟩
 decide +kernel
theorem Cg:iOr (pk f) 16=pk { f with b:=true }:=by
 obtain⟨n,v,u,b,d,i,z,c⟩:=f
 revert n v u b d i z c
 show ∀n v u b d i z c:Bool,iOr (pk ⟨n,v,u,b,d,i,z,c⟩) 16=pk ⟨n,v,u,true,d,i,z,c⟩
 decide +kernel
theorem Cj:iOr (pk f) 32=pk { f with u:=true }:=by
 obtain⟨n,v,u,b,d,i,z,c⟩:=f
 revert n v u b d i z c
 show ∀n v u b d i z c:Bool,iOr (pk ⟨n,v,u,b,d,i,z,c⟩) 32=pk ⟨n,v,true,b,d,i,z,c⟩
 decide +kernel
theorem oQ:iOr (pk f) 64=pk { f with v:=true }:=by
 obtain⟨n,v,u,b,d,i,z,c⟩:=f
 revert n v u b d i z c
 show ∀n v u b d i z c:Bool,iOr (pk ⟨n,v,u,b,d,i,z,c⟩) 64=pk ⟨n,true,u,b,d,i,z,c⟩
 decide +kernel
theorem vS:iOr (pk f) 0=pk f:=by
 obtain⟨n,v,u,b,d,i,z,c⟩:=f
 revert n v u b d i z c
 show ∀n v u b d i z c:Bool,iOr (pk ⟨n,v,u,b,d,i,z,c⟩) 0=pk ⟨n,v,u,b,d,i,z,c⟩
 decide +kernel
theorem ka:iOr (pk f) 128=pk { f with n:=true }:=by
 obtain⟨n,v,u,b,d,i,z,c⟩:=f
 revert n v u b d i z c
 show ∀n v u b d i z c:Bool,iOr (pk ⟨n,v,u,b,d,i,z,c⟩) 128=pk ⟨true,v,u,b,d,i,z,c⟩
 decide +kernel
theorem vT:iOr (pk f) 192=pk { f with n:=true,v:=true }:=by
 obtain⟨n,v,u,b,d,i,z,c⟩:=f
 revert n v u b d i z c
 show ∀n v u b d i z c:Bool,iOr (pk ⟨n,v,u,b,d,i,z,c⟩) 192=pk ⟨true,true,u,b,d,i,z,c⟩
 decide +kernel
theorem YV(t:Int):iOr (pk f) (zA t 128)=pk { f with n:=f.n||bt 7 t }:=by
 rw[dQ]
 cases bt 7 t
 ·exact(vS f).trans (by simp)
 ·exact(ka f).trans (by simp)
theorem rU(t:Int):iOr (pk f) (zA t 1)=pk { f with c:=f.c||bt 0 t }:=by
 rw[k9]
 cases bt 0 t
 ·exact(vS f).trans (by simp)
 ·exact(UT f).trans (by simp)
theorem sg(t:Int):zA t (iOr 128 64)=b2 (bt 7 t)*128+b2 (bt 6 t)*64:=by
 have e:iOr 128 64=192:=by rw[qp];decide
 rw[e];have h1:0<=zA t 192/\zA t 192<=192:=by rw[jf];exact bitAnd_range t (by decide)
 have h2:=Ve (x:=zA t 192) h1.1 (zQ (vC h1.2) rfl);simp only[Jj,show bt 0 192=false by decide,show bt 1 192=false by decide,show bt 2 192=false by decide,show bt 3 192=false by decide,show bt 4 192=false by decide,show bt 5 192=false by decide,show bt 6 192=true by decide,show bt 7 192=true by decide,Bool.and_false,Bool.and_true,show b2 false=0 by rfl] at h2
 lia
theorem Ci(t:Int):iOr (pk f) (zA t (iOr 128 64))=pk { f with n:=f.n||bt 7 t,v:=f.v||bt 6 t }:=by
 rw[sg]
 cases bt 7 t<;>cases bt 6 t
 ·exact(vS f).trans (by simp)
 ·exact(oQ f).trans (by simp)
 ·exact(ka f).trans (by simp)
 ·exact(vT f).trans (by simp)
theorem kE:(zA (pk f) 1 !=0)=f.c:=by rw[k9,Zi];exact d9 _
theorem EU:(zA (pk f) 2 !=0)=f.z:=by rw[Da,eK];exact dZ _ _ (by decide)
theorem CM:(zA (pk f) 8 !=0)=f.d:=by rw[Db,eL];exact dZ _ _ (by decide)
theorem Eh:zA (pk f) 1=b2 f.c:=by rw[k9,Zi]
end
theorem Qi(t:Int):(zA t 128 !=0)=bt 7 t:=by rw[dQ];exact dZ _ _ (by decide)
theorem te1(t:Int):(zA t 1 !=0)=bt 0 t:=by rw[k9];exact d9 _
noncomputable def nzF(f:Fl)(v:Int):Fl:={ f with n:=bt 7 v,z:=decide (v=0) }
theorem Bi(f:Fl)(v:Int):cond (v==0) (iOr (zA (pk f) (jW (iOr 2 128))) 2) (iOr (zA (pk f) (jW (iOr 2 128))) (zA v 128))=pk (nzF f v):=by
 rw[eW,Vb,YV]
 by_cases h:v=0
 ·subst h
  show pk _=pk _;unfold nzF;simp[bt]
 ·have:(v==0)=false:=by simp[h]
  rw[this];unfold nzF;simp[h]
theorem bt7{v:Int}(h:0<=v)(h2:v<256):bt 7 v=decide (128<=v):=yB (n:=256) (P:=λv=>bt 7 v=decide (128<=v)) (by decide +kernel) h h2
structure Cpu where
 pc:Int
 sp:Int
 a:Int
 x:Int
 y:Int
 f:Fl
 ex:Int
 ac:PV
 cyc:Int
 nm:PV
 st:PV
noncomputable abbrev Mem:=List Int
variable {mem:Mem}
noncomputable abbrev Sp:=List PV->List PO->(PV->List PO->Prop)->Prop
def jp(mem:Mem)(ad:Int):Prop:=0<=ad/\ad<(mem.length:Int)/\ad<2 ^ 63
noncomputable def rd(mem:Mem)(ad:Int):Int:=mem.getD ad.toNat 0
noncomputable def wr(mem:Mem)(ad v:Int):Mem:=mem.set ad.toNat v
def isB(x:Int):Prop:=0<=x/\x<256
def Bts(mem:Mem):Prop:=∀x∈mem,isB x
theorem Bts.rd{mem:Mem}(h:Bts mem)(ad:Int):isB (rd mem ad):=by
 unfold Mine.rd;rw[List.getD_eq_getElem?_getD]
 cases e:mem[ad.toNat]? with
 | none=>exact⟨by decide,by decide⟩
 | some v=>exact h v (List.mem_of_getElem? e)
theorem Bts.wr{mem:Mem}(h:Bts mem)(ad:Int){v:Int}(hv:isB v):Bts (wr mem ad v):=by
 intro x hx
 rcases List.mem_or_eq_of_mem_set hx with h1 | h1
 ·exact h x h1
 ·exact h1▸hv
theorem zG{v:Int}:(wr mem ad v).length=mem.length:=List.length_set
theorem BR{v b:Int}(h:jp mem ad)(hb:0<=b):rd (wr mem ad v) b=if b=ad then v else rd mem b:=by
 unfold rd wr;rw[List.getD_eq_getElem?_getD,List.getD_eq_getElem?_getD,List.getElem?_set]
 have:=h.1
 have:=h.2.1
 by_cases e:b=ad
 ·subst e
  rw[if_pos rfl,if_pos (by lia),if_pos rfl];rfl
 ·rw[if_neg (by lia),if_neg e]
theorem isB.n64{x:Int}(h:isB x):x.natAbs<2 ^ 64:=by have:=h.1;have:=h.2;lia
inductive Md where
 | pc | zp | zpx | zpy | ab | abx | aby | inx | iny
noncomputable def wd(mem:Mem)(ad:Int):Int:=rd mem ad+rd mem (ad+1)*256
noncomputable def wq(ad:Int):Int:=ad/256%256*256+(ad+1)%256
noncomputable def wp(mem:Mem)(ad:Int):Int:=rd mem ad+rd mem (wq ad)*256
noncomputable def acB:PV->Bool
 | .int e=>e !=0
 | _=>false
noncomputable def Kj(a b:Int):Bool:=decide (a/256%256≠b/256%256)
noncomputable def eaA(m:Md)(c:Cpu)(mem:Mem):Int:=match m with
 | .pc=>c.pc
 | .zp=>rd mem c.pc
 | .zpx=>(c.x+rd mem c.pc)%256
 | .zpy=>(c.y+rd mem c.pc)%256
 | .ab=>wd mem c.pc
 | .abx=>(wd mem c.pc+c.x)%65536
 | .aby=>(wd mem c.pc+c.y)%65536
 | .inx=>wp mem ((rd mem c.pc+c.x)%256)
 | .iny=>(wp mem (rd mem c.pc)+c.y)%65536
noncomputable def eaX(m:Md)(c:Cpu)(mem:Mem):Int:=match m with
 | .abx=>c.ex+b2 (acB c.ac&&Kj (wd mem c.pc) ((wd mem c.pc+c.x)%65536))
 | .aby=>c.ex+b2 (acB c.ac&&Kj (wd mem c.pc) ((wd mem c.pc+c.y)%65536))
 | .iny=>c.ex+b2 (acB c.ac&&Kj (wp mem (rd mem c.pc)) ((wp mem (rd mem c.pc)+c.y)%65536))
 | _=>c.ex
def wU(mem:Mem)(ad:Int):Prop:=jp mem ad/\jp mem (ad+1)
def C2(mem:Mem)(ad:Int):Prop:=jp mem ad/\jp mem (wq ad)
def Jl(m:Md)(c:Cpu)(mem:Mem):Prop:=match m with
 | .pc=>True
 | .zp | .zpx | .zpy=>jp mem c.pc
 | .ab=>wU mem c.pc
 | .abx | .aby=>wU mem c.pc /\ ∃e,c.ac=.int e
 | .inx=>jp mem c.pc/\C2 mem ((rd mem c.pc+c.x)%256)
 | .iny=>jp mem c.pc/\C2 mem (rd mem c.pc) /\ ∃e,c.ac=.int e
structure Ok(c:Cpu)(mem:Mem):Prop where
 pc:0<=c.pc
 sp:isB c.sp
 a:isB c.a
 x:isB c.x
 y:isB c.y
 mem:Bts mem
inductive Rg where
 | a | x | y
noncomputable def Cpu.rg(c:Cpu):Rg->Int
 | .a=>c.a
 | .x=>c.x
 | .y=>c.y
inductive Rd where
 | ora | and | eor | adc | sbc | lda | ldx | ldy | bit
noncomputable def ovA(a d r:Int):Bool:=(bt 7 a==bt 7 d)&&(bt 7 a !=bt 7 r)
noncomputable def ovS(a d r:Int):Bool:=(bt 7 a !=bt 7 d)&&(bt 7 a !=bt 7 r)
noncomputable def adB(c:Cpu)(d:Int):Cpu:=
 let r:=c.a+d+b2 c.f.c
 { c with a:=r%256,f:={ c.f with n:=bt 7 (r%256),z:=decide (r%256=0),c:=decide (255<r),v:=ovA c.a d r } }
noncomputable def sbB(c:Cpu)(d:Int):Cpu:=
 let r:=c.a+(255-d)+b2 c.f.c
 { c with a:=r%256,f:={ c.f with n:=bt 7 (r%256),z:=decide (r%256=0),c:=decide (255<r),v:=ovS c.a d r } }
noncomputable def rdF(r:Rd)(c:Cpu)(v:Int):Cpu:=match r with
 | .ora=>{ c with a:=iOr c.a v,f:=nzF c.f (iOr c.a v) }
 | .and=>{ c with a:=zA c.a v,f:=nzF c.f (zA c.a v) }
 | .eor=>{ c with a:=Jc c.a v,f:=nzF c.f (Jc c.a v) }
 | .adc=>adB c v
 | .sbc=>sbB c v
 | .lda=>{ c with a:=v,f:=nzF c.f v }
 | .ldx=>{ c with x:=v,f:=nzF c.f v }
 | .ldy=>{ c with y:=v,f:=nzF c.f v }
 | .bit=>{ c with f:={ c.f with n:=bt 7 v,v:=bt 6 v,z:=decide (zA c.a v=0) } }
noncomputable def V2(c:Cpu)(r t:Int):Cpu:={ c with f:={ c.f with c:=decide (t<=r),z:=decide (r=t),n:=bt 7 (r-t) } }
inductive Rm where
 | asl | lsr | rol | ror | dec | inc
noncomputable def rmT(r:Rm)(f:Fl)(t:Int):Int:=match r with
 | .asl=>2*t%256
 | .lsr=>t/2
 | .rol=>(2*t+b2 f.c)%256
 | .ror=>t/2+128*b2 f.c
 | .dec=>(t-1)%256
 | .inc=>(t+1)%256
noncomputable def rmC(r:Rm)(f:Fl)(t:Int):Bool:=match r with
 | .asl | .rol=>bt 7 t
 | .lsr | .ror=>bt 0 t
 | _=>f.c
noncomputable def rmF(r:Rm)(f:Fl)(t:Int):Fl:=nzF { f with c:=rmC r f t } (rmT r f t)
theorem bl(x:Int):0<=x%256/\x%256<256:=⟨Int.emod_nonneg x (by decide),Int.emod_lt_of_pos x (by decide)⟩
theorem gj{t c:Int}(h:0<=t)(h2:t<256)(h3:0<=c/\c<=1):0<=t/2+128*c/\t/2+128*c<256:=⟨Int.add_nonneg (BL h rfl) (Int.mul_nonneg (show(0:Int)<=128 by decide) h3.1),Int.add_lt_add_of_lt_of_le (show t/2<128 from Int.ediv_lt_of_lt_mul (by decide) h2) (show 128*c<=128*1 from Int.mul_le_mul_of_nonneg_left h3.2 (by decide))⟩
theorem YU{r:Rm}{f:Fl}{t:Int}(h:isB t):isB (rmT r f t):=by
 induction r with
 | lsr=>have:=gj h.1 h.2 (c:=0) ⟨by decide,by decide⟩;rwa [Int.mul_zero,Int.add_zero] at this
 | ror=>exact gj h.1 h.2 (ah f.c)
 | _=>exact bl _
set_option genCtorIdx false in
inductive Op where
 | rd (r:Rd) (m:Md)
 | cmp (g:Rg) (m:Md)
 | rmw (r:Rm) (m:Md)
 | acc (r:Rm)
 | sto (g:Rg) (m:Md)
 | bra (bit:Nat) (on:Bool)
 | flag (bit:Nat) (on:Bool)
 | tr (g h:Rg)
 | tsx
 | txs
 | upx
 | upy
 | dnx
 | pha
 | php
 | pla
 | plp
 | nop
noncomputable def mdL:Md->Int
 | .ab | .abx | .aby=>2
 | _=>1
noncomputable def Fl.at(f:Fl):Nat->Bool
 | 0=>f.c | 1=>f.z | 2=>f.i | 3=>f.d | 4=>f.b | 5=>f.u | 6=>f.v | _=>f.n
noncomputable def Fl.to(f:Fl)(on:Bool):Nat->Fl
 | 0=>{ f with c:=on } | 1=>{ f with z:=on } | 2=>{ f with i:=on } | 3=>{ f with d:=on } | 4=>{ f with b:=on } | 5=>{ f with u:=on } | 6=>{ f with v:=on } | _=>{ f with n:=on }
noncomputable def cf(c:Cpu)(t:Int):Cpu:={ c with pc:=(c.pc+1+t-256*b2 (bt 7 t))%65536,ex:=c.ex+1+b2 (Kj (c.pc+1) (c.pc+1+t-256*b2 (bt 7 t))) }
noncomputable def Cpu.put(c:Cpu)(g:Rg)(v:Int):Cpu:=match g with
 | .a=>{ c with a:=v,f:=nzF c.f v }
 | .x=>{ c with x:=v,f:=nzF c.f v }
 | .y=>{ c with y:=v,f:=nzF c.f v }
noncomputable def bA(c:Cpu):Cpu:={ c with sp:=(c.sp-1)%256 }
noncomputable def bB(c:Cpu)(mem:Mem)(v:Int):Mem:=wr mem (c.sp+256) v
noncomputable def iT(c:Cpu):Cpu:={ c with sp:=(c.sp+1)%256 }
noncomputable def Xu(c:Cpu)(mem:Mem):Int:=rd mem ((c.sp+1)%256+256)
noncomputable def plF(t:Int):Fl:={ unp t with b:=true,u:=true }
noncomputable def xop(o:Op)(c:Cpu)(mem:Mem):Cpu×Mem:=match o with
 | .rd r m=>({ rdF r { c with ex:=eaX m c mem } (rd mem (eaA m c mem)) with pc:=c.pc+mdL m },mem)
 | .cmp g m=>({ V2 { c with ex:=eaX m c mem } (c.rg g) (rd mem (eaA m c mem)) with pc:=c.pc+mdL m },mem)
 | .rmw r m=>({ c with ex:=eaX m c mem,f:=rmF r c.f (rd mem (eaA m c mem)),pc:=c.pc+mdL m },wr mem (eaA m c mem) (rmT r c.f (rd mem (eaA m c mem))))
 | .acc r=>({ c with f:=rmF r c.f c.a,a:=rmT r c.f c.a },mem)
 | .sto g m=>({ c with ex:=eaX m c mem,pc:=c.pc+mdL m },wr mem (eaA m c mem) (c.rg g))
 | .bra b on=>(cond (c.f.at b==on) (cf c (rd mem c.pc)) { c with pc:=c.pc+1 },mem)
 | .flag b on=>({ c with f:=c.f.to on b },mem)
 | .tr g h=>(c.put h (c.rg g),mem)
 | .tsx=>({ c with x:=c.sp,f:=nzF c.f c.sp },mem)
 | .txs=>({ c with sp:=c.x },mem)
 | .upx=>(c.put .x ((c.x+1)%256),mem)
 | .upy=>(c.put .y ((c.y+1)%256),mem)
 | .dnx=>(c.put .x ((c.x-1)%256),mem)
 | .pha=>(bA c,bB c mem c.a)
 | .php=>(bA c,bB c mem (pk { c.f with b:=true,u:=true }))
 | .pla=>({ iT c with a:=Xu c mem,f:=nzF c.f (Xu c mem) },mem)
 | .plp=>({ iT c with f:=plF (Xu c mem) },mem)
 | .nop=>(c,mem)
def VH(mem:Mem):Prop:=512<=(mem.length:Int)
def rdD(r:Rd)(f:Fl):Prop:=match r with
 | .adc=>f.d=false
 | .sbc=>f.d=false
 | _=>True
def iN(o:Op)(c:Cpu)(mem:Mem):Prop:=match o with
 | .rd r m=>Jl m c mem/\jp mem (eaA m c mem)/\rdD r c.f
 | .cmp _ m | .rmw _ m | .sto _ m=>Jl m c mem/\jp mem (eaA m c mem)
 | .bra _ _=>jp mem c.pc
 | .pha | .php | .pla | .plp=>VH mem
 | _=>True
noncomputable def BF:List (Nat×Op):=[(5,(.rd .ora .zp)),(6,(.rmw .asl .zp)),(8,.php),(9,(.rd .ora .pc)),(10,(.acc .asl)),(21,(.rd .ora .zpx)),(24,(.flag 0 false)),(36,(.rd .bit .zp)),(37,(.rd .and .zp)),(38,(.rmw .rol .zp)),(40,.plp),(41,(.rd .and .pc)),(42,(.acc .rol)),(53,(.rd .and .zpx)),(56,(.flag 0 true)),(69,(.rd .eor .zp)),(70,(.rmw .lsr .zp)),(72,.pha),(73,(.rd .eor .pc)),(74,(.acc .lsr)),(85,(.rd .eor .zpx)),(88,(.flag 2 false)),(101,(.rd .adc .zp)),(102,(.rmw .ror .zp)),(104,.pla),(105,(.rd .adc .pc)),(106,(.acc .ror)),(117,(.rd .adc .zpx)),(120,(.flag 2 true)),(132,(.sto .y .zp)),(133,(.sto .a .zp)),(134,(.sto .x .zp)),(138,(.tr .x .a)),(141,(.sto .a .ab)),(153,(.sto .a .aby)),(154,.txs),(162,(.rd .ldx .pc)),(164,(.rd .ldy .zp)),(165,(.rd .lda .zp)),(166,(.rd .ldx .zp)),(169,(.rd .lda .pc)),(170,(.tr .a .x)),(181,(.rd .lda .zpx)),(184,(.flag 6 false)),(185,(.rd .lda .aby)),(186,.tsx),(192,(.cmp .y .pc)),(197,(.cmp .a .zp)),(198,(.rmw .dec .zp)),(200,.upy),(201,(.cmp .a .pc)),(202,.dnx),(208,(.bra 1 false)),(213,(.cmp .a .zpx)),(224,(.cmp .x .pc)),(228,(.cmp .x .zp)),(229,(.rd .sbc .zp)),(230,(.rmw .inc .zp)),(232,.upx),(233,(.rd .sbc .pc)),(234,.nop),(245,(.rd .sbc .zpx))]
noncomputable def YJ(n:Nat):Option Op:=lk n BF
noncomputable def st1(c:Cpu)(xc:Int):Cpu:={ c with pc:=(c.pc+1)%65536,ex:=0,ac:=.int xc }
noncomputable def st2(c:Cpu)(cy:Int):Cpu:={ c with pc:=c.pc%65536,cyc:=c.cyc+(cy+c.ex) }
theorem uN{t:Int}(h:isB t):zA (jW t) 255=255-t:=by rw[jC,y8];exact yB (n:=256) (P:=λt=>Builtin.bitNot t%256=255-t) (by decide +kernel) h.1 h.2
structure FD where
 name:Str
 args:Arguments
 body:List Stmt
 scope:Scope
noncomputable def cz:Option Stmt->FD
 | some (Stmt.FunctionDef n a b _ _ _ sc _ _ _)=>⟨n,a,b,sc⟩
 | _=>⟨Str.empty,⟨[],[],none,[],[],none,[]⟩,[],⟨.function,[],false,false,[]⟩⟩
noncomputable def J4(d:FD)(q:String)(df pm:Value)(c:Addr):Obj:=⟨.type "function",none,.func (fnOf d.name q d.args d.body d.scope df .none .none pm none (.ref c) .none),#[]⟩
noncomputable def yt{α:Type}(p:α->Bool):List α->Bool
 | []=>true
 | x::r=>cond (p x) (yt p r) false
theorem Zo{a b:Bool}(h:cond a b false=true):a=true/\b=true:=by
 induction a with
 | false=>exact ft h
 | true=>exact⟨rfl,h⟩
theorem z0{α:Type}{p:α->Bool}:∀{l:List α},yt p l=true->∀x∈l,p x=true
 | a::l,h,x,hx=>by
  obtain⟨h1,h2⟩:=Zo (a:=p a) (b:=yt p l) h
  cases hx with
  | head=>exact h1
  | tail _ hx=>exact z0 h2 x hx
noncomputable def isN(x:Option (Option Value)):Bool:=match x with | some none=>true | _=>false
noncomputable def tQ(x:Option (Option Value))(b:String):Bool:=match x with | some (some (.builtin c))=>c==b | _=>false
theorem ZG{x:Option (Option Value)}(h:isN x=true):x=some none:=by
 induction x with
 | none=>exact ft h
 | some y=>induction y with
  | none=>rfl
  | some _=>exact ft h
theorem aV{x:Option (Option Value)}{b:String}(h:tQ x b=true):x=some (some (.builtin b)):=by
 induction x with
 | none=>exact ft h
 | some y=>induction y with
  | none=>exact ft h
  | some v=>induction v with
   | builtin c=>exact congrArg (λz=>some (some (Value.builtin z))) (eq_of_beq h)
   | _=>exact ft h
noncomputable def mQ(x:Option (Option Value))(a:Addr):Bool:=match x with | some (some (.ref c))=>Nat.beq c a | _=>false
theorem W9{x:Option (Option Value)}{b:Addr}(h:mQ x b=true):x=some (some (.ref b)):=by
 induction x with
 | none=>exact ft h
 | some y=>induction y with
  | none=>exact ft h
  | some v=>induction v with
   | ref c=>exact congrArg (λz=>some (some (Value.ref z))) (Nat.eq_of_beq_eq_true h)
   | _=>exact ft h
section
variable (K:Frag)(C:Addr)(nm:Nat->Str)
noncomputable def xh(x:Nat):Bool:=plainGet K C (nm x)&&hasDictIn K C&&isN (findIn K (.ref C) (nm x))&&tQ (findIn K (.ref C) "__setattr__") "object.__setattr__" && plainOver K C&&isN (takerIn K C (nm x))
noncomputable def isV(v:PV)(c:Value):Bool:=match v,c with
 | .int i,.int j _=>decide (i=j)
 | .top a,.ref b=>Nat.beq a b
 | .str a,.str b _=>a==b
 | _,_=>false
noncomputable def xZ(v:PV)(x:Option (Option Value)):Bool:=match x with
 | some (some c)=>isN (specialIn K c "__get__")&&handedIn c&&isV v c
 | _=>false
theorem lA{K:Frag}{v:PV}{x:Option (Option Value)}(h:xZ K v x=true):∃c,x=some (some c)/\(isN (specialIn K c "__get__")&&handedIn c&&isV v c)=true:=by
 induction x with
 | none=>exact ft h
 | some y=>induction y with
  | none=>exact ft h
  | some c=>exact(zv c rfl h)
noncomputable def sQ(p:Nat×PV):Bool:=plainGet K C (nm p.1)&&hasDictIn K C && !copiedNames.contains (nm p.1)&&xZ K p.2 (findIn K (.ref C) (nm p.1))
noncomputable def AR(x:Option Bool):Bool:=match x with | some false=>true | _=>false
noncomputable def Bc(p:Nat×Addr):Bool:=plainGet K C (nm p.1)&&hasDictIn K C&&mQ (findIn K (.ref C) (nm p.1)) p.2&&isFn K (.ref p.2)&&tQ (specialIn K (.ref p.2) "__get__") "function.__get__" && AR (takesIn K (.ref p.2)) && !copiedNames.contains (nm p.1)&&keepIn K (.ref p.2)&&fnIn K p.2
noncomputable def EV(p:Nat×Addr):Bool:=mQ (nsIn K mainGlobals (nm p.1)) p.2
noncomputable def Ao(i:Int)(x:Option (Option Value)):Bool:=match x with | some (some (.int j _))=>decide (j=i) | _=>false
theorem my{i:Int}{x:Option (Option Value)}(h:Ao i x=true):∃t,x=some (some (.int i t)):=by
 induction x with
 | none=>exact ft h
 | some y=>induction y with
  | none=>exact ft h
  | some v=>induction v with
   | int j t=>exact⟨t,congrArg (λz=>some (some (Value.int z t))) (of_decide_eq_true h)⟩
   | _=>exact ft h
noncomputable def An(p:Nat×Int):Bool:=Ao p.2 (nsIn K mainGlobals (nm p.1))
noncomputable def eqV:Value->Value->Bool
 | .builtin a,.builtin b=>a==b
 | .type a,.type b=>a==b
 | _,_=>false
noncomputable def eqO(v:Value)(x:Option Value):Bool:=match x with | some u=>eqV u v | none=>false
noncomputable def XV(pr:Program)(loose:List Str)(x:Nat)(v:Value):Bool:=eqO v (bootBuiltins (nm x)) && !startupNames.contains (nm x) && !loose.contains (nm x) && !((recsOf pr).map (·.name)).contains (nm x) && !((litsOf pr).map (·.1)).contains (nm x) && !((clssOf pr loose).map (·.name)).contains (nm x) && !(nm x==("__name__" : Str)) && !(nm x==("__debug__" : Str))
noncomputable def Aj(f:Addr):Bool:=keepIn K (.ref f)&&fnIn K f
noncomputable def x0(fI:Addr):Bool:=makesIn K C&&mQ (findIn K (.ref C) "__init__") fI&&isFn K (.ref fI)&&keepIn K (.ref C)
end
section
theorem lj(h:xh G.K G.X.C G.X.nm x=true):AttrOk G x:=by
 refine zh (za h) λh h6=>?_;refine zh (za h) λh h5=>?_;refine zh (za h) λh h4=>?_;refine zh (za h) λh h3=>?_;refine zh (za h) λh1 h2=>?_;exact⟨h1,h2,ZG h3,aV h4,h5,ZG h6⟩
theorem gI{v:PV}{c:Value}(h:isV v c=true)(ρ:List Addr)(frz:List (Addr×Obj)):VR ρ frz v c:=by
 cases v with
 | int i=>induction c with
  | int j t=>exact of_decide_eq_true h▸jo _ _ _ _
  | _=>exact ft h
 | top a=>induction c with
  | ref b=>exact Nat.eq_of_beq_eq_true h▸Z6 _ _ _
  | _=>exact ft h
 | str a=>induction c with
  | str b t=>exact(eq_of_beq (show(a==b)=true from h))▸(show ∃t',Value.str a t=.str a t' from⟨t,rfl⟩)
  | _=>exact ft h
 | _=>exact ft h
theorem av{p:Nat×PV}(h:sQ G.K G.X.C G.X.nm p=true):∃c,ConstOk G p.1 p.2 c:=by
 refine byc λGa=>?_;refine zh (za h) λh h4=>?_;refine zh (za h) λh h3=>?_;refine zh (za h) λh1 h2=>?_;refine zd (lA h4) λc e h4=>?_;refine zh (za h4) λh5 h7=>?_;refine zh (za h5) λh5 h6=>?_;refine Ga ?_;exact⟨c,h1,h2,e,ZG h5,h6,(Bool.not_eq_true' _).mp h3,gI h7⟩
theorem mR{x:Option Bool}(h:AR x=true):x=some false:=by
 induction x with
 | none=>exact ft h
 | some b=>induction b with
  | true=>exact ft h
  | false=>rfl
theorem ni{p:Nat×Addr}(h:Bc G.K G.X.C G.X.nm p=true):MethOk G p.1 p.2:=by
 refine zh (za h) λh h9=>?_;refine zh (za h) λh h8=>?_;refine zh (za h) λh h7=>?_;refine zh (za h) λh h6=>?_;refine zh (za h) λh h5=>?_;refine zh (za h) λh h4=>?_;refine zh (za h) λh h3=>?_;refine zh (za h) λh1 h2=>?_;exact⟨h1,h2,W9 h3,h4,aV h5,mR h6,(Bool.not_eq_true' _).mp h7,h8,h9⟩
theorem mx{p:Nat×Int}(h:An G.K G.X.nm p=true):∃t,nsIn G.K mainGlobals (G.X.nm p.1)=some (some (.int p.2 t)):=my h
theorem Zs{u v:Value}(h:eqV u v=true):u=v:=by
 induction u with
 | builtin a=>induction v with
  | builtin b=>exact congrArg Value.builtin (eq_of_beq h)
  | _=>exact ft h
 | type a=>induction v with
  | type b=>exact congrArg Value.type (eq_of_beq h)
  | _=>exact ft h
 | _=>exact ft h
theorem sT{v:Value}{x:Option Value}(h:eqO v x=true):x=some v:=by
 induction x with
 | none=>exact ft h
 | some u=>exact congrArg some (Zs h)
theorem ik{l:List Str}{x:Str}(h:l.contains x=false):x∉l:=λhm=>by rw[List.contains_iff_mem.mpr hm] at h;cases h
theorem Kh{v:Value}(h:XV G.X.nm G.p G.loose x v=true):BltOk G x v:=by
 have n {b:Bool} (h:(!b)=true):b=false:=(Bool.not_eq_true' b).mp h;refine zh (za h) λh h8=>?_;refine zh (za h) λh h7=>?_;refine zh (za h) λh h6=>?_;refine zh (za h) λh h5=>?_;refine zh (za h) λh h4=>?_;refine zh (za h) λh h3=>?_;refine zh (za h) λh1 h2=>?_;exact⟨sT h1,ik (n h2),ik (n h3),ik (n h4),ik (n h5),ik (n h6),beq_eq_false_iff_ne.mp (n h7),n h8⟩
theorem mv(h:Aj G.K f=true):keepIn G.K (.ref f)=true/\fnIn G.K f=true:=by
 exact za h
theorem lB(h:x0 G.K G.X.C fI=true):CtorOk G fI:=by
 obtain⟨h,h4⟩:=za h;obtain⟨h,h3⟩:=za h;exact⟨(za h).1,W9 (za h).2,h3,h4⟩
end
noncomputable def pK:List PV->List Value->Bool
 | [],[]=>true
 | v::vs,w::ws=>cond (isV v w) (pK vs ws) false
 | _,_=>false
theorem pL{frz:List (Addr×Obj)}{vs:List PV}:∀{ws:List Value},pK vs ws=true->VRs ρ frz vs ws:=by
 induction vs with
 | nil =>
  intro ws h
  induction ws with
  | nil=>exact VRs.nil
  | cons _ _=>exact ft h
 | cons v vs ih =>
  intro ws h
  induction ws with
  | nil=>exact ft h
  | cons w ws =>
   have h:=Zo (a:=isV v w) (b:=pK vs ws) h;exact VRs.cons (gI h.1 _ _) (ih h.2)
noncomputable def EQ(vs:List PV)(d:Data):Bool:=match d with
 | .seq a n=>Nat.beq n 0&&pK vs a.toList
 | _=>false
noncomputable def A9(vs:List PV)(x:Option Obj):Bool:=match x with
 | some o=>((eqV o.cls (.type "list")||eqV o.cls (.type "tuple"))&&o.dict.isNone)&&(o.slots.isEmpty&&EQ vs o.data)
 | none=>false
theorem mY{x:Option Obj}{vs:List PV}(h:A9 vs x=true):∃(l:List Value) (n:Nat),(x=some (listOf l.toArray n)∨x=some (j4 l n)) /\ ∀ρ frz,VRs ρ frz vs l:=by
 induction x with
 | none=>exact ft h
 | some o =>
  obtain⟨c,d,dt,sl⟩:=o;refine zh (za h) λh1 h2=>?_;refine zh (za h1) λh1 h3=>?_;refine zh (za h2) λh2 h4=>?_
  induction dt with
  | seq a n =>
   refine zh (za h4) λh6 h5=>?_
   obtain rfl:=Option.isNone_iff_eq_none.mp h3;obtain rfl:=Array.isEmpty_iff.mp h2;obtain rfl:=Nat.eq_of_beq_eq_true h6;refine(jL a.toList 0 ?_ (λZ Z=>pL h5))
   rcases(Bool.or_eq_true _ _).mp h1 with h1 | h1
   ·obtain rfl:=Zs h1;exact .inl rfl
   ·obtain rfl:=Zs h1;exact .inr rfl
  | _=>exact ft h4
noncomputable def A8(K:Frag)(b:Addr)(vs:List PV):Bool:=A9 vs (K.lookup b)
theorem mX{K:Frag}{b:Addr}{vs:List PV}(h:A8 K b vs=true):∃(l:List Value) (n:Nat),(K.lookup b=some (listOf l.toArray n)∨K.lookup b=some (j4 l n)) /\ ∀ρ frz,VRs ρ frz vs l:=mY h
noncomputable def VM:List (Addr×List PV)->Addr->List PV
 | [],_=>[]
 | (b,v)::r,a=>cond (Nat.beq a b) v (VM r a)
theorem Y6{f:Addr->List PV->Bool}:∀{l:List (Addr×List PV)},yt (λp=>f p.1 p.2) l=true->∀b,VM l b ≠ []->f b (VM l b)=true
 | [],_,b,h=>absurd rfl h
 | (a,v)::r,hl,b,h=>by
  obtain⟨h1,h2⟩:=Zo (a:=f a v) (b:=yt (λp:Addr×List PV=>f p.1 p.2) r) hl;show f b (cond (Nat.beq b a) v (VM r b))=true;replace h:cond (Nat.beq b a) v (VM r b) ≠ []:=h
  cases e:Nat.beq b a with
  | true=>rw[Nat.eq_of_beq_eq_true e];exact h1
  | false=>rw[e] at h;exact Y6 h2 b h
noncomputable def gG(x:Option NameKind):Bool:=match x with | some .local=>true | _=>false
noncomputable def gD(x:Option NameKind):Bool:=match x with | some .cell=>true | _=>false
theorem Yu{x:Option NameKind}(h:gG x=true):x=some .local:=by
 induction x with
 | none=>exact ft h
 | some k=>induction k<;>first | rfl | exact ft h
noncomputable def tR(k:ScopeKind):Bool:=match k with | .function=>true | _=>false
theorem aW{k:ScopeKind}(h:tR k=true):k=.function:=by induction k<;>first | rfl | exact ft h
noncomputable def fnB(nm:Nat->Str)(d:FD)(ids:List Nat):Bool:=YH ids&&yt (λk=>gG (d.scope.names.lookup (nm k))) ids&&yt (λy=>!gD (some y.2)) d.scope.names && !d.scope.isCoroutine && !d.scope.isGenerator&&tR d.scope.kind
theorem aK{c:Addr}{q:String}{d:FD}{df:Value}(hl:G.K.lookup f=some (J4 d q df pm c))(hb:fnB G.X.nm d ids=true)(hc:codeIn G.K (.ref c) q=true)
  (Fi:∀(s:Shared) (aws:List Value),G.K.In s.heap->aws.length=ids.length->BindsTo s (fnOf d.name q d.args d.body d.scope df .none .none pm none (.ref c) .none) (ca aws) ((ids.map G.X.nm).zip aws)):FnOk G ca f ids q d.body d.scope (.ref c):=by
 refine byc λGa=>?_;obtain⟨hb,h6⟩:=za hb;obtain⟨hb,h5⟩:=za hb;obtain⟨hb,h4⟩:=za hb;obtain⟨hb,h3⟩:=za hb;obtain⟨h1,h2⟩:=za hb;refine Ga ?_;refine⟨⟨_,_,_,_,_,_,_,_,_,_,_,hl,Fi⟩,hc,JH h1,λk hk=>Yu (z0 h2 k hk),λx hx e=>?_,(Bool.not_eq_true' _).mp h4,(Bool.not_eq_true' _).mp h5,aW h6⟩
 have:=z0 h3 x hx
 rw[e] at this;exact ft this
theorem VZ{K:Frag}{nm:Nat->Str}(h:∀v S,peek K S (bindArgs fd ⟨[v],[]⟩)=some [(nm i,v)])(s:Shared)(aws:List Value)(hK:K.In s.heap)(hl:aws.length = [i].length):BindsTo s fd (Jv aws) (([i].map nm).zip aws):=by
 obtain⟨v,rfl⟩:=cJ hl;exact kp_binds hK (h v)
theorem sr{K:Frag}{nm:Nat->Str}{l:Nat}(h:∀u v w S,peek K S (bindArgs fd ⟨[u,v,w],[]⟩)=some [(nm i,u),(nm j,v),(nm l,w)])(s:Shared)(aws:List Value)(hK:K.In s.heap)(hl:aws.length = [i,j,l].length):BindsTo s fd (Jv aws) (([i,j,l].map nm).zip aws):=by
 refine zi (uj hl) λu v w Fy=>?_;subst Fy;exact kp_binds hK (h u v w)
theorem sx{K:Frag}{nm:Nat->Str}{n1 n2:Str}{l:Nat}(h:∀u v w S,peek K S (bindArgs fd ⟨[u],[(n1,v),(n2,w)]⟩)=some [(nm i,u),(nm j,v),(nm l,w)])(s:Shared)(aws:List Value)(hK:K.In s.heap)(hl:aws.length = [i,j,l].length):BindsTo s fd (Yd n1 n2 aws) (([i,j,l].map nm).zip aws):=by
 refine zi (uj hl) λu v w Fy=>?_;subst Fy;exact kp_binds hK (h u v w)
section
theorem PiOk.pin(ok:PiOk G P)(pn:Pn):PiOk (G.pin pn) P where
 tab:=ok.tab
 fnT:=ok.fnT
 atts:=λx hx=>let a:=ok.atts x hx;⟨a.pg,a.hd,a.fi,a.sa,a.po,a.tk⟩
 cis:=λp hp=>let⟨c,a⟩:=ok.cis p hp;⟨c,a.pg,a.hd,a.fi,a.ng,a.hh,a.cp,a.vr⟩
 cts:=λp hp=>let⟨c,a⟩:=ok.cts p hp;⟨c,a.pg,a.hd,a.fi,a.ng,a.hh,a.cp,a.vr⟩
 mths:=λp hp=>let a:=ok.mths p hp;⟨a.pg,a.hd,a.fi,a.fn,a.gf,a.tk,a.cp,a.ki,a.fk⟩
 tops:=ok.tops
 gis:=ok.gis
 blts:=λp hp=>let a:=ok.blts p hp;⟨a.hv,a.h1,a.h2,a.h3,a.h4,a.h4c,a.hn,a.hd⟩
 rngs:=λp hp=>let a:=ok.rngs p hp;⟨a.hv,a.h1,a.h2,a.h3,a.h4,a.h4c,a.hn,a.hd⟩
 enms:=λp hp=>let a:=ok.enms p hp;⟨a.hv,a.h1,a.h2,a.h3,a.h4,a.h4c,a.hn,a.hd⟩
 zips:=λp hp=>let a:=ok.zips p hp;⟨a.hv,a.h1,a.h2,a.h3,a.h4,a.h4c,a.hn,a.hd⟩
 dbg:=ok.dbg
 C:=ok.C
 ctor:=let⟨f,a⟩:=ok.ctor;⟨f,a.makes,a.init,a.fn,a.keep⟩
theorem HdS.pin{d:Nat}(hH:HdS G d H)(pn:Pn):HdS (G.pin pn) d H:=by
 intro ps f args O k h outer F0 env L A m s vs ws aws D hf hke F R hl Q hq;exact hH ps h D.unpin hf hke F R hl hq
theorem JQ.pin{d:Nat}{S:List PV->List PO->(PV->List PO->Prop)->Prop}(h:JQ G d f ca S)(pn:Pn):JQ (G.pin pn) d f ca S:=by
 intro ps args O k hs outer F0 env L A m s vs ws aws D hf hke F R hl Q hq;exact h ps hs D.unpin hf hke F R hl hq
theorem CtS.pin{d:Nat}(h:CtS G d P)(pn:Pn):CtS (G.pin pn) d P:=let⟨d',f,e,a,b⟩:=h;(jw d' f e ⟨a.makes,a.init,a.fn,a.keep⟩ (b.pin pn))
theorem aL{d:Nat}{c:Addr}{q:String}{D:FD}(ok:PiOk G P)(hC:CtS G d P)(h9:9<=d)(hb:HdS G d Hb)(okf:FnOk G ca f ids q D.body D.scope (.ref c))(Fn:P.cels = [])(harg:∀a,P.arg a=none)
  (hm:mSs G.X.nm P.toPm D.scope ir D.body) (ps:Pn) {A:Around} (D':Act (G.pin ps) outer F0 (envOf q D.scope L f (.ref c)) A d):SS (G.pin ps) A F0 L (execs D.body (envOf q D.scope L f (.ref c))) (pSs P Hb ir):=
 sSs (ok.pin ps) (hb.pin ps) (hC.pin ps) h9 D' ⟨lF okf.kind,rfl,rfl,λp hp=>(by rw[Fn] at hp;cases hp),λa xs e=>(by rw[harg] at e;cases e)⟩ ir hm
theorem tK{d:Nat}{c:Addr}{q:String}{D:FD}{S:List PV->List PO->(PV->List PO->Prop)->Prop}(ok:PiOk G P)(hC:CtS G d P)(h9:9<=d)(hb:HdS G d Hb)(hH:HdS G (d+1) H)(okf:FnOk G Jv f ids q D.body D.scope (.ref c))(Fn:P.cels = [])(harg:∀a,P.arg a=none)
  (hm:mSs G.X.nm P.toPm D.scope ir D.body) (hS:∀args hp k,S args hp k->zX ids (pSs P Hb ir) args hp k):HdS G (d+1) (H.ext f S):=
 HdS.ext hH okf (λps Z Z Z Z D'=>aL ok hC h9 hb okf Fn harg hm ps D') hS
theorem Al{d:Nat}{c:Addr}{q:String}{D:FD}{S:List PV->List PO->(PV->List PO->Prop)->Prop}(ok:PiOk G P)(hC:CtS G d P)(h9:9<=d)(hb:HdS G d Hb)(okf:FnOk G ca f ids q D.body D.scope (.ref c))(Fn:P.cels = [])(harg:∀a,P.arg a=none)
  (hm:mSs G.X.nm P.toPm D.scope ir D.body) (hS:∀args hp k,S args hp k->zX ids (pSs P Hb ir) args hp k):JQ G (d+1) f ca S:=
 JQ.of okf (λps Z Z Z Z D'=>aL ok hC h9 hb okf Fn harg hm ps D') hS
theorem X1{d:Nat}(h:CtorOk G fI)(hc:P.ctr=λZ Z Z=>False):CtS G (d+1) P:=(jw d fI rfl h (by rw[hc];intro ps args O k hk;exact hk.elim))
theorem JQ.le{d:Nat}{S:List PV->List PO->(PV->List PO->Prop)->Prop}(h:JQ G d f ca S)(hd:d<=d'):JQ G d' f ca S:=by
 intro ps args O k hs outer F0 env L A m s vs ws aws D;exact h ps hs (D.le hd)
theorem hd0{d:Nat}:HdS G d λZ Z Z Z=>False:=λZ Z Z Z Z h=>h.elim
end
noncomputable def cW(l:List Str)(i:Nat):Str:=match l[i]? with
 | some s=>s
 | none=>⟨⟨List.replicate (i+100) 0⟩⟩
noncomputable def Z1:Str->Str->Bool
 | ⟨⟨a⟩⟩,⟨⟨b⟩⟩=>lnB a b
where lnB:List Nat->List Nat->Bool
 | [],[]=>true
 | x::xs,y::ys=>cond (Nat.beq x y) (lnB xs ys) false
 | _,_=>false
theorem YB:∀l,Z1.lnB l l=true
 | []=>rfl
 | x::xs=>by show cond (Nat.beq x x) (Z1.lnB xs xs) false=true;rw[Nat.beq_refl];exact YB xs
theorem du(a:Str):Z1 a a=true:=YB _
noncomputable def nL:List Str->Bool
 | []=>true
 | a::r=>cond (r.any (Z1 a)) false (cond (Nat.ble 100 a.cps.toList.length) false (nL r))
theorem bo:∀{l:List Str},nL l=true->l.Nodup /\ ∀a∈l,a.cps.toList.length<100
 | [],_=>⟨List.nodup_nil,λZ h=>nomatch h⟩
 | a::r,h=>by
  replace h:cond (r.any (Z1 a)) false (cond (Nat.ble 100 a.cps.toList.length) false (nL r))=true:=h
  cases e:r.any (Z1 a) with
  | true=>rw[e] at h;cases h
  | false =>
   cases e2:Nat.ble 100 a.cps.toList.length with
   | true=>rw[e,e2] at h;cases h
   | false =>
    rw[e,e2] at h;obtain⟨h1,h2⟩:=bo h;refine⟨List.nodup_cons.mpr ⟨λhm=>?_,h1⟩,λb hb=>?_⟩
    ·have:r.any (Z1 a)=true:=List.any_eq_true.mpr ⟨a,hm,du a⟩
     rw[e] at this;cases this
    ·rcases List.mem_cons.mp hb with rfl | hb
     ·have:=Nat.lt_of_not_le (λq=>by rw[Nat.ble_eq_true_of_le q] at e2;cases e2);exact this
     ·exact h2 b hb
theorem ia{l:List Str}(h:nL l=true)(i j:Nat)(e:cW l i=cW l j):i=j:=by
 obtain⟨h1,h2⟩:=bo h;unfold cW at e
 cases ei:l[i]? with
 | some a =>
  rw[ei] at e
  cases ej:l[j]? with
  | some b =>
   rw[ej] at e;subst e;obtain⟨p,q⟩:=List.getElem?_eq_some_iff.mp ei;obtain⟨p',q'⟩:=List.getElem?_eq_some_iff.mp ej;exact(List.getElem_inj h1).mp (q.trans q'.symm)
  | none =>
   rw[ej] at e
   have:=h2 a (List.mem_of_getElem? ei)
   subst e
   have:(List.replicate (j+100) 0).length<100:=this
   rw[List.length_replicate] at this
   lia
 | none =>
  rw[ei] at e
  cases ej:l[j]? with
  | some b =>
   rw[ej] at e
   have:=h2 b (List.mem_of_getElem? ej)
   subst e
   have:(List.replicate (i+100) 0).length<100:=this
   rw[List.length_replicate] at this
   lia
  | none =>
   rw[ej] at e;have e2:(List.replicate (i+100) 0)=List.replicate (j+100) 0:=congrArg (λz:Str=>z.cps.toList) e
   have:=congrArg List.length e2
   rw[List.length_replicate,List.length_replicate] at this
   lia
theorem nK{l:List Str}{s:Str}(h:l.contains s=false)(hs:s.cps.toList.head?≠some 0)(i:Nat):(cW l i==s)=false:=by
 rw[beq_eq_false_iff_ne];intro e;unfold cW at e
 cases ei:l[i]? with
 | some a =>
  rw[ei] at e;subst e;rw[List.contains_iff_mem.mpr (List.mem_of_getElem? ei)] at h
  cases h
 | none =>
  rw[ei] at e
  apply hs
  rw[<- e];rfl
theorem Eb{xs:List α}(h:xs.length=4):∃a b c d,xs = [a,b,c,d]:=by
 match xs,h with
 | [a,b,c,d],_=>exact(zm a b c (aT d rfl))
theorem su{K:Frag}{nm:Nat->Str}{l o:Nat}(h:∀u v w x S,peek K S (bindArgs fd ⟨[u,v,w,x],[]⟩)=some [(nm i,u),(nm j,v),(nm l,w),(nm o,x)])(s:Shared)(aws:List Value)(hK:K.In s.heap)(hl:aws.length = [i,j,l,o].length):BindsTo s fd (Jv aws) (([i,j,l,o].map nm).zip aws):=by
 refine zi (Eb hl) λu v w Gb=>zI Gb λx Fy=>?_;subst Fy;exact kp_binds hK (h u v w x)
noncomputable def Hd.or(H H':Hd):Hd:=λf args hp k=>H f args hp k∨H' f args hp k
section
theorem HdS.or{d:Nat}{H':Hd}(h:HdS G d H)(h':HdS G d H'):HdS G d (H.or H'):=by
 intro ps f args O k hk
 rcases hk with hk | hk
 ·exact h ps hk
 ·exact h' ps hk
theorem gE{x:Option NameKind}(h:gD x=true):x=some .cell:=by
 induction x with
 | none=>exact ft h
 | some k=>induction k<;>first | rfl | exact ft h
end
noncomputable def qH:List (Nat×Nat×Nat):=[(9,0,0),(41,1,0),(73,2,0),(105,3,0),(169,5,0),(201,6,0),(233,4,0),(162,7,0),(224,8,0),(5,0,1),(37,1,1),(69,2,1),(101,3,1),(133,9,1),(165,5,1),(197,6,1),(229,4,1),(6,11,1),(38,12,1),(70,13,1),(102,14,1),(198,15,1),(230,16,1),(134,10,1),(166,7,1),(228,8,1),(36,17,1),(21,0,2),(53,1,2),(85,2,2),(117,3,2),(181,5,2),(213,6,2),(245,4,2),(10,11,3),(42,12,3),(74,13,3),(106,14,3),(24,18,3),(56,19,3),(184,20,3),(88,21,3),(120,22,3),(170,23,3),(138,24,3),(232,25,3),(202,26,3),(72,27,3),(104,28,3),(186,29,3),(154,30,3),(8,31,3),(234,32,3)]
noncomputable def jg:Nat->Str
 | 0=>⟨⟨[111,114]⟩⟩
 | 1=>⟨⟨[97,110,100]⟩⟩
 | 2=>⟨⟨[100,105,102,102,101,114]⟩⟩
 | 3=>⟨⟨[97,100,100]⟩⟩
 | 4=>⟨⟨[116,97,107,101]⟩⟩
 | 5=>⟨⟨[108,111,97,100]⟩⟩
 | 6=>⟨⟨[111,114,100,101,114]⟩⟩
 | 7=>⟨⟨[108,111,97,100,32,120]⟩⟩
 | 8=>⟨⟨[111,114,100,101,114,32,120]⟩⟩
 | 9=>⟨⟨[115,116,111,114,101]⟩⟩
 | 10=>⟨⟨[115,116,111,114,101,32,120]⟩⟩
 | 11=>⟨⟨[108,101,102,116]⟩⟩
 | 12=>⟨⟨[108,101,102,116,32,114,111,117,110,100]⟩⟩
 | 13=>⟨⟨[114,105,103,104,116]⟩⟩
 | 14=>⟨⟨[114,105,103,104,116,32,114,111,117,110,100]⟩⟩
 | 15=>⟨⟨[100,111,119,110]⟩⟩
 | 16=>⟨⟨[117,112]⟩⟩
 | 17=>⟨⟨[108,111,111,107]⟩⟩
 | 18=>⟨⟨[99,108,101,97,114,32,48]⟩⟩
 | 19=>⟨⟨[115,101,116,32,48]⟩⟩
 | 20=>⟨⟨[99,108,101,97,114,32,54]⟩⟩
 | 21=>⟨⟨[99,108,101,97,114,32,50]⟩⟩
 | 22=>⟨⟨[115,101,116,32,50]⟩⟩
 | 23=>⟨⟨[97,32,116,111,32,120]⟩⟩
 | 24=>⟨⟨[120,32,116,111,32,97]⟩⟩
 | 25=>⟨⟨[117,112,32,120]⟩⟩
 | 26=>⟨⟨[100,111,119,110,32,120]⟩⟩
 | 27=>⟨⟨[112,117,115,104]⟩⟩
 | 28=>⟨⟨[112,117,108,108]⟩⟩
 | 29=>⟨⟨[116,111,112,32,116,111,32,120]⟩⟩
 | 30=>⟨⟨[120,32,116,111,32,116,111,112]⟩⟩
 | 31=>⟨⟨[112,117,115,104,32,102,108,97,103,115]⟩⟩
 | _=>⟨⟨[110,111,116,104,105,110,103]⟩⟩
noncomputable def yZ:Nat->Str
 | 0=>⟨⟨[35]⟩⟩
 | 1=>⟨⟨[122]⟩⟩
 | 2=>⟨⟨[122,44,120]⟩⟩
 | _=>⟨⟨[]⟩⟩
noncomputable def yk:Str:=⟨⟨[47,99,108,97,105,109,47,99,117,116,46,112,121]⟩⟩
noncomputable def rwO(a:Nat)(r:Nat×Nat×Nat):Obj:=⟨.type "tuple",none,.seq #[.int (r.1:Int) a,.str (jg r.2.1) (a+1),.str (yZ r.2.2) (a+2)] 0,#[]⟩
noncomputable def rwL:Nat->List (Nat×Nat×Nat)->List Obj
 | a,r::l=>rwO a r::rwL (a+3) l
 | _,[]=>[]
noncomputable def rwF:List Obj:=rwL 2251 qH
noncomputable def bK:List Str->List Str->Bool
 | [],[]=>true
 | a::r,b::q=>(a==b)&&bK r q
 | _,_=>false
theorem Y4:∀{a b:List Str},bK a b=true->a=b
 | [],[],_=>rfl
 | [],_::_,h=>ft h
 | _::_,[],h=>ft h
 | a::r,b::q,h=>by
  obtain⟨h1,h2⟩:=za (show((a==b)&&bK r q)=true from h)
  rw[eq_of_beq h1,Y4 h2]
noncomputable def sI(ids cids:List Nat)(nm:Nat->Str)(sc:Scope):Bool:=yt (λk=>cond (cids.any (Nat.beq k)) true (gG (sc.names.lookup (nm k)))) ids
noncomputable def Ai(nm:Nat->Str)(d:FD)(ids cids:List Nat):Bool:=YH ids&&(YH cids&&(sI ids cids nm d.scope&&(bK ((cellsFrom 0 d.scope.names []).map (·.1)) (cids.map nm)&&(yt (λc=>gD (d.scope.names.lookup (nm c))) cids&&(!d.scope.isCoroutine&&(!d.scope.isGenerator&&tR d.scope.kind))))))
section
theorem Vk{c:Addr}{q:String}{d:FD}{df:Value}(hl:G.K.lookup f=some (J4 d q df pm c))(hb:Ai G.X.nm d ids cids=true)(hc:codeIn G.K (.ref c) q=true)
  (Fi:∀(s:Shared) (aws:List Value),G.K.In s.heap->aws.length=ids.length->BindsTo s (fnOf d.name q d.args d.body d.scope df .none .none pm none (.ref c) .none) (ca aws) ((ids.map G.X.nm).zip aws)):FnOkC G ca f ids cids q d.body d.scope (.ref c):=by
 refine byc λGa=>?_;refine zh (za hb) λh1 hb=>?_;refine zh (za hb) λh2 hb=>?_;refine zh (za hb) λh3 hb=>?_;refine zh (za hb) λh4 hb=>?_;refine zh (za hb) λh5 hb=>?_;refine zh (za hb) λh6 hb=>?_;refine zh (za hb) λh7 h8=>?_;have Fn:∀c∈cids,d.scope.names.lookup (G.X.nm c)=some .cell:=λc hc=>gE (z0 h5 c hc);refine Ga ?_;have hloc:∀k∈ids,k∉cids->d.scope.names.lookup (G.X.nm k)=some .local:=λk hk hn=>by
  have:=z0 h3 k hk
  cases e:cids.any (Nat.beq k) with
  | true=>exact absurd (VV e) hn
  | false=>rw[e] at this;exact Yu this
 refine⟨⟨_,_,_,_,_,_,_,_,_,_,_,hl,Fi⟩,hc,JH h1,λk hk=>?_,Y4 h4,Fn,hloc,JH h2,(Bool.not_eq_true' _).mp h6,(Bool.not_eq_true' _).mp h7,aW h8⟩
 by_cases hm:k∈cids
 ·exact .inr (Fn k hm)
 ·exact .inl (hloc k hk hm)
noncomputable def Jk(n:Nat):List Nat->List (Nat×Nat)
 | []=>[]
 | c::r=>(c,n)::Jk (n+1) r
theorem Vg:∀{cids:List Nat} {n:Nat} {p:Nat×Nat},p∈Jk n cids->∃j,cids[j]?=some p.1/\p.2=n+j
 | c::r,n,p,h=>by
  cases h with
  | head=>exact(zv 0 rfl rfl)
  | tail _ h =>
   refine zd (Vg h) λj h1 h2=>?_;exact(zv (j+1) h1 (by rw[h2,Nat.add_assoc,Nat.add_comm 1 j]))
theorem UB{d:Nat}{P:Nat->Pi}{c:Addr}{q:String}{D:FD}{S:List PV->List PO->(PV->List PO->Prop)->Prop}(ok:∀n,PiOk G (P n))(hC:∀n,CtS G d (P n))(h9:9<=d)(hb:HdS G d Hb)(hH:HdS G (d+1) H)(okf:FnOkC G Jv f ids cids q D.body D.scope (.ref c))(Fn:∀n,(P n).cels=Jk 0 cids)(Fx:∀n,(P n).base=n)(harg:∀n a,(P n).arg a=none)
  (hm:∀n,mSs G.X.nm (P n).toPm D.scope ir D.body) (hS:∀args hp k,S args hp k->Yb ids cids (λn=>pSs (P n) Hb ir) args hp k):HdS G (d+1) (H.ext f S):=by
 intro ps g args O k h;unfold Hd.ext at h
 cases e:Nat.beq g f with
 | false=>rw[e] at h;exact hH ps h
 | true =>
  rw[e] at h;obtain rfl:=Nat.eq_of_beq_eq_true e;intro outer F0 env L A m s vs ws aws D' hf hke F R hl Q hq;refine mw (G:=G.pin ps) (okf.pin ps) (λn cl outer F0 L A hcl D2=>?_) (hS _ _ _ h) (D'.pin ps) hf hke F R hl hq;refine sSs ((ok n).pin ⟨ps.ps,ps.ks,cl⟩) (hb.pin ⟨ps.ps,ps.ks,cl⟩) ((hC n).pin ⟨ps.ps,ps.ks,cl⟩) h9 D2 ⟨X5 okf.kind,rfl,rfl,λp hp hs=>?_,λa xs e=>(by rw[harg] at e;cases e)⟩ ir (hm n)
  rw[Fn] at hp;refine zd (Vg hp) λj h1 h2=>?_;rw[Fx,h2,Nat.zero_add];refine zd (hcl j p.1 h1) λc h3 h4=>?_;exact⟨(zv c h3 h4),okf.ckind _ (List.mem_of_getElem? h1)⟩
end
structure St where
 fr:List Obj
 tl:List Obj
 n:Nat
 toks:Nat
 cnt:Nat
 pos:Pos
variable {hc:Code->List (Code×Pos)->St->Option (Flow×St)}
variable {S S' S'' H8:St}
noncomputable def lAt{α:Type}:List α->Nat->Option α
 | [],_=>none
 | x::_,0=>some x
 | _::r,i+1=>lAt r i
noncomputable def yJ{α:Type}(f:α->α):List α->Nat->List α
 | [],_=>[]
 | x::r,0=>f x::r
 | x::r,i+1=>x::yJ f r i
theorem Xc{α:Type}:∀(l:List α) (i:Nat),lAt l i=l[i]?
 | [],_=>rfl
 | x::r,0=>rfl
 | x::r,i+1=>Xc r i
theorem UM{α:Type}(f:α->α):∀(l:List α) (i j:Nat),(yJ f l i)[j]?=if i=j then (l[j]?).map f else l[j]?
 | [],i,j=>(ite_self (none:Option α)).symm
 | x::r,0,0=>rfl
 | x::r,0,j+1=>rfl
 | x::r,i+1,0=>rfl
 | x::r,i+1,j+1=>by
  refine(UM f r i j).trans ?_
  by_cases e:i=j
  ·rw[if_pos e,if_pos (congrArg (· + 1) e)];rfl
  ·rw[if_neg e,if_neg (λh=>e (Nat.succ.inj h))];rfl
theorem jE{α:Type}(f:α->α):∀(l:List α) (i:Nat),(yJ f l i).length=l.length
 | [],_=>rfl
 | x::r,0=>rfl
 | x::r,i+1=>congrArg (· + 1) (jE f r i)
noncomputable def z8(fr tl:List Obj)(n a:Nat):Option Obj:=match lAt fr a with
 | some o=>alive o
 | none=>match Nat.blt a n with
  | true=>(match lAt tl (Nat.sub (Nat.sub n 1) a) with | some o=>alive o | none=>none)
  | false=>none
noncomputable def okU(a:Nat):Bool:=Nat.ble 11 a||Nat.beq a 3||Nat.beq a 2
noncomputable def yc(o:Option α)(f:α->Option β):Option β:=match o with | some a=>f a | none=>none
theorem QD{o:Option α}{f g:α->Option β}(h:∀x,f x=g x):yc o f=yc o g:=by induction o with | none=>rfl | some x=>exact h x
theorem Vx{γ:Type}{o:Option α}{f:α->Option β}{g:β->Option γ}:yc (yc o f) g=yc o λx=>yc (f x) g:=by induction o<;>rfl
theorem V3{c:Bool}{a b a' b':α}(h:a=a')(k:b=b'):cond c a b=cond c a' b':=by rw[h,k]
theorem JI{o:Option α}{f:α->Option β}{b:β}(h:yc o f=some b):∃a,o=some a/\f a=some b:=by
 induction o with
 | none=>cases h
 | some a=>exact⟨a,rfl,h⟩
theorem au{c:Bool}{a:Option α}{b:α}(h:cond c a none=some b):c=true/\a=some b:=by
 induction c with
 | false=>cases h
 | true=>exact⟨rfl,h⟩
section
variable (p:Program)(P:Params)(hc:Code->List (Code×Pos)->St->Option (Flow×St))(code:Code)(stk:List (Code×Pos))
noncomputable def zj{α:Type}:Sem α->St->Option (α×St)
 | .pure a,S=>some (a,S)
 | .rule _ k,⟨fr,tl,n,t,c,q⟩=>zj (k ()) ⟨fr,tl,n,t,c+1,q⟩
 | .at q' k,⟨fr,tl,n,t,c,q⟩=>zj (k ()) ⟨fr,tl,n,t,c+1,q'⟩
 | .load a _ k,⟨fr,tl,n,t,c,q⟩=>yc (z8 fr tl n a) λo=>zj (k o) ⟨fr,tl,n,t,c+1,q⟩
 | .update a _ f k,⟨fr,tl,n,t,c,q⟩=>cond (okU a) (yc (z8 fr tl n a) λZ=>cond (Nat.blt a fr.length) (zj (k ()) ⟨yJ f fr a,tl,n,t,c+1,q⟩) (zj (k ()) ⟨fr,yJ f tl (Nat.sub (Nat.sub n 1) a),n,t,c+1,q⟩)) none
 | .alloc o k,⟨fr,tl,n,t,c,q⟩=>zj (k n) ⟨fr,o::tl,n+1,t,c+1,q⟩
 | .point _ k,⟨fr,tl,n,t,c,q⟩=>zj (k ()) ⟨fr,tl,n,t,c+1,q⟩
 | .fresh k,⟨fr,tl,n,t,c,q⟩=>zj (k t) ⟨fr,tl,n,t+1,c+1,q⟩
 | .ask k,⟨fr,tl,n,t,c,q⟩=>zj (k ⟨p,P⟩) ⟨fr,tl,n,t,c+1,q⟩
 | .stack k,⟨fr,tl,n,t,c,q⟩=>zj (k ((code,q)::stk)) ⟨fr,tl,n,t,c+1,q⟩
 | .call c' _ _ _ k,⟨fr,tl,n,t,c,q⟩=>yc (hc c' ((code,q)::stk) ⟨fr,tl,n,t,c+1,q⟩) λr=>match r with
  | (f,⟨fr',tl',n',t',c',_⟩)=>zj (k (.ok f)) ⟨fr',tl',n',t',c',q⟩
 | _,_=>none
structure BC(α:Type)where
 b:List Stmt
 env:Env
 h:Option Value
 g:Bool
 l:List Value
 k:Result->Sem α
noncomputable def jX{α:Type}:Sem α->St->Option (BC α×St)
 | .rule _ k,⟨fr,tl,n,t,c,q⟩=>jX (k ()) ⟨fr,tl,n,t,c+1,q⟩
 | .at q' k,⟨fr,tl,n,t,c,q⟩=>jX (k ()) ⟨fr,tl,n,t,c+1,q'⟩
 | .load a _ k,⟨fr,tl,n,t,c,q⟩=>yc (z8 fr tl n a) λo=>jX (k o) ⟨fr,tl,n,t,c+1,q⟩
 | .update a _ f k,⟨fr,tl,n,t,c,q⟩=>cond (okU a) (yc (z8 fr tl n a) λZ=>cond (Nat.blt a fr.length) (jX (k ()) ⟨yJ f fr a,tl,n,t,c+1,q⟩) (jX (k ()) ⟨fr,yJ f tl (Nat.sub (Nat.sub n 1) a),n,t,c+1,q⟩)) none
 | .alloc o k,⟨fr,tl,n,t,c,q⟩=>jX (k n) ⟨fr,o::tl,n+1,t,c+1,q⟩
 | .point _ k,⟨fr,tl,n,t,c,q⟩=>jX (k ()) ⟨fr,tl,n,t,c+1,q⟩
 | .fresh k,⟨fr,tl,n,t,c,q⟩=>jX (k t) ⟨fr,tl,n,t+1,c+1,q⟩
 | .ask k,⟨fr,tl,n,t,c,q⟩=>jX (k ⟨p,P⟩) ⟨fr,tl,n,t,c+1,q⟩
 | .stack k,⟨fr,tl,n,t,c,q⟩=>jX (k ((code,q)::stk)) ⟨fr,tl,n,t,c+1,q⟩
 | .call c' h g l k,⟨fr,tl,n,t,c,q⟩=>(match c' with
  | .body b env=>some (⟨b,env,h,g,l,k⟩,⟨fr,tl,n,t,c,q⟩)
  | c'=>yc (hc c' ((code,q)::stk) ⟨fr,tl,n,t,c+1,q⟩) λr=>match r with
   | (f,⟨fr',tl',n',t',c',_⟩)=>jX (k (.ok f)) ⟨fr',tl',n',t',c',q⟩)
 | _,_=>none
end
noncomputable def ZM:Code->Bool
 | .builtin id _=>!id.startsWith "lifetime."
 | _=>true
noncomputable def hcN(rec:Code->St->Option (Flow×St))(stk:List (Code×Pos))(r:PySem.Fin×St):Option (Flow×St):=match r with
 | (.done f,⟨fr,tl,n,t,c',q⟩)=>some (f,⟨fr,tl,n,t,c'+1,q⟩)
 | (.again d,⟨fr,tl,n,t,c',q⟩)=>cond (ZM d) (rec d ⟨fr,tl,n,t,c'+1,q⟩) none
noncomputable def hcF(p:Program)(P:Params):Nat->Code->List (Code×Pos)->St->Option (Flow×St)
 | 0,_,_,_=>none
 | m+1,c,stk,S=>yc (zj p P (hcF p P m) c stk (denote treeTable c) S) (hcN (λd=>hcF p P m d stk) stk)
noncomputable def St.sh(S:St)(life:Life)(drawn:Drawn)(os:OsState):Shared:=⟨⟨(S.fr++S.tl.reverse).toArray,life⟩,#[],drawn,S.toks,os⟩
def St.inv(S:St):Prop:=S.n=S.fr.length+S.tl.length
theorem ar8{n a f t:Nat}(i:n=f+t)(h:f<=a)(h2:a<n):a-f<t/\t-1-(a-f)=n-1-a:=by
 refine zI (Nat.exists_eq_add_of_le h) λx Fy=>?_;subst Fy;subst i;rw[Nat.add_sub_cancel_left,Nat.sub_sub,Nat.sub_sub,Nat.add_left_comm,Nat.add_sub_add_left];exact⟨Nat.lt_of_add_lt_add_left h2,rfl⟩
theorem ar9{n a f t:Nat}(i:n=f+t)(h:f<=a)(h2:¬ a<n):t<=a-f:=Nat.le_sub_of_add_le (Nat.add_comm t f▸i▸Nat.le_of_not_lt h2)
theorem Cp(i:S.inv)(a:Nat):(S.fr++S.tl.reverse)[a]?=match S.fr[a]? with
  | some o=>some o
  | none=>if a<S.n then S.tl[S.n-1-a]? else none:=by
 unfold St.inv at i
 cases e:S.fr[a]? with
 | some o =>
  have:=(List.getElem?_eq_some_iff.mp e).1
  rw[List.getElem?_append_left this];exact e
 | none =>
  have h1:S.fr.length<=a:=List.getElem?_eq_none_iff.mp e;rw[List.getElem?_append_right h1]
  by_cases h:a<S.n
  ·simp only[h,if_true]
   rw[List.getElem?_reverse (ar8 i h1 h).1,(ar8 i h1 h).2]
  ·simp only[h,if_false]
   apply List.getElem?_eq_none
   rw[List.length_reverse];exact ar9 i h1 h
theorem tD{a:Nat}{o:Obj}(e:h.objs[a]?=some o):h.get? a=alive o:=by
 unfold Heap.get?;rw[e];obtain⟨c,d,dt,sl⟩:=o
 induction dt<;>rfl
theorem QW(i:S.inv){a:Nat}{o:Obj}{life:Life}{drawn:Drawn}{os:OsState}(h:z8 S.fr S.tl S.n a=some o):(S.sh life drawn os).heap.get? a=some o:=by
 unfold z8 at h;rw[Xc] at h;have key:∀o',(S.fr++S.tl.reverse)[a]?=some o'->alive o'=some o->(S.sh life drawn os).heap.get? a=some o:=by
  intro o' e1 e2;rw[tD (o:=o') (by simpa [St.sh] using e1)];exact e2
 have hat:=Cp i a
 cases e:S.fr[a]? with
 | some o'=>rw[e] at h hat;exact key o' hat h
 | none =>
  rw[e] at h hat
  cases hb:Nat.blt a S.n with
  | false=>rw[hb] at h;cases h
  | true =>
   rw[hb] at h;have lt:a<S.n:=Nat.le_of_ble_eq_true hb;simp only[lt,if_true] at hat;rw[Xc] at h
   cases e2:S.tl[S.n-1-a]? with
   | none=>simp only[show Nat.sub (Nat.sub S.n 1) a=S.n-1-a from rfl,e2] at h;cases h
   | some o' =>
    simp only[show Nat.sub (Nat.sub S.n 1) a=S.n-1-a from rfl,e2] at h
    rw[e2] at hat;exact key o' hat h
theorem ar1{a b c:Nat}(h:a<=b)(k:b<=c):b-a+(c-b)=c-a:=(Nat.add_comm _ _).trans (Nat.sub_add_sub_cancel k h)
theorem ar2{a b:Nat}(h:a+1<=b):b-(a+1)+1=b-a:=Nat.sub_add_cancel (n:=b-a) (m:=1) (Nat.sub_pos_of_lt h)
theorem ar3{a b:Nat}(h:a<=b):b-a+(0+1)=b+1-a:=(Nat.succ_sub h).symm
theorem ar5{n a f t:Nat}(i:n=f+t)(h:¬ a<f)(h2:a<n)(hj:¬ j<f)(hn:j<n):j-f<t/\(n-1-a=t-1-(j-f)↔a=j):=by
 obtain⟨x,rfl⟩:=Nat.exists_eq_add_of_le (Nat.le_of_not_lt h);obtain⟨y,rfl⟩:=Nat.exists_eq_add_of_le (Nat.le_of_not_lt hj);subst i;have hx:=Nat.lt_of_add_lt_add_left h2;have hy:=Nat.lt_of_add_lt_add_left hn;rw[Nat.add_sub_cancel_left]
 refine⟨hy,?_⟩;rw[Nat.sub_sub,Nat.add_comm 1,Nat.add_assoc,Nat.add_sub_add_left,Nat.sub_sub,Nat.add_comm 1 y]
 constructor
 ·intro e
  have:x=y:=by
   clear h2 hn h hj
   omega
  rw[this]
 ·intro e
  rw[Nat.add_left_cancel e]
theorem ar6{n f t:Nat}(i:n=f+t)(hj:¬ j<f)(hn:¬ j<n):t<=j-f:=by omega
theorem wL{a:Nat}{f:Obj->Obj}(h:a<S.fr.length){life:Life}:(Heap.mk (S.fr++S.tl.reverse).toArray life).update a f=⟨(yJ f S.fr a++S.tl.reverse).toArray,life⟩:=by
 show Heap.mk _ _=Heap.mk _ _;refine congrArg (λz=>Heap.mk z life) (Array.ext_getElem? λj=>?_);rw[Array.getElem?_modify,List.getElem?_toArray,List.getElem?_toArray];have hl:=jE f S.fr a
 by_cases hj:j<S.fr.length
 ·rw[List.getElem?_append_left hj,List.getElem?_append_left (hl.symm▸hj),UM]
 ·rw[List.getElem?_append_right (Nat.le_of_not_lt hj),List.getElem?_append_right (hl.symm▸Nat.le_of_not_lt hj),hl,if_neg (λ(e:a=j)=>hj (e▸h))]
theorem wN(i:S.inv){a:Nat}{f:Obj->Obj}(h:¬ a<S.fr.length)(h2:a<S.n){life:Life}:(Heap.mk (S.fr++S.tl.reverse).toArray life).update a f=⟨(S.fr++(yJ f S.tl (S.n-1-a)).reverse).toArray,life⟩:=by
 show Heap.mk _ _=Heap.mk _ _;refine congrArg (λz=>Heap.mk z life) (Array.ext_getElem? λj=>?_);rw[Array.getElem?_modify,List.getElem?_toArray,List.getElem?_toArray]
 by_cases hj:j<S.fr.length
 ·rw[List.getElem?_append_left hj,List.getElem?_append_left hj,if_neg (λ(e:a=j)=>h (e▸hj))]
 ·rw[List.getElem?_append_right (Nat.le_of_not_lt hj),List.getElem?_append_right (Nat.le_of_not_lt hj)]
  by_cases hn:j<S.n
  ·obtain⟨k,e⟩:=ar5 i h h2 hj hn
   rw[List.getElem?_reverse k,List.getElem?_reverse (by rw[jE];exact k),UM,jE]
   by_cases q:a=j
   ·rw[if_pos q,if_pos (e.mpr q)]
   ·rw[if_neg q,if_neg (λx=>q (e.mp x))]
  ·have k:=ar6 i hj hn
   rw[List.getElem?_eq_none (by rw[List.length_reverse];exact k),List.getElem?_eq_none (by rw[List.length_reverse,jE];exact k)]
   exact ite_self _
section
variable {p:Program}{w:World}
def jk(p:Program)(w:World)(m:Nat)(s:Shared)(t:Thread)(s':Shared)(t':Thread):Prop:=
 ∀N r,topRun treeTable p w 11 (some (.ref 6)) N s' t'=some r->topRun treeTable p w 11 (some (.ref 6)) (m+N) s t=some r
theorem jk.refl{t:Thread}:jk p w 0 s t s t:=λN r h=>by rw[Nat.zero_add];exact h
theorem jk.trans{m m':Nat}{s'':Shared}{t t' t'':Thread}(a:jk p w m s t s' t')(b:jk p w m' s' t' s'' t''):jk p w (m+m') s t s'' t'':=
 λN r h=>by rw[Nat.add_assoc];exact a _ _ (b _ _ h)
theorem jk.step{m:Nat}{s'':Shared}{t t' t'':Thread}(h1:through t=false)(h2:stepOk 11 (some (.ref 6)) t=true)(h3:PySem.step (denote treeTable) p w s t=.go s' t')(b:jk p w m s' t' s'' t''):jk p w (m+1) s t s'' t'':=by
 intro N r h;rw[show m+1+N=(m+N)+1 by lia]
 unfold topRun;rw[h1,h2,h3];exact b _ _ h
theorem jk.of_eq{m m':Nat}{t t':Thread}(a:jk p w m s t s' t')(e:m=m'):jk p w m' s t s' t':=e▸a
structure Ev(p:Program)(w:World)(code:Code)(stk:List (Code×Pos)){α:Type}(x:Sem α)(S:St)(a:α)(S':St):Prop where
 inv:S'.inv
 le:S.cnt<=S'.cnt
 go:∀{K:α->Sem Fin} {H:Value->Sem Fin} {gd:Bool->Bool} {lv:List Value->List Value} {B:List Frame} {life:Life} {dr:Drawn} {os:OsState},B.map Frame.where_=stk ->
  jk p w (S'.cnt-S.cnt) (S.sh life dr os) ⟨x.wrap K H gd lv,code,S.pos,B⟩ (S'.sh life dr os) ⟨K a,code,S'.pos,B⟩
structure Cl(p:Program)(w:World)(c:Code)(stk:List (Code×Pos))(S:St)(f:Flow)(S':St):Prop where
 inv:S'.inv
 le:S.cnt<=S'.cnt
 go:∀{k:Result->Sem Fin} {h:Option Value} {g:Bool} {l:List Value} {cd:Code} {pp:Pos} {kept:List Value} {B:List Frame} {life:Life} {dr:Drawn} {os:OsState},(cd,pp)::B.map Frame.where_=stk ->
  jk p w (S'.cnt-S.cnt) (S.sh life dr os) ⟨denote treeTable c,c,S.pos,.ret k h g l cd pp kept::B⟩ (S'.sh life dr os) ⟨k (.ok f),cd,pp,B⟩
theorem Ev.pure{code:Code}{a:α}(i:S.inv):Ev p w code stk (Sem.pure a) S a S:=
 ⟨i,Nat.le_refl _,λZ=>jk.of_eq jk.refl (Nat.sub_self _).symm⟩
theorem Ev.bind{code:Code}{x:Sem α}{f:α->Sem β}{a:α}{b:β}(h:Ev p w code stk x S a S')(k:Ev p w code stk (f a) S' b S''):Ev p w code stk (x.bind f) S b S'':=by
 refine⟨k.inv,Nat.le_trans h.le k.le,λ{K H gd lv B life dr os} hB=>?_⟩;rw[Sem.bind_eq_wrap,Sem.wrap_wrap];exact jk.of_eq ((h.go (K:=λa=>(f a).wrap K H gd lv) (H:=λe=>(Sem.raise e:Sem β).wrap K H gd lv) (gd:=λg=>gd (id g)) (lv:=λl=>lv (id l)) hB).trans (k.go hB)) (ar1 h.le k.le)
theorem Ev.onRaise{code:Code}{x:Sem α}{f:Value->Sem Unit}{a:α}(h:Ev p w code stk x S a S'):Ev p w code stk (x.onRaise f) S a S':=by
 refine⟨h.inv,h.le,λ{K H gd lv B life dr os} hB=>?_⟩;rw[Sem.onRaise_eq_wrap,Sem.wrap_wrap];exact h.go (K:=λa=>(Sem.pure a:Sem α).wrap K H gd lv) hB
def Stp(p:Program)(w:World)(code:Code)(stk:List (Code×Pos))(x:Sem α)(S:St)(y:Sem α)(G7:St):Prop:=G7.cnt=S.cnt+1 /\
 ∀(K:α->Sem Fin) (H:Value->Sem Fin) (gd:Bool->Bool) (lv:List Value->List Value) (B:List Frame) (life:Life) (dr:Drawn) (os:OsState),B.map Frame.where_=stk->through ⟨x.wrap K H gd lv,code,S.pos,B⟩=false/\stepOk 11 (some (.ref 6)) ⟨x.wrap K H gd lv,code,S.pos,B⟩=true /\
   PySem.step (denote treeTable) p w (S.sh life dr os) ⟨x.wrap K H gd lv,code,S.pos,B⟩=.go (G7.sh life dr os) ⟨y.wrap K H gd lv,code,G7.pos,B⟩
theorem Ev.step{code:Code}{x y:Sem α}{a:α}{G7:St}(s:Stp p w code stk x S y G7)(h:Ev p w code stk y G7 a S'):Ev p w code stk x S a S':=by
 have hl:=h.le;rw[s.1] at hl;refine⟨h.inv,Nat.le_of_succ_le hl,λ{K H gd lv B life dr os} hB=>?_⟩;refine yn (s.2 K H gd lv B life dr os hB) λh1 h2 h3=>?_;exact jk.of_eq (jk.step h1 h2 h3 (h.go hB)) (s.1▸ar2 hl)
section
variable {code:Code}{fr tl:List Obj}{n t c:Nat}
theorem Y2{r:String}{k:Unit->Sem α}:Stp p w code stk (.rule r k) ⟨fr,tl,n,t,c,q⟩ (k ()) ⟨fr,tl,n,t,c+1,q⟩:=⟨rfl,λZ Z Z Z Z Z Z Z Z=>⟨Bool.and_false _,rfl,rfl⟩⟩
theorem ku{k:Unit->Sem α}:Stp p w code stk (.at q' k) ⟨fr,tl,n,t,c,q⟩ (k ()) ⟨fr,tl,n,t,c+1,q'⟩:=⟨rfl,λZ Z Z Z Z Z Z Z Z=>⟨Bool.and_false _,rfl,rfl⟩⟩
theorem VK{l:List Value}{k:Unit->Sem α}:Stp p w code stk (.point l k) ⟨fr,tl,n,t,c,q⟩ (k ()) ⟨fr,tl,n,t,c+1,q⟩:=⟨rfl,λZ Z Z Z Z Z Z Z Z=>⟨Bool.and_false _,rfl,rfl⟩⟩
theorem VJ{k:Nat->Sem α}:Stp p w code stk (.fresh k) ⟨fr,tl,n,t,c,q⟩ (k t) ⟨fr,tl,n,t+1,c+1,q⟩:=⟨rfl,λZ Z Z Z Z Z Z Z Z=>⟨Bool.and_false _,rfl,rfl⟩⟩
theorem bI{k:Setting->Sem α}:Stp p w code stk (.ask k) ⟨fr,tl,n,t,c,q⟩ (k ⟨p,w.params⟩) ⟨fr,tl,n,t,c+1,q⟩:=⟨rfl,λZ Z Z Z Z Z Z Z Z=>⟨Bool.and_false _,rfl,rfl⟩⟩
theorem VL{k:List (Code×Pos)->Sem α}:Stp p w code stk (.stack k) ⟨fr,tl,n,t,c,q⟩ (k ((code,q)::stk)) ⟨fr,tl,n,t,c+1,q⟩:=⟨rfl,λZ Z Z Z Z Z Z Z hB=>⟨Bool.and_false _,rfl,by rw[<- hB];rfl⟩⟩
theorem VI{o:Obj}{k:Addr->Sem α}(i:St.inv ⟨fr,tl,n,t,c,q⟩):Stp p w code stk (.alloc o k) ⟨fr,tl,n,t,c,q⟩ (k n) ⟨fr,o::tl,n+1,t,c+1,q⟩:=by
 refine⟨rfl,λK H gd lv B life dr os hB=>⟨Bool.and_false _,rfl,?_⟩⟩;have e:(fr++tl.reverse).toArray.size=n:=by rw[List.size_toArray,List.length_append,List.length_reverse];exact i.symm
 have e2:(fr++tl.reverse).toArray.push o=(fr++(o::tl).reverse).toArray:=by rw[List.push_toArray,List.reverse_cons,List.append_assoc]
 show PySem.Step.go ⟨⟨(fr++tl.reverse).toArray.push o,life⟩,#[],dr,t,os⟩ ⟨(k (fr++tl.reverse).toArray.size).wrap K H gd lv,code,q,B⟩=_;rw[e,e2];rfl
theorem Y1{a:Addr}{v:Option Value}{k:Obj->Sem α}{o:Obj}(i:St.inv ⟨fr,tl,n,t,c,q⟩)(e:z8 fr tl n a=some o):Stp p w code stk (.load a v k) ⟨fr,tl,n,t,c,q⟩ (k o) ⟨fr,tl,n,t,c+1,q⟩:=by
 refine⟨rfl,λK H gd lv B life dr os hB=>⟨Bool.and_false _,rfl,?_⟩⟩;have g:=QW (S:=⟨fr,tl,n,t,c,q⟩) i (life:=life) (drawn:=dr) (os:=os) e
 show(match (St.sh ⟨fr,tl,n,t,c,q⟩ life dr os).heap.get? a with | some o=>_ | none=>_)=_
 rw[g];rfl
theorem u9{b:Nat}(hu:okU b=true):(Nat.ble 11 b||b==mainNs||b==cStatics||some (Value.ref 6)==some (.ref b))=true:=by
 rcases Bool.or_eq_true_iff.mp hu with h | h
 ·rcases Bool.or_eq_true_iff.mp h with h | h
  ·rw[h];rfl
  ·obtain rfl:=Nat.eq_of_beq_eq_true h;rfl
 ·obtain rfl:=Nat.eq_of_beq_eq_true h;rfl
theorem kr(i:S.inv){b:Nat}{o:Obj}(e:z8 S.fr S.tl S.n b=some o):b<S.n:=by
 unfold z8 at e
 cases q:lAt S.fr b with
 | some x =>
  rw[Xc] at q
  have:=(List.getElem?_eq_some_iff.mp q).1
  exact Nat.lt_of_lt_of_le this (i.symm▸Nat.le_add_right _ _)
 | none =>
  rw[q] at e
  cases hb:Nat.blt b S.n with
  | false=>rw[hb] at e;cases e
  | true=>exact Nat.le_of_ble_eq_true hb
theorem bJ{b:Addr}{v:Option Value}{f:Obj->Obj}{k:Unit->Sem α}{o:Obj}{fr':List Obj}(i:St.inv ⟨fr,tl,n,t,c,q⟩)(hu:okU b=true)(e:z8 fr tl n b=some o)
  (u:∀life,(Heap.mk (fr++tl.reverse).toArray life).update b f=⟨(fr'++tl'.reverse).toArray,life⟩):Stp p w code stk (.update b v f k) ⟨fr,tl,n,t,c,q⟩ (k ()) ⟨fr',tl',n,t,c+1,q⟩:=by
 refine⟨rfl,λK H gd lv B life dr os hB=>⟨Bool.and_false _,u9 hu,?_⟩⟩;have g:=QW (S:=⟨fr,tl,n,t,c,q⟩) i (life:=life) (drawn:=dr) (os:=os) e
 show(if (St.sh ⟨fr,tl,n,t,c,q⟩ life dr os).heap.get? b |>.isSome then PySem.Step.go ⟨(Heap.mk (fr++tl.reverse).toArray life).update b f,#[],dr,t,os⟩ ⟨(k ()).wrap K H gd lv,code,q,B⟩ else _)=_
 rw[g,u];rfl
set_option backward.match.sparseCases true in
theorem Ev.call{c':Code}{hd:Option Value}{g:Bool}{l:List Value}{k:Result->Sem α}{f:Flow}{a:α}(C:Cl p w c' ((code,q)::stk) ⟨fr,tl,n,t,c+1,q⟩ f H8)(E:Ev p w code stk (k (.ok f)) ⟨H8.fr,H8.tl,H8.n,H8.toks,H8.cnt,q⟩ a S'):Ev p w code stk (.call c' hd g l k) ⟨fr,tl,n,t,c,q⟩ a S':=by
 have l1:c+1<=H8.cnt:=C.le;have l2:H8.cnt<=S'.cnt:=E.le
 refine⟨E.inv,Nat.le_of_succ_le (Nat.le_trans l1 l2),λ{K H gd lv B life dr os} hB=>?_⟩;have r2:=C.go (k:=λx=>(k x).wrap K H gd lv) (h:=hd) (g:=gd g) (l:=lv l) (cd:=code) (pp:=q) (kept:=match (generalizing:=false) c',code with
   | .builtin _ a,_=>unmarked a.refs
   | .call f a,.builtin .. | .call f a,.call ..=>unmarked (if (lv l).contains borrowed then a.refs else f::a.refs)
   | _,_=>[]) (B:=B) (life:=life) (dr:=dr) (os:=os) (by rw[hB])
 have r3:=E.go (K:=K) (H:=H) (gd:=gd) (lv:=lv) (B:=B) (life:=life) (dr:=dr) (os:=os) hB;have r4:=r2.trans r3;refine jk.of_eq (m:=(H8.cnt-(c+1))+(S'.cnt-H8.cnt)+1) ?_ ((congrArg (· + 1) (ar1 l1 l2)).trans (ar2 (Nat.le_trans l1 l2)));exact jk.step (t:=⟨(Sem.call c' hd g l k).wrap K H gd lv,code,q,B⟩) (Bool.and_false _) rfl rfl r4
end
def HcS(p:Program)(w:World)(hc:Code->List (Code×Pos)->St->Option (Flow×St)):Prop:=∀c stk S f S',hc c stk S=some (f,S')->S.inv->Cl p w c stk S f S'
theorem wM{fr tl:List Obj}{n b:Nat}{f:Obj->Obj}{X Y:Option β}{r:β}(h:cond (okU b) (yc (z8 fr tl n b) λZ=>cond (Nat.blt b fr.length) X Y) none=some r):okU b=true /\ ∃o,z8 fr tl n b=some o/\((b<fr.length/\X=some r)∨(¬ b<fr.length/\Y=some r)):=by
 refine byc λGa=>?_;refine zh (au h) λhu h=>?_;refine zd (JI h) λo e h=>?_;refine Ga ?_;refine⟨hu,o,e,?_⟩
 cases hb:Nat.blt b fr.length with
 | true=>rw[hb] at h;exact .inl ⟨Nat.le_of_ble_eq_true hb,h⟩
 | false=>rw[hb] at h;exact .inr ⟨λq=>(nomatch hb.symm.trans (show Nat.blt b fr.length=true from Nat.ble_eq_true_of_le q)),h⟩
theorem AP{fr tl:List Obj}{n t c c' b:Nat}{f:Obj->Obj}(i:St.inv ⟨fr,tl,n,t,c,q⟩):St.inv ⟨yJ f fr b,tl,n,t',c',q'⟩:=Eq.trans i (congrArg (· + tl.length) (jE f fr b).symm)
theorem AQ{fr tl:List Obj}{n t c c' b:Nat}{f:Obj->Obj}(i:St.inv ⟨fr,tl,n,t,c,q⟩):St.inv ⟨fr,yJ f tl b,n,t',c',q'⟩:=Eq.trans i (congrArg (fr.length + ·) (jE f tl b).symm)
theorem Ev.upd{code:Code}{a:α}{r:β}{b:Addr}{v:Option Value}{f:Obj->Obj}{k:Unit->Sem α}{F:St->Option β}
  (h:cond (okU b) (yc (z8 S.fr S.tl S.n b) λZ=>cond (Nat.blt b S.fr.length) (F ⟨yJ f S.fr b,S.tl,S.n,S.toks,S.cnt+1,S.pos⟩) (F ⟨S.fr,yJ f S.tl (Nat.sub (Nat.sub S.n 1) b),S.n,S.toks,S.cnt+1,S.pos⟩)) none=some r) (i:S.inv)
  (g:∀{G7:St},F G7=some r->G7.inv->Ev p w code stk (k ()) G7 a S'):Ev p w code stk (.update b v f k) S a S':=by
 obtain⟨hu,o,e,h | h⟩:=wM (f:=f) h
 ·exact .step (bJ i hu e λlife=>wL h.1) (g h.2 (AP i))
 ·exact .step (bJ i hu e λlife=>wN i h.1 (kr i e)) (g h.2 (AQ i))
theorem zy(hh:HcS p w hc){code:Code}(x:Sem α):∀{S:St} {a:α} {S':St},zj p w.params hc code stk x S=some (a,S')->S.inv->Ev p w code stk x S a S':=by
 induction x with
 | pure a=>intro S a' S' h i;cases h;exact Ev.pure i
 | rule t k ih=>exact λ{S a S'} h i=>.step Y2 (ih () h i)
 | «at» q' k ih=>exact λ{S a S'} h i=>.step ku (ih () h i)
 | point l k ih=>exact λ{S a S'} h i=>.step VK (ih () h i)
 | fresh k ih=>exact λ{S a S'} h i=>.step VJ (ih _ h i)
 | ask k ih=>exact λ{S a S'} h i=>.step bI (ih _ h i)
 | stack k ih=>exact λ{S a S'} h i=>.step VL (ih _ h i)
 | alloc o k ih=>exact λ{S a S'} h i=>.step (VI i) (ih _ h (congrArg (· + 1) i))
 | load b q' k ih=>exact λ{S a S'} h i=>let⟨o,e,h⟩:=JI h;.step (Y1 i e) (ih _ h i)
 | update b q' f k ih=>exact λ{S a S'} h i=>.upd (F:=zj p w.params hc code stk (k ())) h i (ih ())
 | call c' hd g l k ih =>
  intro S a S' h i;refine zd (JI h) λFy e h=>?_;obtain⟨f,H8⟩:=Fy;have C:=hh _ _ _ _ _ e i;exact .call C (ih (.ok f) h C.inv)
 | _=>intro S a S' h i;cases h
structure TB(p:Program)(w:World)(code:Code)(stk:List (Code×Pos)){α:Type}(H8 S':St)(f:Flow)(a:α)(b:BC α)(G7:St):Prop where
 body:St.inv ⟨G7.fr,G7.tl,G7.n,G7.toks,G7.cnt+1,G7.pos⟩->Cl p w (.body b.b b.env) ((code,G7.pos)::stk) ⟨G7.fr,G7.tl,G7.n,G7.toks,G7.cnt+1,G7.pos⟩ f H8
 rest:St.inv ⟨H8.fr,H8.tl,H8.n,H8.toks,H8.cnt,G7.pos⟩->Ev p w code stk (b.k (.ok f)) ⟨H8.fr,H8.tl,H8.n,H8.toks,H8.cnt,G7.pos⟩ a S'
theorem cu(hh:HcS p w hc){code:Code}{f:Flow}{a:α}(x:Sem α):∀{S:St} {b:BC α} {G7:St},jX p w.params hc code stk x S=some (b,G7)->S.inv->TB p w code stk H8 S' f a b G7->Ev p w code stk x S a S':=by
 induction x with
 | rule t k ih=>exact λ{S b G7} h i B=>.step Y2 (ih () h i B)
 | «at» q' k ih=>exact λ{S b G7} h i B=>.step ku (ih () h i B)
 | point l k ih=>exact λ{S b G7} h i B=>.step VK (ih () h i B)
 | fresh k ih=>exact λ{S b G7} h i B=>.step VJ (ih _ h i B)
 | ask k ih=>exact λ{S b G7} h i B=>.step bI (ih _ h i B)
 | stack k ih=>exact λ{S b G7} h i B=>.step VL (ih _ h i B)
 | alloc o k ih=>exact λ{S b G7} h i B=>.step (VI i) (ih _ h (congrArg (· + 1) i) B)
 | load b q' k ih=>exact λ{S bb G7} h i B=>let⟨o,e,h⟩:=JI h;.step (Y1 i e) (ih _ h i B)
 | update b q' f k ih=>exact λ{S bb G7} h i B=>.upd (F:=jX p w.params hc code stk (k ())) h i λh i=>ih () h i B
 | call c' hd g l k ih =>
  intro S bb G7 h i B;have other:yc (hc c' ((code,S.pos)::stk) ⟨S.fr,S.tl,S.n,S.toks,S.cnt+1,S.pos⟩) (λr=>jX p w.params hc code stk (k (.ok r.1)) ⟨r.2.fr,r.2.tl,r.2.n,r.2.toks,r.2.cnt,S.pos⟩)=some (bb,G7)->Ev p w code stk (.call c' hd g l k) S a S':=by
   intro h;refine zd (JI h) λFy e h=>?_;obtain⟨f,H8⟩:=Fy;have C:=hh _ _ _ _ _ e i;exact .call C (ih (.ok f) h C.inv B)
  induction c' with
  | body b env =>
   replace h:=Option.some.inj h
   cases h
   have C:=B.body i;exact .call C (B.rest C.inv)
  | _=>exact other h
 | _=>intro S bb G7 h i;cases h
theorem QR(hh:HcS p w hc){code:Code}{f:Flow}{a:α}(x:Sem α):∀{S:St} {b:BC α} {G7:St},jX p w.params hc code stk x S=some (b,G7)->S.inv ->
  (St.inv ⟨G7.fr,G7.tl,G7.n,G7.toks,G7.cnt+1,G7.pos⟩->Cl p w (.body b.b b.env) ((code,G7.pos)::stk) ⟨G7.fr,G7.tl,G7.n,G7.toks,G7.cnt+1,G7.pos⟩ f H8) ->
  (St.inv ⟨H8.fr,H8.tl,H8.n,H8.toks,H8.cnt,G7.pos⟩->Ev p w code stk (b.k (.ok f)) ⟨H8.fr,H8.tl,H8.n,H8.toks,H8.cnt,G7.pos⟩ a S')->Ev p w code stk x S a S':=λ{S b G7} h i hb he=>cu hh x h i ⟨hb,he⟩
theorem XI(x:Sem α):x.wrap Sem.pure Sem.raise id id=x:=by
 induction x<;>simp only[Sem.wrap,id, *]
theorem Cl.done{c:Code}{f:Flow}(h:Ev p w c stk (denote treeTable c) S (.done f) S'):Cl p w c stk S f ⟨S'.fr,S'.tl,S'.n,S'.toks,S'.cnt+1,S'.pos⟩:=by
 refine⟨h.inv,Nat.le_succ_of_le h.le,λ{k hh g l cd pp kept B life dr os} hB=>?_⟩;have r:=h.go (K:=Sem.pure) (H:=Sem.raise) (gd:=id) (lv:=id) (B:=.ret k hh g l cd pp kept::B) (life:=life) (dr:=dr) (os:=os) (by rw[<- hB];rfl)
 rw[XI] at r;have r2:jk p w (0+1) (S'.sh life dr os) ⟨.pure (.done f),c,S'.pos,.ret k hh g l cd pp kept::B⟩ (S'.sh life dr os) ⟨k (.ok f),cd,pp,B⟩:=jk.step rfl rfl rfl jk.refl;exact jk.of_eq (r.trans r2) (ar3 h.le)
theorem ar7{a b c:Nat}(h:a<=b)(k:b+1<=c):b-a+(c-(b+1)+1)=c-a:=(congrArg (b-a + ·) (ar2 k)).trans (ar1 h (Nat.le_of_succ_le k))
theorem Cl.again{c d:Code}{f:Flow}(h:Ev p w c stk (denote treeTable c) S (.again d) S')(hd:ZM d=true)(k:Cl p w d stk ⟨S'.fr,S'.tl,S'.n,S'.toks,S'.cnt+1,S'.pos⟩ f S''):Cl p w c stk S f S'':=by
 have kl:S'.cnt+1<=S''.cnt:=k.le;refine⟨k.inv,Nat.le_trans h.le (Nat.le_of_succ_le kl),λ{kk hh g l cd pp kept B life dr os} hB=>?_⟩;have r:=h.go (K:=Sem.pure) (H:=Sem.raise) (gd:=id) (lv:=id) (B:=.ret kk hh g l cd pp kept::B) (life:=life) (dr:=dr) (os:=os) (by rw[<- hB];rfl)
 rw[XI] at r;have ok:stepOk 11 (some (.ref 6)) ⟨.pure (.again d),c,S'.pos,.ret kk hh g l cd pp kept::B⟩=true:=by
  induction d with
  | builtin id args =>
   replace hd:id.startsWith "lifetime." = false:=(Bool.not_eq_true' _).mp hd
   show((!(id.startsWith "lifetime.")||_) && !false&&true&&true)=true
   rw[hd];rfl
  | _=>rfl
 have r2:=k.go (k:=kk) (h:=hh) (g:=g) (l:=l) (cd:=cd) (pp:=pp) (kept:=keptBy c d l kept) (B:=B) (life:=life) (dr:=dr) (os:=os) hB;have r3:=jk.step (s:=S'.sh life dr os) (t:=⟨.pure (.again d),c,S'.pos,.ret kk hh g l cd pp kept::B⟩) rfl ok step_again r2;exact jk.of_eq (r.trans r3) (ar7 h.le kl)
theorem tJ{P:Params}{m:Nat}{c:Code}{f:Flow}(h:hcF p P (m+1) c stk S=some (f,S')):∃x G7,zj p P (hcF p P m) c stk (denote treeTable c) S=some (x,G7) /\
  ((x=.done f/\S'=⟨G7.fr,G7.tl,G7.n,G7.toks,G7.cnt+1,G7.pos⟩) ∨ ∃d,x=.again d/\ZM d=true/\hcF p P m d stk ⟨G7.fr,G7.tl,G7.n,G7.toks,G7.cnt+1,G7.pos⟩=some (f,S')):=by
 refine zd (JI (show yc (zj p P (hcF p P m) c stk (denote treeTable c) S) (hcN (λd=>hcF p P m d stk) stk)=some (f,S') from h)) λFy e h=>?_;obtain⟨x,G7⟩:=Fy
 induction x with
 | done f'=>cases h;exact(jL _ _ e (.inl ⟨rfl,rfl⟩))
 | again d=>exact(jL _ _ e (.inr (zv d rfl (au h))))
theorem zF:∀m,HcS p w (hcF p w.params m)
 | 0=>by intro c stk S f S' h;cases h
 | m+1=>by
  intro c stk S f S' h i;obtain⟨x,G7,e,⟨rfl,rfl⟩ | ⟨d,rfl,hd,k⟩⟩:=tJ h
  ·exact Cl.done (zy (zF m) _ e i)
  ·have E:=zy (zF m) _ e i
   exact Cl.again E hd (zF m _ _ _ _ _ k E.inv)
theorem Ev.cons{code:Code}{st:Stmt}{rest:List Stmt}{f:Flow}(h:Ev p w code stk (exec st env) S .next S')(k:Ev p w code stk (execs rest env) S' f S''):Ev p w code stk (execs (st::rest) env) S f S'':=by
 rw[execs_cons];exact Ev.bind h k
theorem Ev.nil{code:Code}(i:S.inv):Ev p w code stk (execs [] env) S .next S:=Ev.pure i
theorem Cl.body{b:List Stmt}(h0:blockStart b env=Sem.pure ())(h:Ev p w (.body b env) stk (execs b env) S .next S'):Cl p w (.body b env) stk S .next ⟨S'.fr,S'.tl,S'.n,S'.toks,S'.cnt+1,S'.pos⟩:=by
 refine Cl.done ?_;show Ev p w _ stk ((blockStart b env).bind (λZ=>((execs b env).onRaise (leaving env)).bind λf=>(Sem.pure (Fin.done f):Sem Fin))) S _ S'
 rw[h0];show Ev p w _ stk (((execs b env).onRaise (leaving env)).bind λf=>(Sem.pure (Fin.done f):Sem Fin)) S _ S'
 exact Ev.bind h.onRaise (Ev.pure h.inv)
end
section
variable {p:Program}{P:Params}{code:Code}
theorem eZ{γ:Type}{c d:Bool}{o:Option γ}{A B:Option α}{g:α->Option β}:cond c (yc o λZ=>cond d (yc A g) (yc B g)) none=yc (cond c (yc o λZ=>cond d A B) none) g:=by
 induction c<;>induction o<;>induction d<;>rfl
theorem Zx(x:Sem α)(f:α->Sem β):∀(S:St),zj p P hc code stk (x.bind f) S=yc (zj p P hc code stk x S) λr=>zj p P hc code stk (f r.1) r.2:=by
 induction x with
 | pure a=>intro S;rfl
 | rule t k ih=>rintro⟨fr,tl,n,t,c,q⟩;exact ih _ _
 | «at» t k ih=>rintro⟨fr,tl,n,t,c,q⟩;exact ih _ _
 | point t k ih=>rintro⟨fr,tl,n,t,c,q⟩;exact ih _ _
 | fresh k ih=>rintro⟨fr,tl,n,t,c,q⟩;exact ih _ _
 | ask k ih=>rintro⟨fr,tl,n,t,c,q⟩;exact ih _ _
 | stack k ih=>rintro⟨fr,tl,n,t,c,q⟩;exact ih _ _
 | alloc o k ih=>rintro⟨fr,tl,n,t,c,q⟩;exact ih _ _
 | load a q k ih =>
  rintro⟨fr,tl,n,t,c,q⟩;exact(QD (o:=z8 fr tl n a) λo=>ih o ⟨fr,tl,n,t,c+1,q⟩).trans Vx.symm
 | update a q g k ih =>
  rintro⟨fr,tl,n,t,c,q⟩;exact(V3 (c:=okU a) (QD (o:=z8 fr tl n a) λZ=>V3 (c:=Nat.blt a fr.length) (ih () ⟨yJ g fr a,tl,n,t,c+1,q⟩) (ih () ⟨fr,yJ g tl (Nat.sub (Nat.sub n 1) a),n,t,c+1,q⟩)) rfl).trans eZ
 | call c' h g l k ih =>
  rintro⟨fr,tl,n,t,c,q⟩;exact(QD (o:=hc c' ((code,q)::stk) ⟨fr,tl,n,t,c+1,q⟩) λr=>ih (.ok r.1) ⟨r.2.fr,r.2.tl,r.2.n,r.2.toks,r.2.cnt,q⟩).trans Vx.symm
 | _=>intro S;rfl
theorem Zy(vs:List Value)(x:Sem α):∀(S:St),zj p P hc code stk (x.keep vs) S=zj p P hc code stk x S:=by
 induction x with
 | pure a=>intro S;rfl
 | rule t k ih=>rintro⟨fr,tl,n,t,c,q⟩;exact ih _ _
 | «at» t k ih=>rintro⟨fr,tl,n,t,c,q⟩;exact ih _ _
 | point t k ih=>rintro⟨fr,tl,n,t,c,q⟩;exact ih _ _
 | fresh k ih=>rintro⟨fr,tl,n,t,c,q⟩;exact ih _ _
 | ask k ih=>rintro⟨fr,tl,n,t,c,q⟩;exact ih _ _
 | stack k ih=>rintro⟨fr,tl,n,t,c,q⟩;exact ih _ _
 | alloc o k ih=>rintro⟨fr,tl,n,t,c,q⟩;exact ih _ _
 | load a q k ih =>
  rintro⟨fr,tl,n,t,c,q⟩;exact(QD (o:=z8 fr tl n a) λo=>ih o ⟨fr,tl,n,t,c+1,q⟩)
 | update a q g k ih =>
  rintro⟨fr,tl,n,t,c,q⟩;exact(V3 (c:=okU a) (QD (o:=z8 fr tl n a) λZ=>V3 (c:=Nat.blt a fr.length) (ih () ⟨yJ g fr a,tl,n,t,c+1,q⟩) (ih () ⟨fr,yJ g tl (Nat.sub (Nat.sub n 1) a),n,t,c+1,q⟩)) rfl)
 | call c' h g l k ih =>
  rintro⟨fr,tl,n,t,c,q⟩;exact(QD (o:=hc c' ((code,q)::stk) ⟨fr,tl,n,t,c+1,q⟩) λr=>ih (.ok r.1) ⟨r.2.fr,r.2.tl,r.2.n,r.2.toks,r.2.cnt,q⟩)
 | _=>intro S;rfl
theorem jK(vs:List Value)(x:Sem α)(S:St):zj p P hc code stk (holding vs x) S=zj p P hc code stk x S:=by
 unfold holding
 split
 ·rfl
 ·exact Zy _ _ _
theorem evB{x:Sem α}{f:α->Sem β}{a:α}{r:Option (β×St)}(h:zj p P hc code stk x S=some (a,S'))(k:zj p P hc code stk (f a) S'=r):zj p P hc code stk (x >>= f) S=r:=by
 show zj p P hc code stk (x.bind f) S=r;rw[Zx,h];exact k
noncomputable def yi(l:List Str)(t:Nat):List Value:=match l with
 | []=>[]
 | s::r=>.str s t::yi r (t+1)
theorem Km:∀(l:List Str) {fr tl:List Obj} {n t c:Nat} {q:Pos},zj p P hc code stk (l.mapM mkText) ⟨fr,tl,n,t,c,q⟩=some (yi l t,⟨fr,tl,n,t+l.length,c+l.length,q⟩)
 | [],_,_,_,_,_,_=>rfl
 | s::l,fr,tl,n,t,c,q=>by
  rw[List.mapM_cons];refine evB (S':=⟨fr,tl,n,t+1,c+1,q⟩) (a:=.str s t) rfl ?_;refine evB (Km l) ?_;show some _=some _;rw[List.length_cons,<- Nat.add_right_comm t,<- Nat.add_right_comm c];rfl
theorem Kl{fr tl:List Obj}{n t c a:Nat}{o:Obj}(h:z8 fr tl n a=some o):zj p P hc code stk (load a) ⟨fr,tl,n,t,c,q⟩=some (o,⟨fr,tl,n,t,c+1,q⟩):=by
 show yc (z8 fr tl n a) (λo=>some (o,(⟨fr,tl,n,t,c+1,q⟩:St)))=_;rw[h];rfl
theorem QP{fr tl:List Obj}{n t c a:Nat}{o:Obj}{x:Option Value}(h:z8 fr tl n a=some o):zj p P hc code stk (loadPart a x) ⟨fr,tl,n,t,c,q⟩=some (o,⟨fr,tl,n,t,c+1,q⟩):=by
 show yc (z8 fr tl n a) (λo=>some (o,(⟨fr,tl,n,t,c+1,q⟩:St)))=_;rw[h];rfl
theorem Vj{fr tl:List Obj}{n t c a:Nat}{o:Obj}{x:Option Value}{f:Obj->Obj}(h:z8 fr tl n a=some o)(hu:okU a=true)(hl:Nat.blt a fr.length=true):zj p P hc code stk (updatePart a x f) ⟨fr,tl,n,t,c,q⟩=some ((),⟨yJ f fr a,tl,n,t,c+1,q⟩):=by
 show cond (okU a) (yc (z8 fr tl n a) λZ=>cond (Nat.blt a fr.length) (some ((),(⟨yJ f fr a,tl,n,t,c+1,q⟩:St))) (some ((),⟨fr,yJ f tl (Nat.sub (Nat.sub n 1) a),n,t,c+1,q⟩))) none=_;rw[h,hu,hl];rfl
theorem Qv{fr tl:List Obj}{n t c a:Nat}{o:Obj}{vs:Array Value}(h:z8 fr tl n a=some o)(hd:o.data=.fields vs):zj p P hc code stk (fieldsOf (.ref a)) ⟨fr,tl,n,t,c,q⟩=some (vs,⟨fr,tl,n,t,c+1,q⟩):=by
 refine evB (Kl h) ?_;rw[hd];rfl
theorem Uu{fr tl:List Obj}{n t c a:Nat}{o:Obj}{x:Str}{v:Option Value}(h:z8 fr tl n a=some o)(hv:nsLook x o=Sem.pure v):zj p P hc code stk (nsGet a x) ⟨fr,tl,n,t,c,q⟩=some (v,⟨fr,tl,n,t,c+1,q⟩):=by
 refine evB (QP h) ?_;rw[hv];rfl
theorem Zv:∀{sc:Scope},(sc.names.all λx=>!(x.2==.free))=true->zj p P hc code stk (closureFor sc env) S=some ([],S):=by
 rintro⟨kd,names,g,co,more⟩ h
 simp only at h;have key:∀(l:List (Str×NameKind)),(l.all λx=>!(x.2==.free))=true->zj p P hc code stk (forIn l [] λ(x:Str×NameKind) (cs:List (Str×Addr))=>(do
   let(name,kind):=x
   if kind==.free then pure (ForInStep.yield ((name,<- cellOf env name)::cs)) else pure (ForInStep.yield cs):Sem (ForInStep (List (Str×Addr))))) S=some ([],S):=by
  intro l
  induction l with
  | nil=>intro _;rfl
  | cons x l ih =>
   intro h;rw[List.all_cons,Bool.and_eq_true] at h;rw[List.forIn_cons];obtain⟨nm,kd⟩:=x;have h1:(kd==NameKind.free)=false:=by simpa using h.1
   refine evB (a:=ForInStep.yield []) (S':=S) ?_ (ih h.2);simp only[h1,Bool.false_eq_true,if_false];rfl
 exact evB (key names h) rfl
structure CB where
 pre:List Obj
 o25:Obj
 o27:Obj
 o28:Obj
noncomputable abbrev yF(es:List DictEntry)(m:Nat):Obj:=⟨.type "dict",none,.dict es.toArray m,#[]⟩
noncomputable abbrev U3(vs:List Value):Obj:=⟨.none,none,.fields vs.toArray,#[]⟩
noncomputable def CB.fr(X:CB)(es:List DictEntry)(m:Nat)(vs:List Value):List Obj:=X.pre ++ [yF es m,X.o25,U3 vs,X.o27,X.o28]
structure CBok(X:CB)(env:Env)(file:Str)(fl:Nat)(tx:Nat)(mod:Value):Prop where
 len:X.pre.length=24
 loc:env.locals=24
 glo:env.globals=3
 bui:env.builtins=0
 cod:env.code=.ref 27
 kin:env.scope.kind=.class
 dat:∃cv:Array Value,X.o27.data=.fields cv/\cv.getD 11 .none=.ref 26/\(∃t,cv.getD 18 .none=.str file t)/\cv.getD 7 .none=.int fl 0/\cv.getD 9 .none=.bool false/\cv.getD 10 .none=.int tx 0
 al27:alive X.o27=some X.o27
 fut:(fl &&& (coFutureAnnotations ||| coFutureBarry))=0
 g3:∃o3,lAt X.pre 3=some o3/\alive o3=some o3/\nsLook "__builtins__" o3=Sem.pure (some (.ref 4))/\nsLook "__name__" o3=Sem.pure (some mod)
 g4:∃o4,lAt X.pre 4=some o4/\alive o4=some o4/\o4.dict=some 0/\o4.cls=.type "module" /\ (match o4.data with | .dict ..=>false | _=>true)=true
section
variable {X:CB}{file:Str}{fl tx:Nat}{mod:Value}
theorem aZ{α:Type}:∀(l r:List α) (i:Nat),lAt (l++r) (l.length+i)=lAt r i
 | [],r,i=>by simp
 | x::l,r,i=>by rw[List.cons_append,List.length_cons,show l.length+1+i=(l.length+i)+1 by lia];exact aZ l r i
theorem Yw{α:Type}:∀{l:List α} {i:Nat} {x:α} (r:List α),lAt l i=some x->lAt (l++r) i=some x
 | [],_,_,_,h=>by cases h
 | y::l,0,_,_,h=>h
 | y::l,i+1,_,r,h=>Yw (l:=l) r h
theorem Yx{α:Type}(f:α->α):∀(l r:List α) (i:Nat),yJ f (l++r) (l.length+i)=l++yJ f r i
 | [],r,i=>by simp
 | x::l,r,i=>by rw[List.cons_append,List.length_cons,show l.length+1+i=(l.length+i)+1 by lia];exact congrArg (x :: ·) (Yx f l r i)
theorem f6(ok:CBok X env file fl tx mod)(es:List DictEntry)(m:Nat)(vs:List Value):(X.fr es m vs).length=29:=by
 unfold CB.fr;rw[List.length_append,ok.len];rfl
theorem f0(ok:CBok X env file fl tx mod)(es:List DictEntry)(m:Nat)(vs:List Value)(i:Nat):lAt (X.fr es m vs) (24+i)=lAt [yF es m,X.o25,U3 vs,X.o27,X.o28] i:=by
 unfold CB.fr;rw[<- ok.len];exact aZ _ _ _
theorem f7(ok:CBok X env file fl tx mod)(es:List DictEntry)(m:Nat)(vs:List Value)(f:Obj->Obj)(i:Nat):yJ f (X.fr es m vs) (24+i)=X.pre++yJ f [yF es m,X.o25,U3 vs,X.o27,X.o28] i:=by
 unfold CB.fr;rw[<- ok.len];exact Yx _ _ _ _
theorem g24(ok:CBok X env file fl tx mod){es:List DictEntry}{m:Nat}{vs:List Value}{tl:List Obj}{n:Nat}:z8 (X.fr es m vs) tl n 24=some (yF es m):=by
 unfold z8;rw[show(24:Nat)=24+0 from rfl,f0 ok];rfl
theorem g26(ok:CBok X env file fl tx mod){es:List DictEntry}{m:Nat}{vs:List Value}{tl:List Obj}{n:Nat}:z8 (X.fr es m vs) tl n 26=some (U3 vs):=by
 unfold z8;rw[show(26:Nat)=24+2 from rfl,f0 ok];rfl
theorem g27(ok:CBok X env file fl tx mod){es:List DictEntry}{m:Nat}{vs:List Value}{tl:List Obj}{n:Nat}:z8 (X.fr es m vs) tl n 27=some X.o27:=by
 unfold z8;rw[show(27:Nat)=24+3 from rfl,f0 ok];exact ok.al27
theorem tF{o:Obj}(h:lAt X.pre i=some o)(ha:alive o=some o){es:List DictEntry}{m:Nat}{vs:List Value}{tl:List Obj}{n:Nat}:z8 (X.fr es m vs) tl n i=some o:=by
 unfold z8 CB.fr;rw[Yw _ h];exact ha
structure DD where
 name:Str
 bind:Str
 args:Arguments
 body:List Stmt
 scope:Scope
 pos:Pos
 l1:List Str
 l2:List Str
noncomputable abbrev QH(vs:List Value):Obj:=⟨.type "tuple",none,.seq vs.toArray 0,#[]⟩
noncomputable def DD.cod(d:DD)(qual file:Str)(tx n t:Nat):Obj:=⟨.type "code",none,.fields #[.str d.name t,.str (qual++d.name) (t+1),.str file (t+2),rawInt d.pos.line,rawInt (0+d.args.args.length:Nat),rawInt 0,rawInt 0,
 rawInt (functionFlags false false d.scope ⟨file,0,false,tx⟩),.ref n,.bool true,rawInt tx,.ref (n+1),.none,.ref (n+2),.ref (n+3),.ref (n+4),rawInt (t+3+d.l1.length+d.l2.length:Nat),rawInt d.pos.line,.str file (t+3+d.l1.length+d.l2.length+1)],#[]⟩
noncomputable def DD.fn(d:DD)(qual:Str)(mod:Value)(n:Nat):Obj:=⟨.type "function",none,.func { name:=d.name,qualname:=qual++d.name,params:=d.args,body:=.stmts d.body,scope:=d.scope,globals:=3,closure:=[],defaults:=.none,kwdefaults:=.none,pyModule:=mod,code:=.ref (n+5) },#[]⟩
noncomputable def DD.tmp(d:DD)(qual:Str):Obj:=⟨.none,none,.func { name:=d.name,qualname:=qual++d.name,params:=d.args,body:=.stmts d.body,scope:=d.scope,globals:=builtinsNs,closure:=[],defaults:=.none,kwdefaults:=.none },#[]⟩
noncomputable def DD.objs(d:DD)(qual file:Str)(tx:Nat)(mod:Value)(n t:Nat)(tl:List Obj):List Obj:=
 d.fn qual mod n::d.cod qual file tx n t::d.tmp qual::QH (yi d.l2 (t+3+d.l1.length))::QH (yi d.l1 (t+3))::U3 []::QH []::tl
noncomputable def DD.stmt(d:DD)(ts:Option Scope):Stmt:=.FunctionDef d.name d.args d.body [] none [] d.scope ts d.bind d.pos
noncomputable def JJ(a:Arguments):Bool:=match a with
 | ⟨[],as,none,[],[],none,[]⟩=>as.all λx=>x.annotation.isNone
 | _=>false
theorem qT{a:Arguments}(h:JJ a=true):∃as,a=⟨[],as,none,[],[],none,[]⟩/\(as.all λx=>x.annotation.isNone)=true:=by
 obtain⟨po,as,va,ko,kd,kw,df⟩:=a
 induction po with
 | cons _ _=>exact nomatch (show false=true from h)
 | nil=>induction va with
  | some _=>exact nomatch (show false=true from h)
  | none=>induction ko with
   | cons _ _=>exact nomatch (show false=true from h)
   | nil=>induction kd with
    | cons _ _=>exact nomatch (show false=true from h)
    | nil=>induction kw with
     | some _=>exact nomatch (show false=true from h)
     | none=>induction df with
      | cons _ _=>exact nomatch (show false=true from h)
      | nil=>exact⟨as,rfl,h⟩
structure DDok(d:DD)(env:Env):Prop where
 ar:JJ d.args=true
 fr:(d.scope.names.all λx=>!(x.2==.free))=true
 ln:localNames d.args d.scope (.stmts d.body)=some (d.l1,d.l2)
 dc:docOf d.body=none
 kd:env.kindOf d.bind=some .local
theorem Q8{a:α}:zj p P hc code stk (pure a) S=some (a,S):=rfl
theorem X6{fr tl:List Obj}{n t c:Nat}{o:Obj}:zj p P hc code stk (alloc o) ⟨fr,tl,n,t,c,q⟩=some (n,⟨fr,o::tl,n+1,t,c+1,q⟩):=rfl
theorem yu{fr tl:List Obj}{n t c:Nat}{l:List Value}:zj p P hc code stk (newTextTuple l) ⟨fr,tl,n,t,c,q⟩=some (.ref n,⟨fr,QH l::tl,n+1,t,c+1,q⟩):=rfl
theorem qu{fr tl:List Obj}{n t c:Nat}{x:Str}:zj p P hc code stk (mkText x) ⟨fr,tl,n,t,c,q⟩=some (.str x t,⟨fr,tl,n,t+1,c+1,q⟩):=rfl
theorem fM{fr tl:List Obj}{n t c:Nat}:zj p P hc code stk fresh ⟨fr,tl,n,t,c,q⟩=some (t,⟨fr,tl,n,t+1,c+1,q⟩):=rfl
theorem Wd{fr tl:List Obj}{n t c:Nat}{ty:String}{l:List Value}(h:¬ l.toArray.size>sizeLine+2):zj p P hc code stk (newFields ty l) ⟨fr,tl,n,t,c,q⟩=some (.ref n,⟨fr,⟨.type ty,none,.fields l.toArray,#[]⟩::tl,n+1,t,c+1,q⟩):=by
 unfold newFields newObj;simp only[h,if_false];rfl
theorem f8(h:(sc.names.all λx=>!(x.2==.free))=true):sc.freeNames = []:=by
 have:sc.names.filter (·.2==.free) = []:=by
  rw[List.filter_eq_nil_iff];intro x hx
  have:=List.all_eq_true.mp h x hx
  simpa using this
 unfold Scope.freeNames;rw[this];exact List.mergeSort_nil
theorem Zw{d:DD}{file:Str}{tx:Nat}{fr tl:List Obj}{n t c:Nat}(hf:d.scope.freeNames = [])(ha:JJ d.args=true):
  zj p P hc code stk (newCode ⟨file,0,false,tx⟩ d.name (qual++d.name) d.pos.line (d.args.posonlyargs.length+d.args.args.length) d.args.posonlyargs.length d.args.kwonlyargs.length
   (functionFlags d.args.vararg.isSome d.args.kwarg.isSome d.scope ⟨file,0,false,tx⟩) d.scope.freeNames true none (some (d.l1,d.l2))
   (some { name:=d.name,qualname:=qual++d.name,params:=d.args,body:=.stmts d.body,scope:=d.scope,globals:=builtinsNs,closure:=[],defaults:=.none,kwdefaults:=.none })) ⟨fr,tl,n,t,c,q⟩
   = some (.ref (n+5),⟨fr,d.cod qual file tx n t::d.tmp qual::QH (yi d.l2 (t+3+d.l1.length))::QH (yi d.l1 (t+3))::U3 []::QH []::tl,n+6,t+3+d.l1.length+d.l2.length+2,c+5+d.l1.length+1+d.l2.length+5,q⟩):=by
 obtain⟨name,bind,args,body,scope,pos,l1,l2⟩:=d;refine zd (qT ha) λas ea Z=>?_;replace ea:args=_:=ea;subst ea;unfold newCode;simp only at hf;rw[hf];refine evB qu ?_;refine evB qu ?_;refine evB qu ?_;refine evB (Km []) ?_;refine evB yu ?_;refine evB X6 ?_;refine evB (Km _) ?_;refine evB yu ?_;refine evB (Km _) ?_;refine evB yu ?_;refine evB X6 ?_;refine evB Q8 ?_;refine evB fM ?_;refine evB qu ?_;exact Wd (show ¬ 19>2 ^ 24+2 by decide)
noncomputable def zO:List (Nat×Nat×Nat)->List Value
 | []=>[]
 | (l,c,a)::r=>rawInt l::rawInt c::.ref a::zO r
noncomputable def Ja(l c:Nat):List (Nat×Nat×Nat)->Bool
 | []=>true
 | (l',c',_)::r=>cond (Nat.beq l' l) (cond (Nat.beq c' c) false (Ja l c r)) (Ja l c r)
theorem eE(a b:Nat):(((a:Int)==(b:Int))=Nat.beq a b):=by
 cases h:Nat.beq a b with
 | true=>have:=Nat.eq_of_beq_eq_true h;subst this;simp
 | false=>have:=Nat.ne_of_beq_eq_false h;simp;lia
theorem JD{pos:Pos}:∀{L:List (Nat×Nat×Nat)} {r:List Value},Ja pos.line pos.col L=true->codeAmong pos (zO L++r)=codeAmong pos r
 | [],_,_=>rfl
 | (l',c',a)::L,r,h=>by
  show(if (l':Int)==(pos.line:Int)&&(c':Int)==(pos.col:Int) then some (Value.ref a) else codeAmong pos (zO L++r))=_
  rw[eE,eE];replace h:cond (Nat.beq l' pos.line) (cond (Nat.beq c' pos.col) false (Ja pos.line pos.col L)) (Ja pos.line pos.col L)=true:=h
  cases h1:Nat.beq l' pos.line with
  | false=>rw[h1] at h;exact JD h
  | true =>
   rw[h1] at h
   cases h2:Nat.beq c' pos.col with
   | false=>rw[h2] at h;exact JD h
   | true=>rw[h2] at h;cases h
theorem ce{L:List (Nat×Nat×Nat)}{v:Value}(h:Ja pos.line pos.col L=true):codeAmong pos (zO L ++ [rawInt pos.line,rawInt pos.col,v])=some v:=by
 rw[JD h]
 show(if (pos.line:Int)==(pos.line:Int)&&(pos.col:Int)==(pos.col:Int) then some v else _)=_
 simp
theorem QF{l c a:Nat}:∀{L:List (Nat×Nat×Nat)},zO L ++ [rawInt l,rawInt c,.ref a]=zO (L ++ [(l,c,a)])
 | []=>rfl
 | (l',c',a')::L=>by
  show rawInt l'::rawInt c'::.ref a'::(zO L ++ [rawInt l,rawInt c,.ref a])=rawInt l'::rawInt c'::.ref a'::zO (L ++ [(l,c,a)]);rw[QF]
set_option backward.match.sparseCases true in
theorem cr(ok:CBok X env file fl tx mod){make:CodeContext->Sem Value}{es:List DictEntry}{m:Nat}{L:List (Nat×Nat×Nat)}{tl:List Obj}{n t c c' a:Nat}
  (hm:zj p P hc code stk (make ⟨file,0,false,tx⟩) ⟨X.fr es m (zO L),tl,n,t,c+2,q⟩=some (.ref a,⟨X.fr es m (zO L),tl',n',t',c',q'⟩)) (hL:Ja pos.line pos.col L=true) :
  zj p P hc code stk (codeAt env pos make) ⟨X.fr es m (zO L),tl,n,t,c,q⟩=some (.ref a,⟨X.fr es m (zO (L ++ [(pos.line,pos.col,a)])),tl',n',t',c'+3,q'⟩):=by
 refine byc λGa=>?_;refine jU ok.dat λcv d1 d2 Fy Gb=>yn Gb λd4 d5 d6=>?_;obtain⟨ft,d3⟩:=Fy;refine Ga ?_;unfold codeAt;rw[ok.cod];show zj p P hc code stk (do
  let vs <- fieldsOf (.ref 27)
  let .ref places:=vs.getD 11 .none | unsupported "internal:code-record"
  if let some c:=codeAmong pos (<- fieldsOf (.ref places)).toList then return c
  let(.str file _,.int flags _,.bool inFunction,.int text _):=(vs.getD 18 .none,vs.getD 7 .none,vs.getD 9 .none,vs.getD 10 .none)
   | unsupported "internal:code-record"
  let c <- make { file,future:=flags.toNat &&& (coFutureAnnotations ||| coFutureBarry),inFunction:=inFunction||env.scope.kind==.function,text:=text.toNat }
  updateFieldsOfTheText places λvs=>if (codeAmong pos vs.toList).isSome then vs else vs ++ #[rawInt pos.line,rawInt pos.col,c]
  match codeAmong pos (<- fieldsOf (.ref places)).toList with
  | some c=>pure c
  | none=>unsupported "internal:code-record" : Sem Value) _=_
 refine evB (Qv (g27 ok) d1) ?_;rw[d2];refine evB (Qv (g26 ok) rfl) ?_;have h0:codeAmong pos (zO L)=none:=by have:=JD (r:=[]) hL;rw[List.append_nil] at this;rw[this];rfl
 simp only[h0,d3,d4,d5,d6,ok.kin,Int.toNat_natCast,ok.fut,show(false||(ScopeKind.class==ScopeKind.function))=false from rfl]
 refine evB (S':=⟨X.fr es m (zO L),tl',n',t',c',q'⟩) (a:=.ref a) hm ?_;refine evB (a:=()) (S':=⟨X.fr es m (zO (L ++ [(pos.line,pos.col,a)])),tl',n',t',c'+2,q'⟩) ?_ ?_
 ·refine evB (Kl (g26 ok)) ?_
  show zj p P hc code stk (updatePart 26 none _) _=_;rw[Vj (g26 ok) rfl (by rw[f6 ok];rfl)]
  rw[show(26:Nat)=24+2 from rfl,f7 ok]
  show some ((),St.mk (X.pre ++ [yF es m,X.o25,⟨.none,none,.fields (if (codeAmong pos (zO L)).isSome=true then (zO L).toArray else (zO L).toArray ++ #[rawInt pos.line,rawInt pos.col,.ref a]),#[]⟩,X.o27,X.o28]) tl' n' t' (c'+2) q')=_
  rw[h0,<- QF];simp[CB.fr]
 ·refine evB (Qv (g26 ok) rfl) ?_
  show zj p P hc code stk (match codeAmong pos (zO (L ++ [(pos.line,pos.col,a)])) with | some c=>pure c | none=>unsupported "internal:code-record") _=_
  rw[<- QF,ce hL];rfl
set_option backward.match.sparseCases true in
theorem Ut(ok:CBok X env file fl tx mod){es:List DictEntry}{m:Nat}{vs:List Value}{tl:List Obj}{n t c:Nat}:zj p P hc code stk (builtinsFor 3 0) ⟨X.fr es m vs,tl,n,t,c,q⟩=some (0,⟨X.fr es m vs,tl,n,t,c+2,q⟩):=by
 refine jU ok.g3 λo3 a1 a2 a3 a4=>?_;refine jU ok.g4 λo4 b1 b2 b3 Gb=>zh Gb λb4 b5=>?_;refine evB (Uu (tF a1 a2) a3) ?_;show zj p P hc code stk (do
  let o <- load 4
  match o.data,o.dict with
  | .dict ..,_ =>
   if o.cls !=.type "dict" then unsupported "builtins:of-a-dict-subclass"
   if (4:Nat)==sysModules&&(<- nsGet cStatics "_decimal.a-light-load").isSome then unsupported "sys.modules:read-past-the-dict's-own-slots:builtinsFor:behind-a-light-load-of-_decimal"
   pure 4
  | _,some d=>if o.cls==.type "module" then pure d else unsupported "builtins:neither-dict-nor-module"
  | _,none=>unsupported "builtins:neither-dict-nor-module" : Sem Addr) _=_
 refine evB (Kl (tF b1 b2)) ?_;rw[b3,b4];obtain⟨c4,d4,dt,s4⟩:=o4
 cases dt<;>first | (cases b5;done) | rfl
theorem XS{e:Env}(as:List Arg):(as.all λx=>x.annotation.isNone)=true->annotationsOf as e = []:=by
 induction as with
 | nil=>intro _;rfl
 | cons x as ih =>
  intro h;obtain⟨nm,an,ps⟩:=x;simp only[List.all_cons,Bool.and_eq_true] at h
  induction an with
  | none=>exact ih h.2
  | some x=>simp at h
theorem QY(ok:CBok X env file fl tx mod){d:DD}(dk:DDok d env){es:List DictEntry}{m:Nat}{L:List (Nat×Nat×Nat)}{tl:List Obj}{n t c:Nat}(hL:Ja d.pos.line d.pos.col L=true):
  zj p P hc code stk (makeFunction d.name (env.qual++d.name) d.args (.stmts d.body) d.scope env [] [] [] d.pos d.pos.line) ⟨X.fr es m (zO L),tl,n,t,c,q⟩
   = some (.ref (n+6),⟨X.fr es m (zO (L ++ [(d.pos.line,d.pos.col,n+5)])),d.objs env.qual file tx mod n t tl,n+7,t+3+d.l1.length+d.l2.length+2,c+2+5+d.l1.length+1+d.l2.length+5+3+2+1+1,q⟩):=by
 refine byc λGa=>?_;refine jU ok.g3 λo3 a1 a2 a3 a4=>?_;refine Ga ?_;have hko:d.args.kwonlyargs = []:=by
  refine byc λGc=>?_;refine zd (qT dk.ar) λas e Z=>?_;refine Gc ?_;rw[e]
 unfold makeFunction;rw[hko];refine evB (a:=.none) (S':=⟨X.fr es m (zO L),tl,n,t,c,q⟩) rfl ?_;refine evB (a:=.none) (S':=⟨X.fr es m (zO L),tl,n,t,c,q⟩) rfl ?_;refine evB (a:=none) (S':=⟨X.fr es m (zO L),tl,n,t,c,q⟩) rfl ?_;refine evB (Zv dk.fr) ?_;refine evB (a:=.none) (S':=⟨X.fr es m (zO L),tl,n,t,c,q⟩) rfl ?_;refine evB (a:=.ref (n+5)) (S':=⟨X.fr es m (zO (L ++ [(d.pos.line,d.pos.col,n+5)])),d.cod env.qual file tx n t::d.tmp env.qual::QH (yi d.l2 (t+3+d.l1.length))::QH (yi d.l1 (t+3))::U3 []::QH []::tl,n+6,t+3+d.l1.length+d.l2.length+2,c+2+5+d.l1.length+1+d.l2.length+5+3,q⟩) ?_ ?_
 ·unfold functionCode
  refine cr ok ?_ hL;rw[dk.ln];exact Zw (f8 dk.fr) dk.ar
 rw[ok.glo,ok.bui];refine evB (Ut ok) ?_;refine evB (Uu (tF a1 a2) a4) ?_;simp only[dk.dc];refine evB Q8 ?_;rfl
noncomputable def X4(P:Params)(e:Str×Nat×Value):DictEntry:=⟨if e.1.cps.isEmpty then 0 else reduceHash (P.strHash e.1.cps),.str e.1 e.2.1,e.2.2⟩
noncomputable def zg(P:Params)(l:List (Str×Nat×Value)):List DictEntry:=l.map (X4 P)
noncomputable def yw(x:Str)(l:List (Str×Nat×Value)):Bool:=l.all λe=>!(e.1==x)
theorem cj{x:Str}{l:List (Str×Nat×Value)}(h:yw x l=true):(zg P l).toArray.findIdx? (·.key.isStr x)=none:=by
 rw[List.findIdx?_toArray,List.findIdx?_eq_none_iff];intro e he;refine zd (List.mem_map.mp he) λy hy Fy=>?_;subst Fy
 have:=List.all_eq_true.mp h y hy
 simp only[Bool.not_eq_true',beq_eq_false_iff_ne,ne_eq] at this
 show(Value.str y.1 y.2.1).isStr x=false
 show(y.1==x)=false
 simpa using this
theorem Zr{l:List (Str×Nat×Value)}:(zg P l).toArray.any (·.refKey)=false:=by
 rw[List.any_toArray,List.any_eq_false];intro e he;refine zd (List.mem_map.mp he) λy Z Fy=>?_;subst Fy;simp[X4,DictEntry.refKey]
theorem X7(ok:CBok X env file fl tx mod){x:Str}{v:Value}{l:List (Str×Nat×Value)}{m:Nat}{vs:List Value}{tl:List Obj}{n t c:Nat}(hn:yw x l=true)(ha:aRefKeyMayBeTheName x (zg P l).toArray=false):
  zj p P hc code stk (localSet env x v) ⟨X.fr (zg P l) m vs,tl,n,t,c,q⟩=some ((),⟨X.fr (zg P (l ++ [(x,t,v)])) (m+1) vs,tl,n,t+1,c+5,q⟩):=by
 unfold localSet;rw[ok.loc];refine evB (Kl (g24 ok)) ?_;show zj p P hc code stk (nsSet 24 x v) _=_;unfold nsSet strHash;refine evB (a:=if x.cps.isEmpty then 0 else reduceHash (P.strHash x.cps)) (S':=⟨X.fr (zg P l) m vs,tl,n,t,c+2,q⟩) rfl ?_
 refine evB qu ?_;refine evB (QP (g24 ok)) ?_;simp only[ha,Bool.false_eq_true,if_false];rw[Vj (g24 ok) rfl (by rw[f6 ok];rfl)]
 rw[show(24:Nat)=24+0 from rfl,f7 ok]
 rw[Obj.putName_eq];have e:Obj.putNameByArray x (if x.cps.isEmpty then 0 else reduceHash (P.strHash x.cps)) (.str x t) v (yF (zg P l) m)=yF (zg P (l ++ [(x,t,v)])) (m+1):=by
  show(match (zg P l).toArray.findIdx? (·.key.isStr x) with
   | some i=>(⟨.type "dict",none,.dict ((zg P l).toArray.modify i λe=>{ e with val:=v }) m,#[]⟩:Obj)
   | none=>⟨.type "dict",none,.dict ((zg P l).toArray.push ⟨if x.cps.isEmpty then 0 else reduceHash (P.strHash x.cps),.str x t,v⟩) (m+1),#[]⟩)=_
  rw[cj hn]
  show(⟨.type "dict",none,.dict ((zg P l).toArray.push ⟨if x.cps.isEmpty then 0 else reduceHash (P.strHash x.cps),.str x t,v⟩) (m+1),#[]⟩:Obj)=⟨.type "dict",none,.dict (zg P (l ++ [(x,t,v)])).toArray (m+1),#[]⟩
  simp[zg,X4]
 show some ((),St.mk (X.pre ++ [Obj.putNameByArray x _ (.str x t) v (yF (zg P l) m),X.o25,U3 vs,X.o27,X.o28]) tl n (t+1) _ q)=_;rw[e];rfl
theorem ic{x:Str}{l:List (Str×Nat×Value)}:aRefKeyMayBeTheName x (zg P l).toArray=false:=by
 rw[aRefKeyMayBeTheName_at,Zr,Bool.and_false]
theorem QO(ok:CBok X env file fl tx mod){x:Str}{v:Value}{l:List (Str×Nat×Value)}{m:Nat}{vs:List Value}{tl:List Obj}{n t c:Nat}(hk:env.kindOf x=some .local)(hn:yw x l=true):
  zj p P hc code stk (bindName env x v) ⟨X.fr (zg P l) m vs,tl,n,t,c,q⟩=some ((),⟨X.fr (zg P (l ++ [(x,t,v)])) (m+1) vs,tl,n,t+1,c+7,q⟩):=by
 unfold bindName;refine evB (a:=()) (S':=⟨X.fr (zg P l) m vs,tl,n,t,c+1,q⟩) (by rw[jK];rfl) ?_
 refine evB (a:=()) (S':=⟨X.fr (zg P (l ++ [(x,t,v)])) (m+1) vs,tl,n,t+1,c+6,q⟩) ?_ rfl;unfold storeName;rw[hk,ok.kin];exact X7 ok hn ic
theorem th(ok:CBok X env file fl tx mod){d:DD}(dk:DDok d env){ts:Option Scope}{l:List (Str×Nat×Value)}{m:Nat}{L:List (Nat×Nat×Nat)}{tl:List Obj}{n t c:Nat}(hL:Ja d.pos.line d.pos.col L=true)(hn:yw d.bind l=true):
  zj p P hc code stk (exec (d.stmt ts) env) ⟨X.fr (zg P l) m (zO L),tl,n,t,c,q⟩
   = some (.next,⟨X.fr (zg P (l ++ [(d.bind,t+3+d.l1.length+d.l2.length+2,.ref (n+6))])) (m+1) (zO (L ++ [(d.pos.line,d.pos.col,n+5)])),d.objs env.qual file tx mod n t tl,n+7,t+3+d.l1.length+d.l2.length+2+1,c+1+2+5+d.l1.length+1+d.l2.length+5+3+2+1+1+1+7,d.pos⟩):=by
 have hq:qualnameIn env d.name d.bind=env.qual++d.name:=by unfold qualnameIn;rw[dk.kd];rfl
 obtain⟨name,bind,args,body,scope,pos,l1,l2⟩:=d;refine zd (qT dk.ar) λas ea har=>?_;replace ea:args=_:=ea;subst ea;replace hq:qualnameIn env name bind=env.qual++name:=hq;show zj p P hc code stk (defStmt name bind ⟨[],as,none,[],[],none,[]⟩ body scope pos env [] ts [] [] ([],[]) (λe=>annotationsOf (as ++ [] ++ [] ++ [] ++ []) e ++ []) (.FunctionDef name ⟨[],as,none,[],[],none,[]⟩ body [] none [] scope none bind pos)) _=_
 unfold defStmt;refine evB (a:=[]) (S':=⟨X.fr (zg P l) m (zO L),tl,n,t,c,q⟩) rfl ?_;refine evB (a:=()) (S':=⟨X.fr (zg P l) m (zO L),tl,n,t,c+1,pos⟩) rfl ?_;refine evB (a:=.ref (n+6)) (S':=⟨X.fr (zg P l) m (zO (L ++ [(pos.line,pos.col,n+5)])),DD.objs ⟨name,bind,⟨[],as,none,[],[],none,[]⟩,body,scope,pos,l1,l2⟩ env.qual file tx mod n t tl,n+7,t+3+l1.length+l2.length+2,c+1+2+5+l1.length+1+l2.length+5+3+2+1+1,pos⟩) ?_ ?_
 ·rw[jK]
  refine evB (a:=[]) (S':=⟨X.fr (zg P l) m (zO L),tl,n,t,c+1,pos⟩) rfl ?_;refine evB (a:=[]) (S':=⟨X.fr (zg P l) m (zO L),tl,n,t,c+1,pos⟩) (by rw[jK];rfl) ?_
  rw[jK];have e:annotationsOf as env = []:=XS _ har;refine evB (a:=[]) (S':=⟨X.fr (zg P l) m (zO L),tl,n,t,c+1,pos⟩) (by simp only[List.append_nil,e];rfl) ?_
  rw[hq];exact QY ok dk hL
 refine evB (a:=.ref (n+6)) (S':=_) rfl ?_;refine evB (a:=()) (S':=⟨X.fr (zg P l) m (zO (L ++ [(pos.line,pos.col,n+5)])),DD.objs ⟨name,bind,⟨[],as,none,[],[],none,[]⟩,body,scope,pos,l1,l2⟩ env.qual file tx mod n t tl,n+7,t+3+l1.length+l2.length+2,c+1+2+5+l1.length+1+l2.length+5+3+2+1+1+1,pos⟩) rfl ?_;exact evB (QO ok dk.kd hn) rfl
end
end
noncomputable def oB(o:Option α)(f:α->Bool):Bool:=match o with | some v=>f v | none=>false
theorem QU{o:Option α}{f:α->Bool}(h:oB o f=true):∃v,o=some v/\f v=true:=by
 induction o with
 | none=>exact Bool.noConfusion h
 | some v=>exact⟨v,rfl,h⟩
structure FV where
 name:Str
 args:Arguments
 body:List Stmt
 scope:Scope
 ts:Option Scope
 bind:Str
noncomputable def fvS(s:Stmt):FV:=match s with
 | .FunctionDef n a b _ _ _ sc ts bi _=>⟨n,a,b,sc,ts,bi⟩
 | _=>⟨Str.empty,⟨[],[],none,[],[],none,[]⟩,[],Cf,none,Str.empty⟩
noncomputable def idE(e:Expr):Str:=match e with | .Name x _=>x | _=>Str.empty
noncomputable def cK(e:Expr):Const:=match e with | .Constant c _ _=>c | _=>.none
noncomputable def reN(e:Expr):Expr:=.Name (idE e) e.pos
noncomputable def reK(e:Expr):Expr:=.Constant (cK e) (vn e) e.pos
noncomputable def kdS(s:Stmt):Nat:=match s with
 | .FunctionDef ..=>0
 | .Assign _ (.List (.Name _ _::_) _) _=>2
 | .Assign _ (.List _ _) _=>3
 | _=>1
noncomputable def reA(s:Stmt)(v:Expr):Stmt:=.Assign [reN (kx s 1)] v s.pos
noncomputable def reF(s:Stmt):Stmt:=.FunctionDef (fvS s).name (fvS s).args (fvS s).body [] none [] (fvS s).scope (fvS s).ts (fvS s).bind s.pos
noncomputable def reL(s:Stmt)(f:Expr->Expr):Stmt:=reA s (.List ((vk (kx s 0)).map f) (kx s 0).pos)
noncomputable def reS(s:Stmt):Stmt:=cond (Nat.beq (kdS s) 0) (reF s) (cond (Nat.beq (kdS s) 1) (reA s (reK (kx s 0))) (cond (Nat.beq (kdS s) 2) (reL s reN) (reL s reK)))
noncomputable def ZN:Expr->Bool
 | .ListComp ..=>false
 | .SetComp ..=>false
 | .DictComp ..=>false
 | _=>true
noncomputable def lkV(x:Str):List (Str×Nat×Value)->Option Value
 | []=>none
 | (y,_,v)::r=>cond (y==x) (some v) (lkV x r)
noncomputable def bn:Expr->Bool
 | .Starred ..=>false
 | _=>true
section
variable {p:Program}{P:Params}{code:Code}
variable {X:CB}{file:Str}{fl tx:Nat}{mod:Value}
theorem kB{t:Option Expr}(h:ZN value=true):swapsWith value t line env=pure false:=by
 cases value<;>first | rfl | cases h
theorem cq(ok:CBok X env file fl tx mod){x:Str}{e:Expr}{v:Value}{l:List (Str×Nat×Value)}{m:Nat}{vs:List Value}{tl:List Obj}{n t c c':Nat}(hk:env.kindOf x=some .local)(hn:yw x l=true)(hc':ZN e=true)
  (he:zj p P hc code stk (eval e env) ⟨X.fr (zg P l) m vs,tl,n,t,c+1,pos⟩=some (v,⟨X.fr (zg P l) m vs,tl',n',t',c',q'⟩)) :
  zj p P hc code stk (exec (.Assign [.Name x np] e pos) env) ⟨X.fr (zg P l) m vs,tl,n,t,c,q⟩=some (.next,⟨X.fr (zg P (l ++ [(x,t',v)])) (m+1) vs,tl',n',t'+1,c'+1+7,np⟩):=by
 show zj p P hc code stk (do
  standAt pos
  if <- swapsWith e (some (.Name x np)) pos.line env then do
   evalThenUse e env λv=>assignAll v ((assignEach [.Name x np] env).map (·.2))
   pure .next
  else do
   let v <- eval e env
   assignStores env v (<- swappedStores [.Name x np] e env) ((assignEach [.Name x np] env).map (·.2)):Sem Flow) _=_
 refine evB (a:=()) (S':=⟨X.fr (zg P l) m vs,tl,n,t,c+1,pos⟩) rfl ?_;rw[kB hc'];refine evB Q8 ?_;simp only[Bool.false_eq_true,if_false];refine evB he ?_;refine evB (a:=none) (S':=⟨X.fr (zg P l) m vs,tl',n',t',c',q'⟩) rfl ?_;refine evB (a:=()) (S':=⟨X.fr (zg P (l ++ [(x,t',v)])) (m+1) vs,tl',n',t'+1,c'+1+7,np⟩) ?_ rfl;show zj p P hc code stk (do standAt np;bindName env x v:Sem Unit) _=_
 refine evB (a:=()) (S':=⟨X.fr (zg P l) m vs,tl',n',t',c'+1,np⟩) rfl ?_;exact QO ok hk hn
theorem ti{i:Int}{kd:Nat}{cp:Pos}{fr tl:List Obj}{n t c:Nat}:zj p P hc code stk (eval (.Constant (.int i) kd cp) env) ⟨fr,tl,n,t,c,q⟩=some (.int i t,⟨fr,tl,n,t+1,c+1,q⟩):=rfl
theorem tj{i:Str}{kd:Nat}{cp:Pos}{fr tl:List Obj}{n t c:Nat}:zj p P hc code stk (eval (.Constant (.str i) kd cp) env) ⟨fr,tl,n,t,c,q⟩=some (.str i t,⟨fr,tl,n,t+1,c+1,q⟩):=rfl
theorem Vi{x:Str}{v:Value}:∀{l:List (Str×Nat×Value)},lkV x l=some v->∃e,(zg P l).find? (·.key.isStr x)=some e/\e.val=v
 | [],h=>by cases h
 | (y,tk,u)::r,h=>by
  replace h:cond (y==x) (some u) (lkV x r)=some v:=h;show ∃e,List.find? _ (X4 P (y,tk,u)::zg P r)=some e/\_;rw[List.find?_cons];have e1:(X4 P (y,tk,u)).key.isStr x=(y==x):=rfl;rw[e1]
  cases hb:y==x with
  | true=>rw[hb] at h;cases h;exact⟨_,rfl,rfl⟩
  | false=>rw[hb] at h;exact Vi h
theorem cN{x:Str}{v:Value}{l:List (Str×Nat×Value)}{m:Nat}(h:lkV x l=some v):nsLook x (yF (zg P l) m)=Sem.pure (some v):=by
 rw[nsLook_eq];refine zd (Vi (P:=P) h) λe h1 h2=>?_
 show(match (zg P l).toArray.find? (·.key.isStr x) with
  | some e=>pure (some e.val)
  | none=>if (zg P l).toArray.any (·.refKey) then unsupported "namespace:key-that-is-no-exact-str" else pure none:Sem (Option Value))=_
 rw[List.find?_toArray,h1,<- h2];rfl
set_option backward.match.sparseCases true in
theorem lP(ok:CBok X env file fl tx mod){x:Str}{v:Value}{l:List (Str×Nat×Value)}{m:Nat}{vs:List Value}{tl:List Obj}{n t c:Nat}(hk:env.kindOf x=some .local)(hd:(x==("__debug__" : Str))=false)(hv:lkV x l=some v):
  zj p P hc code stk (eval (.Name x pos) env) ⟨X.fr (zg P l) m vs,tl,n,t,c,q⟩=some (v,⟨X.fr (zg P l) m vs,tl,n,t,c+3,pos⟩):=by
 show zj p P hc code stk (do standAt pos;if x==("__debug__" : Str) then debugConstant else loadName env x:Sem Value) _=_
 refine evB (a:=()) (S':=⟨X.fr (zg P l) m vs,tl,n,t,c+1,pos⟩) rfl ?_;rw[hd];simp only[Bool.false_eq_true,if_false];have ln:loadName env x=(do
  if let some v <- localGet env x then return v
  loadGlobal env x:Sem Value):=by
  unfold loadName Env.blockKind;rw[ok.kin,hk];rfl
 rw[ln];refine evB (a:=some v) (S':=⟨X.fr (zg P l) m vs,tl,n,t,c+3,pos⟩) ?_ rfl;unfold localGet;rw[ok.loc];refine evB (Kl (g24 ok)) ?_;exact Uu (g24 ok) (cN hv)
theorem Y0{e:Expr}(h:bn e=true):starEach (e::rest) env=(false,eval e env)::starEach rest env:=by
 cases e<;>first | rfl | cases h
theorem Uv:zj p P hc code stk (spliced (backTo pos (starEach [] env))) S=some ([],S):=rfl
theorem QQ{e:Expr}{v:Value}{us:List Value}(hs:bn e=true)(h:zj p P hc code stk (eval e env) S=some (v,S'))(k:zj p P hc code stk (spliced (backTo pos (starEach rest env))) S'=some (us,S'')):
  zj p P hc code stk (spliced (backTo pos (starEach (e::rest) env))) S=some (v::us,S''):=by
 rw[Y0 hs];show zj p P hc code stk (do
  let v <- eval e env
  let here <- pure [v]
  return here++(<- holding here (spliced (backTo pos (starEach rest env)))):Sem (List Value)) S=_
 refine evB h ?_;refine evB Q8 ?_;refine evB (by rw[jK];exact k) ?_
 rfl
noncomputable def kAt(ns:List (Str×NameKind))(i:Nat)(x:Str):Bool:=match lAt ns i with | some (y,_)=>y==x | none=>false
noncomputable def x9(x:Str)(a:Nat)(o:Option (Str×Nat×Value)):Bool:=match o with | some (y,_,.ref b)=>y==x&&Nat.beq a b | _=>false
theorem lE{x:Str}{a:Nat}{o:Option (Str×Nat×Value)}(h:x9 x a o=true):∃tk,o=some (x,tk,.ref a):=by
 induction o with
 | none=>exact ft h
 | some p =>
  obtain⟨y,tk,v⟩:=p
  induction v with
  | ref b =>
   obtain⟨h1,h2⟩:=za h;obtain rfl:=eq_of_beq h1;obtain rfl:=Nat.eq_of_beq_eq_true h2;exact⟨tk,rfl⟩
  | _=>exact ft h
noncomputable def eAt(l:List (Str×Nat×Value))(j:Nat)(x:Str)(a:Nat):Bool:=x9 x a (lAt l j)
noncomputable def hd?(l:List α):Option (α×List α):=match l with | []=>none | a::r=>some (a,r)
theorem hd?_of{l:List α}{p:α×List α}(h:hd? l=some p):l=p.1::p.2:=by
 cases l with
 | nil=>cases h
 | cons a r=>cases h;rfl
noncomputable def BS(v:Value):Option Addr:=match v with | .ref a=>some a | _=>none
theorem ow{v:Value}{a:Addr}(h:BS v=some a):v=.ref a:=by
 cases v<;>first | cases h;rfl | cases h
noncomputable def Xi(ns:List (Str×NameKind))(l:List (Str×Nat×Value)):List Expr->List Value->List (Nat×Nat)->Bool
 | [],vs,_=>vs.isEmpty
 | e::es,vs,hs=>oB (hd? vs) λu=>oB (hd? hs) λg=>oB (BS u.1) λa=>(kAt ns g.1.1 (idE e) && !(idE e==("__debug__" : Str)))&&(eAt l g.1.2 (idE e) a&&Xi ns l es u.2 g.2)
theorem JG{x:Str}:∀{ns:List (Str×NameKind)} {i:Nat},(ns.all λe=>e.2==.local)=true->kAt ns i x=true->ns.lookup x=some .local
 | [],i,_,h=>by cases h
 | (y,k)::ns,i,ha,h=>by
  simp only[List.all_cons,Bool.and_eq_true,beq_iff_eq] at ha;rw[List.lookup_cons]
  cases hb:x==y with
  | true=>rw[ha.1]
  | false =>
   induction i with
   | zero =>
    cases eq_of_beq (show(y==x)=true from h)
    rw[beq_self_eq_true] at hb;cases hb
   | succ i=>exact JG ha.2 h
abbrev k4(l:List (Str×Nat×Value)):Prop:=l.Pairwise λa b=>a.1≠b.1
theorem gO{x:Str}{tk:Nat}{v:Value}:∀{l:List (Str×Nat×Value)},k4 l->(x,tk,v)∈l->lkV x l=some v
 | [],_,h=>by cases h
 | (y,tk',u)::l,hd,h=>by
  have hd':=List.pairwise_cons.mp hd;show cond (y==x) (some u) (lkV x l)=some v
  cases h with
  | head=>rw[beq_self_eq_true];rfl
  | tail _ h =>
   rw[beq_eq_false_iff_ne.mpr (hd'.1 _ h)];exact gO hd'.2 h
theorem a9{α:Type}{x:α}:∀{l:List α} {i:Nat},lAt l i=some x->x∈l
 | [],_,h=>by cases h
 | y::l,0,h=>by cases h;exact .head _
 | y::l,i+1,h=>.tail _ (a9 (l:=l) h)
theorem sS{l:List (Str×Nat×Value)}{x:Str}{a:Nat}(hd:k4 l)(h:eAt l j x a=true):lkV x l=some (.ref a):=
 let⟨_,e⟩:=lE h
 gO hd (a9 e)
noncomputable def ba(q:Pos):List Expr->Pos
 | []=>q
 | e::es=>ba e.pos es
theorem al1(c n:Nat):c+3+3*n=c+3*(n+1):=by lia
theorem al2(c n:Nat):c+1+n=c+(n+1):=by lia
theorem fN(ok:CBok X env file fl tx mod){l:List (Str×Nat×Value)}{m:Nat}{vs:List Value}{tl:List Obj}{n t:Nat}(JR:(env.scope.names.all λe=>e.2==.local)=true)(hd:k4 l):∀{es:List Expr} {us:List Value} {hs:List (Nat×Nat)} {c:Nat} {q:Pos},Xi env.scope.names l es us hs=true ->
  zj p P hc code stk (spliced (backTo pos (starEach (es.map reN) env))) ⟨X.fr (zg P l) m vs,tl,n,t,c,q⟩=some (us,⟨X.fr (zg P l) m vs,tl,n,t,c+3*es.length,ba q es⟩):=by
 intro es
 induction es with
 | nil =>
  intro us hs c q h;obtain rfl:=List.isEmpty_iff.mp h;exact Uv
 | cons e es ih =>
  intro us hs c q h;refine byc λGa=>?_;refine zd (QU h) λFz e2 h=>?_;obtain⟨u,us'⟩:=Fz;refine zd (QU h) λFy e3 h=>?_;obtain⟨⟨i,j⟩,hs'⟩:=Fy;refine zd (QU h) λa e4 h=>?_;refine zh (za h) λh1 h3=>?_;refine Ga ?_;obtain rfl:=hd?_of e2;obtain rfl:=ow e4;rw[List.length_cons,<- al1];exact QQ rfl (lP ok (JG JR (za h1).1) ((Bool.not_eq_true' _).mp (za h1).2) (sS hd (za h3).1)) (ih (c:=c+3) (za h3).2)
noncomputable def gF(c:Const)(v:Value)(t:Nat):Bool:=match c with
 | .int i=>(match v with | .int j u=>i==j&&Nat.beq t u | _=>false)
 | .str i=>(match v with | .str j u=>i==j&&Nat.beq t u | _=>false)
 | _=>false
set_option tactic.hygienic true in
theorem fJ{c:Const}{v:Value}{kd:Nat}{cp:Pos}{fr tl:List Obj}{n t cc:Nat}(h:gF c v t=true):zj p P hc code stk (eval (.Constant c kd cp) env) ⟨fr,tl,n,t,cc,q⟩=some (v,⟨fr,tl,n,t+1,cc+1,q⟩):=by
 induction c
 case int i =>
  induction v
  case int j u=>have h:=za h;rw[<- eq_of_beq h.1,<- Nat.eq_of_beq_eq_true h.2];exact ti
  all_goals exact ft h
 case str i =>
  induction v
  case str j u=>have h:=za h;rw[<- eq_of_beq h.1,<- Nat.eq_of_beq_eq_true h.2];exact tj
  all_goals exact ft h
 all_goals exact ft h
noncomputable def ZF(t:Nat):List Expr->List Value->Bool
 | [],vs=>vs.isEmpty
 | e::es,vs=>oB (hd? vs) λu=>gF (cK e) u.1 t&&ZF (t+1) es u.2
theorem lO{fr tl:List Obj}{n:Nat}:∀{es:List Expr} {us:List Value} {c t:Nat},ZF t es us=true ->
  zj p P hc code stk (spliced (backTo pos (starEach (es.map reK) env))) ⟨fr,tl,n,t,c,q⟩=some (us,⟨fr,tl,n,t+es.length,c+es.length,q⟩):=by
 intro es
 induction es with
 | nil =>
  intro us c t h;obtain rfl:=List.isEmpty_iff.mp h;exact Uv
 | cons e es ih =>
  intro us c t h;refine zd (QU h) λFy e2 h=>?_;obtain⟨u,us'⟩:=Fy
  obtain rfl:=hd?_of e2;rw[List.length_cons,<- al2 t,<- al2 c];exact QQ rfl (fJ (cc:=c) (za h).1) (ih (c:=c+1) (za h).2)
noncomputable abbrev U6(vs:List Value):Obj:=⟨.type "list",none,.seq vs.toArray 0,#[]⟩
theorem aI{es:List Expr}{us:List Value}{ps:Pos}{fr tl:List Obj}{n t c c':Nat}(h:zj p P hc code stk (spliced (backTo ps (starEach es env))) ⟨fr,tl,n,t,c+1,ps⟩=some (us,⟨fr,tl,n,t',c',q'⟩))(hl:Nat.ble us.length 1000=true):
  zj p P hc code stk (eval (.List es ps) env) ⟨fr,tl,n,t,c,q⟩=some (.ref n,⟨fr,U6 us::tl,n+1,t',c'+1,q'⟩):=by
 show zj p P hc code stk (do standAt ps;newList (<- spliced (backTo ps (starEach es env))):Sem Value) _=_
 refine evB (a:=()) (S':=⟨fr,tl,n,t,c+1,ps⟩) rfl ?_;refine evB h ?_;have hl:¬ us.toArray.size>sizeLine:=by
  rw[List.size_toArray];exact Nat.not_lt.mpr (Nat.le_trans (Nat.le_of_ble_eq_true hl) (by decide))
 unfold newList newObj;simp only[hl,if_false];rfl
noncomputable def llS(s:Stmt):List Str×List Str:=(localNames (fvS s).args (fvS s).scope (.stmts (fvS s).body)).getD ([],[])
noncomputable def ddS(s:Stmt):DD:=⟨(fvS s).name,(fvS s).bind,(fvS s).args,(fvS s).body,(fvS s).scope,s.pos,(llS s).1,(llS s).2⟩
noncomputable def ox(v:Value):Nat:=match v with | .ref a=>a | _=>0
noncomputable def Zk(qual file:Str)(tx:Nat)(mod:Value)(tab:Str->List Value)(s:Stmt)(x:Str)(v:Value)(t:Nat)(tl:List Obj):List Obj:=
 cond (Nat.beq (kdS s) 0) ((ddS s).objs qual file tx mod (Nat.sub (ox v) 6) t tl) (cond (Nat.beq (kdS s) 1) tl (U6 (tab x)::tl))
noncomputable def cTl(qual file:Str)(tx:Nat)(mod:Value)(tab:Str->List Value):List Stmt->List (Str×Nat×Value)->Nat->List Obj->List Obj
 | [],_,_,tl=>tl
 | st::r,E,t,tl=>match E with
  | []=>tl
  | e::es=>cTl qual file tx mod tab r es (e.2.1+1) (Zk qual file tx mod tab st e.1 e.2.2 t tl)
noncomputable def ZH(v:Value)(n:Nat):Bool:=match v with | .ref a=>Nat.beq a n | _=>false
noncomputable def J0(l:List Nat):Nat:=List.rec (motive:=λZ=>Nat) 0 (λc Z ih=>Nat.add c (Nat.mul 1114112 ih)) l
noncomputable def nb(c:Nat)(l:List Nat):Bool:=List.rec (motive:=λZ=>Bool) true (λy Z ih=>cond (Nat.beq y c) false ih) l
theorem hU{c:Nat}:∀{l:List Nat},nb c l=true->c∉l
 | [],_,h=>by cases h
 | y::r,h,hm=>by
  have h:cond (Nat.beq y c) false (nb c r)=true:=h
  cases e:Nat.beq y c with
  | true=>rw[e] at h;cases h
  | false =>
   rw[e] at h
   cases hm with
   | head=>rw[Nat.beq_refl] at e;cases e
   | tail _ hm=>exact hU h hm
noncomputable def J5(x:Str)(c:Nat)(sc:List Nat):Bool:=cond (Nat.beq (J0 x.cps.toList) c) (nb c sc) false
theorem Vo{x:Str}{c:Nat}{sc:List Nat}(h:J5 x c sc=true):J0 x.cps.toList=c/\c∉sc:=by
 have h:cond (Nat.beq (J0 x.cps.toList) c) (nb c sc) false=true:=h
 cases e:Nat.beq (J0 x.cps.toList) c with
 | false=>rw[e] at h;exact ft h
 | true=>rw[e] at h;exact⟨Nat.eq_of_beq_eq_true e,hU h⟩
set_option tactic.hygienic true in
theorem Vu{v:Value}{n:Nat}(h:ZH v n=true):v=.ref n:=by
 induction v
 case ref a=>rw[Nat.eq_of_beq_eq_true h]
 all_goals exact ft h
noncomputable def c3(E:List (Str×Nat×Value))(hks cs:List Nat)(K:Str->Nat->Value->List (Str×Nat×Value)->Nat->List Nat->Nat->List Nat->Bool):Bool:=
 oB (hd? E) λe=>oB (hd? hks) λhk=>oB (hd? cs) λcd=>K e.1.1 e.1.2.1 e.1.2.2 e.2 hk.1 hk.2 cd.1 cd.2
theorem xO{E:List (Str×Nat×Value)}{hks cs:List Nat}{K:Str->Nat->Value->List (Str×Nat×Value)->Nat->List Nat->Nat->List Nat->Bool}(h:c3 E hks cs K=true):∃x tk v es hk hks' cd cs',E=(x,tk,v)::es/\hks=hk::hks'/\cs=cd::cs'/\K x tk v es hk hks' cd cs'=true:=by
 refine byc λGa=>?_;refine zd (QU h) λe e1 h=>?_;refine zd (QU h) λhk e2 h=>?_;refine zd (QU h) λcd e3 h=>?_;refine Ga ?_;exact(zm _ _ _ (zm _ _ _ (yV _ _ (hd?_of e1) (hd?_of e2) (hd?_of e3) h)))
noncomputable def ckF(ns:List (Str×NameKind))(s:Stmt)(x:Str)(tk:Nat)(v:Value)(hk Fh n t:Nat)(l:Nat×Nat×Nat):Bool:=
  ((JJ (fvS s).args&&(fvS s).scope.names.all (λx=>!(x.2==.free)))&&((localNames (fvS s).args (fvS s).scope (.stmts (fvS s).body)).isSome&&(docOf (fvS s).body).isNone)) &&
  (((kAt ns hk (fvS s).bind&&Nat.blt Fh s.pos.line)&&((fvS s).bind==x&&ZH v (n+6))) &&
   ((Nat.beq tk (t+3+(llS s).1.length+(llS s).2.length+2)&&Nat.beq l.1 s.pos.line)&&(Nat.beq l.2.1 s.pos.col&&Nat.beq l.2.2 (n+5))))
noncomputable def ckA(ns:List (Str×NameKind))(s:Stmt)(x:Str)(hk:Nat):Bool:=kAt ns hk x&&idE (kx s 1)==x
noncomputable def cSt(ns:List (Str×NameKind))(tab:Str->List Value)(Fm:List (Nat×Nat))(st:Stmt)(L:List (Nat×Nat×Nat))(acc:List (Str×Nat×Value))(sc:List Nat)(Fh n t c:Nat)(R:List (Str×Nat×Value)->List (Nat×Nat×Nat)->List Nat->List Nat->List (Str×Nat×Value)->List Nat->Nat->Nat->Nat->Nat->Pos->Bool)(x:Str)(tk:Nat)(v:Value)(es:List (Str×Nat×Value))(hk:Nat)(hks:List Nat)(cd:Nat)(cs:List Nat):Bool:=J5 x cd sc &&
  cond (Nat.beq (kdS st) 0) (oB (hd? L) λl=>ckF ns st x tk v hk Fh n t l.1&&R es l.2 hks cs ((x,tk,v)::acc) (cd::sc) st.pos.line (n+7) (tk+1) (c+1+2+5+(llS st).1.length+1+(llS st).2.length+5+3+2+1+1+1+7) st.pos)
   (ckA ns st x hk&&cond (Nat.beq (kdS st) 1)
    ((Nat.beq tk (t+1)&&gF (cK (kx st 0)) v t)&&R es L hks cs ((x,tk,v)::acc) (cd::sc) Fh n (tk+1) (c+1+1+1+7) (kx st 1).pos)
    ((ZH v n&&Nat.ble (tab x).length 1000)&&cond (Nat.beq (kdS st) 2)
     ((Xi ns acc.reverse (vk (kx st 0)) (tab x) Fm&&Nat.beq tk t)&&R es L hks cs ((x,tk,v)::acc) (cd::sc) Fh (n+1) (tk+1) (c+1+1+3*(vk (kx st 0)).length+1+1+7) (kx st 1).pos)
     ((ZF t (vk (kx st 0)) (tab x)&&Nat.beq tk (t+(vk (kx st 0)).length))&&R es L hks cs ((x,tk,v)::acc) (cd::sc) Fh (n+1) (tk+1) (c+1+1+(vk (kx st 0)).length+1+1+7) (kx st 1).pos)))
noncomputable def cg(ns:List (Str×NameKind))(tab:Str->List Value)(Fm:List (Nat×Nat))(nE tE cE:Nat)(qE:Pos):List Stmt->List (Str×Nat×Value)->List (Nat×Nat×Nat)->List Nat->List Nat->List (Str×Nat×Value)->List Nat->Nat->Nat->Nat->Nat->Pos->Bool
 | [],E,L,_,_,_,_,_,n,t,c,q=>(E.isEmpty&&L.isEmpty)&&((Nat.beq n nE&&Nat.beq t tE)&&(Nat.beq c cE&&decide (q=qE)))
 | st::r,E,L,hks,cs,acc,sc,Fh,n,t,c,_=>c3 E hks cs (cSt ns tab Fm st L acc sc Fh n t c (cg ns tab Fm nE tE cE qE r))
structure AccOk(acc:List (Str×Nat×Value))(sc:List Nat):Prop where
 cod:∀e∈acc,J0 e.1.cps.toList∈sc
 dist:k4 acc
theorem AccOk.no{acc:List (Str×Nat×Value)}{sc:List Nat}(h:AccOk acc sc){x:Str}{c:Nat}(f:J5 x c sc=true):yw x acc=true:=by
 obtain⟨e1,f2⟩:=Vo f;unfold yw;rw[List.all_eq_true];intro e he;have h1:=h.cod e he
 have:e.1≠x:=by
  rintro rfl;rw[e1] at h1;exact f2 h1
 simpa using this
theorem AccOk.cons{acc:List (Str×Nat×Value)}{sc:List Nat}(h:AccOk acc sc){x:Str}{c:Nat}{v:Value}(f:J5 x c sc=true):AccOk ((x,tk,v)::acc) (c::sc):=by
 have hn:=h.no f;obtain⟨e1,f2⟩:=Vo f;refine⟨λe he=>?_,List.pairwise_cons.mpr ⟨λe he=>?_,h.dist⟩⟩
 ·cases he with
  | head=>rw[<- e1];exact .head _
  | tail _ he=>exact .tail _ (h.cod e he)
 ·have:=List.all_eq_true.mp hn e he
  simp only[Bool.not_eq_true',beq_eq_false_iff_ne,ne_eq] at this;exact λq=>this q.symm
noncomputable def Zd:List (Str×Nat×Value)->List Nat->Bool
 | [],[]=>true
 | (x,_,_)::acc,c::sc=>cond (J5 x c sc) (Zd acc sc) false
 | _,_=>false
theorem Uh:∀{acc:List (Str×Nat×Value)} {sc:List Nat},Zd acc sc=true->AccOk acc sc
 | [],[],_=>⟨λe he=>(nomatch he),List.Pairwise.nil⟩
 | (x,tk,v)::acc,c::sc,h=>by
  have h:cond (J5 x c sc) (Zd acc sc) false=true:=h
  cases e:J5 x c sc with
  | false=>rw[e] at h;exact ft h
  | true=>rw[e] at h;exact(Uh h).cons e
 | [],_::_,h=>by cases h
 | _::_,[],h=>by cases h
theorem UO{x:Str}{l:List (Str×Nat×Value)}(h:yw x l=true):yw x l.reverse=true:=by
 unfold yw at *;rw[List.all_reverse];exact h
theorem YN{l c:Nat}:∀{L:List (Nat×Nat×Nat)},(∀x∈L,x.1<l)->Ja l c L=true
 | [],_=>rfl
 | (l',c',a)::L,h=>by
  show cond (Nat.beq l' l) (cond (Nat.beq c' c) false (Ja l c L)) (Ja l c L)=true
  have:Nat.beq l' l=false:=by
   cases e:Nat.beq l' l with
   | false=>rfl
   | true=>exact absurd (Nat.eq_of_beq_eq_true e) (Nat.ne_of_lt (h (l',c',a) (.head _)))
  rw[this];exact YN λx hx=>h x (.tail _ hx)
theorem U2{st:Stmt}{rest:List Stmt}{r:Option (Flow×St)}(h:zj p P hc code stk (exec st env) S=some (.next,S'))(k:zj p P hc code stk (execs rest env) S'=r):zj p P hc code stk (execs (st::rest) env) S=r:=by
 rw[execs_cons];exact evB h k
section
variable {X:CB}{file:Str}{fl tx:Nat}{mod:Value}{acc es:List (Str×Nat×Value)}{x:Str}{m n t c:Nat}{v:Value}{tl:List Obj}{hk:Nat}{s:Stmt}{LA:List (Nat×Nat×Nat)}
theorem wm(ok:CBok X env file fl tx mod)(JR:(env.scope.names.all λe=>e.2==.local)=true){Fh:Nat}{l:Nat×Nat×Nat}(h:ckF env.scope.names s x tk v hk Fh n t l=true)(hL:∀x∈LA,x.1<=Fh)(kn:yw x acc=true):
  zj p P hc code stk (exec (reF s) env) ⟨X.fr (zg P acc.reverse) m (zO LA),tl,n,t,c,q⟩=some (.next,⟨X.fr (zg P (acc.reverse ++ [(x,tk,v)])) (m+1) (zO (LA ++ [l])),(ddS s).objs env.qual file tx mod (Nat.sub (ox v) 6) t tl,n+7,tk+1,c+1+2+5+(llS s).1.length+1+(llS s).2.length+5+3+2+1+1+1+7,s.pos⟩) /\ ∀y∈LA ++ [l],y.1<=s.pos.line:=by
 refine byc λGa=>?_;refine zh (za h) λh1 h=>?_;refine zh (za h1) λh1 h2=>?_;refine zh (za h) λh3 h=>?_;refine zh (za h3) λh3 h4=>?_;refine zh (za h) λh5 h6=>?_;refine zh (za h5) λh5 h7=>?_;refine zh (za h6) λh6 h8=>?_;have ex:(fvS s).bind=x:=eq_of_beq (za h4).1;refine Ga ?_;have el:l=(s.pos.line,s.pos.col,n+5):=by
  refine byc λGc=>?_;obtain⟨l1,l2,l3⟩:=l;refine Gc ?_;rw[show l1=s.pos.line from Nat.eq_of_beq_eq_true h7,show l2=s.pos.col from Nat.eq_of_beq_eq_true h6,show l3=n+5 from Nat.eq_of_beq_eq_true h8]
 have hlt:Fh<s.pos.line:=Nat.le_of_ble_eq_true (za h3).2;have hll:localNames (fvS s).args (fvS s).scope (.stmts (fvS s).body)=some ((llS s).1,(llS s).2):=by
  unfold llS
  cases e:localNames (fvS s).args (fvS s).scope (.stmts (fvS s).body) with
  | none=>rw[e] at h2;exact ft (za h2).1
  | some p=>rfl
 rw[Vu (za h4).2,Nat.eq_of_beq_eq_true h5,el,<- ex];refine⟨?_,λy hy=>?_⟩
 ·rw[show Nat.sub (ox (.ref (n+6))) 6=n from Nat.add_sub_cancel n 6]
  exact th ok (d:=ddS s) ⟨(za h1).1,(za h1).2,hll,Option.isNone_iff_eq_none.mp (za h2).2,JG JR (za h3).1⟩
   (YN λx hx=>Nat.lt_of_le_of_lt (hL x hx) hlt) (UO (by rw[show(ddS s).bind=x from ex];exact kn))
 ·rcases List.mem_append.mp hy with hy | hy
  ·exact Nat.le_of_lt (Nat.lt_of_le_of_lt (hL y hy) hlt)
  ·rw[List.mem_singleton.mp hy];exact Nat.le_refl _
theorem Z0(ok:CBok X env file fl tx mod)(JR:(env.scope.names.all λe=>e.2==.local)=true)(h:ckA env.scope.names s x hk=true)(kn:yw x acc=true){e:Expr}{vs:List Value}{c':Nat}(he':ZN e=true)
  (he:zj p P hc code stk (eval e env) ⟨X.fr (zg P acc.reverse) m vs,tl,n,t,c+1,s.pos⟩=some (v,⟨X.fr (zg P acc.reverse) m vs,tl',n',tk,c',q'⟩)) :
  zj p P hc code stk (exec (reA s e) env) ⟨X.fr (zg P acc.reverse) m vs,tl,n,t,c,q⟩=some (.next,⟨X.fr (zg P (acc.reverse ++ [(x,tk,v)])) (m+1) vs,tl',n',tk+1,c'+1+7,(kx s 1).pos⟩):=by
 have ex:idE (kx s 1)=x:=eq_of_beq (za h).2;have hk:=JG JR (za h).1;rw[<- ex] at hk kn ⊢;exact cq ok hk (UO kn) he' he
end
theorem am(m k:Nat):m+1+k=m+(k+1):=by lia
theorem aH(ok:CBok X env file fl tx mod){tab:Str->List Value}{Fm:List (Nat×Nat)}{nE tE cE:Nat}{qE:Pos}(JR:(env.scope.names.all λe=>e.2==.local)=true):∀(b:List Stmt) {E:List (Str×Nat×Value)} {L LA:List (Nat×Nat×Nat)} {hks cs sc:List Nat} {acc:List (Str×Nat×Value)} {Fh m n t c:Nat} {q:Pos} {tl:List Obj},
  cg env.scope.names tab Fm nE tE cE qE b E L hks cs acc sc Fh n t c q=true->(∀x∈LA,x.1<=Fh)->AccOk acc sc ->
  zj p P hc code stk (execs (b.map reS) env) ⟨X.fr (zg P acc.reverse) m (zO LA),tl,n,t,c,q⟩=some (.next,⟨X.fr (zg P (acc.reverse++E)) (m+E.length) (zO (LA++L)),cTl env.qual file tx mod tab b E t tl,nE,tE,cE,qE⟩):=by
 intro b
 induction b with
 | nil =>
  intro E L LA hks cs sc acc Fh m n t c q tl h hL hA;refine zh (za h) λh1 h2=>?_;refine zh (za h2) λh2 h3=>?_;rw[<- Nat.eq_of_beq_eq_true (za h2).1,<- Nat.eq_of_beq_eq_true (za h2).2,<- Nat.eq_of_beq_eq_true (za h3).1,<- of_decide_eq_true (za h3).2,List.isEmpty_iff.mp (za h1).1,List.isEmpty_iff.mp (za h1).2,List.append_nil,List.append_nil];rfl
 | cons s r ih =>
  intro E L LA hks cs sc acc Fh m n t c q tl h hL hA;refine zi (xO (K:=cSt env.scope.names tab Fm s L acc sc Fh n t c (cg env.scope.names tab Fm nE tE cE qE r)) h) λx tk v Gb=>zi Gb λes hk hks' Gb=>Ju Gb λcd cs' Fy Fz Gf h=>?_;subst Fy;subst Fz;subst Gf;refine zh (za h) λkf h=>?_;have kn:=hA.no kf;have hA':=hA.cons (tk:=tk) (v:=v) kf
  -- one statement,then the rest
  have fin:∀{tl':List Obj} {L1 L2 LA':List (Nat×Nat×Nat)} {Fw n' c':Nat} {q':Pos} {s':Stmt},LA++L1=LA'->reS s=s'->tl'=Zk env.qual file tx mod tab s x v t tl->L1++L2=L ->
    zj p P hc code stk (exec s' env) ⟨X.fr (zg P acc.reverse) m (zO LA),tl,n,t,c,q⟩=some (.next,⟨X.fr (zg P (acc.reverse ++ [(x,tk,v)])) (m+1) (zO LA'),tl',n',tk+1,c',q'⟩) ->
    cg env.scope.names tab Fm nE tE cE qE r es L2 hks' cs' ((x,tk,v)::acc) (cd::sc) Fw n' (tk+1) c' q'=true->(∀y∈LA',y.1<=Fw) ->
    zj p P hc code stk (execs ((s::r).map reS) env) ⟨X.fr (zg P acc.reverse) m (zO LA),tl,n,t,c,q⟩=some (.next,⟨X.fr (zg P (acc.reverse++(x,tk,v)::es)) (m+(es.length+1)) (zO (LA++L)),cTl env.qual file tx mod tab (s::r) ((x,tk,v)::es) t tl,nE,tE,cE,qE⟩):=by
   intro tl' L1 L2 LA' Fw n' c' q' s' hA1 hs ht hL' he hc hl;subst hA1 hs ht hL';refine U2 he ?_;have e2:=ih (LA:=LA++L1) (m:=m+1) (tl:=Zk env.qual file tx mod tab s x v t tl) hc hl hA';rw[List.reverse_cons] at e2;rw[e2,List.append_assoc,List.append_assoc,am];rfl
  clear ih hA'
  cases k0:Nat.beq (kdS s) 0 with
  | true =>
   rw[k0] at h;refine zd (QU h) λl e h=>?_;refine zh (za h) λh1 h2=>?_;obtain⟨e1,e2⟩:=wm ok JR h1 hL kn;exact fin (L1:=[l.1]) rfl (s':=reF s) (tl':=(ddS s).objs env.qual file tx mod (Nat.sub (ox v) 6) t tl) (by unfold reS;rw[k0];rfl) (by unfold Zk;rw[k0];rfl) (hd?_of e).symm e1 h2 e2
  | false =>
   rw[k0] at h;refine zh (za h) λha h=>?_
   cases k1:Nat.beq (kdS s) 1 with
   | true =>
    rw[k1] at h;refine zh (za h) λh1 h2=>?_;have et:tk=t+1:=Nat.eq_of_beq_eq_true (za h1).1;have e1:=Z0 (p:=p) (P:=P) (hc:=hc) (code:=code) (stk:=stk) (v:=v) (tk:=tk) (m:=m) (tl:=tl) (n:=n) (t:=t) (c:=c) (q:=q) (vs:=zO LA) ok JR ha kn (e:=reK (kx s 0)) rfl (by rw[et];exact fJ (za h1).2)
    exact fin (L1:=[]) (List.append_nil _) (s':=reA s (reK (kx s 0))) (tl':=tl) (by unfold reS;rw[k0,k1];rfl) (by unfold Zk;rw[k0,k1];rfl) rfl e1 h2 hL
   | false =>
    rw[k1] at h;refine zh (za h) λhb h=>?_;have ev:v=.ref n:=Vu (za hb).1
    cases k2:Nat.beq (kdS s) 2 with
    | true =>
     rw[k2] at h;refine zh (za h) λh1 h2=>?_;have e1:=Z0 (p:=p) (P:=P) (hc:=hc) (code:=code) (stk:=stk) (v:=v) (tk:=tk) (m:=m) (tl:=tl) (n:=n) (t:=t) (c:=c) (q:=q) (vs:=zO LA) ok JR ha kn (e:=.List ((vk (kx s 0)).map reN) (kx s 0).pos) rfl (by rw[ev,show tk=t from Nat.eq_of_beq_eq_true (za h1).2];exact aI (fN ok JR (List.pairwise_reverse.mpr (hA.dist.imp λh=>h.symm)) (za h1).1) (za hb).2)
     exact fin (L1:=[]) (List.append_nil _) (s':=reL s reN) (tl':=U6 (tab x)::tl) (by unfold reS;rw[k0,k1,k2];rfl) (by unfold Zk;rw[k0,k1];rfl) rfl e1 h2 hL
    | false =>
     rw[k2] at h;refine zh (za h) λh1 h2=>?_;have e1:=Z0 (p:=p) (P:=P) (hc:=hc) (code:=code) (stk:=stk) (v:=v) (tk:=tk) (m:=m) (tl:=tl) (n:=n) (t:=t) (c:=c) (q:=q) (vs:=zO LA) ok JR ha kn (e:=.List ((vk (kx s 0)).map reK) (kx s 0).pos) rfl (by rw[ev,show tk=t+(vk (kx s 0)).length from Nat.eq_of_beq_eq_true (za h1).2];exact aI (lO (za h1).1) (za hb).2)
     exact fin (L1:=[]) (List.append_nil _) (s':=reL s reK) (tl':=U6 (tab x)::tl) (by unfold reS;rw[k0,k1,k2];rfl) (by unfold Zk;rw[k0,k1];rfl) rfl e1 h2 hL
end
section
variable {p:Program}{w:World}
theorem Cl.of_eq{c:Code}{f:Flow}(hfr:S.fr++S.tl.reverse=H8.fr++H8.tl.reverse)(ht:S.toks=H8.toks)(hc:S.cnt=H8.cnt)(hp:S.pos=H8.pos)(h:Cl p w c stk H8 f S'):Cl p w c stk S f S':=by
 refine⟨h.inv,hc▸h.le,λ{k hh g l cd pp kept B life dr os} hB=>?_⟩;have e:S.sh life dr os=H8.sh life dr os:=by unfold St.sh;rw[hfr,ht]
 rw[e,hc,hp];exact h.go hB
set_option backward.match.sparseCases true in
theorem Ev.app{code:Code}{b r:List Stmt}{f:Flow}(h:Ev p w code stk (execs b env) S .next S')(k:Ev p w code stk (execs r env) S' f S''):Ev p w code stk (execs (b++r) env) S f S'':=by
 refine⟨k.inv,Nat.le_trans h.le k.le,λ{K H gd lv B life dr os} hB=>?_⟩;rw[execs_app_wrap];exact jk.of_eq ((h.go (K:=λf=>match f with | .next=>(execs r env).wrap K H gd lv | f=>K f) (H:=H) (gd:=gd) (lv:=lv) hB).trans (k.go hB)) (ar1 h.le k.le)
theorem pG{life:Life}{dr:Drawn}{f:Flow}{M:Nat}{code:Code}{os:OsState}(h:Ev p w (.builtin "claim.caller" {}) [] (topStub p).cur S (.done f) S')(h0:S.cnt=0)(hp:S.pos=default)(hM:S'.cnt+1=M):
  topRun treeTable p w 11 (some (.ref 6)) M (S.sh life dr os) (topStub p)=some (S'.sh life dr os):=by
 have r:=h.go (K:=Sem.pure) (H:=Sem.raise) (gd:=id) (lv:=id) (B:=[]) (life:=life) (dr:=dr) (os:=os) rfl;rw[XI,h0,hp] at r
 have:=r 1 (S'.sh life dr os) rfl
 rw[<- hM];exact this
end
noncomputable abbrev Bq:TablesWhole.Alg Bool:=⟨λsc n Z=>(sc.names.lookup n).isSome,λZ Z Z ok=>ok,λZ=>true,true,false,λa b=>a&&b⟩
theorem bQ{top:Scope}{cx:TablesWhole.Ctx}{sc:Scope}:∀{l r:List Stmt},TablesWhole.wSs Bq top cx sc l=true->TablesWhole.wSs Bq top cx sc r=true->TablesWhole.wSs Bq top cx sc (l++r)=true
 | [],r,_,h=>h
 | s::l,r,h,h2=>by
  have h:(TablesWhole.wS Bq top cx sc s&&TablesWhole.wSs Bq top cx sc l)=true:=h;rw[Bool.and_eq_true] at h
  show(TablesWhole.wS Bq top cx sc s&&TablesWhole.wSs Bq top cx sc (l++r))=true
  rw[h.1,bQ h.2 h2];rfl
theorem kK{top:Scope}{cx:TablesWhole.Ctx}{l:List Stmt}(n:Nat)(h:TablesWhole.wSs Bq top cx sc (l.take n)=true)(h2:TablesWhole.wSs Bq top cx sc (l.drop n)=true):TablesWhole.wSs Bq top cx sc l=true:=by
 have:=bQ h h2
 rwa [List.take_append_drop] at this
theorem y5{top:Scope}{cx:TablesWhole.Ctx}{l:List Stmt}{k:Nat}(n:Nat)(h:TablesWhole.wSs Bq top cx sc ((l.drop n).take k)=true)(h2:TablesWhole.wSs Bq top cx sc (l.drop (n+k))=true):TablesWhole.wSs Bq top cx sc (l.drop n)=true:=
 kK k h (by rw[List.drop_drop];exact h2)
theorem C1{top:Scope}{cx:TablesWhole.Ctx}{l:List Stmt}{n:Nat}(h:l.drop n = []):TablesWhole.wSs Bq top cx sc (l.drop n)=true:=by rw[h];rfl
theorem Uz{p:Str×NameKind}:∀{l:List (Str×NameKind)},(l.map (·.1)).Nodup->p∈l->l.filter (λq=>q.1==p.1) = [p]
 | [],_,h=>nomatch h
 | q::l,hd,h=>by
  rw[List.map_cons,List.nodup_cons] at hd;have none:∀{l:List (Str×NameKind)} {x:Str},x∉l.map (·.1)->l.filter (λq=>q.1==x) = []:=by
   intro l x hx;rw[List.filter_eq_nil_iff];intro a ha e;exact hx (List.mem_map.mpr ⟨a,ha,by simpa using e⟩)
  rcases List.mem_cons.mp h with rfl | h
  ·rw[List.filter_cons_of_pos (by simp),none hd.1]
  ·have hne:¬ (q.1==p.1)=true:=by
    intro e;have e:q.1=p.1:=by simpa using e
    exact hd.1 (e▸List.mem_map.mpr ⟨p,h,rfl⟩)
   rw[List.filter_cons_of_neg (p:=λq:Str×NameKind=>q.1==p.1) hne,Uz hd.2 h]
theorem ZP(h:(sc.names.map (·.1)).Nodup):TablesWhole.noTwice sc=true:=by
 refine List.all_eq_true.mpr λp hp=>?_;obtain⟨n,k⟩:=p;show TablesWhole.noTwice.match_1 (λZ=>Bool) (sc.names.filter (λq=>q.1==n)) _ _ _=true
 rw[show sc.names.filter (λq=>q.1==n) = [(n,k)] from Uz h hp]
noncomputable def cdB:List (Str×NameKind)->List Nat->Bool
 | [],[]=>true
 | p::r,c::cs=>cond (Nat.beq (J0 p.1.cps.toList) c) (cond (nb c cs) (cdB r cs) false) false
 | _,_=>false
theorem xP{c a:Bool}(h:cond c a false=true):c=true/\a=true:=by
 induction c with
 | false=>cases h
 | true=>exact⟨rfl,h⟩
theorem eS:∀{l:List (Str×NameKind)} {cs:List Nat},cdB l cs=true->l.map (λp=>J0 p.1.cps.toList)=cs/\cs.Nodup
 | [],[],_=>⟨rfl,List.nodup_nil⟩
 | p::r,c::cs,h=>by
  obtain⟨e,h⟩:=xP (show cond (Nat.beq (J0 p.1.cps.toList) c) (cond (nb c cs) (cdB r cs) false) false=true from h)
  obtain⟨e2,h⟩:=xP h;obtain⟨h1,h2⟩:=eS h;exact⟨by rw[List.map_cons,h1,Nat.eq_of_beq_eq_true e],List.nodup_cons.mpr ⟨hU e2,h2⟩⟩
 | [],_::_,h=>nomatch h
 | _::_,[],h=>nomatch h
theorem Qa{α β:Type}{f:α->β}:∀{l:List α},(l.map f).Nodup->l.Nodup
 | [],_=>List.nodup_nil
 | a::l,h=>by
  rw[List.map_cons,List.nodup_cons] at h;exact List.nodup_cons.mpr ⟨λhm=>h.1 (List.mem_map_of_mem hm),Qa h.2⟩
theorem ZO{cs:List Nat}(h:cdB sc.names cs=true):TablesWhole.noTwice sc=true:=by
 obtain⟨h1,h2⟩:=eS h;refine ZP (Qa (f:=λs:Str=>J0 s.cps.toList) ?_);rw[List.map_map];exact h1▸h2
theorem UV{p:Program}(hm:p.modules = [])(hp:p.parses = [])(hh:p.harvested = [])(h:TablesWhole.wModule Bq p.main=true):p.tablesWhole=true:=by
 unfold Program.tablesWhole TablesWhole.wProgram;rw[hm,hp,hh]
 show(TablesWhole.wModule Bq p.main&&_)=true
 rw[h];rfl
theorem pM{m:Module}(ht:TablesWhole.wSs TablesWhole.gather m.scope ⟨m.scope,[],[],[],none⟩ m.scope m.body = [])(hn:TablesWhole.noTwice m.scope=true)(h:TablesWhole.wSs Bq m.scope ⟨m.scope,[],[],[],none⟩ m.scope m.body=true):TablesWhole.wModule Bq m=true:=by
 unfold TablesWhole.wModule;rw[ht]
 show(true&&(TablesWhole.noTwice m.scope&&(TablesWhole.wSs Bq m.scope ⟨m.scope,[],[],[],none⟩ m.scope m.body&&true)))=true
 rw[hn,h];rfl
theorem pN{top:Scope}{cx:TablesWhole.Ctx}{s:Stmt}{r:List Stmt}(h:TablesWhole.wS Bq top cx sc s=true)(h2:TablesWhole.wSs Bq top cx sc r=true):TablesWhole.wSs Bq top cx sc (s::r)=true:=by
 show(TablesWhole.wS Bq top cx sc s&&TablesWhole.wSs Bq top cx sc r)=true
 rw[h,h2];rfl
theorem wQ{top:Scope}{cx:TablesWhole.Ctx}{own:Scope}{nm bind:Str}{body:List Stmt}{x:_}
  (h:TablesWhole.wClassHead Bq cx sc [] [] [] [] own none bind pos (TablesWhole.declSs true body)=true) (h2:TablesWhole.wSs Bq top ⟨own,TablesWhole.declSs false body,TablesWhole.declSs true body,cx.encl,none⟩ own body=true):TablesWhole.wS Bq top cx sc (.ClassDef nm [] [] body [] [] own none bind x pos)=true:=by
 show(TablesWhole.wClassHead Bq cx sc [] [] [] [] own none bind pos (TablesWhole.declSs true body)&&TablesWhole.wSs Bq top ⟨own,TablesWhole.declSs false body,TablesWhole.declSs true body,cx.encl,none⟩ own body)=true
 rw[h];exact h2
namespace MH
section
noncomputable abbrev pw:=PySem.Challenge.pw_me0007_01
noncomputable def zE:List Stmt:=behindTheImports pw
noncomputable def qQ:Env:={ scope:=pw.main.scope,locals:=mainNs,globals:=mainNs,cells:=[],code:=.ref 13,frame:=some 14 }
noncomputable def sAt(l:List Stmt)(i:Nat):Stmt:=match l.drop i with | s::_=>s | []=>.Pass ⟨0,0,0,0⟩
structure FD where
 name:Str
 args:Arguments
 body:List Stmt
 scope:Scope
noncomputable def cz:Stmt->FD
 | Stmt.FunctionDef n a b _ _ _ sc _ _ _=>⟨n,a,b,sc⟩
 | _=>⟨⟨⟨[]⟩⟩,⟨[],[],none,[],[],none,[]⟩,[],⟨.function,[],false,false,[]⟩⟩
noncomputable def yE:Stmt:=sAt zE 2
noncomputable def zx:List Stmt:=match yE with | .ClassDef _ _ _ b _ _ _ _ _ _ _=>b | _=>[]
noncomputable def iiN:Nat:=15
noncomputable def jq:Scope:=match yE with | .ClassDef _ _ _ _ _ _ sc _ _ _ _=>sc | _=>⟨.function,[],false,false,[]⟩
noncomputable def Jb:Env:={ scope:=jq,locals:=24,globals:=mainNs,qual:=⟨⟨[77,80,85,46]⟩⟩,code:=.ref 27,frame:=some 28,builtins:=0,cells:=[] }
noncomputable def cfn(i:Nat):FD:=cz (sAt zx i)
noncomputable def tfn(i:Nat):FD:=cz (sAt zE i)
noncomputable def fob(cl:Value)(d:FD)(q:Str)(gl:Addr)(df pm c:Value):Obj:=⟨cl,none,.func { name:=d.name,qualname:=q,params:=d.args,body:=.stmts d.body,scope:=d.scope,globals:=gl,closure:=[],defaults:=df,kwdefaults:=.none,pyModule:=pm,code:=c },#[]⟩
noncomputable def zP:Stmt->Pos
 | .FunctionDef _ _ _ _ _ _ _ _ _ p=>p
 | .Assign [.Name _ np] _ _=>np
 | .ClassDef _ _ _ _ _ _ _ _ _ _ p=>p
 | _=>⟨0,0,0,0⟩
noncomputable def M0:List (Str×Nat×Value):=[(⟨⟨[95,95,110,97,109,101,95,95]⟩⟩,165,.str ⟨⟨[95,95,109,97,105,110,95,95]⟩⟩ 164),(⟨⟨[95,95,100,111,99,95,95]⟩⟩,166,.none),(⟨⟨[95,95,112,97,99,107,97,103,101,95,95]⟩⟩,167,.none),(⟨⟨[95,95,108,111,97,100,101,114,95,95]⟩⟩,168,.builtin "__main__.__loader__#opaque"),(⟨⟨[95,95,115,112,101,99,95,95]⟩⟩,169,.none),(⟨⟨[95,95,97,110,110,111,116,97,116,105,111,110,115,95,95]⟩⟩,170,.ref 6),(⟨⟨[95,95,98,117,105,108,116,105,110,115,95,95]⟩⟩,171,.ref 4),(⟨⟨[95,95,102,105,108,101,95,95]⟩⟩,173,.str yk 172),(⟨⟨[95,95,99,97,99,104,101,100,95,95]⟩⟩,174,.none)]
noncomputable def M1:List (Str×Nat×Value):=M0 ++ [(⟨⟨[95,119,97,108,108]⟩⟩,193,.ref 21)]
noncomputable def M2:List (Str×Nat×Value):=(⟨⟨[95,95,110,97,109,101,95,95]⟩⟩,165,.str ⟨⟨[112,121,54,53,46,100,101,118,105,99,101,115,46,109,112,117,54,53,48,50]⟩⟩ 194)::M1.tail
noncomputable def M3:List (Str×Nat×Value):=M2 ++ [(⟨⟨[77,80,85]⟩⟩,2248,.ref 1428)]
noncomputable def M4:List (Str×Nat×Value):=(⟨⟨[95,95,110,97,109,101,95,95]⟩⟩,165,.str ⟨⟨[108,97,119,95,109,101,48,48,48,55,95,48,49]⟩⟩ 2249)::M3.tail
noncomputable def M5:List (Str×Nat×Value):=M4 ++ [(⟨⟨[95,108,97,119,95,100,111,101,115]⟩⟩,2410,.ref 1486)]
noncomputable def M6:List (Str×Nat×Value):=M5 ++ [(⟨⟨[95,108,97,119,95,119,111,114,100]⟩⟩,2417,.ref 1493)]
noncomputable def M7:List (Str×Nat×Value):=M6 ++ [(⟨⟨[95,108,97,119,95,98,105,116,115]⟩⟩,2423,.ref 1498)]
noncomputable def M8:List (Str×Nat×Value):=M7 ++ [(⟨⟨[95,108,97,119,95,111,99,116,101,116]⟩⟩,2429,.ref 1503)]
noncomputable def M9:List (Str×Nat×Value):=M8 ++ [(⟨⟨[95,108,97,119,95,115,105,103,110,101,100]⟩⟩,2436,.ref 1510)]
noncomputable def M10:List (Str×Nat×Value):=M9 ++ [(⟨⟨[95,108,97,119,95,115,117,109]⟩⟩,2449,.ref 1517)]
noncomputable def M11:List (Str×Nat×Value):=M10 ++ [(⟨⟨[95,108,97,119,95,116,117,114,110]⟩⟩,2461,.ref 1524)]
noncomputable def M12:List (Str×Nat×Value):=M11 ++ [(⟨⟨[95,108,97,119,95,114,117,110]⟩⟩,2467,.ref 1529)]
noncomputable def M13:List (Str×Nat×Value):=M12 ++ [(⟨⟨[108,97,119]⟩⟩,2473,.ref 1534)]
noncomputable def V6(P:Params):Obj:=yF (zg P M2) 10
noncomputable def rt(P:Params):Obj:=yF (zg P M13) 20
noncomputable def rJ:Obj:=⟨.none,none,.fields #[],#[]⟩
noncomputable def UP:Obj:=⟨.none,none,.fields #[.int 1 0,.int 0 0,.ref 20,.int 5 0,.int 0 0,.ref 27],#[]⟩
noncomputable def c9:Obj:=⟨.type "tuple",none,.seq #[] 0,#[]⟩
noncomputable def da:Obj:=⟨.type "code",none,.fields #[.str ⟨⟨[60,109,111,100,117,108,101,62]⟩⟩ 182,.str ⟨⟨[60,109,111,100,117,108,101,62]⟩⟩ 183,.str yk 184,.int 1 0,.int 0 0,.int 0 0,.int 0 0,.int 0 0,.ref 11,.bool false,.int 181 0,.ref 12,.none,.none,.none,.none,.int 185 0,.int 1 0,.str yk 186],#[]⟩
noncomputable def db:Obj:=⟨.type "frame",none,.plain,#[some (.ref 13),some (.ref 3),some (.ref 3),none,some (.str ⟨⟨[95,95,109,97,105,110,95,95]⟩⟩ 164),none,some (.ref 0)]⟩
noncomputable def nP:Obj:=⟨.type "tuple",none,.seq #[] 0,#[]⟩
noncomputable def nQ:Obj:=⟨.none,none,.fields #[],#[]⟩
noncomputable def nR:Obj:=⟨.type "tuple",none,.seq #[.str ⟨⟨[107]⟩⟩ 190] 0,#[]⟩
noncomputable def nS:Obj:=⟨.type "tuple",none,.seq #[] 0,#[]⟩
noncomputable def nT:Obj:=fob (.none) (tfn 0) ⟨⟨[95,119,97,108,108]⟩⟩ 0 (.none) (.none) (.none)
noncomputable def nU:Obj:=⟨.type "code",none,.fields #[.str ⟨⟨[95,119,97,108,108]⟩⟩ 187,.str ⟨⟨[95,119,97,108,108]⟩⟩ 188,.str yk 189,.int 1 0,.int 1 0,.int 0 0,.int 0 0,.int 3 0,.ref 15,.bool true,.int 181 0,.ref 16,.none,.ref 17,.ref 18,.ref 19,.int 191 0,.int 1 0,.str yk 192],#[]⟩
noncomputable def nV:Obj:=fob (.type "function") (tfn 0) ⟨⟨[95,119,97,108,108]⟩⟩ 3 (.none) (.str ⟨⟨[95,95,109,97,105,110,95,95]⟩⟩ 164) (.ref 20)
noncomputable def By:Obj:=⟨.type "tuple",none,.seq #[] 0,#[]⟩
noncomputable def Bz:Obj:=⟨.type "builtin_function_or_method",none,.fields #[.builtin "type.__prepare__",.type "type"],#[]⟩
noncomputable def BA:Obj:=⟨.type "tuple",none,.seq #[] 0,#[]⟩
noncomputable def BB:Obj:=⟨.type "code",none,.fields #[.str ⟨⟨[77,80,85]⟩⟩ 198,.str ⟨⟨[77,80,85]⟩⟩ 199,.str yk 200,.int 5 0,.int 0 0,.int 0 0,.int 0 0,.int 0 0,.ref 25,.bool false,.int 181 0,.ref 26,.none,.none,.none,.none,.int 201 0,.int 5 0,.str yk 202],#[]⟩
noncomputable def BD:Obj:=⟨.type "frame",none,.plain,#[some (.ref 27),some (.ref 3),some (.ref 24),none,some (.str ⟨⟨[112,121,54,53,46,100,101,118,105,99,101,115,46,109,112,117,54,53,48,50]⟩⟩ 194),none,some (.ref 0)]⟩
noncomputable def iz:Obj:=⟨.type "type",none,.cls { name:=⟨⟨[77,80,85]⟩⟩,bases:=[.type "object"],mro:=[.ref 1428,.type "object"],ns:=1427,qualname:=⟨⟨[77,80,85]⟩⟩ },#[none,none,some (.str ⟨⟨[77,80,85]⟩⟩ 196),some (.str ⟨⟨[77,80,85]⟩⟩ 204),some (.builtin "object.__new__"),some (.bool true)]⟩
noncomputable def iB:Obj:=⟨.type "list",none,.seq ((List.range' 1433 53).map .ref).toArray 0,#[]⟩
noncomputable def iC:Obj:=⟨.type "code",none,.fields #[.str ⟨⟨[95,108,97,119,95,119,111,114,100]⟩⟩ 2411,.str ⟨⟨[95,108,97,119,95,119,111,114,100]⟩⟩ 2412,.str yk 2413,.int 1032 0,.int 1 0,.int 0 0,.int 0 0,.int 3 0,.ref 1487,.bool true,.int 181 0,.ref 1488,.none,.ref 1489,.ref 1490,.ref 1491,.int 2415 0,.int 1032 0,.str yk 2416],#[]⟩
noncomputable def iD:Obj:=⟨.type "code",none,.fields #[.str ⟨⟨[95,108,97,119,95,98,105,116,115]⟩⟩ 2418,.str ⟨⟨[95,108,97,119,95,98,105,116,115]⟩⟩ 2419,.str yk 2420,.int 1034 0,.int 1 0,.int 0 0,.int 0 0,.int 3 0,.ref 1494,.bool true,.int 181 0,.ref 1495,.none,.none,.none,.ref 1496,.int 2421 0,.int 1034 0,.str yk 2422],#[]⟩
noncomputable def iE:Obj:=⟨.type "code",none,.fields #[.str ⟨⟨[95,108,97,119,95,111,99,116,101,116]⟩⟩ 2424,.str ⟨⟨[95,108,97,119,95,111,99,116,101,116]⟩⟩ 2425,.str yk 2426,.int 1036 0,.int 1 0,.int 0 0,.int 0 0,.int 3 0,.ref 1499,.bool true,.int 181 0,.ref 1500,.none,.none,.none,.ref 1501,.int 2427 0,.int 1036 0,.str yk 2428],#[]⟩
noncomputable def iF:Obj:=⟨.type "code",none,.fields #[.str ⟨⟨[95,108,97,119,95,115,105,103,110,101,100]⟩⟩ 2430,.str ⟨⟨[95,108,97,119,95,115,105,103,110,101,100]⟩⟩ 2431,.str yk 2432,.int 1038 0,.int 1 0,.int 0 0,.int 0 0,.int 3 0,.ref 1504,.bool true,.int 181 0,.ref 1505,.none,.ref 1506,.ref 1507,.ref 1508,.int 2434 0,.int 1038 0,.str yk 2435],#[]⟩
noncomputable def iG:Obj:=⟨.type "code",none,.fields #[.str ⟨⟨[95,108,97,119,95,115,117,109]⟩⟩ 2437,.str ⟨⟨[95,108,97,119,95,115,117,109]⟩⟩ 2438,.str yk 2439,.int 1040 0,.int 4 0,.int 0 0,.int 0 0,.int 3 0,.ref 1511,.bool true,.int 181 0,.ref 1512,.none,.ref 1513,.ref 1514,.ref 1515,.int 2447 0,.int 1040 0,.str yk 2448],#[]⟩
noncomputable def iH:Obj:=⟨.type "code",none,.fields #[.str ⟨⟨[95,108,97,119,95,116,117,114,110]⟩⟩ 2450,.str ⟨⟨[95,108,97,119,95,116,117,114,110]⟩⟩ 2451,.str yk 2452,.int 1047 0,.int 3 0,.int 0 0,.int 0 0,.int 3 0,.ref 1518,.bool true,.int 181 0,.ref 1519,.none,.ref 1520,.ref 1521,.ref 1522,.int 2459 0,.int 1047 0,.str yk 2460],#[]⟩
noncomputable def iI:Obj:=⟨.type "code",none,.fields #[.str ⟨⟨[95,108,97,119,95,114,117,110]⟩⟩ 2462,.str ⟨⟨[95,108,97,119,95,114,117,110]⟩⟩ 2463,.str yk 2464,.int 1053 0,.int 5 0,.int 0 0,.int 0 0,.int 3 0,.ref 1525,.bool true,.int 181 0,.ref 1526,.none,.none,.none,.ref 1527,.int 2465 0,.int 1053 0,.str yk 2466],#[]⟩
noncomputable def iJ:Obj:=⟨.type "code",none,.fields #[.str ⟨⟨[108,97,119]⟩⟩ 2468,.str ⟨⟨[108,97,119]⟩⟩ 2469,.str yk 2470,.int 1101 0,.int 1 0,.int 0 0,.int 0 0,.int 3 0,.ref 1530,.bool true,.int 181 0,.ref 1531,.none,.none,.none,.ref 1532,.int 2471 0,.int 1101 0,.str yk 2472],#[]⟩
noncomputable def fr0(P:Params)(d3:Obj):List Obj:=[boot_o_0 P,boot_o_1 P,boot_o_2 P,d3,boot_o_4 P,boot_o_5 P,boot_o_6 P,boot_o_7 P,boot_o_8 P,boot_o_9 P,boot_o_10 P]
noncomputable def st0(P:Params):St:=⟨fr0 P (boot_o_3 P),[],11,boot_toks,0,default⟩
noncomputable def sta(P:Params):St:=⟨fr0 P (boot_o_3 P),[db,da,rJ,c9],15,187,11,default⟩
noncomputable def Cv(P:Params):St:=⟨fr0 P (boot_o_3 P),[db,da,rJ,c9],15,187,12,default⟩
noncomputable def Cw(P:Params):St:=⟨fr0 P ((yF (zg P M1) 10)),[nV,nU,nT,nS,nR,nQ,nP,db,da,⟨.none,none,.fields #[.int 1 0,.int 0 0,.ref 20],#[]⟩,c9],22,194,41,zP (sAt zE 0)⟩
noncomputable def kt(P:Params):St:=⟨fr0 P (V6 P),[nV,nU,nT,nS,nR,nQ,nP,db,da,⟨.none,none,.fields #[.int 1 0,.int 0 0,.ref 20],#[]⟩,c9],22,196,50,zP (sAt zE 1)⟩
noncomputable def E0:List (Str×Nat×Value):=[(⟨⟨[95,95,109,111,100,117,108,101,95,95]⟩⟩,203,.str ⟨⟨[112,121,54,53,46,100,101,118,105,99,101,115,46,109,112,117,54,53,48,50]⟩⟩ 194),(⟨⟨[95,95,113,117,97,108,110,97,109,101,95,95]⟩⟩,205,.str ⟨⟨[77,80,85]⟩⟩ 204),(⟨⟨[95,95,102,105,114,115,116,108,105,110,101,110,111,95,95]⟩⟩,207,.int 5 206)]
noncomputable def E1:List (Str×Nat×Value):=[(⟨⟨[82,69,83,69,84]⟩⟩,209,.int 65532 208),(⟨⟨[78,77,73]⟩⟩,211,.int 65530 210),(⟨⟨[73,82,81]⟩⟩,213,.int 65534 212),(⟨⟨[78,69,71,65,84,73,86,69]⟩⟩,215,.int 128 214),(⟨⟨[79,86,69,82,70,76,79,87]⟩⟩,217,.int 64 216),(⟨⟨[85,78,85,83,69,68]⟩⟩,219,.int 32 218),(⟨⟨[66,82,69,65,75]⟩⟩,221,.int 16 220),(⟨⟨[68,69,67,73,77,65,76]⟩⟩,223,.int 8 222),(⟨⟨[73,78,84,69,82,82,85,80,84]⟩⟩,225,.int 4 224),(⟨⟨[90,69,82,79]⟩⟩,227,.int 2 226),(⟨⟨[67,65,82,82,89]⟩⟩,229,.int 1 228),(⟨⟨[66,89,84,69,95,87,73,68,84,72]⟩⟩,231,.int 8 230),(⟨⟨[66,89,84,69,95,70,79,82,77,65,84]⟩⟩,233,.str ⟨⟨[37,48,50,120]⟩⟩ 232),(⟨⟨[65,68,68,82,95,87,73,68,84,72]⟩⟩,235,.int 16 234),(⟨⟨[65,68,68,82,95,70,79,82,77,65,84]⟩⟩,237,.str ⟨⟨[37,48,52,120]⟩⟩ 236)]
noncomputable def Ei:List (Str×Nat×Value):=[(⟨⟨[95,95,105,110,105,116,95,95]⟩⟩,247,.ref 36)]
noncomputable def nmZ:List Stmt->List (Nat×Nat)->List (Str×Nat×Value)
 | st::r,(t,a)::q=>((cz st).name,t,.ref a)::nmZ r q
 | _,_=>[]
noncomputable def z2:Nat->List Nat->List (Nat×Nat)
 | t,a::r=>(a,t)::z2 (t+7) r
 | _,[]=>[]
noncomputable def E2:List (Str×Nat×Value):=nmZ (zx.drop (iiN+1)) (z2 43 ([255,262,269,276,284,292,302,309,316,323,330,337,344,353,360,369,378,386,394,401,409,417,425,433,443,453,461,469,477,485,493,502,512,520,538,548,556,564,572,582,599,609,619,627,635,643,650]++(List.range' 658 61 7++(List.range' 1086 90 7)))) ++ [(⟨⟨[105,110,115,116,114,117,99,116]⟩⟩,1710,.ref 1423),(⟨⟨[99,121,99,108,101,116,105,109,101]⟩⟩,1967,.ref 1424),(⟨⟨[101,120,116,114,97,99,121,99,108,101,115]⟩⟩,2224,.ref 1425)]
noncomputable def E3:List (Str×Nat×Value):=[(⟨⟨[95,95,115,116,97,116,105,99,95,97,116,116,114,105,98,117,116,101,115,95,95]⟩⟩,2241,.ref 1426)]
noncomputable def nsE:List (Str×Nat×Value):=E0.take 1++E0.drop 2++E1++Ei++E2++E3 ++ [(⟨⟨[95,95,100,105,99,116,95,95]⟩⟩,2243,.ref 1429),(⟨⟨[95,95,119,101,97,107,114,101,102,95,95]⟩⟩,2245,.ref 1430),(⟨⟨[95,95,100,111,99,95,95]⟩⟩,2246,.none)]
noncomputable def iy(P:Params):Obj:=yF (zg P nsE) 4
noncomputable def Li:List (Nat×Nat×Nat):=[(22,4,35)]
noncomputable def z3:Nat->List Nat->List (Nat×Nat×Nat)
 | t,a::r=>(a,4,t)::z3 (t+7) r
 | _,[]=>[]
noncomputable def L2:List (Nat×Nat×Nat):=z3 42 ([37,47,58,61,64,67,70,74,77,80,83,86,89,92,102,105,115,125,137,142,147,151,156,163,167,186,204,210,216,219,222,226,233,256,260,309,331,334,337,340,349,392,409,426,430,434,438,441,449,453,457,461,464,468,471,475,479,482,486,490,494,497,501,505,509,513,517,521,525,529,532,536,539,543,547,551,554,558,562,566,569,573,577,581,585,589,593,597,600,604,607,610,614,618,621,625,629,633,636,640,644,648,652,656,660,664,668,672,675,679,683,687,690,694,698,702,705,709,713,717,721,725,729,733,738,742,746,750,754,757,761,765,769,773,777,781,784,788,792,796,800,804,808,812,816,820,824,828,832,836,839,843,847,851,855,858,862,866,870,874,878,882,886,890,894,898,903,907,912,916,920,924,927,931,935,939,942,946,950,954,958,962,966,970,974,979,983,986,990,994,998,1001,1005,1009,1013,1016,1020,1024])
noncomputable def ww:Nat->List Int->List Value
 | t,x::r=>.int x t::ww (t+1) r
 | _,[]=>[]
noncomputable def ms0:List Nat:=[1,1,0,0,0,1,1,0,1,1,1,0,0,1,1,0,1,1,0,0,0,1,1,0,1,1,0,0,0,1,1,0,1,1,0,0,1,1,1,0,1,1,1,0,1,1,1,0,1,1,0,0,0,1,1,0,1,1,0,0,0,1,1,0,1,1,0,0,0,1,1,0,1,1,1,0,1,1,1,0,1,1,0,0,0,1,1,0,1,1,0,0,0,1,1,0,1,1,0,0,0,1,1,0,1,1,1,0,1,1,1,0,1,1,0,0,0,1,1,0,1,1,0,0,0,1,1,0,0,1,0,0,1,1,1,0,1,0,1,0,1,1,1,0,1,1,0,0,1,1,1,0,1,1,1,0,0,1,0,0,1,1,1,0,1,1,1,0,1,1,1,0,1,1,1,0,1,1,0,0,1,1,1,0,1,1,1,0,1,1,1,0,1,1,0,0,1,1,1,0,1,1,1,0,1,1,1,0,1,1,0,0,0,1,1,0,1,1,0,0,0,1,1,0,1,1,0,0,1,1,1,0,1,1,1,0,1,1,1,0,1,1,0,0,0,1,1,0,1,1,0,0,0,1,1,0]
noncomputable def zT:Nat->List Nat->List Value
 | t,a::r=>cond (Nat.beq a 0) (.ref 365::zT t r) (.ref t::zT (t+7) r)
 | _,[]=>[]
noncomputable def yO:List Value:=zT 372 ms0
noncomputable def yh:List Value:=ww 1711 [7,6,0,0,0,3,5,0,3,2,2,0,0,4,6,0,2,5,0,0,0,4,6,0,2,4,0,0,0,4,7,0,6,6,0,0,3,3,5,0,4,2,2,0,4,4,6,0,2,5,0,0,0,4,6,0,2,4,0,0,0,4,7,0,6,6,0,0,0,3,5,0,3,2,2,0,3,4,6,0,2,5,0,0,0,4,6,0,2,4,0,0,0,4,7,0,6,6,0,0,0,3,5,0,4,2,2,0,5,4,6,0,2,5,0,0,0,4,6,0,2,4,0,0,0,4,7,0,0,6,0,0,3,3,3,0,2,0,2,0,4,4,4,0,2,6,0,0,4,4,4,0,2,5,2,0,0,5,0,0,2,6,2,0,3,3,3,0,2,2,2,0,4,4,4,0,2,5,0,0,4,4,4,0,2,4,2,0,4,4,4,0,2,6,0,0,3,3,5,0,2,2,2,0,4,4,3,0,2,5,0,0,0,4,6,0,2,4,0,0,0,4,7,0,2,6,0,0,3,3,5,0,2,2,2,0,4,4,6,0,2,5,0,0,0,4,6,0,2,4,0,0,0,4,7,0]
noncomputable def jQ:List Value:=ww 1968 [0,0,0,0,0,0,0,0,0,0,0,0,0,0,0,0,2,1,0,0,0,0,0,0,0,1,0,0,0,1,0,0,0,0,0,0,0,0,0,0,0,0,0,0,0,0,0,0,2,1,0,0,0,0,0,0,0,1,0,0,0,1,0,0,0,0,0,0,0,0,0,0,0,0,0,0,0,0,0,0,2,1,0,0,0,0,0,0,0,1,0,0,0,1,0,0,0,0,0,0,0,0,0,0,0,0,0,0,0,0,0,0,2,1,0,0,0,0,0,0,0,1,0,0,0,1,0,0,0,0,0,0,0,0,0,0,0,0,0,0,0,0,0,0,2,0,0,0,0,0,0,0,0,0,0,0,0,0,0,0,0,0,0,0,0,0,0,0,0,0,0,0,0,0,0,0,2,1,0,0,0,0,0,0,0,1,0,0,1,1,1,0,0,0,0,0,0,0,0,0,0,0,0,0,0,0,0,0,2,1,0,0,0,0,0,0,0,1,0,0,0,1,0,0,0,0,0,0,0,0,0,0,0,0,0,0,0,0,0,0,2,1,0,0,0,0,0,0,0,1,0,0,0,1,0,0]
noncomputable def pz:Str->List Value:=λx=>cond (x==⟨⟨[105,110,115,116,114,117,99,116]⟩⟩) yO (cond (x==⟨⟨[99,121,99,108,101,116,105,109,101]⟩⟩) yh (cond (x==⟨⟨[101,120,116,114,97,99,121,99,108,101,115]⟩⟩) jQ ([])))
noncomputable def stc(P:Params):St:=⟨fr0 P (V6 P),[BD,BB,U3 [],BA,yF (zg P E0) 3,Bz,By,nV,nU,nT,nS,nR,nQ,nP,db,da,UP,c9],29,208,108,(zP yE)⟩
noncomputable def CBX(P:Params)(d3:Obj)(q12:Obj):CB:=⟨fr0 P d3 ++ [c9,q12,da,db,nP,nQ,nR,nS,nT,nU,nV,By,Bz],BA,BB,BD⟩
noncomputable def i9(P:Params):St:=⟨(CBX P (V6 P) UP).fr (zg P E0) 3 (zO []),[],29,208,109,(zP yE)⟩
noncomputable def Cb(P:Params):St:=⟨(CBX P (V6 P) UP).fr (zg P (E0++E1)) 18 (zO []),[],29,238,259,(zP (sAt zx 14))⟩
noncomputable def nW:Obj:=⟨.type "tuple",none,.seq #[.none,.int 0 238] 0,#[]⟩
noncomputable def uY:Obj:=⟨.type "tuple",none,.seq #[] 0,#[]⟩
noncomputable def uZ:Obj:=⟨.none,none,.fields #[],#[]⟩
noncomputable def u3:Obj:=⟨.type "tuple",none,.seq #[.str ⟨⟨[115,101,108,102]⟩⟩ 242,.str ⟨⟨[109,101,109,111,114,121]⟩⟩ 243,.str ⟨⟨[112,99]⟩⟩ 244] 0,#[]⟩
noncomputable def u4:Obj:=⟨.type "tuple",none,.seq #[] 0,#[]⟩
noncomputable def u5:Obj:=fob (.none) (cfn 15) ⟨⟨[77,80,85,46,95,95,105,110,105,116,95,95]⟩⟩ 0 (.none) (.none) (.none)
noncomputable def nX:Obj:=⟨.type "code",none,.fields #[.str ⟨⟨[95,95,105,110,105,116,95,95]⟩⟩ 239,.str ⟨⟨[77,80,85,46,95,95,105,110,105,116,95,95]⟩⟩ 240,.str yk 241,.int 22 0,.int 3 0,.int 0 0,.int 0 0,.int 3 0,.ref 30,.bool true,.int 181 0,.ref 31,.none,.ref 32,.ref 33,.ref 34,.int 245 0,.int 22 0,.str yk 246],#[]⟩
noncomputable def u6:Obj:=fob (.type "function") (cfn 15) ⟨⟨[77,80,85,46,95,95,105,110,105,116,95,95]⟩⟩ 3 (.ref 29) (.str ⟨⟨[112,121,54,53,46,100,101,118,105,99,101,115,46,109,112,117,54,53,48,50]⟩⟩ 194) (.ref 35)
noncomputable def Cc(P:Params):St:=⟨(CBX P (V6 P) UP).fr (zg P (E0++E1++Ei)) 19 (zO Li),[u6,nX,u5,u4,u3,uZ,uY,nW],37,248,293,(zP (sAt zx 15))⟩
noncomputable def nk:Value:=.str ⟨⟨[112,121,54,53,46,100,101,118,105,99,101,115,46,109,112,117,54,53,48,50]⟩⟩ 194
noncomputable def bD:Str:=⟨⟨[77,80,85,46]⟩⟩
noncomputable def aJ:Str:=yk
noncomputable def dF(i n:Nat):Obj:=(ddS (sAt zx i)).fn bD nk n
noncomputable def dC(i n t:Nat):Obj:=(ddS (sAt zx i)).cod bD aJ 181 n t
noncomputable def dT(i:Nat):Obj:=(ddS (sAt zx i)).tmp bD
noncomputable def d2(i t:Nat):Obj:=QH (yi (ddS (sAt zx i)).l2 (t+3+(ddS (sAt zx i)).l1.length))
noncomputable def d1(i t:Nat):Obj:=QH (yi (ddS (sAt zx i)).l1 (t+3))
noncomputable def xQ:List (Nat×Nat×Nat)->List Obj
 | (i,n,t)::r=>dF i n::dC i n t::dT i::d2 i t::d1 i t::U3 []::QH []::xQ r
 | []=>[]
noncomputable def zC:Nat->List Nat->List (Nat×Nat×Nat)->List (Nat×Nat×Nat)
 | i,t::r,acc=>zC (i+1) r ((i,7*i-75,t)::acc)
 | _,[],acc=>acc
noncomputable def tlc:List Obj:=[U6 jQ,U6 yh,U6 yO]++xQ (zC 16 ([248,256,263,270,277,285,293,303,310,317,324,331,338,345,354,361,370,379,387,395,402,410,418,426,434,444,454,462,470,478,486,494,503,513,521,539,549,557,565,573,583,600,610,620,628,636,644,651]++(List.range' 659 61 7++(List.range' 1087 89 7))) []) ++ [u6,nX,u5,u4,u3,uZ,uY,nW]
noncomputable def tli:List Obj:=[u6,nX,u5,u4,u3,uZ,uY,nW]
noncomputable def cds(l:List (Str×Nat×Value)):List Nat:=l.map λe=>J0 e.1.cps.toList
noncomputable def cs0:List Nat:=cds E0.reverse
noncomputable def cs1:List Nat:=cds E1
noncomputable def csi:List Nat:=cds (E0++E1++Ei).reverse
noncomputable def cs2:List Nat:=cds E2
noncomputable def hk1:List Nat:=List.range' 0 15
noncomputable def hk2:List Nat:=List.range' 16 201
noncomputable def zH:Nat->List Nat->List (Nat×Nat)
 | t,a::r=>cond (Nat.beq a 0) ((62,65)::zH t r) ((t,t+3)::zH (t+1) r)
 | _,[]=>[]
noncomputable def hin:List (Nat×Nat):=zH 63 ms0
noncomputable def J9(P:Params):St:=⟨(CBX P (V6 P) UP).fr (zg P (E0++E1++Ei++E2)) 220 (zO (Li++L2)),tlc,1426,2225,7622,(zP (sAt zx 216))⟩
noncomputable def Ek:Nat:=1426
noncomputable def El:Nat:=2225
noncomputable def Ej:Nat:=7622
noncomputable def im:Nat×Nat×Nat:=(37,248,293)
noncomputable def uP:Nat×Nat×Nat:=(29,238,259)
noncomputable def uO:Nat×Nat×Nat:=(29,208,109)
noncomputable def std(P:Params):St:=⟨(CBX P (V6 P) UP).fr (zg P (E0++E1++Ei++E2)) 220 (zO (Li++L2)),tlc,1426,2225,7623,(zP yE)⟩
noncomputable def hL3(P:Params):List Obj:=⟨.type "builtin_function_or_method",none,.fields #[.builtin "object.__init_subclass__",.ref 1428],#[]⟩::⟨.type "super",none,.fields #[.ref 1428,.ref 1428,.ref 1428],#[]⟩::⟨.type "getset_descriptor",none,.fields #[.str ⟨⟨[95,95,119,101,97,107,114,101,102,95,95]⟩⟩ 2244,.ref 1428,.builtin "ExceptionGroup.__weakref__",.none],#[]⟩::⟨.type "getset_descriptor",none,.fields #[.str ⟨⟨[95,95,100,105,99,116,95,95]⟩⟩ 2242,.ref 1428,.builtin "function.__dict__",.builtin "function.__dict__#set"],#[]⟩::iz::iy P::⟨.type "tuple",none,.seq #[.str ⟨⟨[97]⟩⟩ 2225,.str ⟨⟨[97,100,100,99,121,99,108,101,115]⟩⟩ 2226,.str ⟨⟨[97,100,100,114,72,105,103,104,77,97,115,107]⟩⟩ 2227,.str ⟨⟨[97,100,100,114,77,97,115,107]⟩⟩ 2228,.str ⟨⟨[98,121,116,101,77,97,115,107]⟩⟩ 2229,.str ⟨⟨[101,120,99,121,99,108,101,115]⟩⟩ 2230,.str ⟨⟨[109,101,109,111,114,121]⟩⟩ 2231,.str ⟨⟨[110,97,109,101]⟩⟩ 2232,.str ⟨⟨[112]⟩⟩ 2233,.str ⟨⟨[112,99]⟩⟩ 2234,.str ⟨⟨[112,114,111,99,101,115,115,111,114,67,121,99,108,101,115]⟩⟩ 2235,.str ⟨⟨[115,112]⟩⟩ 2236,.str ⟨⟨[115,112,66,97,115,101]⟩⟩ 2237,.str ⟨⟨[115,116,97,114,116,95,112,99]⟩⟩ 2238,.str ⟨⟨[120]⟩⟩ 2239,.str ⟨⟨[121]⟩⟩ 2240] 0,#[]⟩::tlc
noncomputable def wk(P:Params):St:=⟨(CBX P ((yF (zg P M3) 11)) ⟨.none,none,.fields #[.int 1 0,.int 0 0,.ref 20,.int 5 0,.int 0 0,.ref 27],#[]⟩).fr (zg P (E0++E1++Ei++E2++E3)) 221 (zO (Li++L2)),hL3 P,1433,2249,7970,zP (sAt zE 2)⟩
noncomputable def Cy(P:Params):St:=⟨(CBX P ((yF (zg P M4) 11)) ⟨.none,none,.fields #[.int 1 0,.int 0 0,.ref 20,.int 5 0,.int 0 0,.ref 27],#[]⟩).fr (zg P (E0++E1++Ei++E2++E3)) 221 (zO (Li++L2)),hL3 P,1433,2251,7979,zP (sAt zE 3)⟩
noncomputable def hL5(P:Params):List Obj:=iB::(rwF.reverse++hL3 P)
noncomputable def Cz(P:Params):St:=⟨(CBX P ((yF (zg P M5) 12)) ⟨.none,none,.fields #[.int 1 0,.int 0 0,.ref 20,.int 5 0,.int 0 0,.ref 27],#[]⟩).fr (zg P (E0++E1++Ei++E2++E3)) 221 (zO (Li++L2)),hL5 P,1487,2411,8254,zP (sAt zE 4)⟩
noncomputable def hL6(P:Params):List Obj:=(fob (.type "function") (tfn 5) ⟨⟨[95,108,97,119,95,119,111,114,100]⟩⟩ 3 (.none) (.str ⟨⟨[108,97,119,95,109,101,48,48,48,55,95,48,49]⟩⟩ 2249) (.ref 1492))::iC::(fob (.none) (tfn 5) ⟨⟨[95,108,97,119,95,119,111,114,100]⟩⟩ 0 (.none) (.none) (.none))::⟨.type "tuple",none,.seq #[] 0,#[]⟩::⟨.type "tuple",none,.seq #[.str ⟨⟨[112,108,97,99,101]⟩⟩ 2414] 0,#[]⟩::⟨.none,none,.fields #[],#[]⟩::⟨.type "tuple",none,.seq #[] 0,#[]⟩::hL5 P
noncomputable def CC(P:Params):St:=⟨(CBX P ((yF (zg P M6) 13)) ⟨.none,none,.fields #[.int 1 0,.int 0 0,.ref 20,.int 5 0,.int 0 0,.ref 27,.int 1032 0,.int 0 0,.ref 1492],#[]⟩).fr (zg P (E0++E1++Ei++E2++E3)) 221 (zO (Li++L2)),hL6 P,1494,2418,8283,zP (sAt zE 5)⟩
noncomputable def hL7(P:Params):List Obj:=(fob (.type "function") (tfn 6) ⟨⟨[95,108,97,119,95,98,105,116,115]⟩⟩ 3 (.none) (.str ⟨⟨[108,97,119,95,109,101,48,48,48,55,95,48,49]⟩⟩ 2249) (.ref 1497))::iD::(fob (.none) (tfn 6) ⟨⟨[95,108,97,119,95,98,105,116,115]⟩⟩ 0 (.none) (.none) (.none))::⟨.none,none,.fields #[],#[]⟩::⟨.type "tuple",none,.seq #[] 0,#[]⟩::hL6 P
noncomputable def CD(P:Params):St:=⟨(CBX P ((yF (zg P M7) 14)) ⟨.none,none,.fields #[.int 1 0,.int 0 0,.ref 20,.int 5 0,.int 0 0,.ref 27,.int 1032 0,.int 0 0,.ref 1492,.int 1034 0,.int 0 0,.ref 1497],#[]⟩).fr (zg P (E0++E1++Ei++E2++E3)) 221 (zO (Li++L2)),hL7 P,1499,2424,8309,zP (sAt zE 6)⟩
noncomputable def hL8(P:Params):List Obj:=(fob (.type "function") (tfn 7) ⟨⟨[95,108,97,119,95,111,99,116,101,116]⟩⟩ 3 (.none) (.str ⟨⟨[108,97,119,95,109,101,48,48,48,55,95,48,49]⟩⟩ 2249) (.ref 1502))::iE::(fob (.none) (tfn 7) ⟨⟨[95,108,97,119,95,111,99,116,101,116]⟩⟩ 0 (.none) (.none) (.none))::⟨.none,none,.fields #[],#[]⟩::⟨.type "tuple",none,.seq #[] 0,#[]⟩::hL7 P
noncomputable def CE(P:Params):St:=⟨(CBX P ((yF (zg P M8) 15)) ⟨.none,none,.fields #[.int 1 0,.int 0 0,.ref 20,.int 5 0,.int 0 0,.ref 27,.int 1032 0,.int 0 0,.ref 1492,.int 1034 0,.int 0 0,.ref 1497,.int 1036 0,.int 0 0,.ref 1502],#[]⟩).fr (zg P (E0++E1++Ei++E2++E3)) 221 (zO (Li++L2)),hL8 P,1504,2430,8335,zP (sAt zE 7)⟩
noncomputable def hL9(P:Params):List Obj:=(fob (.type "function") (tfn 8) ⟨⟨[95,108,97,119,95,115,105,103,110,101,100]⟩⟩ 3 (.none) (.str ⟨⟨[108,97,119,95,109,101,48,48,48,55,95,48,49]⟩⟩ 2249) (.ref 1509))::iF::(fob (.none) (tfn 8) ⟨⟨[95,108,97,119,95,115,105,103,110,101,100]⟩⟩ 0 (.none) (.none) (.none))::⟨.type "tuple",none,.seq #[] 0,#[]⟩::⟨.type "tuple",none,.seq #[.str ⟨⟨[111,99,116,101,116]⟩⟩ 2433] 0,#[]⟩::⟨.none,none,.fields #[],#[]⟩::⟨.type "tuple",none,.seq #[] 0,#[]⟩::hL8 P
noncomputable def CF(P:Params):St:=⟨(CBX P ((yF (zg P M9) 16)) ⟨.none,none,.fields #[.int 1 0,.int 0 0,.ref 20,.int 5 0,.int 0 0,.ref 27,.int 1032 0,.int 0 0,.ref 1492,.int 1034 0,.int 0 0,.ref 1497,.int 1036 0,.int 0 0,.ref 1502,.int 1038 0,.int 0 0,.ref 1509],#[]⟩).fr (zg P (E0++E1++Ei++E2++E3)) 221 (zO (Li++L2)),hL9 P,1511,2437,8364,zP (sAt zE 8)⟩
noncomputable def Ap(P:Params):List Obj:=(fob (.type "function") (tfn 9) ⟨⟨[95,108,97,119,95,115,117,109]⟩⟩ 3 (.none) (.str ⟨⟨[108,97,119,95,109,101,48,48,48,55,95,48,49]⟩⟩ 2249) (.ref 1516))::iG::(fob (.none) (tfn 9) ⟨⟨[95,108,97,119,95,115,117,109]⟩⟩ 0 (.none) (.none) (.none))::⟨.type "tuple",none,.seq #[] 0,#[]⟩::⟨.type "tuple",none,.seq #[.str ⟨⟨[102]⟩⟩ 2440,.str ⟨⟨[109,105,110,101]⟩⟩ 2441,.str ⟨⟨[111,116,104,101,114]⟩⟩ 2442,.str ⟨⟨[115,105,103,110]⟩⟩ 2443,.str ⟨⟨[101,120,116,114,97]⟩⟩ 2444,.str ⟨⟨[119,104,111,108,101]⟩⟩ 2445,.str ⟨⟨[115,105,103,110,101,100]⟩⟩ 2446] 0,#[]⟩::⟨.none,none,.fields #[],#[]⟩::⟨.type "tuple",none,.seq #[] 0,#[]⟩::hL9 P
noncomputable def rW(P:Params):St:=⟨(CBX P ((yF (zg P M10) 17)) ⟨.none,none,.fields #[.int 1 0,.int 0 0,.ref 20,.int 5 0,.int 0 0,.ref 27,.int 1032 0,.int 0 0,.ref 1492,.int 1034 0,.int 0 0,.ref 1497,.int 1036 0,.int 0 0,.ref 1502,.int 1038 0,.int 0 0,.ref 1509,.int 1040 0,.int 0 0,.ref 1516],#[]⟩).fr (zg P (E0++E1++Ei++E2++E3)) 221 (zO (Li++L2)),Ap P,1518,2450,8399,zP (sAt zE 9)⟩
noncomputable def Aq(P:Params):List Obj:=(fob (.type "function") (tfn 10) ⟨⟨[95,108,97,119,95,116,117,114,110]⟩⟩ 3 (.none) (.str ⟨⟨[108,97,119,95,109,101,48,48,48,55,95,48,49]⟩⟩ 2249) (.ref 1523))::iH::(fob (.none) (tfn 10) ⟨⟨[95,108,97,119,95,116,117,114,110]⟩⟩ 0 (.none) (.none) (.none))::⟨.type "tuple",none,.seq #[] 0,#[]⟩::⟨.type "tuple",none,.seq #[.str ⟨⟨[102]⟩⟩ 2453,.str ⟨⟨[119,104,97,116]⟩⟩ 2454,.str ⟨⟨[118,97,108,117,101]⟩⟩ 2455,.str ⟨⟨[101,110,116,101,114]⟩⟩ 2456,.str ⟨⟨[98,105,116,115]⟩⟩ 2457,.str ⟨⟨[108,105,110,101]⟩⟩ 2458] 0,#[]⟩::⟨.none,none,.fields #[],#[]⟩::⟨.type "tuple",none,.seq #[] 0,#[]⟩::Ap P
noncomputable def rY(P:Params):St:=⟨(CBX P ((yF (zg P M11) 18)) ⟨.none,none,.fields #[.int 1 0,.int 0 0,.ref 20,.int 5 0,.int 0 0,.ref 27,.int 1032 0,.int 0 0,.ref 1492,.int 1034 0,.int 0 0,.ref 1497,.int 1036 0,.int 0 0,.ref 1502,.int 1038 0,.int 0 0,.ref 1509,.int 1040 0,.int 0 0,.ref 1516,.int 1047 0,.int 0 0,.ref 1523],#[]⟩).fr (zg P (E0++E1++Ei++E2++E3)) 221 (zO (Li++L2)),Aq P,1525,2462,8433,zP (sAt zE 10)⟩
noncomputable def Ar(P:Params):List Obj:=(fob (.type "function") (tfn 11) ⟨⟨[95,108,97,119,95,114,117,110]⟩⟩ 3 (.none) (.str ⟨⟨[108,97,119,95,109,101,48,48,48,55,95,48,49]⟩⟩ 2249) (.ref 1528))::iI::(fob (.none) (tfn 11) ⟨⟨[95,108,97,119,95,114,117,110]⟩⟩ 0 (.none) (.none) (.none))::⟨.none,none,.fields #[],#[]⟩::⟨.type "tuple",none,.seq #[] 0,#[]⟩::Aq P
noncomputable def r5(P:Params):St:=⟨(CBX P ((yF (zg P M12) 19)) ⟨.none,none,.fields #[.int 1 0,.int 0 0,.ref 20,.int 5 0,.int 0 0,.ref 27,.int 1032 0,.int 0 0,.ref 1492,.int 1034 0,.int 0 0,.ref 1497,.int 1036 0,.int 0 0,.ref 1502,.int 1038 0,.int 0 0,.ref 1509,.int 1040 0,.int 0 0,.ref 1516,.int 1047 0,.int 0 0,.ref 1523,.int 1053 0,.int 0 0,.ref 1528],#[]⟩).fr (zg P (E0++E1++Ei++E2++E3)) 221 (zO (Li++L2)),Ar P,1530,2468,8459,zP (sAt zE 11)⟩
noncomputable def Dy(P:Params):List Obj:=(fob (.type "function") (tfn 12) ⟨⟨[108,97,119]⟩⟩ 3 (.none) (.str ⟨⟨[108,97,119,95,109,101,48,48,48,55,95,48,49]⟩⟩ 2249) (.ref 1533))::iJ::(fob (.none) (tfn 12) ⟨⟨[108,97,119]⟩⟩ 0 (.none) (.none) (.none))::⟨.none,none,.fields #[],#[]⟩::⟨.type "tuple",none,.seq #[] 0,#[]⟩::Ar P
noncomputable def j9(P:Params):St:=⟨(CBX P (rt P) ⟨.none,none,.fields #[.int 1 0,.int 0 0,.ref 20,.int 5 0,.int 0 0,.ref 27,.int 1032 0,.int 0 0,.ref 1492,.int 1034 0,.int 0 0,.ref 1497,.int 1036 0,.int 0 0,.ref 1502,.int 1038 0,.int 0 0,.ref 1509,.int 1040 0,.int 0 0,.ref 1516,.int 1047 0,.int 0 0,.ref 1523,.int 1053 0,.int 0 0,.ref 1528,.int 1101 0,.int 0 0,.ref 1533],#[]⟩).fr (zg P (E0++E1++Ei++E2++E3)) 221 (zO (Li++L2)),Dy P,1535,2474,8485,zP (sAt zE 12)⟩
noncomputable def eQ:Code:=.builtin "claim.caller" {}
noncomputable def yC:Code:=.body zE qQ
noncomputable def yN:List (Code×Pos):=[(eQ,default)]
noncomputable def kBC(x:Option (BC α×St)):Result->Sem α:=match x with | some (b,_)=>b.k | none=>λZ=>.unsupported ""
noncomputable def k0(P:Params):Result->Sem Fin:=kBC (jX pw P (hcF pw P 20) eQ [] (topStub pw).cur (st0 P))
theorem t0(P:Params):jX pw P (hcF pw P 20) eQ [] (topStub pw).cur (st0 P)=some (⟨zE,qQ,none,false,[],k0 P⟩,sta P):=by kernel_rfl
theorem s0(P:Params):zj pw P (hcF pw P 20) yC yN (exec (sAt zE 0) qQ) (Cv P)=some (.next,Cw P):=by kernel_rfl
theorem s1(P:Params):zj pw P (hcF pw P 20) yC yN (exec (sAt zE 1) qQ) (Cw P)=some (.next,kt P):=by kernel_rfl
noncomputable def XZ(P:Params):BC Flow:=match jX pw P (hcF pw P 20) yC yN (exec yE qQ) (kt P) with | some (b,_)=>b | none=>⟨[],qQ,none,false,[],λZ=>.unsupported ""⟩
theorem tc(P:Params):jX pw P (hcF pw P 20) yC yN (exec yE qQ) (kt P)=some (⟨zx,Jb,(XZ P).h,(XZ P).g,(XZ P).l,(XZ P).k⟩,stc P):=by kernel_rfl
theorem JR:(Jb.scope.names.all λe=>e.2==.local)=true:=by kernel_rfl
theorem Dr:cg jq.names pz hin uP.1 uP.2.1 uP.2.2 (zP (sAt zx (iiN-1))) (zx.take iiN) E1 [] hk1 cs1 E0.reverse cs0 0 uO.1 uO.2.1 uO.2.2 (zP yE)=true:=by kernel_rfl
theorem Ds:cg jq.names pz hin Ek El Ej (zP (sAt zx (zx.length-1))) (zx.drop (iiN+1)) E2 L2 hk2 cs2 (E0++E1++Ei).reverse csi 22 im.1 im.2.1 im.2.2 (zP (sAt zx iiN))=true:=by kernel_rfl
theorem wA:cTl bD aJ 181 nk pz (zx.drop (iiN+1)) E2 im.2.1 tli=tlc:=by kernel_rfl
theorem ER(P:Params):zj pw P (hcF pw P 20) (.body zx Jb) ((yC,zP yE)::yN) (exec (sAt zx iiN) Jb) (Cb P)=some (.next,Cc P):=by kernel_rfl
theorem Cr(P:Params):zj pw P (hcF pw P 20) yC yN ((XZ P).k (.ok .next)) (std P)=some (.next,wk P):=by kernel_rfl
theorem s3(P:Params):zj pw P (hcF pw P 20) yC yN (exec (sAt zE 3) qQ) (wk P)=some (.next,Cy P):=by kernel_rfl
theorem s4(P:Params):zj pw P (hcF pw P 20) yC yN (exec (sAt zE 4) qQ) (Cy P)=some (.next,Cz P):=by kernel_rfl
theorem s5(P:Params):zj pw P (hcF pw P 20) yC yN (exec (sAt zE 5) qQ) (Cz P)=some (.next,CC P):=by kernel_rfl
theorem s6(P:Params):zj pw P (hcF pw P 20) yC yN (exec (sAt zE 6) qQ) (CC P)=some (.next,CD P):=by kernel_rfl
theorem s7(P:Params):zj pw P (hcF pw P 20) yC yN (exec (sAt zE 7) qQ) (CD P)=some (.next,CE P):=by kernel_rfl
theorem s8(P:Params):zj pw P (hcF pw P 20) yC yN (exec (sAt zE 8) qQ) (CE P)=some (.next,CF P):=by kernel_rfl
theorem s9(P:Params):zj pw P (hcF pw P 20) yC yN (exec (sAt zE 9) qQ) (CF P)=some (.next,rW P):=by kernel_rfl
theorem s10(P:Params):zj pw P (hcF pw P 20) yC yN (exec (sAt zE 10) qQ) (rW P)=some (.next,rY P):=by kernel_rfl
theorem s11(P:Params):zj pw P (hcF pw P 20) yC yN (exec (sAt zE 11) qQ) (rY P)=some (.next,r5 P):=by kernel_rfl
theorem s12(P:Params):zj pw P (hcF pw P 20) yC yN (exec (sAt zE 12) qQ) (r5 P)=some (.next,j9 P):=by kernel_rfl
end
end MH
namespace MH
section
theorem xR(P:Params):CBok (CBX P (V6 P) UP) Jb aJ 0 181 nk where
 len:=by kernel_rfl
 loc:=rfl
 glo:=rfl
 bui:=rfl
 cod:=rfl
 kin:=by kernel_rfl
 dat:=⟨_,rfl,rfl,⟨_,rfl⟩,rfl,rfl,rfl⟩
 al27:=rfl
 fut:=by kernel_rfl
 g3:=⟨V6 P,by kernel_rfl,by kernel_rfl,by kernel_rfl,by kernel_rfl⟩
 g4:=⟨boot_o_4 P,by kernel_rfl,by kernel_rfl,by kernel_rfl,by kernel_rfl,by kernel_rfl⟩
theorem re1:(zx.take iiN).map reS=zx.take iiN:=by kernel_rfl
theorem re2:(zx.drop (iiN+1)).map reS=zx.drop (iiN+1):=by kernel_rfl
theorem C8:AccOk E0.reverse cs0:=Uh (by kernel_rfl)
theorem C9:AccOk (E0++E1++Ei).reverse csi:=Uh (by kernel_rfl)
theorem gB(h:Nat.beq S.n (S.fr.length+S.tl.length)=true):S.inv:=Nat.eq_of_beq_eq_true h
variable (w:World)
theorem clB:Cl pw w (.body zx Jb) ((yC,zP yE)::yN) (i9 w.params) .next ⟨(J9 w.params).fr,(J9 w.params).tl,(J9 w.params).n,(J9 w.params).toks,(J9 w.params).cnt+1,(J9 w.params).pos⟩:=by
 refine Cl.body (S':=J9 w.params) (by kernel_rfl) ?_
 have e0:zx=zx.take iiN++(sAt zx iiN::zx.drop (iiN+1)):=by kernel_rfl
 have b1:zj pw w.params (hcF pw w.params 20) (.body zx Jb) ((yC,zP yE)::yN) (execs (zx.take iiN) Jb) (i9 w.params)=some (.next,Cb w.params):=by
  have:=aH (p:=pw) (P:=w.params) (hc:=hcF pw w.params 20) (code:=.body zx Jb) (stk:=(yC,zP yE)::yN) (xR w.params) JR (zx.take iiN) (LA:=[]) (m:=3) (tl:=[]) Dr (λx hx=>(nomatch hx)) C8
  rw[List.reverse_reverse,show(zx.take iiN).map reS=zx.take iiN from re1] at this
  refine Eq.trans this ?_
  kernel_rfl
 have b2:zj pw w.params (hcF pw w.params 20) (.body zx Jb) ((yC,zP yE)::yN) (execs (zx.drop (iiN+1)) Jb) (Cc w.params)=some (.next,J9 w.params):=by
  have:=aH (p:=pw) (P:=w.params) (hc:=hcF pw w.params 20) (code:=.body zx Jb) (stk:=(yC,zP yE)::yN) (xR w.params) JR (zx.drop (iiN+1)) (LA:=Li) (m:=iiN+4) (tl:=tli) Ds (λx hx=>by
   have h:(Li.all λx=>Nat.ble x.1 22)=true:=by kernel_rfl
   exact Nat.le_of_ble_eq_true (List.all_eq_true.mp h x hx)) C9
  rw[List.reverse_reverse,show(zx.drop (iiN+1)).map reS=zx.drop (iiN+1) from re2] at this
  refine Eq.trans this ?_;rw[show cTl Jb.qual aJ 181 nk pz (zx.drop (iiN+1)) E2 im.2.1 tli=tlc from wA]
  kernel_rfl
 have i0:(i9 w.params).inv:=gB (by kernel_rfl)
 have v1:=zy (w:=w) (zF 20) _ b1 i0;have v2:=zy (w:=w) (zF 20) _ (ER w.params) v1.inv;have v3:=zy (w:=w) (zF 20) _ b2 v2.inv
 have:Ev pw w (.body zx Jb) ((yC,zP yE)::yN) (execs (zx.take iiN++(sAt zx iiN::zx.drop (iiN+1))) Jb) (i9 w.params) .next (J9 w.params):=v1.app (Ev.cons v2 v3)
 rw[<- e0] at this;exact this
theorem evC(i:(kt w.params).inv):Ev pw w yC yN (exec yE qQ) (kt w.params) .next (wk w.params):=by
 refine QR (w:=w) (zF 20) _ (tc w.params) i (H8:=⟨(J9 w.params).fr,(J9 w.params).tl,(J9 w.params).n,(J9 w.params).toks,(J9 w.params).cnt+1,(J9 w.params).pos⟩) (f:=.next) (λZ=>?_) (λi'=>?_)
 ·refine Cl.of_eq (H8:=i9 w.params) (by kernel_rfl) rfl rfl rfl ?_
  exact clB w
 ·exact zy (w:=w) (zF 20) _ (Cr w.params) i'
noncomputable def Ud(P:Params):St:=⟨(j9 P).fr,(j9 P).tl,(j9 P).n,(j9 P).toks,(j9 P).cnt+1,default⟩
theorem D9(P:Params):zj pw P (hcF pw P 20) eQ [] (k0 P (.ok .next)) (Ud P)=some (.done (.ret .none),Ud P):=by kernel_rfl
theorem mb6:zE = [sAt zE 0,sAt zE 1,yE,sAt zE 3,sAt zE 4,sAt zE 5,sAt zE 6,sAt zE 7,sAt zE 8,sAt zE 9,sAt zE 10,sAt zE 11,sAt zE 12]:=by kernel_rfl
theorem Ac:Ev pw w (.builtin "claim.caller" {}) [] (topStub pw).cur (st0 w.params) (.done (.ret .none)) (Ud w.params):=by
 refine QR (w:=w) (zF 20) (topStub pw).cur (t0 w.params) (gB (by kernel_rfl)) (H8:=⟨(j9 w.params).fr,(j9 w.params).tl,(j9 w.params).n,(j9 w.params).toks,(j9 w.params).cnt+1,(j9 w.params).pos⟩) (f:=.next) (λi=>?_) (λi=>?_)
 ·refine Cl.body (S':=j9 w.params) (by kernel_rfl) ?_
  have v0:=zy (w:=w) (zF 20) _ (s0 w.params) i;have v1:=zy (w:=w) (zF 20) _ (s1 w.params) v0.inv;have v2:=evC w v1.inv;have v3:=zy (w:=w) (zF 20) _ (s3 w.params) v2.inv;have v4:=zy (w:=w) (zF 20) _ (s4 w.params) v3.inv;have v5:=zy (w:=w) (zF 20) _ (s5 w.params) v4.inv;have v6:=zy (w:=w) (zF 20) _ (s6 w.params) v5.inv;have v7:=zy (w:=w) (zF 20) _ (s7 w.params) v6.inv;have v8:=zy (w:=w) (zF 20) _ (s8 w.params) v7.inv;have v9:=zy (w:=w) (zF 20) _ (s9 w.params) v8.inv;have v10:=zy (w:=w) (zF 20) _ (s10 w.params) v9.inv;have v11:=zy (w:=w) (zF 20) _ (s11 w.params) v10.inv;have v12:=zy (w:=w) (zF 20) _ (s12 w.params) v11.inv
  have:Ev pw w yC yN (execs [sAt zE 0,sAt zE 1,yE,sAt zE 3,sAt zE 4,sAt zE 5,sAt zE 6,sAt zE 7,sAt zE 8,sAt zE 9,sAt zE 10,sAt zE 11,sAt zE 12] qQ) (Cv w.params) .next (j9 w.params):=Ev.cons v0 (Ev.cons v1 (Ev.cons v2 (Ev.cons v3 (Ev.cons v4 (Ev.cons v5 (Ev.cons v6 (Ev.cons v7 (Ev.cons v8 (Ev.cons v9 (Ev.cons v10 (Ev.cons v11 (Ev.cons v12 (Ev.nil v12.inv)))))))))))))
  rw[<- mb6] at this;exact this
 ·exact zy (w:=w) (zF 20) _ (D9 w.params) i
noncomputable def gN(P:Params):Life:=(boot_heap P).life
noncomputable def H1(P:Params):Heap:=⟨((j9 P).fr++(j9 P).tl.reverse).toArray,gN P⟩
theorem Dz(os:OsState):topRun treeTable pw w 11 (some (.ref 6)) 9000 ⟨boot_heap w.params,#[],boot_drawn,boot_toks,os⟩ (topStub pw)=some ⟨H1 w.params,#[],boot_drawn,(j9 w.params).toks,os⟩:=by
 have r:=pG (life:=gN w.params) (dr:=boot_drawn) (os:=os) (M:=(Ud w.params).cnt+1) (code:=eQ) (Ac w) rfl rfl rfl;have e:(st0 w.params).sh (gN w.params) boot_drawn os=⟨boot_heap w.params,#[],boot_drawn,boot_toks,os⟩:=by kernel_rfl
 rw[e] at r;have r2:=topRun_mono (9000-((Ud w.params).cnt+1)) _ _ _ _ r;exact r2
end
end MH
section
noncomputable abbrev pwM:=PySem.Challenge.pw_me0007_01
noncomputable def sH:List Stmt:=match (pwM.main.body.drop 2).head? with | some (Stmt.ClassDef _ _ _ b _ _ _ _ _ _ _)=>b | _=>[]
noncomputable def cfn(i:Nat):FD:=cz (sH.drop i).head?
noncomputable def tfn(i:Nat):FD:=cz (pwM.main.body.drop i).head?
noncomputable def mts:List (Nat×Nat×String)->Frag
 | (i,t,q)::r=>(7*i-70,MH.dC i (7*i-75) t)::(7*i-69,J4 (cfn i) q .none (.str "py65.devices.mpu6502" 194) (7*i-70))::mts r
 | []=>[]
noncomputable def wKs:Nat->List Obj->Frag
 | a,o::r=>(a,o)::wKs (a+1) r
 | _,[]=>[]
noncomputable def KM(P:Params):Frag:=[(3,MH.rt P),(29,MH.nW),(35,MH.nX),(36,J4 (cfn 15) "MPU.__init__" (.ref 29) (.str "py65.devices.mpu6502" 194) 35)]++mts [(16,248, "MPU.step"),(17,256, "MPU.reset"),(20,277, "MPU.ByteAt"),(21,285, "MPU.WordAt"),(23,303, "MPU.ProgramCounter"),(24,310, "MPU.ImmediateByte"),(25,317, "MPU.ZeroPageAddr"),(26,324, "MPU.ZeroPageXAddr"),(30,354, "MPU.AbsoluteAddr"),(32,370, "MPU.AbsoluteYAddr"),(33,379, "MPU.BranchRelAddr"),(34,387, "MPU.stPush"),(35,395, "MPU.stPop"),(38,418, "MPU.FlagsNZ"),(39,426, "MPU.opORA"),(40,434, "MPU.opASL"),(41,444, "MPU.opLSR"),(42,454, "MPU.opBCL"),(44,470, "MPU.opCLR"),(45,478, "MPU.opSET"),(46,486, "MPU.opAND"),(47,494, "MPU.opBIT"),(48,503, "MPU.opROL"),(49,513, "MPU.opEOR"),(50,521, "MPU.opADC"),(51,539, "MPU.opROR"),(52,549, "MPU.opSTA"),(53,557, "MPU.opSTY"),(54,565, "MPU.opSTX"),(55,573, "MPU.opCMPR"),(56,583, "MPU.opSBC"),(57,600, "MPU.opDECR"),(58,610, "MPU.opINCR"),(59,620, "MPU.opLDA"),(60,628, "MPU.opLDY"),(61,636, "MPU.opLDX"),(65,666, "MPU.inst_0x05"),(66,673, "MPU.inst_0x06"),(67,680, "MPU.inst_0x08"),(68,687, "MPU.inst_0x09"),(69,694, "MPU.inst_0x0a"),(74,729, "MPU.inst_0x15"),(76,743, "MPU.inst_0x18"),(82,785, "MPU.inst_0x24"),(83,792, "MPU.inst_0x25"),(84,799, "MPU.inst_0x26"),(85,806, "MPU.inst_0x28"),(86,813, "MPU.inst_0x29"),(87,820, "MPU.inst_0x2a"),(93,862, "MPU.inst_0x35"),(95,876, "MPU.inst_0x38"),(101,918, "MPU.inst_0x45"),(102,925, "MPU.inst_0x46"),(103,932, "MPU.inst_0x48"),(104,939, "MPU.inst_0x49"),(105,946, "MPU.inst_0x4a"),(111,988, "MPU.inst_0x55"),(113,1002, "MPU.inst_0x58"),(119,1044, "MPU.inst_0x65"),(120,1051, "MPU.inst_0x66"),(121,1058, "MPU.inst_0x68"),(122,1065, "MPU.inst_0x69"),(123,1072, "MPU.inst_0x6a"),(129,1115, "MPU.inst_0x75"),(131,1129, "MPU.inst_0x78"),(136,1164, "MPU.inst_0x84"),(137,1171, "MPU.inst_0x85"),(138,1178, "MPU.inst_0x86"),(140,1192, "MPU.inst_0x8a"),(142,1206, "MPU.inst_0x8d"),(150,1262, "MPU.inst_0x99"),(151,1269, "MPU.inst_0x9a"),(155,1297, "MPU.inst_0xa2"),(156,1304, "MPU.inst_0xa4"),(157,1311, "MPU.inst_0xa5"),(158,1318, "MPU.inst_0xa6"),(160,1332, "MPU.inst_0xa9"),(161,1339, "MPU.inst_0xaa"),(168,1388, "MPU.inst_0xb5"),(170,1402, "MPU.inst_0xb8"),(171,1409, "MPU.inst_0xb9"),(172,1416, "MPU.inst_0xba"),(176,1444, "MPU.inst_0xc0"),(179,1465, "MPU.inst_0xc5"),(180,1472, "MPU.inst_0xc6"),(181,1479, "MPU.inst_0xc8"),(182,1486, "MPU.inst_0xc9"),(183,1493, "MPU.inst_0xca"),(187,1521, "MPU.inst_0xd0"),(189,1535, "MPU.inst_0xd5"),(195,1577, "MPU.inst_0xe0"),(197,1591, "MPU.inst_0xe4"),(198,1598, "MPU.inst_0xe5"),(199,1605, "MPU.inst_0xe6"),(200,1612, "MPU.inst_0xe8"),(201,1619, "MPU.inst_0xe9"),(202,1626, "MPU.inst_0xea"),(208,1668, "MPU.inst_0xf5")] ++ [(1423,U6 MH.yO),(1424,U6 MH.yh),(1425,U6 MH.jQ),(1427,MH.iy P),(1428,MH.iz)]++wKs 1433 rwF ++ [(1486,MH.iB),(1492,MH.iC),(1493,J4 (tfn 5) "_law_word" (.none) (.str "law_me0007_01" 2249) 1492),(1497,MH.iD),(1498,J4 (tfn 6) "_law_bits" (.none) (.str "law_me0007_01" 2249) 1497),(1502,MH.iE),(1503,J4 (tfn 7) "_law_octet" (.none) (.str "law_me0007_01" 2249) 1502),(1509,MH.iF),(1510,J4 (tfn 8) "_law_signed" (.none) (.str "law_me0007_01" 2249) 1509),(1516,MH.iG),(1517,J4 (tfn 9) "_law_sum" (.none) (.str "law_me0007_01" 2249) 1516),(1523,MH.iH),(1524,J4 (tfn 10) "_law_turn" (.none) (.str "law_me0007_01" 2249) 1523),(1528,MH.iI),(1529,J4 (tfn 11) "_law_run" (.none) (.str "law_me0007_01" 2249) 1528),(1533,MH.iJ),(1534,J4 (tfn 12) "law" (.none) (.str "law_me0007_01" 2249) 1533)]
noncomputable def D8:List Addr:=[3,29,35,36]++([16,17,20,21,23,24,25,26,30,32,33,34,35,38,39,40,41,42,44,45,46,47,48,49,50,51,52,53,54,55,56,57,58,59,60,61,65,66,67,68,69,74,76,82,83,84,85,86,87,93,95,101,102,103,104,105,111,113,119,120,121,122,123,129,131,136,137,138,140,142,150,151,155,156,157,158,160,161,168,170,171,172,176,179,180,181,182,183,187,189,195,197,198,199,200,201,202,208].flatMap λi=>[7*i-70,7*i-69])++([1423,1424,1425,1427,1428]++(List.range' 1433 53 ++ [1486,1492,1493,1497,1498,1502,1503,1509,1510,1516,1517,1523,1524,1528,1529,1533,1534]))
noncomputable def ixd(d:Nat):Nat:=cond (Nat.ble d 9) (d+48) (d+87)
noncomputable def ix(n:Nat):Str:=⟨⟨[105,110,115,116,95,48,120,ixd (n/16),ixd (n%16)]⟩⟩
noncomputable def nmL:List Str:=[⟨⟨[115,101,108,102]⟩⟩,⟨⟨[109,101,109,111,114,121]⟩⟩,⟨⟨[112,99]⟩⟩,⟨⟨[110,97,109,101]⟩⟩,⟨⟨[98,121,116,101,77,97,115,107]⟩⟩,⟨⟨[97,100,100,114,77,97,115,107]⟩⟩,⟨⟨[97,100,100,114,72,105,103,104,77,97,115,107]⟩⟩,⟨⟨[115,112,66,97,115,101]⟩⟩,⟨⟨[101,120,99,121,99,108,101,115]⟩⟩,⟨⟨[97,100,100,99,121,99,108,101,115]⟩⟩,⟨⟨[112,114,111,99,101,115,115,111,114,67,121,99,108,101,115]⟩⟩,⟨⟨[115,116,97,114,116,95,112,99]⟩⟩,⟨⟨[66,89,84,69,95,87,73,68,84,72]⟩⟩,⟨⟨[114,101,115,101,116]⟩⟩,⟨⟨[65,68,68,82,95,87,73,68,84,72]⟩⟩,⟨⟨[105,110,115,116,114,117,99,116,67,111,100,101]⟩⟩,⟨⟨[101,120,116,114,97,99,121,99,108,101,115]⟩⟩,⟨⟨[105,110,115,116,114,117,99,116]⟩⟩,⟨⟨[99,121,99,108,101,116,105,109,101]⟩⟩,⟨⟨[115,112]⟩⟩,⟨⟨[97]⟩⟩,⟨⟨[120]⟩⟩,⟨⟨[121]⟩⟩,⟨⟨[112]⟩⟩,⟨⟨[66,82,69,65,75]⟩⟩,⟨⟨[85,78,85,83,69,68]⟩⟩,⟨⟨[87,111,114,100,65,116]⟩⟩,⟨⟨[82,69,83,69,84]⟩⟩,⟨⟨[95,119,97,108,108]⟩⟩,⟨⟨[97,100,100,114]⟩⟩,⟨⟨[66,121,116,101,65,116]⟩⟩,⟨⟨[119,114,97,112]⟩⟩,⟨⟨[87,114,97,112,65,116]⟩⟩,⟨⟨[97,49]⟩⟩,⟨⟨[97,50]⟩⟩,⟨⟨[73,109,109,101,100,105,97,116,101,66,121,116,101]⟩⟩,⟨⟨[78,69,71,65,84,73,86,69]⟩⟩,⟨⟨[122]⟩⟩,⟨⟨[115,116,80,117,115,104]⟩⟩,⟨⟨[115,116,80,111,112]⟩⟩,⟨⟨[118,97,108,117,101]⟩⟩,⟨⟨[90,69,82,79]⟩⟩,⟨⟨[70,108,97,103,115,78,90]⟩⟩,⟨⟨[116,98,121,116,101]⟩⟩,⟨⟨[67,65,82,82,89]⟩⟩,⟨⟨[66,114,97,110,99,104,82,101,108,65,100,100,114]⟩⟩,⟨⟨[79,86,69,82,70,76,79,87]⟩⟩,⟨⟨[100,97,116,97]⟩⟩,⟨⟨[68,69,67,73,77,65,76]⟩⟩,⟨⟨[104,97,108,102,99,97,114,114,121]⟩⟩,⟨⟨[100,101,99,105,109,97,108,99,97,114,114,121]⟩⟩,⟨⟨[97,100,106,117,115,116,48]⟩⟩,⟨⟨[97,100,106,117,115,116,49]⟩⟩,⟨⟨[110,105,98,98,108,101,48]⟩⟩,⟨⟨[110,105,98,98,108,101,49]⟩⟩,⟨⟨[97,108,117,114,101,115,117,108,116]⟩⟩,⟨⟨[114,101,115,117,108,116]⟩⟩,⟨⟨[116,109,112]⟩⟩,⟨⟨[103,101,116,95,97,100,100,114,101,115,115]⟩⟩,⟨⟨[114,101,103,105,115,116,101,114,95,118,97,108,117,101]⟩⟩,⟨⟨[73,78,84,69,82,82,85,80,84]⟩⟩,⟨⟨[115,116,80,117,115,104,87,111,114,100]⟩⟩,⟨⟨[73,82,81]⟩⟩,⟨⟨[111,112,79,82,65]⟩⟩,⟨⟨[73,110,100,105,114,101,99,116,88,65,100,100,114]⟩⟩,⟨⟨[90,101,114,111,80,97,103,101,65,100,100,114]⟩⟩,⟨⟨[111,112,65,83,76]⟩⟩,⟨⟨[80,114,111,103,114,97,109,67,111,117,110,116,101,114]⟩⟩,⟨⟨[65,98,115,111,108,117,116,101,65,100,100,114]⟩⟩,⟨⟨[111,112,66,67,76]⟩⟩,⟨⟨[73,110,100,105,114,101,99,116,89,65,100,100,114]⟩⟩,⟨⟨[90,101,114,111,80,97,103,101,88,65,100,100,114]⟩⟩,⟨⟨[111,112,67,76,82]⟩⟩,⟨⟨[65,98,115,111,108,117,116,101,89,65,100,100,114]⟩⟩,⟨⟨[65,98,115,111,108,117,116,101,88,65,100,100,114]⟩⟩,⟨⟨[111,112,65,78,68]⟩⟩,⟨⟨[111,112,66,73,84]⟩⟩,⟨⟨[111,112,82,79,76]⟩⟩,⟨⟨[111,112,66,83,84]⟩⟩,⟨⟨[111,112,83,69,84]⟩⟩,⟨⟨[115,116,80,111,112,87,111,114,100]⟩⟩,⟨⟨[111,112,69,79,82]⟩⟩,⟨⟨[111,112,76,83,82]⟩⟩,⟨⟨[111,112,65,68,67]⟩⟩,⟨⟨[111,112,82,79,82]⟩⟩,⟨⟨[116,97]⟩⟩,⟨⟨[111,112,83,84,65]⟩⟩,⟨⟨[111,112,83,84,89]⟩⟩,⟨⟨[111,112,83,84,88]⟩⟩,⟨⟨[90,101,114,111,80,97,103,101,89,65,100,100,114]⟩⟩,⟨⟨[111,112,76,68,89]⟩⟩,⟨⟨[111,112,76,68,65]⟩⟩,⟨⟨[111,112,76,68,88]⟩⟩,⟨⟨[111,112,67,77,80,82]⟩⟩,⟨⟨[111,112,68,69,67,82]⟩⟩,⟨⟨[111,112,83,66,67]⟩⟩,⟨⟨[111,112,73,78,67,82]⟩⟩,⟨⟨[78,77,73]⟩⟩,⟨⟨[95,95,105,110,105,116,95,95]⟩⟩,⟨⟨[115,116,101,112]⟩⟩,⟨⟨[105,114,113]⟩⟩,⟨⟨[110,109,105]⟩⟩,⟨⟨[105,110,115,116,95,110,111,116,95,105,109,112,108,101,109,101,110,116,101,100]⟩⟩]++([0,1,5,6,8,9,10,13,14,16,17,21,22,24,25,29,30,32,33,36,37,38,40,41,42,44,45,46,48,49,53,54,56,57,61,62,64,65,69,70,72,73,74,76,77,78,80,81,85,86,88,89,93,94,96,97,101,102,104,105,106,108,109,110,112,113,117,118,120,121,125,126,129,132,133,134,136,138,140,141,142,144,145,148,149,150,152,153,154,157,160,161,162,164,165,166,168,169,170,172,173,174,176,177,180,181,182,184,185,186,188,189,190,192,193,196,197,198,200,201,202,204,205,206,208,209,213,214,216,217,221,222,224,225,228,229,230,232,233,234,236,237,238,240,241,245,246,248,249,253,254].map ix ++ [⟨⟨[108,101,110]⟩⟩,⟨⟨[115,117,109]⟩⟩,⟨⟨[109,97,120]⟩⟩,⟨⟨[109,105,110]⟩⟩,⟨⟨[100,105,118,109,111,100]⟩⟩,⟨⟨[114,97,110,103,101]⟩⟩,⟨⟨[101,110,117,109,101,114,97,116,101]⟩⟩,⟨⟨[122,105,112]⟩⟩,⟨⟨[77,80,85]⟩⟩,⟨⟨[111,114,100]⟩⟩,⟨⟨[116,111,116,97,108]⟩⟩,⟨⟨[115,99,114,105,112,116]⟩⟩,⟨⟨[110]⟩⟩,⟨⟨[110,117,109,98,101,114,115]⟩⟩,⟨⟨[115,112,111,116]⟩⟩,⟨⟨[99,111,117,110,116]⟩⟩,⟨⟨[114,111,119,115]⟩⟩,⟨⟨[95,108,97,119,95,100,111,101,115]⟩⟩,⟨⟨[112,97,105,114,115]⟩⟩,⟨⟨[114,111,119]⟩⟩,⟨⟨[109]⟩⟩,⟨⟨[35]⟩⟩,⟨⟨[122,44,120]⟩⟩,⟨⟨[]⟩⟩,⟨⟨[116,97,98,108,101]⟩⟩,⟨⟨[98,97,115,101]⟩⟩,⟨⟨[98,111,100,121]⟩⟩,⟨⟨[101,110,100]⟩⟩,⟨⟨[112,97,105,114]⟩⟩,⟨⟨[95,108,97,119,95,119,111,114,100]⟩⟩,⟨⟨[112,108,97,105,110]⟩⟩,⟨⟨[109,112,117]⟩⟩,⟨⟨[116,117,114,110]⟩⟩,⟨⟨[114]⟩⟩,⟨⟨[116,111,112]⟩⟩,⟨⟨[102]⟩⟩,⟨⟨[95,108,97,119,95,98,105,116,115]⟩⟩,⟨⟨[95,108,97,119,95,114,117,110]⟩⟩,⟨⟨[107,101,112,116]⟩⟩,⟨⟨[95,108,97,119,95,111,99,116,101,116]⟩⟩,⟨⟨[112,108,97,99,101]⟩⟩,⟨⟨[111,99,116,101,116]⟩⟩,⟨⟨[98,105,116]⟩⟩,⟨⟨[108,105,110,101]⟩⟩,⟨⟨[101,120,116,114,97]⟩⟩,⟨⟨[115,105,103,110]⟩⟩,⟨⟨[119,104,111,108,101]⟩⟩,⟨⟨[109,105,110,101]⟩⟩,⟨⟨[111,116,104,101,114]⟩⟩,⟨⟨[115,105,103,110,101,100]⟩⟩,⟨⟨[95,108,97,119,95,115,105,103,110,101,100]⟩⟩,⟨⟨[101,110,116,101,114]⟩⟩,⟨⟨[119,104,97,116]⟩⟩,⟨⟨[98,105,116,115]⟩⟩,⟨⟨[109,111,100,101]⟩⟩,⟨⟨[111,112,101,114,97,110,100]⟩⟩,⟨⟨[116,111,108,100]⟩⟩,⟨⟨[111,114]⟩⟩,⟨⟨[97,110,100]⟩⟩,⟨⟨[100,105,102,102,101,114]⟩⟩,⟨⟨[95,108,97,119,95,115,117,109]⟩⟩,⟨⟨[95,108,97,119,95,116,117,114,110]⟩⟩])
noncomputable def nmM(i:Nat):Str:=cW nmL i
noncomputable def vP(v:Value):PV:=match v with
 | .ref a=>.top a
 | .int i _=>.int i
 | _=>.none
noncomputable def CL:Nat->List (Nat×Nat×Nat)->List (Addr×List PV)
 | a,r::l=>(a,[.int (r.1:Int),.str (jg r.2.1),.str (yZ r.2.2)])::CL (a+1) l
 | _,[]=>[]
noncomputable def r6:List (Addr×List PV):=[(1424,MH.yh.map vP),(1425,MH.jQ.map vP),(1423,MH.yO.map vP),(1486,(List.range' 1433 53).map .top)]++CL 1433 qH
noncomputable def XE:Addr->List PV:=VM r6
noncomputable def fnL:List Addr:=[1534,1493,1498,1503,1510,1517,1524,1529,43,50,36,386,393,400,407,414,449,463,505,512,519,526,533,540,582,596,638,645,652,659,666,708,722,764,771,778,785,792,834,848,883,890,897,911,925,981,988,1016,1023,1030,1037,1051,1058,1107,1121,1128,1135,1163,1184,1191,1198,1205,1212,1240,1254,1296,1310,1317,1324,1331,1338,1345,1387,78,204,106,211,169,92,113,239,260,253,267,176,246,274,218,281,288,197,302,295,309,141,155,358,351,344,316,330,225,323,337,71,162,99]
noncomputable def pmM(cels:List (Nat×Nat)):Pm where
 atts:=[20,9,6,5,4,8,1,3,23,2,10,19,7,11,21,22]
 cis:=[(14,16),(24,16),(12,8),(44,1),(48,8),(60,4),(36,128),(46,64),(27,65532),(25,32),(41,2)]
 cts:=[(18,1424),(16,1425),(17,1423)]
 mths:=[(68,141),(73,155),(45,162),(30,71),(42,197),(35,99),(67,92),(26,78),(65,106),(71,113),(83,281),(75,253),(66,211),(69,225),(76,260),(72,239),(93,316),(94,330),(81,274),(96,337),(91,344),(92,358),(90,351),(82,218),(63,204),(77,267),(84,288),(95,323),(79,246),(86,295),(88,309),(87,302),(13,50),(39,176),(38,169),(99,43)]
 tops:=[(262,1428),(290,1498),(271,1486),(293,1503),(291,1529),(304,1510),(314,1517),(315,1524),(283,1493)]
 gis:=[]
 blts:=[(254,.len),(256,.maxT),(257,.min),(257,.minT),(263,.ord),(255,.sum),(255,.sumT)]
 rngs:=[259]
 enms:=[260]
 zips:=[261]
 cels:=cels
 n1 := "memory"
 n2 := "pc"
noncomputable def piM(cels:List (Nat×Nat))(base:Nat)(arg:PV->Option (List Int))(ctr:List PV->List PO->(PV->List PO->Prop)->Prop):Pi where
 toPm:=pmM cels
 tab:=XE
 fnT:=λa=>fnL.any (Nat.beq a)
 base:=base
 cvs:=[]
 arg:=arg
 ctr:=ctr
 C:=1428
noncomputable def yX:List IS:=[.cel 264 1 (.int 0),.keep [265],.forS (.name 266) (.slice false (.loc 265) none (some (.int 18))) [.cel 264 1 (.bin .i .Mod (.bin .i .Add (.bin .i .Mult (.int 31) (.cel 264 1)) (.loc 266)) (.int 1000003)),.keep [265]],.cel 267 0 (.bin (.add false) .Add (.slice false (.loc 265) none (some (.int 18))) (.compR false 268 (.bin .i .Add (.cel 264 1) (.bin .i .Mult (.int 7) (.cv 268))) 259 [.int 18])),.name 269 (.blt .min 257 [.int 9,.bin .i .Add (.int 3) (.bin .i .FloorDiv (.argL 254 265) (.int 2))]),.rowT 270 268 (.sub (.top 271 1486) (.bin .i .Mod (.bin .i .Add (.sub (.cel 267 0) (.bin .i .Mult (.int 2) (.cv 268))) (.bin .i .Mult (.int 17) (.cv 268))) (.int 53))) 259 [.loc 269],.name 272 (.list true [])]
noncomputable def K0:List IS:=[.keep [269,270,272],.forE [.name 268,.name 273] 260 [.loc 270] [.name 274 (.sub (.cel 267 0) (.bin .i .Add (.bin .i .Mult (.int 2) (.loc 268)) (.int 1))),.expr (.append (.loc 272) (.list false [.sub (.loc 273) (.int 0),.dsel [(⟨⟨[35]⟩⟩,275),(⟨⟨[122]⟩⟩,37),(⟨⟨[122,44,120]⟩⟩,276),(⟨⟨[]⟩⟩,277)] [.bin .i .Mod (.loc 274) (.int 256),.bin .i .Add (.int 32) (.bin .i .Mod (.loc 274) (.int 8)),.bin .i .Mod (.loc 274) (.int 256),.int 234] (.sub (.loc 273) (.int 2))])),.keep [269,270,272]]]
noncomputable def K1:List IS:=[.frz 272,.swap [278,279] (.tup [.bin .i .Add (.int 4096) (.bin .i .Mod (.cel 264 1) (.int 256)),.bin .i .Add (.int 20000) (.bin .i .Mod (.cel 264 1) (.int 40000))]),.swap [280,281] (.tup [.bin .i .Add (.loc 279) (.int 24),.bin .i .Add (.loc 279) (.int 48)]),.name 1 (.bin (.mul true) .Mult (.list false [.int 0]) (.int 65536))]
noncomputable def yY:List IS:=[.keep [269,270,272,278,279,280,281,1],.forE [.name 268,.name 282] 260 [.loc 272] [.slp (.loc 1) (some (.bin .i .Add (.loc 278) (.bin .i .Mult (.int 2) (.loc 268)))) (some (.bin .i .Add (.bin .i .Add (.loc 278) (.bin .i .Mult (.int 2) (.loc 268))) (.int 2))) (.loc 282),.keep [269,270,272,278,279,280,281,1]],.slp (.loc 1) none (some (.int 256)) (.compR false 268 (.bin .i .Mod (.bin .i .Add (.bin .i .Add (.cel 264 1) (.bin .i .Mult (.int 53) (.cv 268))) (.int 7)) (.int 256)) 259 [.int 256]),.slp (.loc 1) (some (.int 16)) (some (.int 19)) (.list false [.int 0,.bin .i .Mod (.bin .i .FloorDiv (.cel 264 1) (.int 8)) (.int 256),.bin .i .Add (.bin .i .Mod (.cel 264 1) (.int 8)) (.bin .i .Mult (.bin .i .Mod (.bin .i .FloorDiv (.cel 264 1) (.int 8)) (.int 4)) (.int 64))]),.slp (.loc 1) (some (.int 32)) (some (.int 40)) (.compR false 268 (.bin .i .Mod (.bin .i .Add (.cel 264 1) (.bin .i .Mult (.bin .i .Mult (.int 37) (.cv 268)) (.cv 268))) (.int 256)) 259 [.int 8]),.slp (.loc 1) (some (.bin .i .Sub (.loc 279) (.int 2))) (some (.loc 279)) (.list false [.int 162,.bin .i .Mod (.bin .i .FloorDiv (.cel 264 1) (.int 64)) (.int 256)]),.slp (.loc 1) (some (.loc 279)) (some (.bin .i .Add (.loc 279) (.int 16))) (.bin (.add false) .Add (.bin (.add false) .Add (.bin (.add false) .Add (.bin (.add false) .Add (.bin (.add false) .Add (.bin (.add false) .Add (.bin (.add false) .Add (.bin (.add false) .Add (.list false [.int 164,.int 16,.int 185]) (.callv (.top 283 1493) [.loc 278])) (.list false [.int 141])) (.callv (.top 283 1493) [.loc 280])) (.list false [.int 200,.int 185])) (.callv (.top 283 1493) [.loc 278])) (.list false [.int 141])) (.callv (.top 283 1493) [.bin .i .Add (.loc 280) (.int 1)])) (.list false [.int 200])),.slp (.loc 1) (some (.bin .i .Add (.loc 279) (.int 16))) (some (.bin .i .Add (.loc 279) (.int 32))) (.list false [.int 132,.int 16,.int 165,.int 18,.int 72,.int 165,.int 17,.int 40,.int 234,.int 234,.int 133,.int 17,.int 8,.int 104,.int 133,.int 18]),.slp (.loc 1) (some (.bin .i .Add (.loc 279) (.int 32))) (some (.loc 281)) (.list false [.int 164,.int 16,.int 165,.int 17,.int 153,.int 0,.int 3,.int 165,.int 18,.int 153,.int 1,.int 3,.int 192,.bin .i .Mult (.int 2) (.loc 269),.int 208,.int 208])]
noncomputable def Jq:List IS:=[.name 284 (.slice true (.loc 1) none none),.name 285 (.ctor (.top 262 1428) (.loc 1) (.bin .i .Sub (.loc 279) (.int 2)))]
noncomputable def Jr:List IS:=[.keep [270,272,280,281,284,285],.forR (.name 286) 259 [.int 400] [.ite (.cmp .i .Eq (.attr 285 2) (.loc 281)) [.brk] [],.expr (.mcall 285 99 43 []),.keep [270,272,280,281,284,285]]]
noncomputable def K2:List IS:=[.name 287 (.disp [20,21,288,289] [.sub (.loc 284) (.int 17),.bin .i .Mod (.bin .i .FloorDiv (.cel 264 1) (.int 64)) (.int 256),.int 255,.callv (.top 290 1498) [.bin .i .BitOr (.sub (.loc 284) (.int 18)) (.int 48)]])]
noncomputable def qA:List IS:=[.keep [270,272,280,281,284,285,287],.forE [.name 268,.name 282] 260 [.loc 272] [.slp (.loc 284) (some (.loc 280)) (some (.bin .i .Add (.loc 280) (.int 2))) (.loc 282),.put (.loc 284) (.int 16) (.bin .i .Add (.bin .i .Mult (.int 2) (.loc 268)) (.int 2)),.put (.loc 284) (.bin .i .Add (.int 256) (.dget 287 288)) (.sub (.loc 284) (.int 18)),.expr (.callv (.top 291 1529) [.loc 287,.loc 284,.sub (.sub (.loc 270) (.loc 268)) (.int 1),.sub (.sub (.loc 270) (.loc 268)) (.int 2),.sub (.loc 282) (.int 1)]),.name 292 (.list false [.dget 287 20,.callv (.top 293 1503) [.dget 287 289]]),.put (.loc 284) (.bin .i .Add (.int 256) (.dget 287 288)) (.sub (.loc 292) (.int 1)),.slp (.loc 284) (some (.int 17)) (some (.int 19)) (.loc 292),.slp (.loc 284) (some (.bin .i .Add (.int 770) (.bin .i .Mult (.int 2) (.loc 268)))) (some (.bin .i .Add (.int 772) (.bin .i .Mult (.int 2) (.loc 268)))) (.loc 292),.keep [270,272,280,281,284,285,287]]]
noncomputable def qB:List IS:=[.tup [.sub (.dget 287 289) (.int 0),.sub (.dget 287 289) (.int 1),.sub (.dget 287 289) (.int 7)] (.tup [.int 1,.int 1,.int 0]),.ret (.andV [.cmp .t .Eq (.tup [.attr 285 2,.attr 285 21,.attr 285 19,.attr 285 23]) (.tup [.loc 281,.dget 287 21,.dget 287 288,.callv (.top 293 1503) [.dget 287 289]]),.cmp .l .Eq (.attr 285 1) (.loc 284)])]
noncomputable def UG:List IS:=yX++(K0++(K1++(yY++(Jq++(Jr++(K2++(qA++(qB))))))))
noncomputable def yI:List IS:=[.ret (.list false [.bin .i .Mod (.loc 294) (.int 256),.bin .i .FloorDiv (.loc 294) (.int 256)])]
noncomputable def yG:List IS:=[.ret (.compR false 268 (.bin .i .Mod (.bin .i .FloorDiv (.cel 295 0) (.bin .i .Pow (.int 2) (.cv 268))) (.int 2)) 259 [.int 8])]
noncomputable def ji:List IS:=[.ret (.blt .sum 255 [.compE false 268 296 (.bin .i .Mult (.cv 296) (.bin .i .Pow (.int 2) (.cv 268))) 260 [.loc 297]])]
noncomputable def j3:List IS:=[.ret (.ite (.cmp .i .Gt (.loc 295) (.int 127)) (.bin .i .Sub (.loc 295) (.int 256)) (.loc 295))]
noncomputable def qd:List IS:=[.name 298 (.ite (.cmp .i .Eq (.loc 299) (.int 1)) (.sub (.loc 289) (.int 0)) (.bin .i .Sub (.sub (.loc 289) (.int 0)) (.int 1))),.name 300 (.bin .i .Add (.bin .i .Add (.loc 301) (.bin .i .Mult (.loc 299) (.loc 302))) (.loc 298)),.name 303 (.bin .i .Add (.bin .i .Add (.callv (.top 304 1510) [.loc 301]) (.bin .i .Mult (.loc 299) (.callv (.top 304 1510) [.loc 302]))) (.loc 298)),.put (.loc 289) (.int 0) (.ite (.cmp .i .Eq (.loc 299) (.int 1)) (.ite (.cmp .i .Gt (.loc 300) (.int 255)) (.int 1) (.int 0)) (.ite (.cmp .i .GtE (.loc 300) (.int 0)) (.int 1) (.int 0))),.put (.loc 289) (.int 6) (.ite (.or [.cmp .i .Lt (.loc 303) (.un .USub (.int 128)),.cmp .i .Gt (.loc 303) (.int 127)]) (.int 1) (.int 0)),.ret (.bin .i .Mod (.loc 300) (.int 256))]
noncomputable def yH:List IS:=[.name 305 (.ite (.cmp .ss .In (.str ⟨⟨[114,111,117,110,100]⟩⟩) (.loc 306)) (.sub (.loc 289) (.int 0)) (.int 0)),.name 307 (.callv (.top 290 1498) [.loc 40]),.name 297 (.ite (.cmp .ss .In (.str ⟨⟨[108,101,102,116]⟩⟩) (.loc 306)) (.bin (.add false) .Add (.list false [.loc 305]) (.loc 307)) (.bin (.add false) .Add (.loc 307) (.list false [.loc 305]))),.put (.loc 289) (.int 0) (.ite (.cmp .ss .In (.str ⟨⟨[108,101,102,116]⟩⟩) (.loc 306)) (.sub (.loc 297) (.int 8)) (.sub (.loc 297) (.int 0))),.ret (.callv (.top 293 1503) [.ite (.cmp .ss .In (.str ⟨⟨[108,101,102,116]⟩⟩) (.loc 306)) (.slice false (.loc 297) none (some (.int 8))) (.slice false (.loc 297) (some (.int 1)) none)])]
noncomputable def zR:List IS:=[.swap [289,20,21] (.tup [.dget 287 289,.dget 287 20,.dget 287 21]),.name 294 (.ite (.cmp .s .Eq (.loc 308) (.str ⟨⟨[122,44,120]⟩⟩)) (.bin .i .Mod (.bin .i .Add (.loc 309) (.loc 21)) (.int 256)) (.loc 309)),.name 40 (.ite (.cmp .s .Eq (.loc 308) (.str ⟨⟨[35]⟩⟩)) (.loc 309) (.ite (.cmp .s .Eq (.loc 308) (.str ⟨⟨[]⟩⟩)) (.loc 20) (.sub (.loc 284) (.loc 294)))),.name 310 .none,.ite (.cmp .st .In (.loc 306) (.tup [.str ⟨⟨[111,114]⟩⟩,.str ⟨⟨[97,110,100]⟩⟩,.str ⟨⟨[100,105,102,102,101,114]⟩⟩])) [.name 272 (.zip 261 [.callv (.top 290 1498) [.loc 20],.callv (.top 290 1498) [.loc 40]]),.cel 268 0 (.dsel [(⟨⟨[111,114]⟩⟩,311),(⟨⟨[97,110,100]⟩⟩,312),(⟨⟨[100,105,102,102,101,114]⟩⟩,313)] [.int 0,.int 1,.int 2] (.loc 306)),.two (.name 310) (.dset 287 20) (.callv (.top 293 1503) [.compZ false 282 (.sub (.list false [.blt .maxT 256 [.cv 282],.blt .minT 257 [.cv 282],.bin .i .Mod (.blt .sumT 255 [.cv 282]) (.int 2)]) (.cel 268 0)) (.loc 272)])] [.ite (.or [.cmp .s .Eq (.loc 306) (.str ⟨⟨[97,100,100]⟩⟩),.cmp .s .Eq (.loc 306) (.str ⟨⟨[116,97,107,101]⟩⟩)]) [.two (.name 310) (.dset 287 20) (.callv (.top 314 1517) [.loc 289,.loc 20,.loc 40,.ite (.cmp .s .Eq (.loc 306) (.str ⟨⟨[97,100,100]⟩⟩)) (.int 1) (.un .USub (.int 1))])] [.ite (.or [.cmp .s .Eq (.loc 306) (.str ⟨⟨[108,111,97,100]⟩⟩),.cmp .s .Eq (.loc 306) (.str ⟨⟨[120,32,116,111,32,97]⟩⟩)]) [.two (.name 310) (.dset 287 20) (.ite (.cmp .s .Eq (.loc 306) (.str ⟨⟨[108,111,97,100]⟩⟩)) (.loc 40) (.loc 21))] [.ite (.or [.cmp .s .Eq (.loc 306) (.str ⟨⟨[108,111,97,100,32,120]⟩⟩),.cmp .s .Eq (.loc 306) (.str ⟨⟨[97,32,116,111,32,120]⟩⟩)]) [.two (.name 310) (.dset 287 21) (.loc 40)] [.ite (.or [.cmp .s .Eq (.loc 306) (.str ⟨⟨[111,114,100,101,114]⟩⟩),.cmp .s .Eq (.loc 306) (.str ⟨⟨[111,114,100,101,114,32,120]⟩⟩)]) [.name 301 (.ite (.cmp .s .Eq (.loc 306) (.str ⟨⟨[111,114,100,101,114]⟩⟩)) (.loc 20) (.loc 21)),.put (.loc 289) (.int 0) (.ite (.cmp .i .GtE (.loc 301) (.loc 40)) (.int 1) (.int 0)),.name 310 (.bin .i .Mod (.bin .i .Sub (.loc 301) (.loc 40)) (.int 256))] [.ite (.or [.cmp .s .Eq (.loc 306) (.str ⟨⟨[115,116,111,114,101]⟩⟩),.cmp .s .Eq (.loc 306) (.str ⟨⟨[115,116,111,114,101,32,120]⟩⟩)]) [.put (.loc 284) (.loc 294) (.ite (.cmp .s .Eq (.loc 306) (.str ⟨⟨[115,116,111,114,101]⟩⟩)) (.loc 20) (.loc 21))] [.ite (.or [.cmp .ss .In (.str ⟨⟨[108,101,102,116]⟩⟩) (.loc 306),.cmp .ss .In (.str ⟨⟨[114,105,103,104,116]⟩⟩) (.loc 306)]) [.name 310 (.callv (.top 315 1524) [.loc 289,.loc 306,.loc 40]),.ite (.cmp .s .Eq (.loc 308) (.str ⟨⟨[]⟩⟩)) [.dput 287 20 (.loc 310)] [.put (.loc 284) (.loc 294) (.loc 310)]] [.ite (.or [.cmp .s .Eq (.loc 306) (.str ⟨⟨[117,112]⟩⟩),.cmp .s .Eq (.loc 306) (.str ⟨⟨[100,111,119,110]⟩⟩)]) [.two (.name 310) (.sub (.loc 284) (.loc 294)) (.bin .i .Mod (.bin .i .Add (.loc 40) (.ite (.cmp .s .Eq (.loc 306) (.str ⟨⟨[117,112]⟩⟩)) (.int 1) (.un .USub (.int 1)))) (.int 256))] [.ite (.or [.cmp .s .Eq (.loc 306) (.str ⟨⟨[117,112,32,120]⟩⟩),.cmp .s .Eq (.loc 306) (.str ⟨⟨[100,111,119,110,32,120]⟩⟩)]) [.two (.name 310) (.dset 287 21) (.bin .i .Mod (.bin .i .Add (.loc 21) (.ite (.cmp .s .Eq (.loc 306) (.str ⟨⟨[117,112,32,120]⟩⟩)) (.int 1) (.un .USub (.int 1)))) (.int 256))] [.ite (.cmp .s .Eq (.loc 306) (.str ⟨⟨[108,111,111,107]⟩⟩)) [.tup [.sub (.loc 289) (.int 6),.sub (.loc 289) (.int 7)] (.tup [.bin .i .Mod (.bin .i .FloorDiv (.loc 40) (.int 64)) (.int 2),.bin .i .FloorDiv (.loc 40) (.int 128)]),.put (.loc 289) (.int 1) (.ite (.cmp .n .In (.int 1) (.compZ false 282 (.blt .minT 257 [.cv 282]) (.zip 261 [.callv (.top 290 1498) [.loc 20],.callv (.top 290 1498) [.loc 40]]))) (.int 0) (.int 1))] [.ite (.or [.cmp .s .Eq (.loc 306) (.str ⟨⟨[112,117,115,104]⟩⟩),.cmp .s .Eq (.loc 306) (.str ⟨⟨[112,117,115,104,32,102,108,97,103,115]⟩⟩)]) [.put (.loc 284) (.bin .i .Add (.int 256) (.dget 287 288)) (.ite (.cmp .s .Eq (.loc 306) (.str ⟨⟨[112,117,115,104]⟩⟩)) (.loc 20) (.callv (.top 293 1503) [.loc 289])),.dput 287 288 (.bin .i .Mod (.bin .i .Sub (.dget 287 288) (.int 1)) (.int 256))] [.ite (.cmp .s .Eq (.loc 306) (.str ⟨⟨[112,117,108,108]⟩⟩)) [.dput 287 288 (.bin .i .Mod (.bin .i .Add (.dget 287 288) (.int 1)) (.int 256)),.two (.name 310) (.dset 287 20) (.sub (.loc 284) (.bin .i .Add (.int 256) (.dget 287 288)))] [.ite (.cmp .s .Eq (.loc 306) (.str ⟨⟨[116,111,112,32,116,111,32,120]⟩⟩)) [.two (.name 310) (.dset 287 21) (.dget 287 288)] [.ite (.cmp .s .Eq (.loc 306) (.str ⟨⟨[120,32,116,111,32,116,111,112]⟩⟩)) [.dput 287 288 (.loc 21)] [.ite (.cmp .s .NotEq (.loc 306) (.str ⟨⟨[110,111,116,104,105,110,103]⟩⟩)) [.put (.loc 289) (.bin .i .Sub (.blt .ord 263 [.sat (.loc 306) (.un .USub (.int 1))]) (.int 48)) (.ite (.cmp .s .Eq (.sat (.loc 306) (.int 0)) (.str ⟨⟨[115]⟩⟩)) (.int 1) (.int 0))] []]]]]]]]]]]]]]],.ite (.cmp .i .IsNot (.loc 310) .none) [.tup [.sub (.loc 289) (.int 1),.sub (.loc 289) (.int 7)] (.tup [.ite (.cmp .i .Eq (.loc 310) (.int 0)) (.int 1) (.int 0),.bin .i .FloorDiv (.loc 310) (.int 128)])] []]
noncomputable def W7:List IS:=[.name 15 (.sub (.attr 0 1) (.attr 0 2)),.attr 0 2 (.bin .i .BitAnd (.bin .i .Add (.attr 0 2) (.int 1)) (.attr 0 5)),.attr 0 8 (.int 0),.attr 0 9 (.sub (.ctop 0 16 1425) (.loc 15)),.expr (.callv (.sub (.ctop 0 17 1423) (.loc 15)) [.loc 0]),.aattr 0 2 .BitAnd (.attr 0 5),.aattr 0 10 .Add (.bin .i .Add (.sub (.ctop 0 18 1424) (.loc 15)) (.attr 0 8)),.ret (.loc 0)]
noncomputable def Ys:List IS:=[.attr 0 2 (.attr 0 11),.ite (.cmp .i .Is (.attr 0 2) .none) [.attr 0 2 (.mcall 0 26 78 [.cint 0 27 65532])] [],.attr 0 19 (.attr 0 4),.attr 0 20 (.int 0),.attr 0 21 (.int 0),.attr 0 22 (.int 0),.attr 0 23 (.bin .i .BitOr (.cint 0 24 16) (.cint 0 25 32)),.attr 0 10 (.int 0)]
noncomputable def QS:List IS:=[.attr 0 3 (.str ⟨⟨[54,53,48,50]⟩⟩),.attr 0 4 (.bin .i .Sub (.bin .i .LShift (.int 1) (.cint 0 12 8)) (.int 1)),.attr 0 5 (.bin .i .Sub (.bin .i .LShift (.int 1) (.cint 0 14 16)) (.int 1)),.attr 0 6 (.bin .i .LShift (.attr 0 4) (.cint 0 12 8)),.attr 0 7 (.bin .i .LShift (.int 1) (.cint 0 12 8)),.attr 0 8 (.int 0),.attr 0 9 (.bool false),.attr 0 10 (.int 0),.ite (.cmp .i .Is (.loc 1) .none) [.name 1 (.bin (.mul false) .Mult (.int 65536) (.list false [.int 0]))] [],.attr 0 1 (.loc 1),.attr 0 11 (.loc 2),.expr (.mcall 0 13 50 [])]
noncomputable def Wx:List IS:=[.expr (.mcall 0 63 204 [.meth 0 65 106]),.aattr 0 2 .Add (.int 1)]
noncomputable def Wy:List IS:=[.expr (.mcall 0 66 211 [.meth 0 65 106]),.aattr 0 2 .Add (.int 1)]
noncomputable def Kr:List IS:=[.expr (.mcall 0 38 169 [.bin .i .BitOr (.bin .i .BitOr (.attr 0 23) (.cint 0 24 16)) (.cint 0 25 32)])]
noncomputable def Wz:List IS:=[.expr (.mcall 0 63 204 [.meth 0 67 92]),.aattr 0 2 .Add (.int 1)]
noncomputable def Ks:List IS:=[.expr (.mcall 0 66 211 [.none])]
noncomputable def WA:List IS:=[.expr (.mcall 0 63 204 [.meth 0 71 113]),.aattr 0 2 .Add (.int 1)]
noncomputable def Kt:List IS:=[.expr (.mcall 0 72 239 [.cint 0 44 1])]
noncomputable def WB:List IS:=[.expr (.mcall 0 76 260 [.meth 0 65 106]),.aattr 0 2 .Add (.int 1)]
noncomputable def WC:List IS:=[.expr (.mcall 0 75 253 [.meth 0 65 106]),.aattr 0 2 .Add (.int 1)]
noncomputable def WD:List IS:=[.expr (.mcall 0 77 267 [.meth 0 65 106]),.aattr 0 2 .Add (.int 1)]
noncomputable def Ku:List IS:=[.attr 0 23 (.bin .i .BitOr (.bin .i .BitOr (.mcall 0 39 176 []) (.cint 0 24 16)) (.cint 0 25 32))]
noncomputable def WE:List IS:=[.expr (.mcall 0 75 253 [.meth 0 67 92]),.aattr 0 2 .Add (.int 1)]
noncomputable def Kv:List IS:=[.expr (.mcall 0 77 267 [.none])]
noncomputable def WF:List IS:=[.expr (.mcall 0 75 253 [.meth 0 71 113]),.aattr 0 2 .Add (.int 1)]
noncomputable def Kw:List IS:=[.expr (.mcall 0 79 246 [.cint 0 44 1])]
noncomputable def WG:List IS:=[.expr (.mcall 0 81 274 [.meth 0 65 106]),.aattr 0 2 .Add (.int 1)]
noncomputable def WH:List IS:=[.expr (.mcall 0 82 218 [.meth 0 65 106]),.aattr 0 2 .Add (.int 1)]
noncomputable def Kx:List IS:=[.expr (.mcall 0 38 169 [.attr 0 20])]
noncomputable def WI:List IS:=[.expr (.mcall 0 81 274 [.meth 0 67 92]),.aattr 0 2 .Add (.int 1)]
noncomputable def Ky:List IS:=[.expr (.mcall 0 82 218 [.none])]
noncomputable def WJ:List IS:=[.expr (.mcall 0 81 274 [.meth 0 71 113]),.aattr 0 2 .Add (.int 1)]
noncomputable def Kz:List IS:=[.expr (.mcall 0 72 239 [.cint 0 60 4])]
noncomputable def WK:List IS:=[.expr (.mcall 0 83 281 [.meth 0 65 106]),.aattr 0 2 .Add (.int 1)]
noncomputable def WL:List IS:=[.expr (.mcall 0 84 288 [.meth 0 65 106]),.aattr 0 2 .Add (.int 1)]
noncomputable def KA:List IS:=[.attr 0 20 (.mcall 0 39 176 []),.expr (.mcall 0 42 197 [.attr 0 20])]
noncomputable def WM:List IS:=[.expr (.mcall 0 83 281 [.meth 0 67 92]),.aattr 0 2 .Add (.int 1)]
noncomputable def KC:List IS:=[.expr (.mcall 0 84 288 [.none])]
noncomputable def WN:List IS:=[.expr (.mcall 0 83 281 [.meth 0 71 113]),.aattr 0 2 .Add (.int 1)]
noncomputable def KD:List IS:=[.expr (.mcall 0 79 246 [.cint 0 60 4])]
noncomputable def WO:List IS:=[.expr (.mcall 0 87 302 [.meth 0 65 106]),.aattr 0 2 .Add (.int 1)]
noncomputable def WP:List IS:=[.expr (.mcall 0 86 295 [.meth 0 65 106]),.aattr 0 2 .Add (.int 1)]
noncomputable def WQ:List IS:=[.expr (.mcall 0 88 309 [.meth 0 65 106]),.aattr 0 2 .Add (.int 1)]
noncomputable def KG:List IS:=[.attr 0 20 (.attr 0 21),.expr (.mcall 0 42 197 [.attr 0 20])]
noncomputable def WR:List IS:=[.expr (.mcall 0 86 295 [.meth 0 68 141]),.aattr 0 2 .Add (.int 2)]
noncomputable def WS:List IS:=[.expr (.mcall 0 86 295 [.meth 0 73 155]),.aattr 0 2 .Add (.int 2)]
noncomputable def KH:List IS:=[.attr 0 19 (.attr 0 21)]
noncomputable def WT:List IS:=[.expr (.mcall 0 92 358 [.meth 0 67 92]),.aattr 0 2 .Add (.int 1)]
noncomputable def WU:List IS:=[.expr (.mcall 0 90 351 [.meth 0 65 106]),.aattr 0 2 .Add (.int 1)]
noncomputable def WV:List IS:=[.expr (.mcall 0 91 344 [.meth 0 65 106]),.aattr 0 2 .Add (.int 1)]
noncomputable def WW:List IS:=[.expr (.mcall 0 92 358 [.meth 0 65 106]),.aattr 0 2 .Add (.int 1)]
noncomputable def WX:List IS:=[.expr (.mcall 0 91 344 [.meth 0 67 92]),.aattr 0 2 .Add (.int 1)]
noncomputable def KI:List IS:=[.attr 0 21 (.attr 0 20),.expr (.mcall 0 42 197 [.attr 0 21])]
noncomputable def WY:List IS:=[.expr (.mcall 0 91 344 [.meth 0 71 113]),.aattr 0 2 .Add (.int 1)]
noncomputable def KJ:List IS:=[.expr (.mcall 0 72 239 [.cint 0 46 64])]
noncomputable def WZ:List IS:=[.expr (.mcall 0 91 344 [.meth 0 73 155]),.aattr 0 2 .Add (.int 2)]
noncomputable def KK:List IS:=[.attr 0 21 (.attr 0 19),.expr (.mcall 0 42 197 [.attr 0 21])]
noncomputable def KL:List IS:=[.expr (.mcall 0 93 316 [.meth 0 67 92,.attr 0 22]),.aattr 0 2 .Add (.int 1)]
noncomputable def KN:List IS:=[.expr (.mcall 0 93 316 [.meth 0 65 106,.attr 0 20]),.aattr 0 2 .Add (.int 1)]
noncomputable def W0:List IS:=[.expr (.mcall 0 94 330 [.meth 0 65 106]),.aattr 0 2 .Add (.int 1)]
noncomputable def KO:List IS:=[.aattr 0 22 .Add (.int 1),.aattr 0 22 .BitAnd (.attr 0 4),.expr (.mcall 0 42 197 [.attr 0 22])]
noncomputable def KP:List IS:=[.expr (.mcall 0 93 316 [.meth 0 67 92,.attr 0 20]),.aattr 0 2 .Add (.int 1)]
noncomputable def KQ:List IS:=[.aattr 0 21 .Sub (.int 1),.aattr 0 21 .BitAnd (.attr 0 4),.expr (.mcall 0 42 197 [.attr 0 21])]
noncomputable def KR:List IS:=[.expr (.mcall 0 69 225 [.cint 0 41 2])]
noncomputable def KU:List IS:=[.expr (.mcall 0 93 316 [.meth 0 71 113,.attr 0 20]),.aattr 0 2 .Add (.int 1)]
noncomputable def KV:List IS:=[.expr (.mcall 0 93 316 [.meth 0 67 92,.attr 0 21]),.aattr 0 2 .Add (.int 1)]
noncomputable def KW:List IS:=[.expr (.mcall 0 93 316 [.meth 0 65 106,.attr 0 21]),.aattr 0 2 .Add (.int 1)]
noncomputable def W3:List IS:=[.expr (.mcall 0 95 323 [.meth 0 65 106]),.aattr 0 2 .Add (.int 1)]
noncomputable def W4:List IS:=[.expr (.mcall 0 96 337 [.meth 0 65 106]),.aattr 0 2 .Add (.int 1)]
noncomputable def KY:List IS:=[.aattr 0 21 .Add (.int 1),.aattr 0 21 .BitAnd (.attr 0 4),.expr (.mcall 0 42 197 [.attr 0 21])]
noncomputable def W5:List IS:=[.expr (.mcall 0 95 323 [.meth 0 67 92]),.aattr 0 2 .Add (.int 1)]
noncomputable def KZ:List IS:=[.pass]
noncomputable def W6:List IS:=[.expr (.mcall 0 95 323 [.meth 0 71 113]),.aattr 0 2 .Add (.int 1)]
noncomputable def Vr:List IS:=[.ret (.bin .i .Add (.mcall 0 30 71 [.loc 29]) (.bin .i .LShift (.mcall 0 30 71 [.bin .i .Add (.loc 29) (.int 1)]) (.cint 0 12 8)))]
noncomputable def Yn:List IS:=[.aattr 0 20 .BitOr (.mcall 0 30 71 [.callv (.loc 21) []]),.expr (.mcall 0 42 197 [.attr 0 20])]
noncomputable def q9:List IS:=[.ret (.mcall 0 30 71 [.attr 0 2])]
noncomputable def K3:List IS:=[.ite (.cmp .i .Is (.loc 21) .none) [.name 43 (.attr 0 20)] [.name 29 (.callv (.loc 21) []),.name 43 (.mcall 0 30 71 [.loc 29])],.aattr 0 23 .BitAnd (.un .Invert (.bin .i .BitOr (.bin .i .BitOr (.cint 0 44 1) (.cint 0 36 128)) (.cint 0 41 2))),.ite (.bin .i .BitAnd (.loc 43) (.cint 0 36 128)) [.aattr 0 23 .BitOr (.cint 0 44 1)] [],.name 43 (.bin .i .BitAnd (.bin .i .LShift (.loc 43) (.int 1)) (.attr 0 4)),.ite (.loc 43) [.aattr 0 23 .BitOr (.bin .i .BitAnd (.loc 43) (.cint 0 36 128))] [.aattr 0 23 .BitOr (.cint 0 41 2)],.ite (.cmp .i .Is (.loc 21) .none) [.attr 0 20 (.loc 43)] [.put (.attr 0 1) (.loc 29) (.loc 43)]]
noncomputable def Vs:List IS:=[.put (.attr 0 1) (.bin .i .Add (.attr 0 19) (.attr 0 7)) (.bin .i .BitAnd (.loc 37) (.attr 0 4)),.aattr 0 19 .Sub (.int 1),.aattr 0 19 .BitAnd (.attr 0 4)]
noncomputable def qc:List IS:=[.ret (.attr 0 2)]
noncomputable def qz:List IS:=[.ret (.bin .i .BitAnd (.attr 0 4) (.bin .i .Add (.attr 0 21) (.mcall 0 30 71 [.attr 0 2])))]
noncomputable def Yi:List IS:=[.aattr 0 23 .BitAnd (.un .Invert (.loc 21))]
noncomputable def UI:List IS:=[.name 43 (.mcall 0 30 71 [.callv (.loc 21) []]),.aattr 0 23 .BitAnd (.un .Invert (.bin .i .BitOr (.bin .i .BitOr (.cint 0 41 2) (.cint 0 36 128)) (.cint 0 46 64))),.ite (.cmp .i .Eq (.bin .i .BitAnd (.attr 0 20) (.loc 43)) (.int 0)) [.aattr 0 23 .BitOr (.cint 0 41 2)] [],.aattr 0 23 .BitOr (.bin .i .BitAnd (.loc 43) (.bin .i .BitOr (.cint 0 36 128) (.cint 0 46 64)))]
noncomputable def Yg:List IS:=[.aattr 0 20 .BitAnd (.mcall 0 30 71 [.callv (.loc 21) []]),.expr (.mcall 0 42 197 [.attr 0 20])]
noncomputable def K5:List IS:=[.ite (.cmp .i .Is (.loc 21) .none) [.name 43 (.attr 0 20)] [.name 29 (.callv (.loc 21) []),.name 43 (.mcall 0 30 71 [.loc 29])],.ite (.bin .i .BitAnd (.attr 0 23) (.cint 0 44 1)) [.ite (.bin .i .BitAnd (.loc 43) (.cint 0 36 128)) [.pass] [.aattr 0 23 .BitAnd (.un .Invert (.cint 0 44 1))],.name 43 (.bin .i .BitOr (.bin .i .LShift (.loc 43) (.int 1)) (.int 1))] [.ite (.bin .i .BitAnd (.loc 43) (.cint 0 36 128)) [.aattr 0 23 .BitOr (.cint 0 44 1)] [],.name 43 (.bin .i .LShift (.loc 43) (.int 1))],.aname 43 .BitAnd (.attr 0 4),.expr (.mcall 0 42 197 [.loc 43]),.ite (.cmp .i .Is (.loc 21) .none) [.attr 0 20 (.loc 43)] [.put (.attr 0 1) (.loc 29) (.loc 43)]]
noncomputable def Yt:List IS:=[.aattr 0 19 .Add (.int 1),.aattr 0 19 .BitAnd (.attr 0 4),.ret (.mcall 0 30 71 [.bin .i .Add (.attr 0 19) (.attr 0 7)])]
noncomputable def Yo:List IS:=[.aattr 0 23 .BitOr (.loc 21)]
noncomputable def Yj:List IS:=[.aattr 0 20 .BitXor (.mcall 0 30 71 [.callv (.loc 21) []]),.expr (.mcall 0 42 197 [.attr 0 20])]
noncomputable def K4:List IS:=[.ite (.cmp .i .Is (.loc 21) .none) [.name 43 (.attr 0 20)] [.name 29 (.callv (.loc 21) []),.name 43 (.mcall 0 30 71 [.loc 29])],.aattr 0 23 .BitAnd (.un .Invert (.bin .i .BitOr (.bin .i .BitOr (.cint 0 44 1) (.cint 0 36 128)) (.cint 0 41 2))),.aattr 0 23 .BitOr (.bin .i .BitAnd (.loc 43) (.int 1)),.name 43 (.bin .i .RShift (.loc 43) (.int 1)),.ite (.loc 43) [.pass] [.aattr 0 23 .BitOr (.cint 0 41 2)],.ite (.cmp .i .Is (.loc 21) .none) [.attr 0 20 (.loc 43)] [.put (.attr 0 1) (.loc 29) (.loc 43)]]
noncomputable def UH:List IS:=[.name 47 (.mcall 0 30 71 [.callv (.loc 21) []]),.ite (.bin .i .BitAnd (.attr 0 23) (.cint 0 48 8)) [.name 49 (.int 0),.name 50 (.int 0),.name 51 (.int 0),.name 52 (.int 0),.name 53 (.bin .i .Add (.bin .i .Add (.bin .i .BitAnd (.loc 47) (.int 15)) (.bin .i .BitAnd (.attr 0 20) (.int 15))) (.bin .i .BitAnd (.attr 0 23) (.cint 0 44 1))),.ite (.cmp .i .Gt (.loc 53) (.int 9)) [.name 51 (.int 6),.name 49 (.int 1)] [],.name 54 (.bin .i .Add (.bin .i .Add (.bin .i .BitAnd (.bin .i .RShift (.loc 47) (.int 4)) (.int 15)) (.bin .i .BitAnd (.bin .i .RShift (.attr 0 20) (.int 4)) (.int 15))) (.loc 49)),.ite (.cmp .i .Gt (.loc 54) (.int 9)) [.name 52 (.int 6),.name 50 (.int 1)] [],.name 53 (.bin .i .BitAnd (.loc 53) (.int 15)),.name 54 (.bin .i .BitAnd (.loc 54) (.int 15)),.name 55 (.bin .i .Add (.bin .i .LShift (.loc 54) (.int 4)) (.loc 53)),.name 53 (.bin .i .BitAnd (.bin .i .Add (.loc 53) (.loc 51)) (.int 15)),.name 54 (.bin .i .BitAnd (.bin .i .Add (.loc 54) (.loc 52)) (.int 15)),.aattr 0 23 .BitAnd (.un .Invert (.bin .i .BitOr (.bin .i .BitOr (.bin .i .BitOr (.cint 0 44 1) (.cint 0 46 64)) (.cint 0 36 128)) (.cint 0 41 2))),.ite (.cmp .i .Eq (.loc 55) (.int 0)) [.aattr 0 23 .BitOr (.cint 0 41 2)] [.aattr 0 23 .BitOr (.bin .i .BitAnd (.loc 55) (.cint 0 36 128))],.ite (.cmp .i .Eq (.loc 50) (.int 1)) [.aattr 0 23 .BitOr (.cint 0 44 1)] [],.ite (.bin .i .BitAnd (.bin .i .BitAnd (.un .Invert (.bin .i .BitXor (.attr 0 20) (.loc 47))) (.bin .i .BitXor (.attr 0 20) (.loc 55))) (.cint 0 36 128)) [.aattr 0 23 .BitOr (.cint 0 46 64)] [],.attr 0 20 (.bin .i .Add (.bin .i .LShift (.loc 54) (.int 4)) (.loc 53))] [.ite (.bin .i .BitAnd (.attr 0 23) (.cint 0 44 1)) [.name 57 (.int 1)] [.name 57 (.int 0)],.name 56 (.bin .i .Add (.bin .i .Add (.loc 47) (.attr 0 20)) (.loc 57)),.aattr 0 23 .BitAnd (.un .Invert (.bin .i .BitOr (.bin .i .BitOr (.bin .i .BitOr (.cint 0 44 1) (.cint 0 46 64)) (.cint 0 36 128)) (.cint 0 41 2))),.ite (.bin .i .BitAnd (.bin .i .BitAnd (.un .Invert (.bin .i .BitXor (.attr 0 20) (.loc 47))) (.bin .i .BitXor (.attr 0 20) (.loc 56))) (.cint 0 36 128)) [.aattr 0 23 .BitOr (.cint 0 46 64)] [],.name 47 (.loc 56),.ite (.cmp .i .Gt (.loc 47) (.attr 0 4)) [.aattr 0 23 .BitOr (.cint 0 44 1),.aname 47 .BitAnd (.attr 0 4)] [],.ite (.cmp .i .Eq (.loc 47) (.int 0)) [.aattr 0 23 .BitOr (.cint 0 41 2)] [.aattr 0 23 .BitOr (.bin .i .BitAnd (.loc 47) (.cint 0 36 128))],.attr 0 20 (.loc 47)]]
noncomputable def K6:List IS:=[.ite (.cmp .i .Is (.loc 21) .none) [.name 43 (.attr 0 20)] [.name 29 (.callv (.loc 21) []),.name 43 (.mcall 0 30 71 [.loc 29])],.ite (.bin .i .BitAnd (.attr 0 23) (.cint 0 44 1)) [.ite (.bin .i .BitAnd (.loc 43) (.int 1)) [.pass] [.aattr 0 23 .BitAnd (.un .Invert (.cint 0 44 1))],.name 43 (.bin .i .BitOr (.bin .i .RShift (.loc 43) (.int 1)) (.cint 0 36 128))] [.ite (.bin .i .BitAnd (.loc 43) (.int 1)) [.aattr 0 23 .BitOr (.cint 0 44 1)] [],.name 43 (.bin .i .RShift (.loc 43) (.int 1))],.expr (.mcall 0 42 197 [.loc 43]),.ite (.cmp .i .Is (.loc 21) .none) [.attr 0 20 (.loc 43)] [.put (.attr 0 1) (.loc 29) (.loc 43)]]
noncomputable def UF:List IS:=[.aattr 0 23 .BitAnd (.un .Invert (.bin .i .BitOr (.cint 0 41 2) (.cint 0 36 128))),.ite (.cmp .i .Eq (.loc 40) (.int 0)) [.aattr 0 23 .BitOr (.cint 0 41 2)] [.aattr 0 23 .BitOr (.bin .i .BitAnd (.loc 40) (.cint 0 36 128))]]
noncomputable def Yr:List IS:=[.put (.attr 0 1) (.callv (.loc 21) []) (.attr 0 22)]
noncomputable def Yp:List IS:=[.put (.attr 0 1) (.callv (.loc 21) []) (.attr 0 20)]
noncomputable def Yq:List IS:=[.put (.attr 0 1) (.callv (.loc 22) []) (.attr 0 21)]
noncomputable def q8:List IS:=[.ret (.mcall 0 26 78 [.attr 0 2])]
noncomputable def qw:List IS:=[.ite (.attr 0 9) [.name 33 (.mcall 0 26 78 [.attr 0 2]),.name 34 (.bin .i .BitAnd (.bin .i .Add (.loc 33) (.attr 0 22)) (.attr 0 5)),.ite (.cmp .i .NotEq (.bin .i .BitAnd (.loc 33) (.attr 0 6)) (.bin .i .BitAnd (.loc 34) (.attr 0 6))) [.aattr 0 8 .Add (.int 1)] [],.ret (.loc 34)] [.ret (.bin .i .BitAnd (.bin .i .Add (.mcall 0 26 78 [.attr 0 2]) (.attr 0 22)) (.attr 0 5))]]
noncomputable def Yl:List IS:=[.attr 0 21 (.mcall 0 30 71 [.callv (.loc 22) []]),.expr (.mcall 0 42 197 [.attr 0 21])]
noncomputable def Ym:List IS:=[.attr 0 22 (.mcall 0 30 71 [.callv (.loc 21) []]),.expr (.mcall 0 42 197 [.attr 0 22])]
noncomputable def Yk:List IS:=[.attr 0 20 (.mcall 0 30 71 [.callv (.loc 21) []]),.expr (.mcall 0 42 197 [.attr 0 20])]
noncomputable def Qz:List IS:=[.name 43 (.mcall 0 30 71 [.callv (.loc 58) []]),.aattr 0 23 .BitAnd (.un .Invert (.bin .i .BitOr (.bin .i .BitOr (.cint 0 44 1) (.cint 0 41 2)) (.cint 0 36 128))),.ite (.cmp .i .Eq (.loc 59) (.loc 43)) [.aattr 0 23 .BitOr (.bin .i .BitOr (.cint 0 44 1) (.cint 0 41 2))] [.ite (.cmp .i .Gt (.loc 59) (.loc 43)) [.aattr 0 23 .BitOr (.cint 0 44 1)] []],.aattr 0 23 .BitOr (.bin .i .BitAnd (.bin .i .Sub (.loc 59) (.loc 43)) (.cint 0 36 128))]
noncomputable def QA:List IS:=[.ite (.cmp .i .Is (.loc 21) .none) [.name 43 (.attr 0 20)] [.name 29 (.callv (.loc 21) []),.name 43 (.mcall 0 30 71 [.loc 29])],.aattr 0 23 .BitAnd (.un .Invert (.bin .i .BitOr (.cint 0 41 2) (.cint 0 36 128))),.name 43 (.bin .i .BitAnd (.bin .i .Sub (.loc 43) (.int 1)) (.attr 0 4)),.ite (.loc 43) [.aattr 0 23 .BitOr (.bin .i .BitAnd (.loc 43) (.cint 0 36 128))] [.aattr 0 23 .BitOr (.cint 0 41 2)],.ite (.cmp .i .Is (.loc 21) .none) [.attr 0 20 (.loc 43)] [.put (.attr 0 1) (.loc 29) (.loc 43)]]
noncomputable def Yh:List IS:=[.ite (.bin .i .BitAnd (.attr 0 23) (.loc 21)) [.aattr 0 2 .Add (.int 1)] [.expr (.mcall 0 45 162 [])]]
noncomputable def UJ:List IS:=[.name 47 (.mcall 0 30 71 [.callv (.loc 21) []]),.ite (.bin .i .BitAnd (.attr 0 23) (.cint 0 48 8)) [.name 49 (.int 1),.name 50 (.int 0),.name 51 (.int 0),.name 52 (.int 0),.name 53 (.bin .i .Add (.bin .i .Add (.bin .i .BitAnd (.attr 0 20) (.int 15)) (.bin .i .BitAnd (.un .Invert (.loc 47)) (.int 15))) (.bin .i .BitAnd (.attr 0 23) (.cint 0 44 1))),.ite (.cmp .i .LtE (.loc 53) (.int 15)) [.name 49 (.int 0),.name 51 (.int 10)] [],.name 54 (.bin .i .Add (.bin .i .Add (.bin .i .BitAnd (.bin .i .RShift (.attr 0 20) (.int 4)) (.int 15)) (.bin .i .BitAnd (.bin .i .RShift (.un .Invert (.loc 47)) (.int 4)) (.int 15))) (.loc 49)),.ite (.cmp .i .LtE (.loc 54) (.int 15)) [.name 52 (.bin .i .LShift (.int 10) (.int 4))] [],.name 55 (.bin .i .Add (.bin .i .Add (.attr 0 20) (.bin .i .BitAnd (.un .Invert (.loc 47)) (.attr 0 4))) (.bin .i .BitAnd (.attr 0 23) (.cint 0 44 1))),.ite (.cmp .i .Gt (.loc 55) (.attr 0 4)) [.name 50 (.int 1)] [],.aname 55 .BitAnd (.attr 0 4),.name 53 (.bin .i .BitAnd (.bin .i .Add (.loc 55) (.loc 51)) (.int 15)),.name 54 (.bin .i .BitAnd (.bin .i .RShift (.bin .i .Add (.loc 55) (.loc 52)) (.int 4)) (.int 15)),.aattr 0 23 .BitAnd (.un .Invert (.bin .i .BitOr (.bin .i .BitOr (.bin .i .BitOr (.cint 0 44 1) (.cint 0 41 2)) (.cint 0 36 128)) (.cint 0 46 64))),.ite (.cmp .i .Eq (.loc 55) (.int 0)) [.aattr 0 23 .BitOr (.cint 0 41 2)] [.aattr 0 23 .BitOr (.bin .i .BitAnd (.loc 55) (.cint 0 36 128))],.ite (.cmp .i .Eq (.loc 50) (.int 1)) [.aattr 0 23 .BitOr (.cint 0 44 1)] [],.ite (.bin .i .BitAnd (.bin .i .BitAnd (.bin .i .BitXor (.attr 0 20) (.loc 47)) (.bin .i .BitXor (.attr 0 20) (.loc 55))) (.cint 0 36 128)) [.aattr 0 23 .BitOr (.cint 0 46 64)] [],.attr 0 20 (.bin .i .Add (.bin .i .LShift (.loc 54) (.int 4)) (.loc 53))] [.name 56 (.bin .i .Add (.bin .i .Add (.attr 0 20) (.bin .i .BitAnd (.un .Invert (.loc 47)) (.attr 0 4))) (.bin .i .BitAnd (.attr 0 23) (.cint 0 44 1))),.aattr 0 23 .BitAnd (.un .Invert (.bin .i .BitOr (.bin .i .BitOr (.bin .i .BitOr (.cint 0 44 1) (.cint 0 41 2)) (.cint 0 46 64)) (.cint 0 36 128))),.ite (.bin .i .BitAnd (.bin .i .BitAnd (.bin .i .BitXor (.attr 0 20) (.loc 47)) (.bin .i .BitXor (.attr 0 20) (.loc 56))) (.cint 0 36 128)) [.aattr 0 23 .BitOr (.cint 0 46 64)] [],.name 47 (.bin .i .BitAnd (.loc 56) (.attr 0 4)),.ite (.cmp .i .Eq (.loc 47) (.int 0)) [.aattr 0 23 .BitOr (.cint 0 41 2)] [],.ite (.cmp .i .Gt (.loc 56) (.attr 0 4)) [.aattr 0 23 .BitOr (.cint 0 44 1)] [],.aattr 0 23 .BitOr (.bin .i .BitAnd (.loc 47) (.cint 0 36 128)),.attr 0 20 (.loc 47)]]
noncomputable def QB:List IS:=[.ite (.cmp .i .Is (.loc 21) .none) [.name 43 (.attr 0 20)] [.name 29 (.callv (.loc 21) []),.name 43 (.mcall 0 30 71 [.loc 29])],.aattr 0 23 .BitAnd (.un .Invert (.bin .i .BitOr (.cint 0 41 2) (.cint 0 36 128))),.name 43 (.bin .i .BitAnd (.bin .i .Add (.loc 43) (.int 1)) (.attr 0 4)),.ite (.loc 43) [.aattr 0 23 .BitOr (.bin .i .BitAnd (.loc 43) (.cint 0 36 128))] [.aattr 0 23 .BitOr (.cint 0 41 2)],.ite (.cmp .i .Is (.loc 21) .none) [.attr 0 20 (.loc 43)] [.put (.attr 0 1) (.loc 29) (.loc 43)]]
noncomputable def Vq:List IS:=[.ret (.sub (.attr 0 1) (.loc 29))]
noncomputable def qx:List IS:=[.aattr 0 8 .Add (.int 1),.name 29 (.mcall 0 35 99 []),.aattr 0 2 .Add (.int 1),.ite (.bin .i .BitAnd (.loc 29) (.cint 0 36 128)) [.name 29 (.bin .i .Sub (.bin .i .Sub (.attr 0 2) (.bin .i .BitXor (.loc 29) (.attr 0 4))) (.int 1))] [.name 29 (.bin .i .Add (.attr 0 2) (.loc 29))],.ite (.cmp .i .NotEq (.bin .i .BitAnd (.attr 0 2) (.attr 0 6)) (.bin .i .BitAnd (.loc 29) (.attr 0 6))) [.aattr 0 8 .Add (.int 1)] [],.attr 0 2 (.bin .i .BitAnd (.loc 29) (.attr 0 5))]
noncomputable def qy:List IS:=[.ret (.mcall 0 30 71 [.attr 0 2])]
end
noncomputable abbrev LM(u:PV)(g:Addr)(ad t:Int):List (Nat×PV):=[(0,.ref 5),(21,.bound u g),(29,.int ad),(43,.int t)]
noncomputable abbrev LN(t:Int):List (Nat×PV):=[(0,.ref 5),(21,.none),(43,.int t)]
structure Os where
 o0:PO
 o1:PO
 o2:PO
 o4:PO
 tl:List PO
noncomputable def qo(c:Cpu):List (Nat×PV):=[(3,c.nm),(4,.int 255),(5,.int 65535),(6,.int 65280),(7,.int 256),(8,.int c.ex),(9,c.ac),(10,.int c.cyc),(1,.ref 3),(11,c.st),(2,.int c.pc),(19,.int c.sp),(20,.int c.a),(21,.int c.x),(22,.int c.y),(23,.int (pk c.f))]
noncomputable def shp(c:Cpu)(mem:Mem)(o:Os):List PO:=o.o0::o.o1::o.o2::.il mem::o.o4::.inst (qo c)::o.tl
noncomputable def pi0:Pi:=piM [] 0 (λZ=>none) (λZ Z Z=>False)
theorem kc{k:PV->List PO->Prop}{v:PV}{mem':Mem}{o:Os}{c:Cpu}{sp a x y p ex cyc:Int}{nm st:PV}(h:k v (shp c mem o))(em:mem=mem')(e1:c.pc=pc)(e2:c.sp=sp)(e3:c.a=a)(e4:c.x=x)(e5:c.y=y)(e6:pk c.f=p)(e7:c.ex=ex)(e8:c.cyc=cyc)(e9:c.ac=ac)(e10:c.nm=nm)(e11:c.st=st):k v (o.o0::o.o1::o.o2::PO.il mem'::o.o4::PO.inst [(3,nm),(4,.int 255),(5,.int 65535),(6,.int 65280),(7,.int 256),(8,.int ex),(9,ac),(10,.int cyc),(1,.ref 3),(11,st),(2,.int pc),(19,.int sp),(20,.int a),(21,.int x),(22,.int y),(23,.int p)]::o.tl):=by
 subst em e1 e2 e3 e4 e5 e6 e7 e8 e9 e10 e11;exact h
theorem cs{b:Bool}{P Q:Prop}(h1:b=true->P)(h2:b=false->Q):cond b P Q:=by cases b;exact h2 rfl;exact h1 rfl
theorem cs2{b b':Bool}{P Q:Prop}(e:b=b')(h1:b'=true->P)(h2:b'=false->Q):cond b P Q:=by subst e;exact cs h1 h2
theorem okp{a b:Int}(h:jp mem a)(e:b=a):jp mem b:=e▸h
theorem BE{s:Int}(h:VH mem)(b:isB s):jp mem (s+256):=⟨Int.add_nonneg b.1 (by decide),Int.lt_of_lt_of_le (Int.add_lt_add_right b.2 256) h,Int.lt_trans (Int.add_lt_add_right b.2 256) (by decide)⟩
section
variable {τ:Bool->PS}{a b:List IS}{i:IS}{t:IE}{k:KF}{c d:Bool}{v w:Int}
theorem m_1(h1:∀k:KF,k .next σ'->pS P H i O k)(h:pSs P H is σ' k):pSs P H (i::is) O k:=h1 _ h
theorem yb(ht:∀κ:KB,κ d O->pT P H t O κ)(e:d=c)(h1:c=true->∀k:KF,k .next (τ true)->pSs P H a O k)(h2:c=false->∀k:KF,k .next (τ false)->pSs P H b O k)(h:pSs P H is (τ c) k):pSs P H (.ite t a b::is) O k:=ht _ (by
 subst e
 induction d
 ·exact h2 rfl _ h
 ·exact h1 rfl _ h)
theorem Vv(ht:∀κ:KB,κ d O->pT P H t O κ)(e:d = !c)(h1:c=false->∀k:KF,k .next (τ false)->pSs P H a O k)(h2:c=true->∀k:KF,k .next (τ true)->pSs P H b O k)(h:pSs P H is (τ c) k):pSs P H (.ite t a b::is) O k:=ht _ (by
 subst e
 induction c
 ·exact h1 rfl _ h
 ·exact h2 rfl _ h)
theorem n9(h:pS P H i O k):pSs P H [i] O k:=by
 have e:k=λf F1=>match f with
  | .next=>pSs P H [] F1 k
  | .brk=>k .brk F1
  | .ret v=>k (.ret v) F1:=funext λf=>funext λF1=>by cases f<;>rfl
 show pS P H i O _;rw[e] at h;exact h
theorem m_v(h1:∀k:KF,k .next ⟨st x (.int v) O.loc,O.hp⟩->pS P H i O k)(q:v=w)(h:pSs P H is ⟨st x (.int w) O.loc,O.hp⟩ k):pSs P H (i::is) O k:=h1 _ (q▸h)
end
noncomputable def fwK(k:PV->List PO->Prop):KF:=λf O=>match f with
  | .ret v=>k v O.hp
  | .next=>k .none O.hp
  | .brk=>False
noncomputable def shq(c:Cpu)(p:Int)(mem:Mem)(o:Os):List PO:=o.o0::o.o1::o.o2::PO.il mem::o.o4::PO.inst [(3,c.nm),(4,.int 255),(5,.int 65535),(6,.int 65280),(7,.int 256),(8,.int c.ex),(9,c.ac),(10,.int c.cyc),(1,.ref 3),(11,c.st),(2,.int c.pc),(19,.int c.sp),(20,.int c.a),(21,.int c.x),(22,.int c.y),(23,.int p)]::o.tl
section
variable {c c':Cpu}{o:Os}{L:List (Nat×PV)}{k:KF}{f:Fl}{p:Int}
theorem kp(h:pk f=p)(hk:k .next ⟨L,shp { c with f:=f } mem o⟩):k .next ⟨L,shq c p mem o⟩:=by subst h;exact hk
theorem kf(h:c'=c)(hk:k .next ⟨L,shp c mem o⟩):k .next ⟨L,shp c' mem o⟩:=by subst h;exact hk
theorem m_p{i:IS}(h1:∀k:KF,k .next ⟨L,shq c p mem o⟩->pS P H i ⟨L,shp c mem o⟩ k)(e:pk f=p)(h:pSs P H is ⟨L,shp { c with f:=f } mem o⟩ k):pSs P H (i::is) ⟨L,shp c mem o⟩ k:=h1 _ (by subst e;exact h)
end
theorem bz{v:Int}(h:decide (v=0)=true):bt 7 v=false:=by rw[of_decide_eq_true h];rfl
theorem X8{f:Fl}{b:Bool}(h:f.c=b):pk { f with c:=b } = pk f:=by subst h;rfl
noncomputable def H0:Hd:=λZ Z Z Z=>False
noncomputable def XO:Sp:=λargs hp k=>∃c mem o ad,args = [.ref 5,.int ad]/\hp=shp c mem o/\jp mem ad/\k (.int (rd mem ad)) hp
theorem fO:∀args hp k,XO args hp k->zX [0,29] (pSs pi0 H0 Vq) args hp k:=by
 rintro args hp k ⟨c,mem,o,ad,rfl,rfl,h1,h2⟩;refine⟨rfl,?_⟩;conv=>whnf
 exact⟨h1,h2⟩
noncomputable def se:Sp:=λargs hp k=>∃c mem o v,args = [.ref 5,.int v]/\hp=shp c mem o/\k .none (shp { c with f:=nzF c.f v } mem o)
theorem cw:∀args hp k,se args hp k->zX [0,40] (pSs pi0 H0 UF) args hp k:=by
 rintro args hp k ⟨c,mem,o,v,rfl,rfl,h2⟩;refine⟨rfl,?_⟩;conv=>whnf
 have hz:=Bi c.f v;refine cs (λe=>?_) (λe=>?_)<;>rw[e] at hz<;>exact kc h2 rfl rfl rfl rfl rfl rfl hz.symm rfl rfl rfl rfl rfl
noncomputable def dI:Sp:=λargs hp k=>∃c mem o v,args = [.ref 5,.int v]/\hp=shp c mem o/\VH mem/\isB c.sp/\isB v/\k .none (shp (bA c) (bB c mem v) o)
theorem fT:∀args hp k,dI args hp k->zX [0,37] (pSs pi0 H0 Vs) args hp k:=by
 rintro args hp k ⟨c,mem,o,v,rfl,rfl,h1,h3,h4,h2⟩;refine⟨rfl,?_⟩;have ha:jp mem (c.sp+256):=BE h1 h3;have hv:zA v 255=v:=by rw[jC];exact Int.emod_eq_of_lt h4.1 h4.2
 conv=>whnf
 refine⟨okp ha (zt ..),?_⟩;refine kc h2 ?_ rfl ?_ rfl rfl rfl rfl rfl rfl rfl rfl rfl
 ·show(mem.set _ _)=mem.set _ _
  rw[hv,zt]
 ·show(c.sp-1)%256=_
  rw[jC,jP]
noncomputable def H1:Hd:=((H0.ext 71 XO).ext 197 se).ext 169 dI
noncomputable def rc:Sp:=λargs hp k=>∃c mem o,args = [.ref 5]/\hp=shp c mem o/\VH mem/\k (.int (Xu c mem)) (shp (iT c) mem o)
theorem mu:∀args hp k,rc args hp k->zX [0] (pSs pi0 H1 Yt) args hp k:=by
 rintro args hp k ⟨c,mem,o,rfl,rfl,h1,h2⟩;refine⟨rfl,?_⟩;have e1:zA (yU c.sp 1) 255=(c.sp+1)%256:=by rw[jC,zt]
 conv=>whnf
 rw[e1,zt];refine⟨iT c,mem,o,(c.sp+1)%256+256,rfl,rfl,BE h1 (bl _),?_⟩;exact h2
noncomputable def dJ:Sp:=λargs hp k=>∃c mem o ad,args = [.ref 5,.int ad]/\hp=shp c mem o/\wU mem ad/\Bts mem/\k (.int (wd mem ad)) hp
theorem fP:∀args hp k,dJ args hp k->zX [0,29] (pSs pi0 H1 Vr) args hp k:=by
 rintro args hp k ⟨c,mem,o,ad,rfl,rfl,⟨h1,h3⟩,hb,h2⟩;refine⟨rfl,?_⟩;conv=>whnf
 refine⟨c,mem,o,ad,rfl,rfl,h1,?_⟩;conv=>whnf
 refine⟨c,mem,o,yU ad 1,rfl,rfl,okp h3 (zt ..),?_⟩;have e:yU (rd mem ad) (U4 (rd mem (yU ad 1)) 8)=wd mem ad:=by rw[zt,y9,zt];rfl
 rw[zt] at e ⊢;rw[zt] at e;conv=>whnf
 refine⟨(hb.rd _).n64,?_⟩;conv=>whnf
 rw[zt,e];exact h2
noncomputable def mdA:Md->Addr
 | .pc=>92 | .zp=>106 | .zpx=>113 | .zpy=>0 | .ab=>141 | .abx=>0 | .aby=>155 | .inx=>0 | .iny=>0
noncomputable def qD(m:Md):Bool:=!Nat.beq (mdA m) 0
noncomputable def Ue(m:Md):Sp:=λargs hp k=>∃c mem o,args = [.ref 5]/\hp=shp c mem o/\Jl m c mem/\Ok c mem/\k (.int (eaA m c mem)) (shp { c with ex:=eaX m c mem } mem o)
theorem Ba{m:Md}{W:PS->KF->Prop}(h:∀c mem o k,Jl m c mem->Ok c mem->k (.int (eaA m c mem)) (shp { c with ex:=eaX m c mem } mem o)->W ⟨[(0,.ref 5)],shp c mem o⟩ (fwK k)):∀args hp k,Ue m args hp k->zX [0] W args hp k:=by
 rintro args hp k ⟨c,mem,o,rfl,rfl,h1,h3,h2⟩;exact⟨rfl,h c mem o k h1 h3 h2⟩
noncomputable def H1w:Hd:=(H1).ext 78 dJ
theorem Qw:∀args hp k,Ue .pc args hp k->zX [0] (pSs pi0 H1w qc) args hp k:=by
 rintro args hp k ⟨c,mem,o,rfl,rfl,h1,h3,h2⟩;exact⟨rfl,h2⟩
theorem Uy:∀args hp k,Ue .zp args hp k->zX [0] (pSs pi0 H1w q9) args hp k:=by
 rintro args hp k ⟨c,mem,o,rfl,rfl,h1,h3,h2⟩;exact⟨rfl,c,mem,o,c.pc,rfl,rfl,h1,h2⟩
theorem Q2:∀args hp k,Ue .zpx args hp k->zX [0] (pSs pi0 H1w qz) args hp k:=by
 rintro args hp k ⟨c,mem,o,rfl,rfl,h1,h3,h2⟩;refine⟨rfl,c,mem,o,c.pc,rfl,rfl,h1,?_⟩;have e:zA 255 (yU c.x (rd mem c.pc))=(c.x+rd mem c.pc)%256:=by rw[la,zt]
 conv=>whnf
 rw[e];exact h2
theorem Ux:∀args hp k,Ue .ab args hp k->zX [0] (pSs pi0 H1w q8) args hp k:=by
 rintro args hp k ⟨c,mem,o,rfl,rfl,h1,h3,h2⟩;exact⟨rfl,c,mem,o,c.pc,rfl,rfl,h1,h3.mem,h2⟩
theorem crs(a b:Int):(zA a 65280 !=zA b 65280)=Kj a b:=by
 rw[XR,XR];unfold Kj
 by_cases h:a/256%256=b/256%256
 ·simp[h]
 ·have:a/256%256*256≠b/256%256*256:=by omega
  simp[h,this]
theorem w7{A:List IS}{c:Cpu}{o:Os}{k:KF}{e:Int}(he:c.ac=.int e)(h1:(e !=0)=true->pSs pi0 H A ⟨[(0,.ref 5)],shp c mem o⟩ k)(h2:(e !=0)=false->pSs pi0 H B ⟨[(0,.ref 5)],shp c mem o⟩ k):pSs pi0 H [.ite (.attr 0 9) A B] ⟨[(0,.ref 5)],shp c mem o⟩ k:=by
 obtain⟨pc,sp,a,x,y,f,ex,ac,cyc,nm,st⟩:=c
 cases (show ac=.int e from he)
 have q:∀b:Bool,(b=true->pSs pi0 H A ⟨[(0,.ref 5)],shp ⟨pc,sp,a,x,y,f,ex,.int e,cyc,nm,st⟩ mem o⟩ k)->(b=false->pSs pi0 H B ⟨[(0,.ref 5)],shp ⟨pc,sp,a,x,y,f,ex,.int e,cyc,nm,st⟩ mem o⟩ k)->cond b (pSs pi0 H A ⟨[(0,.ref 5)],shp ⟨pc,sp,a,x,y,f,ex,.int e,cyc,nm,st⟩ mem o⟩ k) (pSs pi0 H B ⟨[(0,.ref 5)],shp ⟨pc,sp,a,x,y,f,ex,.int e,cyc,nm,st⟩ mem o⟩ k):=λb h1 h2=>cs h1 h2;exact n9 (q (e !=0) h1 h2)
theorem QZ:∀args hp k,Ue .aby args hp k->zX [0] (pSs pi0 H1w qw) args hp k:=
 Ba λc mem o k ⟨h1,e,he⟩ h3 h2=>by
  have hk:∀z,z=eaX .aby c mem->k (.int ((wd mem c.pc+c.y)%65536)) (shp { c with ex:=z } mem o):=λz hz=>hz▸h2
  have q:eaX .aby c mem=c.ex+b2 ((e !=0)&&Kj (wd mem c.pc) ((wd mem c.pc+c.y)%65536)):=by show _+b2 (acB c.ac&&_)=_;rw[he];rfl
  have q2:zA (yU (wd mem c.pc) c.y) 65535=((wd mem c.pc+c.y)%65536):=by rw[Kg,zt]
  refine w7 he (λe1=>?_) λe1=>?_
  ·refine m_1 (σ':=⟨[(0,.ref 5),(33,.int (wd mem c.pc))],shp c mem o⟩) (λk hk=>⟨c,mem,o,c.pc,rfl,rfl,h1,h3.mem,hk⟩) ?_
   refine m_v (x:=34) (λk hk=>hk) q2 ?_;refine yb (τ:=λb=>⟨[(0,.ref 5),(33,.int (wd mem c.pc)),(34,.int ((wd mem c.pc+c.y)%65536))],shp { c with ex:=c.ex+b2 b } mem o⟩) (λκ h=>h) (crs ..) (λZ k hk=>kf (c':={ c with ex:=yU c.ex 1 }) (by rw[zt];rfl) hk) (λZ k hk=>kf (c':={ c with ex:=c.ex }) (by show _ = { c with ex:=c.ex+0 };rw[Int.add_zero]) hk) ?_
   exact hk _ (by rw[q,e1];rfl)
  ·refine⟨c,mem,o,c.pc,rfl,rfl,h1,h3.mem,?_⟩
   have:=hk c.ex (by rw[q,e1];exact(Int.add_zero _).symm)
   rw[<- q2] at this;exact this
noncomputable def w5:Sp:=λargs hp k=>∃c mem o,args = [.ref 5]/\hp=shp c mem o/\jp mem c.pc/\k (.int (rd mem c.pc)) hp
theorem Q1:∀args hp k,w5 args hp k->zX [0] (pSs pi0 H1w qy) args hp k:=by
 rintro args hp k ⟨c,mem,o,rfl,rfl,h1,h2⟩;exact⟨rfl,c,mem,o,c.pc,rfl,rfl,h1,h2⟩
noncomputable def H2:Hd:=(((((((H1w).ext 99 w5).ext 176 rc).ext 92 (Ue .pc)).ext 106 (Ue .zp)).ext 113 (Ue .zpx)).ext 141 (Ue .ab)).ext 155 (Ue .aby)
theorem Kk{m:Md}{c:Cpu}{o:Os}{k:PV->List PO->Prop}(hm:qD m=true)(h:Jl m c mem)(hO:Ok c mem)(hk:k (.int (eaA m c mem)) (shp { c with ex:=eaX m c mem } mem o)):(pi0.fnT (mdA m)=true/\true=true)/\H2 (mdA m) [.ref 5] (shp c mem o) k:=by
 cases m<;>first | (cases hm;done) | exact⟨⟨rfl,rfl⟩,c,mem,o,rfl,rfl,h,hO,hk⟩
def NzH(H:Hd):Prop:=∀args hp k,se args hp k->H 197 args hp k
theorem nz2:NzH H2:=λZ Z Z h=>h
section
variable {c:Cpu}{o:Os}{L:List (Nat×PV)}{k:KF}{v:Int}{m:Md}{e:IE}
theorem JT(l0:lk 0 L=some (.ref 5))(lx:lk x L=some (.bound (.ref 5) (mdA m)))(hm:qD m=true)(h1:Jl m c mem)(h3:jp mem (eaA m c mem))(hO:Ok c mem)(hκ:κ (.int (rd mem (eaA m c mem))) ⟨L,shp { c with ex:=eaX m c mem } mem o⟩):
  pE pi0 H2 (.mcall 0 30 71 [.callv (.loc x) []]) ⟨L,shp c mem o⟩ κ:=by
 conv=>whnf
 rw[l0];conv=>whnf
 rw[lx];conv=>whnf
 exact Kk hm h1 hO ⟨_,mem,o,_,rfl,rfl,h3,hκ⟩
theorem ym(hN:NzH H)(l0:lk 0 L=some (.ref 5))(he:∀κ:KE,κ (.int v) ⟨L,shp c mem o⟩->pE pi0 H e ⟨L,shp c mem o⟩ κ)(hk:k .next ⟨L,shp { c with f:=nzF c.f v } mem o⟩):pS pi0 H (.expr (.mcall 0 42 197 [e])) ⟨L,shp c mem o⟩ k:=by
 conv=>whnf
 rw[l0];conv=>whnf
 exact he _ (hN _ _ _ ⟨c,mem,o,v,rfl,rfl,hk⟩)
theorem aat{c':Cpu}{op:Operator}{u:Int}(l0:lk 0 L=some (.ref 5))(hy:lk y (qo c)=some (.int u))(he:∀κ:KE,κ (.int v) ⟨L,shp c' mem o⟩->pE pi0 H2 e ⟨L,shp c mem o⟩ κ)(hk:mO op u v λw=>YX y (.ref 5) (.int w) ⟨L,shp c' mem o⟩ λO=>k .next O):pS pi0 H2 (.aattr 0 y op e) ⟨L,shp c mem o⟩ k:=by
 conv=>whnf
 rw[l0];show opt (lk y (qo c)) _;rw[hy];exact he _ hk
end
noncomputable def Lb(x:Nat)(m:Md):List (Nat×PV):=[(0,.ref 5),(x,.bound (.ref 5) (mdA m))]
noncomputable def qt(r:Rd):Sp:=λargs hp k=>∃c mem o m,args = [.ref 5,.bound (.ref 5) (mdA m)]/\hp=shp c mem o/\qD m=true/\Jl m c mem/\(jp mem (eaA m c mem)/\rdD r c.f)/\Ok c mem/\k .none (shp (rdF r { c with ex:=eaX m c mem } (rd mem (eaA m c mem))) mem o)
theorem Qg{r:Rd}{W:PS->KF->Prop}(h:∀c mem o m k,qD m=true->Jl m c mem->jp mem (eaA m c mem)->rdD r c.f->Ok c mem->k .none (shp (rdF r { c with ex:=eaX m c mem } (rd mem (eaA m c mem))) mem o)->W ⟨Lb x m,shp c mem o⟩ (fwK k)):∀args hp k,qt r args hp k->zX [0,x] W args hp k:=by
 rintro args hp k ⟨c,mem,o,m,rfl,rfl,hm,h1,⟨h3,hd⟩,hO,h2⟩;exact⟨rfl,h c mem o m k hm h1 h3 hd hO h2⟩
theorem lY:∀args hp k,qt .lda args hp k->zX [0,21] (pSs pi0 H2 Yk) args hp k:=
 Qg λc mem o m k hm h1 h3 hd hO h2=>m_1 (σ':=⟨Lb 21 m,shp { c with ex:=eaX m c mem,a:=(rd mem (eaA m c mem)) } mem o⟩) (λk hk=>JT (L:=Lb 21 m) (x:=21) rfl rfl hm h1 h3 hO hk) (m_1 (λk hk=>ym nz2 (L:=Lb 21 m) rfl (λκ h=>h) hk) h2)
theorem lZ:∀args hp k,qt .ldx args hp k->zX [0,22] (pSs pi0 H2 Yl) args hp k:=
 Qg λc mem o m k hm h1 h3 hd hO h2=>m_1 (σ':=⟨Lb 22 m,shp { c with ex:=eaX m c mem,x:=(rd mem (eaA m c mem)) } mem o⟩) (λk hk=>JT (L:=Lb 22 m) (x:=22) rfl rfl hm h1 h3 hO hk) (m_1 (λk hk=>ym nz2 (L:=Lb 22 m) rfl (λκ h=>h) hk) h2)
theorem l8:∀args hp k,qt .ldy args hp k->zX [0,21] (pSs pi0 H2 Ym) args hp k:=
 Qg λc mem o m k hm h1 h3 hd hO h2=>m_1 (σ':=⟨Lb 21 m,shp { c with ex:=eaX m c mem,y:=(rd mem (eaA m c mem)) } mem o⟩) (λk hk=>JT (L:=Lb 21 m) (x:=21) rfl rfl hm h1 h3 hO hk) (m_1 (λk hk=>ym nz2 (L:=Lb 21 m) rfl (λκ h=>h) hk) h2)
theorem ma:∀args hp k,qt .ora args hp k->zX [0,21] (pSs pi0 H2 Yn) args hp k:=
 Qg λc mem o m k hm h1 h3 hd hO h2=>m_1 (σ':=⟨Lb 21 m,shp { c with ex:=eaX m c mem,a:=iOr c.a (rd mem (eaA m c mem)) } mem o⟩) (λk hk=>aat (L:=Lb 21 m) rfl rfl (λκ h=>JT (L:=Lb 21 m) (x:=21) rfl rfl hm h1 h3 hO h) hk) (m_1 (λk hk=>ym nz2 (L:=Lb 21 m) rfl (λκ h=>h) hk) h2)
theorem lS:∀args hp k,qt .and args hp k->zX [0,21] (pSs pi0 H2 Yg) args hp k:=
 Qg λc mem o m k hm h1 h3 hd hO h2=>m_1 (σ':=⟨Lb 21 m,shp { c with ex:=eaX m c mem,a:=zA c.a (rd mem (eaA m c mem)) } mem o⟩) (λk hk=>aat (L:=Lb 21 m) rfl rfl (λκ h=>JT (L:=Lb 21 m) (x:=21) rfl rfl hm h1 h3 hO h) hk) (m_1 (λk hk=>ym nz2 (L:=Lb 21 m) rfl (λκ h=>h) hk) h2)
theorem lX:∀args hp k,qt .eor args hp k->zX [0,21] (pSs pi0 H2 Yj) args hp k:=
 Qg λc mem o m k hm h1 h3 hd hO h2=>m_1 (σ':=⟨Lb 21 m,shp { c with ex:=eaX m c mem,a:=Jc c.a (rd mem (eaA m c mem)) } mem o⟩) (λk hk=>aat (L:=Lb 21 m) rfl rfl (λκ h=>JT (L:=Lb 21 m) (x:=21) rfl rfl hm h1 h3 hO h) hk) (m_1 (λk hk=>ym nz2 (L:=Lb 21 m) rfl (λκ h=>h) hk) h2)
theorem xk{c:Cpu}{o:Os}{t:Int}{k:PV->List PO->Prop}(h2:k .none (shp { c with f:={ c.f with n:=bt 7 t,z:=decide (zA c.a t=0),v:=bt 6 t } } mem o)):pSs pi0 H2 (UI.drop 1) ⟨[(0,.ref 5),(21,bv),(43,.int t)],shp c mem o⟩ (fwK k):=by
 refine m_p (f:={ c.f with n:=false,z:=false,v:=false }) (λk hk=>hk) (sK _).symm ?_
 refine yb (c:=decide (zA c.a t=0)) (τ:=λb=>⟨[(0,.ref 5),(21,bv),(43,.int t)],shp { c with f:={ c.f with n:=false,z:=b,v:=false } } mem o⟩) (λκ h=>h) rfl (λZ k hk=>kp (Vb _).symm hk) (λZ k hk=>hk) ?_
 refine m_p (f:={ c.f with n:=bt 7 t,z:=decide (zA c.a t=0),v:=bt 6 t }) (λk hk=>hk) (Ci { c.f with n:=false,z:=decide (zA c.a t=0),v:=false } t).symm ?_
 exact h2
theorem lV:∀args hp k,qt .bit args hp k->zX [0,21] (pSs pi0 H2 UI) args hp k:=
 Qg λc mem o m k hm h1 h3 hd hO h2=>m_1 (σ':=⟨[(0,.ref 5),(21,.bound (.ref 5) (mdA m)),(43,.int (rd mem (eaA m c mem)))],shp { c with ex:=eaX m c mem } mem o⟩) (λk hk=>JT (L:=Lb 21 m) (x:=21) rfl rfl hm h1 h3 hO hk) (xk h2)
theorem vj(a d r:Int):(zA (zA (jW (Jc a d)) (Jc a r)) 128 !=0)=ovA a d r:=by
 rw[Qi,Jj,Qp,Qq,Qq];unfold ovA
 cases bt 7 a<;>cases bt 7 d<;>cases bt 7 r<;>rfl
theorem w8{c:Cpu}{o:Os}{t r:Int}{k:PV->List PO->Prop}(hd:c.f.d=false)(r0:0<=r)(er:yU (yU t c.a) (b2 c.f.c)=r)(h2:k .none (shp { c with a:=r%256,f:={ c.f with n:=bt 7 (r%256),z:=decide (r%256=0),c:=decide (255<r),v:=ovA c.a t r } } mem o)):pSs pi0 H2 (UH.drop 1) ⟨[(0,.ref 5),(21,bv),(47,.int (t))],shp c mem o⟩ (fwK k):=by
 refine cs2 (CM _) (λed=>nomatch ed.symm.trans hd) λZ=>?_;refine yb (τ:=λb=>⟨[(0,.ref 5),(21,bv),(47,.int (t)),(57,.int (b2 b))],shp c mem o⟩) (λκ h=>h) (kE c.f) (λZ k hk=>hk) (λZ k hk=>hk) ?_;refine m_v (x:=56) (λk hk=>hk) er ?_;refine m_p (f:={ c.f with n:=false,z:=false,v:=false,c:=false }) (λk hk=>hk) (lu _).symm ?_
 refine yb (τ:=λb=>⟨[(0,.ref 5),(21,bv),(47,.int (t)),(57,.int (b2 c.f.c)),(56,.int (r))],shp { c with f:={ c.f with n:=false,z:=false,v:=b,c:=false } } mem o⟩) (λκ h=>h) (vj ..) (λZ k hk=>kp (oQ _).symm hk) (λZ k hk=>hk) ?_
 refine m_1 (σ':=⟨[(0,.ref 5),(21,bv),(47,.int (r)),(57,.int (b2 c.f.c)),(56,.int (r))],shp { c with f:={ c.f with n:=false,z:=false,v:=ovA c.a t r,c:=false } } mem o⟩) (λk hk=>hk) ?_
 refine yb (c:=decide (255<r)) (τ:=λb=>⟨[(0,.ref 5),(21,bv),(47,.int (r%256)),(57,.int (b2 c.f.c)),(56,.int (r))],shp { c with f:={ c.f with n:=false,z:=false,v:=ovA c.a t r,c:=b } } mem o⟩) (λκ h=>h) rfl (λZ k hk=>?_) (λe k hk=>?_) ?_
 ·rw[<- jC] at hk
  exact kp (UT _).symm hk
 ·rw[Int.emod_eq_of_lt (b:=256) r0 (Int.lt_add_one_of_le (Int.not_lt.mp (of_decide_eq_false e)))] at hk
  exact hk
 refine yb (c:=decide (r%256=0)) (τ:=λb=>⟨[(0,.ref 5),(21,bv),(47,.int (r%256)),(57,.int (b2 c.f.c)),(56,.int (r))],shp { c with f:={ c.f with n:=bt 7 (r%256),z:=b,v:=ovA c.a t r,c:=decide (255<r) } } mem o⟩) (λκ h=>h) rfl (λe k hk=>?_) (λZ k hk=>kp (YV _ _).symm hk) h2
 rw[bz e] at hk;exact kp (Vb _).symm hk
theorem lR:∀args hp k,qt .adc args hp k->zX [0,21] (pSs pi0 H2 UH) args hp k:=
 Qg λc mem o m k hm h1 h3 hd hO h2=>m_1 (σ':=⟨[(0,.ref 5),(21,.bound (.ref 5) (mdA m)),(47,.int (rd mem (eaA m c mem)))],shp { c with ex:=eaX m c mem } mem o⟩) (λk hk=>JT (L:=Lb 21 m) (x:=21) rfl rfl hm h1 h3 hO hk) (w8 hd (Int.add_nonneg (Int.add_nonneg hO.a.1 (hO.mem.rd _).1) (ah _).1) (by rw[zt,zt,Int.add_comm (rd mem _)]) h2)
theorem vm(a d r:Int):(zA (zA (Jc a d) (Jc a r)) 128 !=0)=ovS a d r:=by
 rw[Qi,Jj,Qq,Qq];rfl
theorem Ce{c:Cpu}{o:Os}{t r:Int}{k:PV->List PO->Prop}(hd:c.f.d=false)(er:yU (yU c.a (zA (jW t) 255)) (zA (pk c.f) 1)=r)(h2:k .none (shp { c with a:=r%256,f:={ c.f with n:=bt 7 (r%256),z:=decide (r%256=0),c:=decide (255<r),v:=ovS c.a t r } } mem o)):pSs pi0 H2 (UJ.drop 1) ⟨[(0,.ref 5),(21,bv),(47,.int (t))],shp c mem o⟩ (fwK k):=by
 refine cs2 (CM _) (λed=>nomatch ed.symm.trans hd) λZ=>?_;refine m_v (x:=56) (λk hk=>hk) er ?_;refine m_p (f:={ c.f with n:=false,z:=false,v:=false,c:=false }) (λk hk=>hk) (lw _).symm ?_
 refine yb (τ:=λb=>⟨[(0,.ref 5),(21,bv),(47,.int (t)),(56,.int (r))],shp { c with f:={ c.f with n:=false,z:=false,v:=b,c:=false } } mem o⟩) (λκ h=>h) (vm ..) (λZ k hk=>kp (oQ _).symm hk) (λZ k hk=>hk) ?_
 refine m_v (x:=47) (λk hk=>hk) (jC r) ?_;refine yb (c:=decide (r%256=0)) (τ:=λb=>⟨[(0,.ref 5),(21,bv),(47,.int (r%256)),(56,.int (r))],shp { c with f:={ c.f with n:=false,z:=b,v:=ovS c.a t r,c:=false } } mem o⟩) (λκ h=>h) rfl (λZ k hk=>kp (Vb _).symm hk) (λZ k hk=>hk) ?_
 refine yb (c:=decide (255<r)) (τ:=λb=>⟨[(0,.ref 5),(21,bv),(47,.int (r%256)),(56,.int (r))],shp { c with f:={ c.f with n:=false,z:=decide (r%256=0),v:=ovS c.a t r,c:=b } } mem o⟩) (λκ h=>h) rfl (λZ k hk=>kp (UT _).symm hk) (λZ k hk=>hk) ?_
 refine m_p (f:={ c.f with n:=bt 7 (r%256),z:=decide (r%256=0),v:=ovS c.a t r,c:=decide (255<r) }) (λk hk=>hk) (YV { c.f with n:=false,z:=decide (r%256=0),v:=ovS c.a t r,c:=decide (255<r) } (r%256)).symm ?_
 refine m_1 (σ':=⟨[(0,.ref 5),(21,bv),(47,.int (r%256)),(56,.int (r))],shp { c with a:=r%256,f:={ c.f with n:=bt 7 (r%256),z:=decide (r%256=0),v:=ovS c.a t r,c:=decide (255<r) } } mem o⟩) (λk hk=>hk) ?_
 exact h2
theorem mh:∀args hp k,qt .sbc args hp k->zX [0,21] (pSs pi0 H2 UJ) args hp k:=
 Qg λc mem o m k hm h1 h3 hd hO h2=>m_1 (σ':=⟨[(0,.ref 5),(21,.bound (.ref 5) (mdA m)),(47,.int (rd mem (eaA m c mem)))],shp { c with ex:=eaX m c mem } mem o⟩) (λk hk=>JT (L:=Lb 21 m) (x:=21) rfl rfl hm h1 h3 hO hk) (Ce hd (by rw[uN (hO.mem.rd _),zt,zt,Eh]) h2)
noncomputable def dL:Sp:=λargs hp k=>∃c mem o m r,args = [.ref 5,.bound (.ref 5) (mdA m),.int r]/\hp=shp c mem o/\qD m=true/\Jl m c mem/\jp mem (eaA m c mem)/\Ok c mem/\k .none (shp (V2 { c with ex:=eaX m c mem } r (rd mem (eaA m c mem))) mem o)
theorem sN{W:PS->KF->Prop}(h:∀c mem o m r k,qD m=true->Jl m c mem->jp mem (eaA m c mem)->Ok c mem->k .none (shp (V2 { c with ex:=eaX m c mem } r (rd mem (eaA m c mem))) mem o)->W ⟨[(0,.ref 5),(x,.bound (.ref 5) (mdA m)),(y,.int r)],shp c mem o⟩ (fwK k)):∀args hp k,dL args hp k->zX [0,x,y] W args hp k:=by
 rintro args hp k ⟨c,mem,o,m,r,rfl,rfl,hm,h1,h3,hO,h2⟩;exact⟨rfl,h c mem o m r k hm h1 h3 hO h2⟩
theorem Ch(f:Fl):iOr (pk f) (iOr 1 2)=pk { f with c:=true,z:=true }:=by
 rw[show iOr 1 2=3 by rw[qp];decide]
 refine vp (Qd (yq _).1 (yq _).2 (by decide) (by decide)).1 (Qd (yq _).1 (yq _).2 (by decide) (by decide)).2 ?_
 simp only[unp,Jj,rp,Qp,Zi,eK,sy,eL,sz,sC,sD,sE];simp[bt]
theorem xW{c:Cpu}{o:Os}{t r:Int}{k:PV->List PO->Prop}(h2:k .none (shp { c with f:={ c.f with n:=bt 7 (r-t),z:=decide (r=t),c:=decide (t<=r) } } mem o)):pSs pi0 H2 (Qz.drop 1) ⟨[(0,.ref 5),(58,bv),(59,.int r),(43,.int t)],shp c mem o⟩ (fwK k):=by
 refine m_p (f:={ c.f with n:=false,z:=false,c:=false }) (λk hk=>hk) (sJ _).symm ?_
 refine yb (c:=decide (r=t)) (τ:=λb=>⟨[(0,.ref 5),(58,bv),(59,.int r),(43,.int t)],shp { c with f:={ c.f with n:=false,z:=b,c:=decide (t<=r) } } mem o⟩) (λκ h=>h) rfl (λe k hk=>?_) (λe k hk=>?_) ?_
 ·rw[decide_eq_true (Int.le_of_eq (of_decide_eq_true e).symm)] at hk
  exact kp (Ch _).symm hk
 ·have q:decide (t<r)=decide (t<=r):=decide_eq_decide.mpr ⟨Int.le_of_lt,λh=>Int.lt_iff_le_and_ne.mpr ⟨h,λq=>of_decide_eq_false e q.symm⟩⟩
  exact yb (τ:=λb=>⟨[(0,.ref 5),(58,bv),(59,.int r),(43,.int t)],shp { c with f:={ c.f with n:=false,z:=false,c:=b } } mem o⟩) (λκ h=>h) q (λZ k hk=>kp (UT _).symm hk) (λZ k hk=>hk) hk
 ·refine m_p (f:={ c.f with n:=bt 7 (r-t),z:=decide (r=t),c:=decide (t<=r) }) (λk hk=>hk) (by rw[jP];exact(YV { c.f with n:=false,z:=decide (r=t),c:=decide (t<=r) } (r-t)).symm) ?_
  exact h2
theorem fQ:∀args hp k,dL args hp k->zX [0,58,59] (pSs pi0 H2 Qz) args hp k:=
 sN λc mem o m r k hm h1 h3 hO h2=>m_1 (σ':=⟨[(0,.ref 5),(58,.bound (.ref 5) (mdA m)),(59,.int r),(43,.int (rd mem (eaA m c mem)))],shp { c with ex:=eaX m c mem } mem o⟩) (λk hk=>JT (L:=[(0,.ref 5),(58,.bound (.ref 5) (mdA m)),(59,.int r)]) (x:=58) rfl rfl hm h1 h3 hO hk) (xW h2)
noncomputable def rmM:Rm->Bool
 | .asl=>true
 | .lsr=>true
 | .rol=>true
 | .ror=>true
 | .dec=>true
 | .inc=>true
noncomputable def rmA:Rm->Bool
 | .asl=>true
 | .lsr=>true
 | .rol=>true
 | .ror=>true
 | _=>false
noncomputable def Ke(r:Rm):Sp:=λargs hp k=>(∃c mem o m,args = [.ref 5,.bound (.ref 5) (mdA m)]/\hp=shp c mem o/\(rmM r&&qD m)=true/\Jl m c mem/\jp mem (eaA m c mem)/\Ok c mem/\k .none (shp { c with ex:=eaX m c mem,f:=rmF r c.f (rd mem (eaA m c mem)) } (wr mem (eaA m c mem) (rmT r c.f (rd mem (eaA m c mem)))) o)) ∨
 (∃c mem o,args = [.ref 5,.none]/\hp=shp c mem o/\rmA r=true/\Ok c mem/\k .none (shp { c with f:=rmF r c.f c.a,a:=rmT r c.f c.a } mem o))
theorem VE{r:Rm}{W:PS->KF->Prop}(hM:rmM r=true->∀c mem o m k,qD m=true->Jl m c mem->jp mem (eaA m c mem)->Ok c mem->k .none (shp { c with ex:=eaX m c mem,f:=rmF r c.f (rd mem (eaA m c mem)) } (wr mem (eaA m c mem) (rmT r c.f (rd mem (eaA m c mem)))) o)->W ⟨Lb 21 m,shp c mem o⟩ (fwK k))(hA:rmA r=true->∀c mem o k,Ok c mem->k .none (shp { c with f:=rmF r c.f c.a,a:=rmT r c.f c.a } mem o)->W ⟨[(0,.ref 5),(21,.none)],shp c mem o⟩ (fwK k)):∀args hp k,Ke r args hp k->zX [0,21] W args hp k:=by
 rintro args hp k (⟨c,mem,o,m,rfl,rfl,hm,h1,h3,hO,h2⟩ | ⟨c,mem,o,rfl,rfl,hA',hO,h2⟩)
 ·exact⟨rfl,hM (Bool.and_eq_true_iff.mp hm).1 c mem o m k (Bool.and_eq_true_iff.mp hm).2 h1 h3 hO h2⟩
 ·exact⟨rfl,hA hA' c mem o k hO h2⟩
theorem VD{m:Md}{c:Cpu}{o:Os}{k:KF}(hm:qD m=true)(h1:Jl m c mem)(h3:jp mem (eaA m c mem))(hO:Ok c mem)(hk:k .next ⟨[(0,.ref 5),(21,.bound (.ref 5) (mdA m)),(29,.int (eaA m c mem)),(43,.int (rd mem (eaA m c mem)))],shp { c with ex:=eaX m c mem } mem o⟩):
  pS pi0 H2 (.ite (.cmp .i .Is (.loc 21) .none) [.name 43 (.attr 0 20)] [.name 29 (.callv (.loc 21) []),.name 43 (.mcall 0 30 71 [.loc 29])]) ⟨Lb 21 m,shp c mem o⟩ k:=by
 conv=>whnf
 exact Kk hm h1 hO ⟨_,mem,o,_,rfl,rfl,h3,hk⟩
theorem kj(t:Int):U4 t 1=2*t:=by rw[y9];show t*2=_;omega
theorem oR(t:Int):cD t 1=t/2:=by rw[Wu,Int.fdiv_eq_ediv_of_nonneg _ (by decide)];rfl
theorem or1(t:Int):iOr (U4 t 1) 1=2*t+b2 true:=by
 rw[kj];show _=2*t+1;rw[qp,bitOr_and,bitAnd_m1];omega
theorem rO{t:Int}(h:isB t):iOr (cD t 1) 128=t/2+128*b2 true:=yB (n:=256) (P:=λt=>iOr (cD t 1) 128=t/2+128*b2 true) (by decide +kernel) h.1 h.2
theorem xg{c:Cpu}{o:Os}{u:PV}{t:Int}{k:PV->List PO->Prop}(hv:isB t)(h3:jp mem ad)(h2:k .none (shp { c with f:={ c.f with n:=bt 7 (2*t%256),z:=decide (2*t%256=0),c:=bt 7 t } } (wr mem ad (2*t%256)) o)):pSs pi0 H2 (K3.drop 1) ⟨(LM u g ad (t)),shp c mem o⟩ (fwK k):=by
 refine m_p (f:={ c.f with n:=false,z:=false,c:=false }) (λk hk=>hk) (V0 _).symm ?_
 refine yb (τ:=λb=>⟨(LM u g ad (t)),shp { c with f:={ c.f with n:=false,z:=false,c:=b } } mem o⟩) (λκ h=>h) (Qi t) (λZ k hk=>kp (UT _).symm hk) (λZ k hk=>hk) ?_
 refine m_v (x:=43) (λk hk=>⟨hv.n64,hk⟩) (w:=2*t%256) (by rw[jC,kj]) ?_
 refine Vv (c:=decide (2*t%256=0)) (τ:=λb=>⟨(LM u g ad (2*t%256)),shp { c with f:={ c.f with n:=bt 7 (2*t%256),z:=b,c:=bt 7 t } } mem o⟩) (λκ h=>h) rfl (λZ k hk=>kp (YV { c.f with n:=false,z:=false,c:=bt 7 t } (2*t%256)).symm hk) (λe k hk=>?_) ?_
 ·rw[bz e] at hk
  exact kp (Vb { c.f with n:=false,z:=false,c:=bt 7 t }).symm hk
 refine m_1 (σ':=⟨(LM u g ad (2*t%256)),shp { c with f:={ c.f with n:=bt 7 (2*t%256),z:=decide (2*t%256=0),c:=bt 7 t } } (wr mem ad (2*t%256)) o⟩) (λk hk=>⟨h3,hk⟩) ?_
 exact h2
theorem xf{c:Cpu}{o:Os}{t:Int}{k:PV->List PO->Prop}(hv:isB t)(h2:k .none (shp { c with a:=2*t%256,f:={ c.f with n:=bt 7 (2*t%256),z:=decide (2*t%256=0),c:=bt 7 t } } mem o)):pSs pi0 H2 (K3.drop 1) ⟨(LN (t)),shp c mem o⟩ (fwK k):=by
 refine m_p (f:={ c.f with n:=false,z:=false,c:=false }) (λk hk=>hk) (V0 _).symm ?_
 refine yb (τ:=λb=>⟨(LN (t)),shp { c with f:={ c.f with n:=false,z:=false,c:=b } } mem o⟩) (λκ h=>h) (Qi t) (λZ k hk=>kp (UT _).symm hk) (λZ k hk=>hk) ?_
 refine m_v (x:=43) (λk hk=>⟨hv.n64,hk⟩) (w:=2*t%256) (by rw[jC,kj]) ?_
 refine Vv (c:=decide (2*t%256=0)) (τ:=λb=>⟨(LN (2*t%256)),shp { c with f:={ c.f with n:=bt 7 (2*t%256),z:=b,c:=bt 7 t } } mem o⟩) (λκ h=>h) rfl (λZ k hk=>kp (YV { c.f with n:=false,z:=false,c:=bt 7 t } (2*t%256)).symm hk) (λe k hk=>?_) ?_
 ·rw[bz e] at hk
  exact kp (Vb { c.f with n:=false,z:=false,c:=bt 7 t }).symm hk
 refine m_1 (σ':=⟨(LN (2*t%256)),shp { c with a:=2*t%256,f:={ c.f with n:=bt 7 (2*t%256),z:=decide (2*t%256=0),c:=bt 7 t } } mem o⟩) (λk hk=>hk) ?_
 exact h2
theorem lT:∀args hp k,Ke .asl args hp k->zX [0,21] (pSs pi0 H2 K3) args hp k:=
 VE (λZ c mem o m k hm h1 h3 hO h2=>m_1 (σ':=⟨[(0,.ref 5),(21,.bound (.ref 5) (mdA m)),(29,.int (eaA m c mem)),(43,.int (rd mem (eaA m c mem)))],shp { c with ex:=eaX m c mem } mem o⟩) (λk hk=>VD hm h1 h3 hO hk) (xg (hO.mem.rd _) h3 (h2))) (λZ c mem o k hO h2=>m_1 (σ':=⟨(LN c.a),shp c mem o⟩) (λk hk=>hk) (xf hO.a (h2)))
theorem rF(f:Fl)(t:Int)(hv:isB t):rmF .lsr f t = { f with n:=false,z:=decide (t/2=0),c:=bt 0 t }:=by
 have h7:bt 7 (t/2)=false:=by rw[bt7 (by have:=hv.1;omega) (by have:=hv.2;omega)];have:=hv.2;simp;omega
 show Fl.mk (bt 7 (t/2)) _ _ _ _ _ _ _=_;rw[h7];rfl
theorem A7{c:Cpu}{o:Os}{u:PV}{t:Int}{k:PV->List PO->Prop}(hv:isB t)(h3:jp mem ad)(h2:k .none (shp { c with f:={ c.f with n:=false,z:=decide (t/2=0),c:=bt 0 t } } (wr mem ad (t/2)) o)):pSs pi0 H2 (K4.drop 1) ⟨(LM u g ad (t)),shp c mem o⟩ (fwK k):=by
 refine m_p (f:={ c.f with n:=false,z:=false,c:=false }) (λk hk=>hk) (V0 _).symm ?_
 refine m_p (f:={ c.f with n:=false,z:=false,c:=bt 0 t }) (λk hk=>hk) (rU { c.f with n:=false,z:=false,c:=false } t).symm ?_
 refine m_v (x:=43) (λk hk=>hk) (oR t) ?_;refine Vv (c:=decide (t/2=0)) (τ:=λb=>⟨(LM u g ad (t/2)),shp { c with f:={ c.f with n:=false,z:=b,c:=bt 0 t } } mem o⟩) (λκ h=>h) rfl (λZ k hk=>hk) (λZ k hk=>kp (Vb _).symm hk) ?_
 refine m_1 (σ':=⟨(LM u g ad (t/2)),shp { c with f:={ c.f with n:=false,z:=decide (t/2=0),c:=bt 0 t } } (wr mem ad (t/2)) o⟩) (λk hk=>⟨h3,hk⟩) ?_
 exact h2
theorem A6{c:Cpu}{o:Os}{t:Int}{k:PV->List PO->Prop}(hv:isB t)(h2:k .none (shp { c with a:=t/2,f:={ c.f with n:=false,z:=decide (t/2=0),c:=bt 0 t } } mem o)):pSs pi0 H2 (K4.drop 1) ⟨(LN (t)),shp c mem o⟩ (fwK k):=by
 refine m_p (f:={ c.f with n:=false,z:=false,c:=false }) (λk hk=>hk) (V0 _).symm ?_
 refine m_p (f:={ c.f with n:=false,z:=false,c:=bt 0 t }) (λk hk=>hk) (rU { c.f with n:=false,z:=false,c:=false } t).symm ?_
 refine m_v (x:=43) (λk hk=>hk) (oR t) ?_;refine Vv (c:=decide (t/2=0)) (τ:=λb=>⟨(LN (t/2)),shp { c with f:={ c.f with n:=false,z:=b,c:=bt 0 t } } mem o⟩) (λκ h=>h) rfl (λZ k hk=>hk) (λZ k hk=>kp (Vb _).symm hk) ?_
 refine m_1 (σ':=⟨(LN (t/2)),shp { c with a:=t/2,f:={ c.f with n:=false,z:=decide (t/2=0),c:=bt 0 t } } mem o⟩) (λk hk=>hk) ?_
 exact h2
theorem l9:∀args hp k,Ke .lsr args hp k->zX [0,21] (pSs pi0 H2 K4) args hp k:=
 VE (λZ c mem o m k hm h1 h3 hO h2=>m_1 (σ':=⟨[(0,.ref 5),(21,.bound (.ref 5) (mdA m)),(29,.int (eaA m c mem)),(43,.int (rd mem (eaA m c mem)))],shp { c with ex:=eaX m c mem } mem o⟩) (λk hk=>VD hm h1 h3 hO hk) (A7 (hO.mem.rd _) h3 (by rw[rF _ _ (hO.mem.rd _)] at h2;exact h2))) (λZ c mem o k hO h2=>m_1 (σ':=⟨(LN c.a),shp c mem o⟩) (λk hk=>hk) (A6 hO.a (by rw[rF _ _ hO.a] at h2;exact h2)))
theorem BW{c:Cpu}{o:Os}{u:PV}{t:Int}{k:PV->List PO->Prop}(hv:isB t)(h3:jp mem ad)(h2:k .none (shp { c with f:=nzF { c.f with c:=bt 7 t } ((2*t+b2 c.f.c)%256) } (wr mem ad ((2*t+b2 c.f.c)%256)) o)):pSs pi0 H2 (K5.drop 1) ⟨(LM u g ad (t)),shp c mem o⟩ (fwK k):=by
 refine yb (τ:=λb=>⟨(LM u g ad (2*t+b2 b)),shp { c with f:={ c.f with c:=bt 7 t } } mem o⟩) (λκ h=>h) (kE c.f) (λe k hk=>?_) (λe k hk=>?_) ?_
 ·refine yb (τ:=λb=>⟨(LM u g ad (t)),shp { c with f:={ c.f with c:=b } } mem o⟩) (λκ h=>h) (Qi t) (λZ k hk=>kp (X8 e) hk) (λZ k hk=>kp (eV _).symm hk) ?_
  exact m_v (x:=43) (λk hk=>⟨hv.n64,hk⟩) (w:=2*t+b2 true) (or1 t) hk
 ·refine yb (τ:=λb=>⟨(LM u g ad (t)),shp { c with f:={ c.f with c:=b } } mem o⟩) (λκ h=>h) (Qi t) (λZ k hk=>kp (UT _).symm hk) (λZ k hk=>kp (X8 e) hk) ?_
  exact m_v (x:=43) (λk hk=>⟨hv.n64,hk⟩) (w:=2*t+b2 false) (by rw[kj];exact(Int.add_zero _).symm) hk
 refine m_v (x:=43) (λk hk=>hk) (jC _) ?_;refine m_1 (σ':=⟨(LM u g ad ((2*t+b2 c.f.c)%256)),shp { c with f:=nzF { c.f with c:=bt 7 t } ((2*t+b2 c.f.c)%256) } mem o⟩) (λk hk=>ym nz2 (L:=(LM u g ad ((2*t+b2 c.f.c)%256))) rfl (λκ h=>h) hk) ?_
 refine m_1 (σ':=⟨(LM u g ad ((2*t+b2 c.f.c)%256)),shp { c with f:=nzF { c.f with c:=bt 7 t } ((2*t+b2 c.f.c)%256) } (wr mem ad ((2*t+b2 c.f.c)%256)) o⟩) (λk hk=>⟨h3,hk⟩) ?_
 exact h2
theorem BV{c:Cpu}{o:Os}{t:Int}{k:PV->List PO->Prop}(hv:isB t)(h2:k .none (shp { c with a:=(2*t+b2 c.f.c)%256,f:=nzF { c.f with c:=bt 7 t } ((2*t+b2 c.f.c)%256) } mem o)):pSs pi0 H2 (K5.drop 1) ⟨(LN (t)),shp c mem o⟩ (fwK k):=by
 refine yb (τ:=λb=>⟨(LN (2*t+b2 b)),shp { c with f:={ c.f with c:=bt 7 t } } mem o⟩) (λκ h=>h) (kE c.f) (λe k hk=>?_) (λe k hk=>?_) ?_
 ·refine yb (τ:=λb=>⟨(LN (t)),shp { c with f:={ c.f with c:=b } } mem o⟩) (λκ h=>h) (Qi t) (λZ k hk=>kp (X8 e) hk) (λZ k hk=>kp (eV _).symm hk) ?_
  exact m_v (x:=43) (λk hk=>⟨hv.n64,hk⟩) (w:=2*t+b2 true) (or1 t) hk
 ·refine yb (τ:=λb=>⟨(LN (t)),shp { c with f:={ c.f with c:=b } } mem o⟩) (λκ h=>h) (Qi t) (λZ k hk=>kp (UT _).symm hk) (λZ k hk=>kp (X8 e) hk) ?_
  exact m_v (x:=43) (λk hk=>⟨hv.n64,hk⟩) (w:=2*t+b2 false) (by rw[kj];exact(Int.add_zero _).symm) hk
 refine m_v (x:=43) (λk hk=>hk) (jC _) ?_;refine m_1 (σ':=⟨(LN ((2*t+b2 c.f.c)%256)),shp { c with f:=nzF { c.f with c:=bt 7 t } ((2*t+b2 c.f.c)%256) } mem o⟩) (λk hk=>ym nz2 (L:=(LN ((2*t+b2 c.f.c)%256))) rfl (λκ h=>h) hk) ?_
 refine m_1 (σ':=⟨(LN ((2*t+b2 c.f.c)%256)),shp { c with a:=(2*t+b2 c.f.c)%256,f:=nzF { c.f with c:=bt 7 t } ((2*t+b2 c.f.c)%256) } mem o⟩) (λk hk=>hk) ?_
 exact h2
theorem mc:∀args hp k,Ke .rol args hp k->zX [0,21] (pSs pi0 H2 K5) args hp k:=
 VE (λZ c mem o m k hm h1 h3 hO h2=>m_1 (σ':=⟨[(0,.ref 5),(21,.bound (.ref 5) (mdA m)),(29,.int (eaA m c mem)),(43,.int (rd mem (eaA m c mem)))],shp { c with ex:=eaX m c mem } mem o⟩) (λk hk=>VD hm h1 h3 hO hk) (BW (hO.mem.rd _) h3 (h2))) (λZ c mem o k hO h2=>m_1 (σ':=⟨(LN c.a),shp c mem o⟩) (λk hk=>hk) (BV hO.a (h2)))
theorem BZ{c:Cpu}{o:Os}{u:PV}{t:Int}{k:PV->List PO->Prop}(hv:isB t)(h3:jp mem ad)(h2:k .none (shp { c with f:=nzF { c.f with c:=bt 0 t } (t/2+128*b2 c.f.c) } (wr mem ad (t/2+128*b2 c.f.c)) o)):pSs pi0 H2 (K6.drop 1) ⟨(LM u g ad (t)),shp c mem o⟩ (fwK k):=by
 refine yb (τ:=λb=>⟨(LM u g ad (t/2+128*b2 b)),shp { c with f:={ c.f with c:=bt 0 t } } mem o⟩) (λκ h=>h) (kE c.f) (λe k hk=>?_) (λe k hk=>?_) ?_
 ·refine yb (τ:=λb=>⟨(LM u g ad (t)),shp { c with f:={ c.f with c:=b } } mem o⟩) (λκ h=>h) (te1 t) (λZ k hk=>kp (X8 e) hk) (λZ k hk=>kp (eV _).symm hk) ?_
  exact m_v (x:=43) (λk hk=>hk) (w:=t/2+128*b2 true) (rO hv) hk
 ·refine yb (τ:=λb=>⟨(LM u g ad (t)),shp { c with f:={ c.f with c:=b } } mem o⟩) (λκ h=>h) (te1 t) (λZ k hk=>kp (UT _).symm hk) (λZ k hk=>kp (X8 e) hk) ?_
  exact m_v (x:=43) (λk hk=>hk) (w:=t/2+128*b2 false) (by rw[oR];exact(Int.add_zero _).symm) hk
 refine m_1 (σ':=⟨(LM u g ad (t/2+128*b2 c.f.c)),shp { c with f:=nzF { c.f with c:=bt 0 t } (t/2+128*b2 c.f.c) } mem o⟩) (λk hk=>ym nz2 (L:=(LM u g ad (t/2+128*b2 c.f.c))) rfl (λκ h=>h) hk) ?_
 refine m_1 (σ':=⟨(LM u g ad (t/2+128*b2 c.f.c)),shp { c with f:=nzF { c.f with c:=bt 0 t } (t/2+128*b2 c.f.c) } (wr mem ad (t/2+128*b2 c.f.c)) o⟩) (λk hk=>⟨h3,hk⟩) ?_
 exact h2
theorem BY{c:Cpu}{o:Os}{t:Int}{k:PV->List PO->Prop}(hv:isB t)(h2:k .none (shp { c with a:=t/2+128*b2 c.f.c,f:=nzF { c.f with c:=bt 0 t } (t/2+128*b2 c.f.c) } mem o)):pSs pi0 H2 (K6.drop 1) ⟨(LN (t)),shp c mem o⟩ (fwK k):=by
 refine yb (τ:=λb=>⟨(LN (t/2+128*b2 b)),shp { c with f:={ c.f with c:=bt 0 t } } mem o⟩) (λκ h=>h) (kE c.f) (λe k hk=>?_) (λe k hk=>?_) ?_
 ·refine yb (τ:=λb=>⟨(LN (t)),shp { c with f:={ c.f with c:=b } } mem o⟩) (λκ h=>h) (te1 t) (λZ k hk=>kp (X8 e) hk) (λZ k hk=>kp (eV _).symm hk) ?_
  exact m_v (x:=43) (λk hk=>hk) (w:=t/2+128*b2 true) (rO hv) hk
 ·refine yb (τ:=λb=>⟨(LN (t)),shp { c with f:={ c.f with c:=b } } mem o⟩) (λκ h=>h) (te1 t) (λZ k hk=>kp (UT _).symm hk) (λZ k hk=>kp (X8 e) hk) ?_
  exact m_v (x:=43) (λk hk=>hk) (w:=t/2+128*b2 false) (by rw[oR];exact(Int.add_zero _).symm) hk
 refine m_1 (σ':=⟨(LN (t/2+128*b2 c.f.c)),shp { c with f:=nzF { c.f with c:=bt 0 t } (t/2+128*b2 c.f.c) } mem o⟩) (λk hk=>ym nz2 (L:=(LN (t/2+128*b2 c.f.c))) rfl (λκ h=>h) hk) ?_
 refine m_1 (σ':=⟨(LN (t/2+128*b2 c.f.c)),shp { c with a:=t/2+128*b2 c.f.c,f:=nzF { c.f with c:=bt 0 t } (t/2+128*b2 c.f.c) } mem o⟩) (λk hk=>hk) ?_
 exact h2
theorem mf:∀args hp k,Ke .ror args hp k->zX [0,21] (pSs pi0 H2 K6) args hp k:=
 VE (λZ c mem o m k hm h1 h3 hO h2=>m_1 (σ':=⟨[(0,.ref 5),(21,.bound (.ref 5) (mdA m)),(29,.int (eaA m c mem)),(43,.int (rd mem (eaA m c mem)))],shp { c with ex:=eaX m c mem } mem o⟩) (λk hk=>VD hm h1 h3 hO hk) (BZ (hO.mem.rd _) h3 (h2))) (λZ c mem o k hO h2=>m_1 (σ':=⟨(LN c.a),shp c mem o⟩) (λk hk=>hk) (BY hO.a (h2)))
theorem x8{c:Cpu}{o:Os}{u:PV}{t:Int}{k:PV->List PO->Prop}(hv:isB t)(h3:jp mem ad)(h2:k .none (shp { c with f:={ c.f with n:=bt 7 ((t-1)%256),z:=decide ((t-1)%256=0) } } (wr mem ad ((t-1)%256)) o)):pSs pi0 H2 (QA.drop 1) ⟨(LM u g ad (t)),shp c mem o⟩ (fwK k):=by
 refine m_p (f:={ c.f with n:=false,z:=false }) (λk hk=>hk) (eW _).symm ?_
 refine m_v (x:=43) (λk hk=>hk) (w:=(t-1)%256) (by rw[jC,jP]) ?_
 refine Vv (c:=decide ((t-1)%256=0)) (τ:=λb=>⟨(LM u g ad ((t-1)%256)),shp { c with f:={ c.f with n:=bt 7 ((t-1)%256),z:=b } } mem o⟩) (λκ h=>h) rfl (λZ k hk=>kp (YV { c.f with n:=false,z:=false } ((t-1)%256)).symm hk) (λe k hk=>?_) ?_
 ·rw[bz e] at hk
  exact kp (Vb { c.f with n:=false,z:=false }).symm hk
 refine m_1 (σ':=⟨(LM u g ad ((t-1)%256)),shp { c with f:={ c.f with n:=bt 7 ((t-1)%256),z:=decide ((t-1)%256=0) } } (wr mem ad ((t-1)%256)) o⟩) (λk hk=>⟨h3,hk⟩) ?_
 exact h2
theorem fR:∀args hp k,Ke .dec args hp k->zX [0,21] (pSs pi0 H2 QA) args hp k:=
 VE (λZ c mem o m k hm h1 h3 hO h2=>m_1 (σ':=⟨[(0,.ref 5),(21,.bound (.ref 5) (mdA m)),(29,.int (eaA m c mem)),(43,.int (rd mem (eaA m c mem)))],shp { c with ex:=eaX m c mem } mem o⟩) (λk hk=>VD hm h1 h3 hO hk) (x8 (hO.mem.rd _) h3 (h2))) (λh=>ft h)
theorem AO{c:Cpu}{o:Os}{u:PV}{t:Int}{k:PV->List PO->Prop}(hv:isB t)(h3:jp mem ad)(h2:k .none (shp { c with f:={ c.f with n:=bt 7 ((t+1)%256),z:=decide ((t+1)%256=0) } } (wr mem ad ((t+1)%256)) o)):pSs pi0 H2 (QB.drop 1) ⟨(LM u g ad (t)),shp c mem o⟩ (fwK k):=by
 refine m_p (f:={ c.f with n:=false,z:=false }) (λk hk=>hk) (eW _).symm ?_
 refine m_v (x:=43) (λk hk=>hk) (w:=(t+1)%256) (by rw[jC,zt]) ?_
 refine Vv (c:=decide ((t+1)%256=0)) (τ:=λb=>⟨(LM u g ad ((t+1)%256)),shp { c with f:={ c.f with n:=bt 7 ((t+1)%256),z:=b } } mem o⟩) (λκ h=>h) rfl (λZ k hk=>kp (YV { c.f with n:=false,z:=false } ((t+1)%256)).symm hk) (λe k hk=>?_) ?_
 ·rw[bz e] at hk
  exact kp (Vb { c.f with n:=false,z:=false }).symm hk
 refine m_1 (σ':=⟨(LM u g ad ((t+1)%256)),shp { c with f:={ c.f with n:=bt 7 ((t+1)%256),z:=decide ((t+1)%256=0) } } (wr mem ad ((t+1)%256)) o⟩) (λk hk=>⟨h3,hk⟩) ?_
 exact h2
theorem fS:∀args hp k,Ke .inc args hp k->zX [0,21] (pSs pi0 H2 QB) args hp k:=
 VE (λZ c mem o m k hm h1 h3 hO h2=>m_1 (σ':=⟨[(0,.ref 5),(21,.bound (.ref 5) (mdA m)),(29,.int (eaA m c mem)),(43,.int (rd mem (eaA m c mem)))],shp { c with ex:=eaX m c mem } mem o⟩) (λk hk=>VD hm h1 h3 hO hk) (AO (hO.mem.rd _) h3 (h2))) (λh=>ft h)
noncomputable def Ug(g:Rg):Sp:=λargs hp k=>∃c mem o m,args = [.ref 5,.bound (.ref 5) (mdA m)]/\hp=shp c mem o/\qD m=true/\Jl m c mem/\jp mem (eaA m c mem)/\Ok c mem/\k .none (shp { c with ex:=eaX m c mem } (wr mem (eaA m c mem) (c.rg g)) o)
noncomputable def mk:Nat->Int
 | 0=>1 | 1=>2 | 2=>4 | 3=>8 | 6=>64 | 7=>128 | _=>0
def uy(b:Nat):Prop:=b=1
def ZK(b:Nat):Prop:=b=0∨b=2∨b=6
theorem ET{b:Nat}(f:Fl)(h:uy b):(zA (pk f) (mk b) !=0)=f.at b:=by
 subst h
 ·exact EU f
theorem mj:∀args hp k,Ug .a args hp k->zX [0,21] (pSs pi0 H2 Yp) args hp k:=by
 rintro args hp k ⟨c,mem,o,m,rfl,rfl,hm,h1,h3,hO,h2⟩;refine⟨rfl,?_⟩;conv=>whnf
 refine Kk hm h1 hO ?_;conv=>whnf
 exact⟨h3,h2⟩
theorem mn:∀args hp k,Ug .x args hp k->zX [0,22] (pSs pi0 H2 Yq) args hp k:=by
 rintro args hp k ⟨c,mem,o,m,rfl,rfl,hm,h1,h3,hO,h2⟩;refine⟨rfl,?_⟩;conv=>whnf
 refine Kk hm h1 hO ?_;conv=>whnf
 exact⟨h3,h2⟩
theorem mo:∀args hp k,Ug .y args hp k->zX [0,21] (pSs pi0 H2 Yr) args hp k:=by
 rintro args hp k ⟨c,mem,o,m,rfl,rfl,hm,h1,h3,hO,h2⟩;refine⟨rfl,?_⟩;conv=>whnf
 refine Kk hm h1 hO ?_;conv=>whnf
 exact⟨h3,h2⟩
noncomputable def re:Sp:=λargs hp k=>∃c mem o b,args = [.ref 5,.int (mk b)]/\hp=shp c mem o/\ZK b/\k .none (shp { c with f:=c.f.to false b } mem o)
theorem lW:∀args hp k,re args hp k->zX [0,21] (pSs pi0 H2 Yi) args hp k:=by
 rintro args hp k ⟨c,mem,o,b,rfl,rfl,hb,h2⟩;refine⟨rfl,?_⟩;conv=>whnf
 refine kc h2 rfl rfl rfl rfl rfl rfl ?_ rfl rfl rfl rfl rfl
 rcases hb with rfl | rfl | rfl
 ·exact(eV c.f).symm
 ·exact(Dt c.f).symm
 ·exact(Du c.f).symm
noncomputable def rj:Sp:=λargs hp k=>∃c mem o b,args = [.ref 5,.int (mk b)]/\hp=shp c mem o/\ZK b/\k .none (shp { c with f:=c.f.to true b } mem o)
theorem mi:∀args hp k,rj args hp k->zX [0,21] (pSs pi0 H2 Yo) args hp k:=by
 rintro args hp k ⟨c,mem,o,b,rfl,rfl,hb,h2⟩;refine⟨rfl,?_⟩;conv=>whnf
 refine kc h2 rfl rfl rfl rfl rfl rfl ?_ rfl rfl rfl rfl rfl
 rcases hb with rfl | rfl | rfl
 ·exact(UT c.f).symm
 ·exact(EF c.f).symm
 ·exact(oQ c.f).symm
noncomputable def ra:Sp:=λargs hp k=>∃c mem o,args = [.ref 5]/\hp=shp c mem o/\jp mem c.pc/\Bts mem/\k .none (shp (cf c (rd mem c.pc)) mem o)
theorem Q0:∀args hp k,ra args hp k->zX [0] (pSs pi0 H2 qx) args hp k:=by
 rintro args hp k ⟨c,mem,o,rfl,rfl,h1,hB,h2⟩;have hv:=hB.rd c.pc;have qa:U5 (U5 (c.pc+1) (Jc (rd mem c.pc) 255)) 1=c.pc+1+rd mem c.pc-256*b2 true:=by rw[jP,jP,wW _ hv.1 hv.2];show _=_-256*1;omega
 have qb:yU (c.pc+1) (rd mem c.pc)=c.pc+1+rd mem c.pc-256*b2 false:=by rw[zt];exact(Int.sub_zero _).symm
 refine⟨rfl,?_⟩;refine m_1 (σ':=⟨[(0,.ref 5)],shp { c with ex:=c.ex+1 } mem o⟩) (λk hk=>kf (c':={ c with ex:=yU c.ex 1 }) (by rw[zt]) hk) ?_
 refine m_1 (σ':=⟨[(0,.ref 5),(29,.int (rd mem c.pc))],shp { c with ex:=c.ex+1 } mem o⟩) (λk hk=>⟨{ c with ex:=c.ex+1 },mem,o,rfl,rfl,h1,hk⟩) ?_
 refine m_1 (σ':=⟨[(0,.ref 5),(29,.int (rd mem c.pc))],shp { c with pc:=c.pc+1,ex:=c.ex+1 } mem o⟩) (λk hk=>kf (c':={ c with pc:=yU c.pc 1,ex:=c.ex+1 }) (by rw[zt]) hk) ?_
 refine yb (τ:=λb=>⟨[(0,.ref 5),(29,.int (c.pc+1+rd mem c.pc-256*b2 b))],shp { c with pc:=c.pc+1,ex:=c.ex+1 } mem o⟩) (λκ h=>h) (Qi _) (λZ k hk=>m_v (x:=29) (λk hk=>hk) qa hk) (λZ k hk=>m_v (x:=29) (λk hk=>hk) qb hk) ?_
 refine yb (τ:=λb=>⟨[(0,.ref 5),(29,.int (c.pc+1+rd mem c.pc-256*b2 (bt 7 (rd mem c.pc))))],shp { c with pc:=c.pc+1,ex:=c.ex+1+b2 b } mem o⟩) (λκ h=>h) (crs ..) (λZ k hk=>kf (c':={ c with pc:=c.pc+1,ex:=yU (c.ex+1) 1 }) (by rw[zt];rfl) hk) (λZ k hk=>kf (c':={ c with pc:=c.pc+1,ex:=c.ex+1 }) (by show _ = { c with pc:=c.pc+1,ex:=c.ex+1+0 };rw[Int.add_zero]) hk) ?_
 refine m_1 (σ':=⟨[(0,.ref 5),(29,.int (c.pc+1+rd mem c.pc-256*b2 (bt 7 (rd mem c.pc))))],shp { c with pc:=(c.pc+1+rd mem c.pc-256*b2 (bt 7 (rd mem c.pc)))%65536,ex:=c.ex+1+b2 (Kj (c.pc+1) (c.pc+1+rd mem c.pc-256*b2 (bt 7 (rd mem c.pc)))) } mem o⟩) (λk hk=>kf (c':={ c with pc:=zA (c.pc+1+rd mem c.pc-256*b2 (bt 7 (rd mem c.pc))) 65535,ex:=c.ex+1+b2 (Kj (c.pc+1) (c.pc+1+rd mem c.pc-256*b2 (bt 7 (rd mem c.pc)))) }) (by rw[Kg]) hk) ?_
 exact h2
noncomputable def H3b:Hd:=(H2).ext 162 ra
noncomputable def w6(on:Bool):Sp:=λargs hp k=>∃c mem o b,args = [.ref 5,.int (mk b)]/\hp=shp c mem o/\uy b/\jp mem c.pc/\Bts mem/\k .none (shp (cond (c.f.at b==on) (cf c (rd mem c.pc)) { c with pc:=c.pc+1 }) mem o)
theorem lU:∀args hp k,w6 false args hp k->zX [0,21] (pSs pi0 H3b Yh) args hp k:=by
 rintro args hp k ⟨c,mem,o,b,rfl,rfl,hb,h1,hB,h2⟩;refine⟨rfl,?_⟩;conv=>whnf
 refine cs2 (ET c.f hb) (λe1=>?_) (λe1=>?_)<;>rw[e1] at h2
 ·exact kc h2 rfl (zt ..).symm rfl rfl rfl rfl rfl rfl rfl rfl rfl rfl
 ·exact⟨c,mem,o,rfl,rfl,h1,hB,h2⟩
noncomputable def H4:Hd:=((((((((((((((((((((((H3b).ext 344 (qt .lda)).ext 358 (qt .ldx)).ext 351 (qt .ldy)).ext 204 (qt .ora)).ext 253 (qt .and)).ext 274 (qt .eor)).ext 260 (qt .bit)).ext 281 (qt .adc)).ext 323 (qt .sbc)).ext 316 dL).ext 211 (Ke .asl)).ext 218 (Ke .lsr)).ext 267 (Ke .rol)).ext 288 (Ke .ror)).ext 330 (Ke .dec)).ext 337 (Ke .inc)).ext 295 (Ug .a)).ext 309 (Ug .x)).ext 302 (Ug .y)).ext 239 re).ext 246 rj).ext 225 (w6 false)
theorem vE(r:Rd)(c:Cpu)(v:Int):(rdF r c v).pc=c.pc:=by
 cases r<;>rfl
noncomputable def zw(op:Op):Sp:=λargs hp k=>∃c mem o,args = [.ref 5]/\hp=shp c mem o/\iN op c mem/\Ok c mem/\k .none (shp (xop op c mem).1 (xop op c mem).2 o)
def dH(H:Hd)(op:Op)(ir:List IS):Prop:=∀args hp k,zw op args hp k->zX [0] (pSs pi0 H ir) args hp k
theorem zU{op:Op}(h:∀c mem o k,iN op c mem->Ok c mem->k .none (shp (xop op c mem).1 (xop op c mem).2 o)->pSs pi0 H ir ⟨[(0,.ref 5)],shp c mem o⟩ (fwK k)):dH H op ir:=by
 rintro args hp k ⟨c,mem,o,rfl,rfl,h1,hO,h2⟩;exact⟨rfl,h c mem o k h1 hO h2⟩
theorem nz4:NzH H4:=λZ Z Z h=>h
noncomputable abbrev Ins:=dH H4
noncomputable def ir2(x f y a:Nat)(n:Int):List IS:=[.expr (.mcall 0 x f [.meth 0 y a]),.aattr 0 2 .Add (.int n)]
theorem Dv{r:Rd}{m:Md}{f a:Nat}{n:Int}(hm:qD m=true)(ha:mdA m=a)(hn:mdL m=n)(hx:∀c,UK (lk x (qo c))=true)(hy:∀c,UK (lk y (qo c))=true)(hH:∀args hp k,qt r args hp k->H f args hp k):dH H (.rd r m) (ir2 x f y a n):=by
 subst ha hn;rintro args hp k ⟨c,mem,o,rfl,rfl,h1,hO,h2⟩;refine⟨rfl,?_⟩;conv=>whnf
 rw[hx];conv=>whnf
 rw[hy];conv=>whnf
 refine hH _ _ _ (⟨c,mem,o,m,rfl,rfl,hm,h1.1,h1.2,hO,?_⟩);exact kc h2 rfl (by rw[zt,vE];rfl) rfl rfl rfl rfl rfl rfl rfl rfl rfl rfl
theorem Dw{r:Rm}{m:Md}{f a:Nat}{n:Int}(hm:(rmM r&&qD m)=true)(ha:mdA m=a)(hn:mdL m=n)(hx:∀c,UK (lk x (qo c))=true)(hy:∀c,UK (lk y (qo c))=true)(hH:∀args hp k,Ke r args hp k->H f args hp k):dH H (.rmw r m) (ir2 x f y a n):=by
 subst ha hn;rintro args hp k ⟨c,mem,o,rfl,rfl,h1,hO,h2⟩;refine⟨rfl,?_⟩;conv=>whnf
 rw[hx];conv=>whnf
 rw[hy];conv=>whnf
 refine hH _ _ _ (.inl ⟨c,mem,o,m,rfl,rfl,hm,h1.1,h1.2,hO,?_⟩);exact kc h2 rfl (by rw[zt];rfl) rfl rfl rfl rfl rfl rfl rfl rfl rfl rfl
theorem Am{r:Rg}{m:Md}{f a:Nat}{n:Int}(hm:qD m=true)(ha:mdA m=a)(hn:mdL m=n)(hx:∀c,UK (lk x (qo c))=true)(hy:∀c,UK (lk y (qo c))=true)(hH:∀args hp k,Ug r args hp k->H f args hp k):dH H (.sto r m) (ir2 x f y a n):=by
 subst ha hn;rintro args hp k ⟨c,mem,o,rfl,rfl,h1,hO,h2⟩;refine⟨rfl,?_⟩;conv=>whnf
 rw[hx];conv=>whnf
 rw[hy];conv=>whnf
 refine hH _ _ _ (⟨c,mem,o,m,rfl,rfl,hm,h1.1,h1.2,hO,?_⟩);exact kc h2 rfl (by rw[zt];rfl) rfl rfl rfl rfl rfl rfl rfl rfl rfl rfl
theorem i_8:Ins .php Kr:=by
 refine zU λc mem o k h1 hO h2=>?_;conv=>whnf
 rw[Cg,Cj];exact⟨c,mem,o,_,rfl,rfl,h1,hO.sp,yq _,h2⟩
theorem DA:Ins (.acc .asl) Ks:=
 zU λc mem o k h1 hO h2=>.inr ⟨c,mem,o,rfl,rfl,rfl,hO,h2⟩
theorem DB:Ins (.flag 0 false) Kt:=by
 refine zU λc mem o k h1 hO h2=>?_;exact⟨c,mem,o,0,rfl,rfl,by unfold ZK;decide,h2⟩
theorem DC:Ins .plp Ku:=by
 refine zU λc mem o k h1 hO h2=>?_;have e:iOr (iOr (Xu c mem) 16) 32=pk (plF (Xu c mem)):=by
  have hv:=hO.mem.rd ((c.sp+1)%256+256);conv=>lhs;rw[show Xu c mem=pk (unp (Xu c mem)) from(iR hv.1 hv.2).symm]
  rw[Cg,Cj];rfl
 refine⟨c,mem,o,rfl,rfl,h1,?_⟩;exact kc h2 rfl rfl rfl rfl rfl rfl e.symm rfl rfl rfl rfl rfl
theorem DE:Ins (.acc .rol) Kv:=
 zU λc mem o k h1 hO h2=>.inr ⟨c,mem,o,rfl,rfl,rfl,hO,h2⟩
theorem DF:Ins (.flag 0 true) Kw:=by
 refine zU λc mem o k h1 hO h2=>?_;exact⟨c,mem,o,0,rfl,rfl,by unfold ZK;decide,h2⟩
theorem DG:Ins .pha Kx:=
 zU λc mem o k h1 hO h2=>⟨c,mem,o,_,rfl,rfl,h1,hO.sp,hO.a,h2⟩
theorem DH:Ins (.acc .lsr) Ky:=
 zU λc mem o k h1 hO h2=>.inr ⟨c,mem,o,rfl,rfl,rfl,hO,h2⟩
theorem DI:Ins (.flag 2 false) Kz:=by
 refine zU λc mem o k h1 hO h2=>?_;exact⟨c,mem,o,2,rfl,rfl,by unfold ZK;decide,h2⟩
theorem Av:Ins .pla KA:=
 zU λc mem o k h1 hO h2=>m_1 (σ':=⟨[(0,.ref 5)],shp { iT c with a:=Xu c mem } mem o⟩) (λk hk=>⟨c,mem,o,rfl,rfl,h1,hk⟩) (m_1 (λk hk=>ym nz4 (L:=[(0,.ref 5)]) rfl (λκ h=>h) hk) h2)
theorem Aw:Ins (.acc .ror) KC:=
 zU λc mem o k h1 hO h2=>.inr ⟨c,mem,o,rfl,rfl,rfl,hO,h2⟩
theorem Ax:Ins (.flag 2 true) KD:=by
 refine zU λc mem o k h1 hO h2=>?_;exact⟨c,mem,o,2,rfl,rfl,by unfold ZK;decide,h2⟩
theorem Ay:Ins (.tr .x .a) KG:=
 zU λc mem o k h1 hO h2=>m_1 (σ':=⟨[(0,.ref 5)],shp { c with a:=c.x } mem o⟩) (λk hk=>hk) (m_1 (λk hk=>ym nz4 (L:=[(0,.ref 5)]) rfl (λκ h=>h) hk) h2)
theorem Az:Ins .txs KH:=
 zU λc mem o k h1 hO h2=>h2
theorem AA:Ins (.tr .a .x) KI:=
 zU λc mem o k h1 hO h2=>m_1 (σ':=⟨[(0,.ref 5)],shp { c with x:=c.a } mem o⟩) (λk hk=>hk) (m_1 (λk hk=>ym nz4 (L:=[(0,.ref 5)]) rfl (λκ h=>h) hk) h2)
theorem AB:Ins (.flag 6 false) KJ:=by
 refine zU λc mem o k h1 hO h2=>?_;exact⟨c,mem,o,6,rfl,rfl,by unfold ZK;decide,h2⟩
theorem AC:Ins .tsx KK:=
 zU λc mem o k h1 hO h2=>m_1 (σ':=⟨[(0,.ref 5)],shp { c with x:=c.sp } mem o⟩) (λk hk=>hk) (m_1 (λk hk=>ym nz4 (L:=[(0,.ref 5)]) rfl (λκ h=>h) hk) h2)
theorem AD:Ins (.cmp .y .pc) KL:=by
 refine zU λc mem o k h1 hO h2=>?_;refine⟨c,mem,o,.pc,_,rfl,rfl,rfl,h1.1,h1.2,hO,?_⟩;exact kc h2 rfl (by rw[zt];rfl) rfl rfl rfl rfl rfl rfl rfl rfl rfl rfl
theorem AE:Ins (.cmp .a .zp) KN:=by
 refine zU λc mem o k h1 hO h2=>?_;refine⟨c,mem,o,.zp,_,rfl,rfl,rfl,h1.1,h1.2,hO,?_⟩;exact kc h2 rfl (by rw[zt];rfl) rfl rfl rfl rfl rfl rfl rfl rfl rfl rfl
theorem AF:Ins .upy KO:=
 zU λc mem o k h1 hO h2=>m_1 (σ':=⟨[(0,.ref 5)],shp { c with y:=yU c.y 1 } mem o⟩) (λk hk=>hk) (m_1 (σ':=⟨[(0,.ref 5)],shp { c with y:=(c.y+1)%256 } mem o⟩) (λk hk=>kf (c':={ c with y:=zA (yU c.y 1) 255 }) (by rw[jC,zt]) hk) (m_1 (λk hk=>ym nz4 (L:=[(0,.ref 5)]) rfl (λκ h=>h) hk) h2))
theorem AG:Ins (.cmp .a .pc) KP:=by
 refine zU λc mem o k h1 hO h2=>?_;refine⟨c,mem,o,.pc,_,rfl,rfl,rfl,h1.1,h1.2,hO,?_⟩;exact kc h2 rfl (by rw[zt];rfl) rfl rfl rfl rfl rfl rfl rfl rfl rfl rfl
theorem AH:Ins .dnx KQ:=
 zU λc mem o k h1 hO h2=>m_1 (σ':=⟨[(0,.ref 5)],shp { c with x:=U5 c.x 1 } mem o⟩) (λk hk=>hk) (m_1 (σ':=⟨[(0,.ref 5)],shp { c with x:=(c.x-1)%256 } mem o⟩) (λk hk=>kf (c':={ c with x:=zA (U5 c.x 1) 255 }) (by rw[jC,jP]) hk) (m_1 (λk hk=>ym nz4 (L:=[(0,.ref 5)]) rfl (λκ h=>h) hk) h2))
theorem AI:Ins (.bra 1 false) KR:=by
 refine zU λc mem o k h1 hO h2=>?_;exact⟨c,mem,o,1,rfl,rfl,by unfold uy;decide,h1,hO.mem,h2⟩
theorem AJ:Ins (.cmp .a .zpx) KU:=by
 refine zU λc mem o k h1 hO h2=>?_;refine⟨c,mem,o,.zpx,_,rfl,rfl,rfl,h1.1,h1.2,hO,?_⟩;exact kc h2 rfl (by rw[zt];rfl) rfl rfl rfl rfl rfl rfl rfl rfl rfl rfl
theorem AK:Ins (.cmp .x .pc) KV:=by
 refine zU λc mem o k h1 hO h2=>?_;refine⟨c,mem,o,.pc,_,rfl,rfl,rfl,h1.1,h1.2,hO,?_⟩;exact kc h2 rfl (by rw[zt];rfl) rfl rfl rfl rfl rfl rfl rfl rfl rfl rfl
theorem AL:Ins (.cmp .x .zp) KW:=by
 refine zU λc mem o k h1 hO h2=>?_;refine⟨c,mem,o,.zp,_,rfl,rfl,rfl,h1.1,h1.2,hO,?_⟩;exact kc h2 rfl (by rw[zt];rfl) rfl rfl rfl rfl rfl rfl rfl rfl rfl rfl
theorem AM:Ins .upx KY:=
 zU λc mem o k h1 hO h2=>m_1 (σ':=⟨[(0,.ref 5)],shp { c with x:=yU c.x 1 } mem o⟩) (λk hk=>hk) (m_1 (σ':=⟨[(0,.ref 5)],shp { c with x:=(c.x+1)%256 } mem o⟩) (λk hk=>kf (c':={ c with x:=zA (yU c.x 1) 255 }) (by rw[jC,zt]) hk) (m_1 (λk hk=>ym nz4 (L:=[(0,.ref 5)]) rfl (λκ h=>h) hk) h2))
theorem AN:Ins .nop KZ:=
 zU λc mem o k h1 hO h2=>h2
noncomputable def H5:Hd:=((((((((((((((((((((((((((((((((((((((((((((((((((((((((((((((H4).ext 386 (zw (.rd .ora .zp))).ext 393 (zw (.rmw .asl .zp))).ext 400 (zw .php)).ext 407 (zw (.rd .ora .pc))).ext 414 (zw (.acc .asl))).ext 449 (zw (.rd .ora .zpx))).ext 463 (zw (.flag 0 false))).ext 505 (zw (.rd .bit .zp))).ext 512 (zw (.rd .and .zp))).ext 519 (zw (.rmw .rol .zp))).ext 526 (zw .plp)).ext 533 (zw (.rd .and .pc))).ext 540 (zw (.acc .rol))).ext 582 (zw (.rd .and .zpx))).ext 596 (zw (.flag 0 true))).ext 638 (zw (.rd .eor .zp))).ext 645 (zw (.rmw .lsr .zp))).ext 652 (zw .pha)).ext 659 (zw (.rd .eor .pc))).ext 666 (zw (.acc .lsr))).ext 708 (zw (.rd .eor .zpx))).ext 722 (zw (.flag 2 false))).ext 764 (zw (.rd .adc .zp))).ext 771 (zw (.rmw .ror .zp))).ext 778 (zw .pla)).ext 785 (zw (.rd .adc .pc))).ext 792 (zw (.acc .ror))).ext 834 (zw (.rd .adc .zpx))).ext 848 (zw (.flag 2 true))).ext 883 (zw (.sto .y .zp))).ext 890 (zw (.sto .a .zp))).ext 897 (zw (.sto .x .zp))).ext 911 (zw (.tr .x .a))).ext 925 (zw (.sto .a .ab))).ext 981 (zw (.sto .a .aby))).ext 988 (zw .txs)).ext 1016 (zw (.rd .ldx .pc))).ext 1023 (zw (.rd .ldy .zp))).ext 1030 (zw (.rd .lda .zp))).ext 1037 (zw (.rd .ldx .zp))).ext 1051 (zw (.rd .lda .pc))).ext 1058 (zw (.tr .a .x))).ext 1107 (zw (.rd .lda .zpx))).ext 1121 (zw (.flag 6 false))).ext 1128 (zw (.rd .lda .aby))).ext 1135 (zw .tsx)).ext 1163 (zw (.cmp .y .pc))).ext 1184 (zw (.cmp .a .zp))).ext 1191 (zw (.rmw .dec .zp))).ext 1198 (zw .upy)).ext 1205 (zw (.cmp .a .pc))).ext 1212 (zw .dnx)).ext 1240 (zw (.bra 1 false))).ext 1254 (zw (.cmp .a .zpx))).ext 1296 (zw (.cmp .x .pc))).ext 1310 (zw (.cmp .x .zp))).ext 1317 (zw (.rd .sbc .zp))).ext 1324 (zw (.rmw .inc .zp))).ext 1331 (zw .upx)).ext 1338 (zw (.rd .sbc .pc))).ext 1345 (zw .nop)).ext 1387 (zw (.rd .sbc .zpx))
noncomputable def opL:List Nat:=[5,6,8,9,10,21,24,36,37,38,40,41,42,53,56,69,70,72,73,74,85,88,101,102,104,105,106,117,120,132,133,134,138,141,153,154,162,164,165,166,169,170,181,184,185,186,192,197,198,200,201,202,208,213,224,228,229,230,232,233,234,245]
noncomputable def xcT:Nat->Int:=λn=>cond (Nat.beq n 208) 2 (cond (Nat.beq n 185) 1 (0))
noncomputable def cyT:Nat->Int:=λn=>cond (Nat.beq n 245) 4 (cond (Nat.beq n 234) 2 (cond (Nat.beq n 233) 2 (cond (Nat.beq n 232) 2 (cond (Nat.beq n 230) 5 (cond (Nat.beq n 229) 3 (cond (Nat.beq n 228) 3 (cond (Nat.beq n 224) 2 (cond (Nat.beq n 213) 4 (cond (Nat.beq n 208) 2 (cond (Nat.beq n 202) 2 (cond (Nat.beq n 201) 2 (cond (Nat.beq n 200) 2 (cond (Nat.beq n 198) 5 (cond (Nat.beq n 197) 3 (cond (Nat.beq n 192) 2 (cond (Nat.beq n 186) 2 (cond (Nat.beq n 185) 4 (cond (Nat.beq n 184) 2 (cond (Nat.beq n 181) 4 (cond (Nat.beq n 170) 2 (cond (Nat.beq n 169) 2 (cond (Nat.beq n 166) 3 (cond (Nat.beq n 165) 3 (cond (Nat.beq n 164) 3 (cond (Nat.beq n 162) 2 (cond (Nat.beq n 154) 2 (cond (Nat.beq n 153) 5 (cond (Nat.beq n 141) 4 (cond (Nat.beq n 138) 2 (cond (Nat.beq n 134) 3 (cond (Nat.beq n 133) 3 (cond (Nat.beq n 132) 3 (cond (Nat.beq n 120) 2 (cond (Nat.beq n 117) 4 (cond (Nat.beq n 106) 2 (cond (Nat.beq n 105) 2 (cond (Nat.beq n 104) 4 (cond (Nat.beq n 102) 5 (cond (Nat.beq n 101) 3 (cond (Nat.beq n 88) 2 (cond (Nat.beq n 85) 4 (cond (Nat.beq n 74) 2 (cond (Nat.beq n 73) 2 (cond (Nat.beq n 72) 3 (cond (Nat.beq n 70) 5 (cond (Nat.beq n 69) 3 (cond (Nat.beq n 56) 2 (cond (Nat.beq n 53) 4 (cond (Nat.beq n 42) 2 (cond (Nat.beq n 41) 2 (cond (Nat.beq n 40) 4 (cond (Nat.beq n 38) 5 (cond (Nat.beq n 37) 3 (cond (Nat.beq n 36) 3 (cond (Nat.beq n 24) 2 (cond (Nat.beq n 21) 4 (cond (Nat.beq n 10) 2 (cond (Nat.beq n 9) 2 (cond (Nat.beq n 8) 3 (cond (Nat.beq n 6) 5 (cond (Nat.beq n 5) 3 (0))))))))))))))))))))))))))))))))))))))))))))))))))))))))))))))
noncomputable def stp(n:Nat)(op:Op)(c:Cpu)(mem:Mem):Cpu×Mem:=(st2 (xop op (st1 c (xcT n)) mem).1 (cyT n),(xop op (st1 c (xcT n)) mem).2)
structure StpOk(n:Nat)(op:Op)(c:Cpu)(mem:Mem):Prop where
 ad:jp mem c.pc
 cd:rd mem c.pc=(n:Int)
 has:n∈opL
 opk:YJ n=some op
 ok:iN op (st1 c (xcT n)) mem
 cok:Ok c mem
theorem Ok.st1{c:Cpu}(h:Ok c mem)(e:Int):Ok (Mine.st1 c e) mem:=⟨by show 0<=(c.pc+1)%65536;omega,h.sp,h.a,h.x,h.y,h.mem⟩
noncomputable def Uf:Sp:=λargs hp k=>∃c mem o n op,args = [.ref 5]/\hp=shp c mem o/\StpOk n op c mem/\k (.ref 5) (shp (stp n op c mem).1 (stp n op c mem).2 o)
theorem fa{P:Nat->Prop}{a:Nat}{l:List Nat}(h:P a)(k:∀n,n∈l->P n):∀n,n∈a::l->P n:=λn m=>by
 cases m with
 | head=>exact h
 | tail _ m=>exact k n m
structure OpTb(n:Nat)(op:Op)(f:Addr):Prop where
 xc:(pi0.tab 1425)[((n:Nat):Int).toNat]?=some (.int (xcT n))
 fn:(pi0.tab 1423)[((n:Nat):Int).toNat]?=some (.top f)
 cy:(pi0.tab 1424)[((n:Nat):Int).toNat]?=some (.int (cyT n))
 ft:pi0.fnT f=true
 hd:∀args hp k,zw op args hp k->H5 f args hp k
 lt:Nat.blt n 256=true
theorem pf{n:Nat}{op:Op}(T:OpTb n op f){c:Cpu}{o:Os}{k:PV->List PO->Prop}(h1:jp mem c.pc)(h3:rd mem c.pc=(n:Int))(hI:iN op (st1 c (xcT n)) mem)(hO:Ok c mem)(h2:k (.ref 5) (shp (stp n op c mem).1 (stp n op c mem).2 o)):
  zX [0] (pSs pi0 H5 W7) [.ref 5] (shp c mem o) k:=by
 have hn:0<=(n:Int)/\(n:Int)<2 ^ 63:=⟨Int.natCast_nonneg n,Int.lt_of_lt_of_le (Int.ofNat_lt.mpr (Nat.le_of_ble_eq_true T.lt)) (by decide)⟩
 refine⟨rfl,?_⟩;conv=>whnf
 refine⟨h1,?_⟩;rw[show mem.getD c.pc.toNat 0=(n:Int) from h3]
 conv=>whnf
 refine⟨hn,?_⟩;rw[T.xc];conv=>whnf
 refine⟨hn,?_⟩;rw[T.fn];conv=>whnf
 refine⟨T.ft,?_⟩;conv=>whnf
 refine T.hd _ _ _ ⟨st1 c (xcT n),mem,o,rfl,(by rw[Kg,zt];rfl),hI,hO.st1 _,?_⟩
 conv=>whnf
 refine⟨hn,?_⟩;rw[T.cy];exact kc h2 rfl (Kg _).symm rfl rfl rfl rfl rfl rfl (by rw[zt,zt];rfl) rfl rfl rfl
def TbP(n:Nat):Prop:=∀op,YJ n=some op->∃f,OpTb n op f
theorem tz{n:Nat}{op:Op}(e:YJ n=some op)(T:OpTb n op f):TbP n:=λop' h=>⟨f,Option.some.inj (e.symm.trans h)▸T⟩
theorem tb:∀n,n∈opL->TbP n:=by
 refine fa ?_ (fa ?_ (fa ?_ (fa ?_ (fa ?_ (fa ?_ (fa ?_ (fa ?_ (fa ?_ (fa ?_ (fa ?_ (fa ?_ (fa ?_ (fa ?_ (fa ?_ (fa ?_ (fa ?_ (fa ?_ (fa ?_ (fa ?_ (fa ?_ (fa ?_ (fa ?_ (fa ?_ (fa ?_ (fa ?_ (fa ?_ (fa ?_ (fa ?_ (fa ?_ (fa ?_ (fa ?_ (fa ?_ (fa ?_ (fa ?_ (fa ?_ (fa ?_ (fa ?_ (fa ?_ (fa ?_ (fa ?_ (fa ?_ (fa ?_ (fa ?_ (fa ?_ (fa ?_ (fa ?_ (fa ?_ (fa ?_ (fa ?_ (fa ?_ (fa ?_ (fa ?_ (fa ?_ (fa ?_ (fa ?_ (fa ?_ (fa ?_ (fa ?_ (fa ?_ (fa ?_ (fa ?_ (λZ h=>nomatch h))))))))))))))))))))))))))))))))))))))))))))))))))))))))))))))<;>exact tz rfl ⟨rfl,rfl,rfl,rfl,λZ Z Z h=>h,rfl⟩
theorem tu:∀args hp k,Uf args hp k->zX [0] (pSs pi0 H5 W7) args hp k:=by
 rintro args hp k ⟨c,mem,o,n,op,rfl,rfl,⟨h1,h3,hN,hT,hI,hO⟩,h2⟩;obtain⟨f,T⟩:=tb n hN op hT;exact pf T h1 h3 hI hO h2
theorem ei1:U5 (U4 1 8) 1=255:=by rw[jP,y9];decide
theorem ei2:U5 (U4 1 16) 1=65535:=by rw[jP,y9];decide
theorem ei3:U4 255 8=65280:=by rw[y9];decide
theorem ei4:U4 1 8=256:=by rw[y9];decide
noncomputable def fl0:Fl:=⟨false,false,true,true,false,false,false,false⟩
theorem ei5:iOr 16 32=pk fl0:=by rw[qp];decide
noncomputable def c0(pc:Int):Cpu:=⟨pc,255,0,0,0,fl0,0,.bool false,0,.str "6502",.int pc⟩
noncomputable def af:Sp:=λargs hp k=>∃mem o pc,args = [.ref 5]/\hp=(o.o0::o.o1::o.o2::PO.il mem::o.o4::PO.inst [(3,.str "6502"),(4,.int 255),(5,.int 65535),(6,.int 65280),(7,.int 256),(8,.int 0),(9,.bool false),(10,.int 0),(1,.ref 3),(11,.int pc)]::o.tl)/\k .none (shp (c0 pc) mem o)
theorem mq:∀args hp k,af args hp k->zX [0] (pSs pi0 H0 Ys) args hp k:=by
 rintro args hp k ⟨mem,o,pc,rfl,rfl,h2⟩;refine⟨rfl,?_⟩;conv=>whnf
 exact kc h2 rfl rfl rfl rfl rfl rfl ei5.symm rfl rfl rfl rfl rfl
noncomputable def HI:Hd:=H0.ext 50 af
noncomputable def VT:Sp:=λargs hp k=>∃mem o pc,args = [.ref 5,.ref 3,.int pc]/\hp=(o.o0::o.o1::o.o2::PO.il mem::o.o4::PO.inst []::o.tl)/\k .none (shp (c0 pc) mem o)
theorem tq:∀args hp k,VT args hp k->zX [0,1,2] (pSs pi0 HI QS) args hp k:=by
 rintro args hp k ⟨mem,o,pc,rfl,rfl,h2⟩;refine⟨rfl,?_⟩;conv=>whnf
 refine⟨by decide,?_⟩
 conv=>whnf
 refine⟨by decide,?_⟩
 conv=>whnf
 refine⟨by rw[ei1];decide,?_⟩
 conv=>whnf
 refine⟨by decide,?_⟩
 conv=>whnf
 rw[ei1,ei2,ei3,ei4];exact⟨mem,o,pc,rfl,rfl,h2⟩
theorem qe(x:Int):isB (x%256):=bl x
theorem W8{x y:Int}(h:isB x):isB (zA x y):=⟨(Uk h.1).1,Int.lt_of_le_of_lt (Uk h.1).2 h.2⟩
theorem gC{x y:Int}(h:isB x)(h2:isB y):isB (iOr x y):=Qd h.1 h.2 h2.1 h2.2
theorem aU{x y:Int}(h:isB x)(h2:isB y):isB (Jc x y):=dD h.1 h.2 h2.1 h2.2
theorem Ok.setf{c:Cpu}(h:Ok c mem)(f:Fl):Ok { c with f:=f } mem:=⟨h.pc,h.sp,h.a,h.x,h.y,h.mem⟩
theorem Ok.seta{c:Cpu}(h:Ok c mem){v:Int}(hv:isB v)(f:Fl):Ok { c with a:=v,f:=f } mem:=⟨h.pc,h.sp,hv,h.x,h.y,h.mem⟩
theorem Ok.setx{c:Cpu}(h:Ok c mem){v:Int}(hv:isB v)(f:Fl):Ok { c with x:=v,f:=f } mem:=⟨h.pc,h.sp,h.a,hv,h.y,h.mem⟩
theorem Ok.sety{c:Cpu}(h:Ok c mem){v:Int}(hv:isB v)(f:Fl):Ok { c with y:=v,f:=f } mem:=⟨h.pc,h.sp,h.a,h.x,hv,h.mem⟩
theorem UR{r:Rd}{c:Cpu}{v:Int}(h:Ok c mem)(hv:isB v):Ok (rdF r c v) mem:=by
 induction r
 ·exact h.seta (gC h.a hv) _
 ·exact h.seta (W8 h.a) _
 ·exact h.seta (aU h.a hv) _
 ·exact h.seta (qe _) _
 ·exact h.seta (qe _) _
 ·exact h.seta hv _
 ·exact h.setx hv _
 ·exact h.sety hv _
 ·exact h.setf _
theorem Ok.pushed{c:Cpu}(h:Ok c mem){v:Int}(hv:isB v):Ok (bA c) (bB c mem v):=⟨h.pc,qe _,h.a,h.x,h.y,h.mem.wr _ hv⟩
theorem um(m:Md):0<=mdL m:=by induction m<;>decide
theorem BT{c:Cpu}(h:Ok c mem)(g:Rg):isB (c.rg g):=by induction g;exact h.a;exact h.x;exact h.y
theorem Xv{c:Cpu}(h:Ok c mem)(g:Rg){v:Int}(hv:isB v):Ok (c.put g v) mem:=by induction g;exact h.seta hv _;exact h.setx hv _;exact h.sety hv _
theorem wV{o:Op}{c:Cpu}(h:Ok c mem):Ok (xop o c mem).1 (xop o c mem).2:=by
 have hp:=h.pc;have hm:∀m,0<=c.pc+mdL m:=λm=>Int.add_nonneg hp (um m)
 induction o with
 | rd r m =>
  have:=UR (r:=r) (c:={ c with ex:=eaX m c mem }) (v:=rd mem (eaA m c mem)) ⟨h.pc,h.sp,h.a,h.x,h.y,h.mem⟩ (h.mem.rd _)
  exact⟨hm m,this.sp,this.a,this.x,this.y,h.mem⟩
 | cmp g m=>exact⟨hm m,h.sp,h.a,h.x,h.y,h.mem⟩
 | rmw r m=>exact⟨hm m,h.sp,h.a,h.x,h.y,h.mem.wr _ (YU (h.mem.rd _))⟩
 | acc r=>exact⟨h.pc,h.sp,YU h.a,h.x,h.y,h.mem⟩
 | sto g m=>exact⟨hm m,h.sp,h.a,h.x,h.y,h.mem.wr _ (BT h g)⟩
 | bra b on =>
  show Ok (cond _ _ _) mem
  cases (c.f.at b==on)
  ·exact⟨Int.add_nonneg hp (by decide),h.sp,h.a,h.x,h.y,h.mem⟩
  ·exact⟨Int.emod_nonneg _ (by decide),h.sp,h.a,h.x,h.y,h.mem⟩
 | flag b on=>exact⟨h.pc,h.sp,h.a,h.x,h.y,h.mem⟩
 | tr g k=>exact Xv h _ (BT h g)
 | tsx=>exact⟨h.pc,h.sp,h.a,h.sp,h.y,h.mem⟩
 | txs=>exact⟨h.pc,h.x,h.a,h.x,h.y,h.mem⟩
 | upx=>exact Xv h .x (qe (c.x+1))
 | upy=>exact Xv h .y (qe (c.y+1))
 | dnx=>exact Xv h .x (qe (c.x-1))
 | pha=>exact h.pushed h.a
 | php=>exact h.pushed (yq _)
 | pla=>exact⟨h.pc,qe _,h.mem.rd _,h.x,h.y,h.mem⟩
 | plp=>exact⟨h.pc,qe _,h.a,h.x,h.y,h.mem⟩
 | nop=>exact h
theorem wh{c:Cpu}(h:Ok c mem)(e:Int):Ok (st1 c e) mem:=⟨Int.emod_nonneg _ (by decide),h.sp,h.a,h.x,h.y,h.mem⟩
theorem wj{c:Cpu}(h:Ok c mem)(e:Int):Ok (st2 c e) mem:=⟨Int.emod_nonneg _ (by decide),h.sp,h.a,h.x,h.y,h.mem⟩
theorem zB{m:Mem}{a b v:Int}(ha:0<=a)(hb:0<=b)(h:b≠a):rd (wr m a v) b=rd m b:=by
 unfold rd wr;rw[List.getD_eq_getElem?_getD,List.getD_eq_getElem?_getD,List.getElem?_set_ne (by lia)]
theorem bS{m:Mem}{a b v w:Int}(ha:0<=a)(hb:0<=b)(h:a≠b):wr (wr m a v) b w=wr (wr m b w) a v:=by
 unfold wr;exact List.set_comm _ _ (by lia)
namespace MH
section
noncomputable def Ea:Stmt:=sAt zE 12
noncomputable def qv:Program:={ pw with main:={ pw.main with body:=[Ea] } }
noncomputable def jx:List Str:=[⟨⟨[95,119,97,108,108]⟩⟩,⟨⟨[77,80,85]⟩⟩,⟨⟨[95,108,97,119,95,100,111,101,115]⟩⟩,⟨⟨[95,108,97,119,95,119,111,114,100]⟩⟩,⟨⟨[95,108,97,119,95,98,105,116,115]⟩⟩,⟨⟨[95,108,97,119,95,111,99,116,101,116]⟩⟩,⟨⟨[95,108,97,119,95,115,105,103,110,101,100]⟩⟩,⟨⟨[95,108,97,119,95,115,117,109]⟩⟩,⟨⟨[95,108,97,119,95,116,117,114,110]⟩⟩,⟨⟨[95,108,97,119,95,114,117,110]⟩⟩]
noncomputable def EE:RowW:=(PySem.Challenge.rw_me0007_01).row.toRowW
noncomputable def XtN:Shared->Bool:=λs=>xlAt qv [] s&&recOk (RowW.records EE) s
noncomputable def sF(w:World)(os:OsState):Shared:=⟨H1 w.params,#[],boot_drawn,(j9 w.params).toks,os⟩
variable (w:World)(os:OsState)
theorem lk1:staticsOk (importedModules pw.main.body) (boot_heap w.params) (H1 w.params)=true:=by kernel_rfl
theorem lk2:namesBound pw (H1 w.params)=true:=by kernel_rfl
theorem lk3:gensDone (sF w os)=true:=by kernel_rfl
theorem lk4:laidKept (boot_heap w.params) (H1 w.params)=true:=by kernel_rfl
theorem lk5:seen ((recsOf qv).map (·.name)) (ownsOf qv) [] { sF w os with gens:=#[] } = expectedOf qv:=by kernel_rfl
theorem lk6:(sF w os).heap.bltView=bltViewBooted:=by kernel_rfl
theorem lk7:((sF w os).heap.keysOk (looseW qv jx) ((recsOf qv).map (·.name)) ((litsOf qv).map (·.1)) ((clssOf qv (looseW qv jx)).map (·.name))&&(sF w os).heap.accountedOkI (importedModules pw.main.body)&&(sF w os).heap.isNs mainGlobals&&(sF w os).heap.isNs builtinsNs&&tablesOk qv (sF w os).heap&&XtN (sF w os)&&((sF w os).gens.size==0))=true:=by kernel_rfl
theorem lk8:tabsOk qv (sF w os)=true:=by kernel_rfl
theorem lk9:pinSeenD qv (drecsOf qv) (sF w os)=pinGoodD (drecsOf qv):=by kernel_rfl
theorem Ed:plainSeenE qv (looseW qv jx) (sF w os)=plainGoodE qv (looseW qv jx):=by kernel_rfl
theorem Ee:plainSeenD qv jx (sF w os)=plainGoodD qv jx:=by kernel_rfl
theorem Ef:wideSeen qv (sF w os)=wideGood qv:=by kernel_rfl
theorem Eg:clsSeenW qv jx (sF w os)=clsGoodW qv jx:=by kernel_rfl
end
end MH
namespace MH
section
noncomputable def KT:Params->Frag:=KM
noncomputable def kAs:List Addr:=D8
noncomputable def HK:Hook:=kHook KT kAs (λZ=>by kernel_rfl)
theorem lkY(w:World)(os:OsState):HK.obs (sF w os)=HK.val w:=by kernel_rfl
theorem ui:LeftO pw qv jx XtN HK.obs HK.val 9000:=by
 refine LeftO.of_pieces (H₀:=λP=>boot_heap P) (gs₀:=#[]) (d₀:=boot_drawn) (k₀:=boot_toks) (H₁:=H1) (gs₁:=#[]) (d₁:=boot_drawn) (m₀:=11) (ann:=some (.ref 6)) (M:=9000) (boot_open rfl rfl (λZ=>rfl)) (λw=>by kernel_rfl) (λw os=>Dz w os) rfl (λw=>?_)
 funext os
 refine Prod.ext ?_ (Prod.ext ?_ (lkY w os))
 ·show(staticsOk _ _ _&&namesBound _ _&&gensDone (sF w os)&&laidKept _ _)=true
  rw[lk1 w,lk2 w,lk3 w os,lk4 w];rfl
 ·show openSeen qv jx _ XtN true (sF w os)=openGood qv jx
  unfold openSeen openGood;simp only[if_true];rw[lk5 w os,lk6 w os,lk7 w os,lk8 w os,lk9 w os,Ed w os,Ee w os,Ef w os,Eg w os]
end
end MH
theorem uM(i j:Nat)(e:nmM i=nmM j):i=j:=ia (l:=nmL) (by kernel_rfl) i j e
noncomputable def GM(prog:Program)(w:World)(mean:ExcName->Option Value)(mg mb:Str->Option Value)(base:Heap):Gam:=⟨⟨1428,nmM,uM,[],[],[],(0,0,Str.empty),w⟩,prog,KM w.params,MH.qv,looseW MH.qv MH.jx,mean,mg,mb,base⟩
section
variable (Pr:Params)
theorem tV:yt (xh (KM Pr) 1428 nmM) (pmM []).atts=true:=by kernel_rfl
theorem tX:yt (λp=>sQ (KM Pr) 1428 nmM (p.1,.int p.2)) (pmM []).cis=true:=by kernel_rfl
theorem tZ:yt (λp=>sQ (KM Pr) 1428 nmM (p.1,.top p.2)) (pmM []).cts=true:=by kernel_rfl
theorem ub:yt (Bc (KM Pr) 1428 nmM) (pmM []).mths=true:=by kernel_rfl
theorem ue:yt (EV (KM Pr) nmM) (pmM []).tops=true:=by kernel_rfl
theorem ua:yt (An (KM Pr) nmM) (pmM []).gis=true:=by kernel_rfl
theorem tW:yt (λp=>XV nmM MH.qv (looseW MH.qv MH.jx) p.1 (.builtin (match p.2 with | .len => "len" | .sum => "sum" | .min => "min" | .sumT => "sum" | .maxT => "max" | .minT => "min" | .ord => "ord"))) (pmM []).blts=true:=by kernel_rfl
theorem uc:yt (λx=>XV nmM MH.qv (looseW MH.qv MH.jx) x (.type "range")) (pmM []).rngs=true:=by kernel_rfl
theorem t8:yt (λx=>XV nmM MH.qv (looseW MH.qv MH.jx) x (.type "enumerate")) (pmM []).enms=true:=by kernel_rfl
theorem uf:yt (λx=>XV nmM MH.qv (looseW MH.qv MH.jx) x (.type "zip")) (pmM []).zips=true:=by kernel_rfl
theorem t9:yt (Aj (KM Pr)) fnL=true:=by kernel_rfl
theorem tY:x0 (KM Pr) 1428 36=true:=by kernel_rfl
theorem ud:yt (λp=>A8 (KM Pr) p.1 p.2) r6=true:=by kernel_rfl
end
section
variable {prog:Program}{w:World}{mean:ExcName->Option Value}{mg mb:Str->Option Value}{base:Heap}
theorem wy:dO (GM prog w mean mg mb base) XE:=λb hb=>mX (Y6 (ud w.params) b hb)
theorem J2:CtorOk (GM prog w mean mg mb base) 36:=lB (tY w.params)
theorem Vy(cels:List (Nat×Nat))(b:Nat)(arg:PV->Option (List Int))(ctr:List PV->List PO->(PV->List PO->Prop)->Prop):PiOk (GM prog w mean mg mb base) (piM cels b arg ctr) where
 tab:=wy
 fnT:=λf hf=>by
  obtain⟨g,hg,e⟩:=List.any_eq_true.mp (show fnL.any (Nat.beq f)=true from hf)
  obtain rfl:=Nat.eq_of_beq_eq_true e;exact mv (G:=(GM prog w mean mg mb base)) (z0 (t9 w.params) f hg)
 atts:=λx hx=>lj (z0 (tV w.params) x hx)
 cis:=λp hp=>av (p:=(p.1,.int p.2)) (z0 (tX w.params) p hp)
 cts:=λp hp=>av (p:=(p.1,.top p.2)) (z0 (tZ w.params) p hp)
 mths:=λp hp=>ni (z0 (ub w.params) p hp)
 tops:=λp hp=>W9 (z0 (ue w.params) p hp)
 gis:=λp hp=>mx (G:=(GM prog w mean mg mb base)) (z0 (ua w.params) p hp)
 blts:=λp hp=>Kh (z0 tW p hp)
 rngs:=λp hp=>Kh (z0 uc p hp)
 enms:=λp hp=>Kh (z0 t8 p hp)
 zips:=λp hp=>Kh (z0 uf p hp)
 dbg:=nK (l:=nmL) (by kernel_rfl) (by decide)
 C:=rfl
 ctor:=⟨_,J2⟩
noncomputable def ZQ:Value:=.str "law_me0007_01" 2249
noncomputable def iS:Value:=.str "py65.devices.mpu6502" 194
theorem fo{c:Addr}{q:String}{d:FD}(df pm:Value)(Fi:∀(s:Shared) (aws:List Value),G.K.In s.heap->aws.length=ids.length->BindsTo s (fnOf d.name q d.args d.body d.scope df .none .none pm none (.ref c) .none) (ca aws) ((ids.map G.X.nm).zip aws))(hl:G.K.lookup f=some (J4 d q df pm c))(hb:fnB G.X.nm d ids=true)(hc:codeIn G.K (.ref c) q=true):FnOk G ca f ids q d.body d.scope (.ref c):=aK hl hb hc Fi
theorem sR{d:Nat}(h9:9<=d):CtS (GM prog w mean mg mb base) d (piM [] 0 (λZ=>none) (λZ Z Z=>False)):=by
 cases d with
 | zero=>exact absurd h9 (Nat.not_succ_le_zero _)
 | succ e=>exact X1 J2 rfl
theorem hx{d:Nat}{c:Addr}{q:String}{D:FD}{S:List PV->List PO->(PV->List PO->Prop)->Prop}(hb:HdS (GM prog w mean mg mb base) d Hb)(hH:HdS (GM prog w mean mg mb base) (d+1) H)(okf:FnOk (GM prog w mean mg mb base) Jv f ids q D.body D.scope (.ref c))(hm:mSs nmM (pmM []) D.scope ir D.body)(hS:∀args hp k,S args hp k->zX ids (pSs pi0 Hb ir) args hp k)(h9:9<=d):HdS (GM prog w mean mg mb base) (d+1) (H.ext f S):=
 tK (Vy [] 0 (λZ=>none) (λZ Z Z=>False)) (sR h9) h9 hb hH okf rfl (λZ=>rfl) hm hS
theorem YI:FnOk (GM prog w mean mg mb base) (Yd "memory" "pc") 36 [0,1,2] "MPU.__init__" (cfn 15).body (cfn 15).scope (.ref 35):=fo (.ref 29) iS (sx λZ Z Z Z=>by kernel_rfl) (by kernel_rfl) (by kernel_rfl) (by kernel_rfl)
theorem YD:mSs nmM (pmM []) (cfn 15).scope QS (cfn 15).body:=⟨by kernel_rfl,by kernel_rfl⟩
noncomputable def mpB(f:α->β)(l:List α):List β:=List.rec (motive:=λZ=>List β) [] (λx Z ih=>f x::ih) l
noncomputable def fnT:List (Nat×List Nat×String×List IS):=[(16,[0], "MPU.step",W7),(17,[0], "MPU.reset",Ys),(65,[0], "MPU.inst_0x05",Wx),(66,[0], "MPU.inst_0x06",Wy),(67,[0], "MPU.inst_0x08",Kr),(68,[0], "MPU.inst_0x09",Wz),(69,[0], "MPU.inst_0x0a",Ks),(74,[0], "MPU.inst_0x15",WA),(76,[0], "MPU.inst_0x18",Kt),(82,[0], "MPU.inst_0x24",WB),(83,[0], "MPU.inst_0x25",WC),(84,[0], "MPU.inst_0x26",WD),(85,[0], "MPU.inst_0x28",Ku),(86,[0], "MPU.inst_0x29",WE),(87,[0], "MPU.inst_0x2a",Kv),(93,[0], "MPU.inst_0x35",WF),(95,[0], "MPU.inst_0x38",Kw),(101,[0], "MPU.inst_0x45",WG),(102,[0], "MPU.inst_0x46",WH),(103,[0], "MPU.inst_0x48",Kx),(104,[0], "MPU.inst_0x49",WI),(105,[0], "MPU.inst_0x4a",Ky),(111,[0], "MPU.inst_0x55",WJ),(113,[0], "MPU.inst_0x58",Kz),(119,[0], "MPU.inst_0x65",WK),(120,[0], "MPU.inst_0x66",WL),(121,[0], "MPU.inst_0x68",KA),(122,[0], "MPU.inst_0x69",WM),(123,[0], "MPU.inst_0x6a",KC),(129,[0], "MPU.inst_0x75",WN),(131,[0], "MPU.inst_0x78",KD),(136,[0], "MPU.inst_0x84",WO),(137,[0], "MPU.inst_0x85",WP),(138,[0], "MPU.inst_0x86",WQ),(140,[0], "MPU.inst_0x8a",KG),(142,[0], "MPU.inst_0x8d",WR),(150,[0], "MPU.inst_0x99",WS),(151,[0], "MPU.inst_0x9a",KH),(155,[0], "MPU.inst_0xa2",WT),(156,[0], "MPU.inst_0xa4",WU),(157,[0], "MPU.inst_0xa5",WV),(158,[0], "MPU.inst_0xa6",WW),(160,[0], "MPU.inst_0xa9",WX),(161,[0], "MPU.inst_0xaa",KI),(168,[0], "MPU.inst_0xb5",WY),(170,[0], "MPU.inst_0xb8",KJ),(171,[0], "MPU.inst_0xb9",WZ),(172,[0], "MPU.inst_0xba",KK),(176,[0], "MPU.inst_0xc0",KL),(179,[0], "MPU.inst_0xc5",KN),(180,[0], "MPU.inst_0xc6",W0),(181,[0], "MPU.inst_0xc8",KO),(182,[0], "MPU.inst_0xc9",KP),(183,[0], "MPU.inst_0xca",KQ),(187,[0], "MPU.inst_0xd0",KR),(189,[0], "MPU.inst_0xd5",KU),(195,[0], "MPU.inst_0xe0",KV),(197,[0], "MPU.inst_0xe4",KW),(198,[0], "MPU.inst_0xe5",W3),(199,[0], "MPU.inst_0xe6",W4),(200,[0], "MPU.inst_0xe8",KY),(201,[0], "MPU.inst_0xe9",W5),(202,[0], "MPU.inst_0xea",KZ),(208,[0], "MPU.inst_0xf5",W6),(21,[0,29], "MPU.WordAt",Vr),(39,[0,21], "MPU.opORA",Yn),(25,[0], "MPU.ZeroPageAddr",q9),(40,[0,21], "MPU.opASL",K3),(34,[0,37], "MPU.stPush",Vs),(23,[0], "MPU.ProgramCounter",qc),(26,[0], "MPU.ZeroPageXAddr",qz),(44,[0,21], "MPU.opCLR",Yi),(47,[0,21], "MPU.opBIT",UI),(46,[0,21], "MPU.opAND",Yg),(48,[0,21], "MPU.opROL",K5),(35,[0], "MPU.stPop",Yt),(45,[0,21], "MPU.opSET",Yo),(49,[0,21], "MPU.opEOR",Yj),(41,[0,21], "MPU.opLSR",K4),(50,[0,21], "MPU.opADC",UH),(51,[0,21], "MPU.opROR",K6),(38,[0,40], "MPU.FlagsNZ",UF),(53,[0,21], "MPU.opSTY",Yr),(52,[0,21], "MPU.opSTA",Yp),(54,[0,22], "MPU.opSTX",Yq),(30,[0], "MPU.AbsoluteAddr",q8),(32,[0], "MPU.AbsoluteYAddr",qw),(61,[0,22], "MPU.opLDX",Yl),(60,[0,21], "MPU.opLDY",Ym),(59,[0,21], "MPU.opLDA",Yk),(55,[0,58,59], "MPU.opCMPR",Qz),(57,[0,21], "MPU.opDECR",QA),(42,[0,21], "MPU.opBCL",Yh),(56,[0,21], "MPU.opSBC",UJ),(58,[0,21], "MPU.opINCR",QB),(20,[0,29], "MPU.ByteAt",Vq),(33,[0], "MPU.BranchRelAddr",qx),(24,[0], "MPU.ImmediateByte",qy)]
noncomputable def fnI(i:Nat)(q:String):FuncData:=fnOf (cfn i).name q (cfn i).args (cfn i).body (cfn i).scope .none .none .none iS none (.ref (7*i-70)) .none
section
variable (P:Params)(u v t:Value)
theorem kT1:fnT.map (λr=>(KM P).lookup (7*r.1-69))=mpB (λr=>some (J4 (cfn r.1) r.2.2.1 .none iS (7*r.1-70))) fnT:=by kernel_rfl
theorem kT2:yt (λr=>fnB nmM (cfn r.1) r.2.1) fnT=true:=by kernel_rfl
theorem kT3:yt (λr=>codeIn (KM P) (.ref (7*r.1-70)) r.2.2.1) fnT=true:=by kernel_rfl
theorem kT4(S:_):fnT.map (λr=>peek (KM P) S (bindArgs (fnI r.1 r.2.2.1) ⟨[u,v,t].take r.2.1.length,[]⟩))=mpB (λr=>some ((r.2.1.map nmM).zip [u,v,t])) fnT:=by kernel_rfl
theorem kT5:yt (λr=>QE nmM (pmM []) (cfn r.1).scope r.2.2.2 (cfn r.1).body) fnT=true:=by kernel_rfl
theorem kT6:fnT.map (λr=>QI nmM (pmM []) r.2.2.2 (cfn r.1).body)=mpB (λr=>(cfn r.1).body) fnT:=by kernel_rfl
theorem kT7:yt (λr=>Nat.ble r.2.1.length 3) fnT=true:=by kernel_rfl
end
theorem Xg{α β:Type}{f g:α->β}{x:α}:∀{l:List α},l.map f=mpB g l->x∈l->f x=g x
 | _::_,e,h=>(List.mem_cons.mp h).elim (λq=>q▸(List.cons.inj e).1) (Xg (List.cons.inj e).2)
theorem Ex{a:List Value}(h:a.length<=3):∃u v t b,a++b = [u,v,t]:=by
 rcases a with _ | ⟨u,_ | ⟨v,_ | ⟨t,_ | ⟨x,r⟩⟩⟩⟩
 ·exact⟨.none,.none,.none,_,rfl⟩
 ·exact⟨u,.none,.none,[.none,.none],rfl⟩
 ·exact⟨u,v,.none,[.none],rfl⟩
 ·exact⟨u,v,t,[],rfl⟩
 ·exact absurd h (Nat.not_le_of_lt (Nat.le_add_left 4 _))
theorem bY{α:Type}{b:List Value}:∀{l:List α} {a:List Value},a.length=l.length->l.zip a=l.zip (a++b)
 | [],[],_=>rfl
 | x::l,y::a,h=>congrArg ((x,y) :: ·) (bY (Nat.succ.inj h))
theorem Fe{l:List α}(h3:l.length<=3){a:List Value}(h:a.length=l.length):∃u v t,a = [u,v,t].take l.length/\l.zip a=l.zip [u,v,t]:=by
 obtain⟨u,v,t,b,e⟩:=Ex (h▸h3:a.length<=3);exact⟨u,v,t,by rw[<- e,<- h,List.take_left],by rw[<- e];exact bY h⟩
theorem hy{d f:Nat}{q:String}{S:List PV->List PO->(PV->List PO->Prop)->Prop}(hb:HdS (GM prog w mean mg mb base) d Hb)(hH:HdS (GM prog w mean mg mb base) (d+1) H)(j:Nat)(hS:∀args hp k,S args hp k->zX ids (pSs pi0 Hb ir) args hp k)(e:fnT[j]?=some (i,ids,q,ir))(h9:Nat.ble 9 d=true)(hf:7*i-69=f):HdS (GM prog w mean mg mb base) (d+1) (H.ext f S):=by
 subst hf;have m:(i,ids,q,ir)∈fnT:=List.mem_of_getElem? e;have h3:ids.length<=3:=Nat.le_of_ble_eq_true (z0 kT7 _ m);have l1:(KM w.params).lookup (7*i-69)=some (J4 (cfn i) q .none iS (7*i-70)):=(Xg (kT1 w.params) m :);have l2:fnB nmM (cfn i) ids=true:=(z0 kT2 _ m :);have l3:codeIn (KM w.params) (.ref (7*i-70)) q=true:=(z0 (kT3 w.params) _ m :);have l4:∀u v t S,peek (KM w.params) S (bindArgs (fnI i q) ⟨[u,v,t].take ids.length,[]⟩)=some ((ids.map nmM).zip [u,v,t]):=λu v t S=>(Xg (kT4 w.params u v t S) m :)
 have l5:QE nmM (pmM []) (cfn i).scope ir (cfn i).body=true:=(z0 kT5 _ m :);have l6:QI nmM (pmM []) ir (cfn i).body=(cfn i).body:=(Xg kT6 m :);have ms:mSs nmM (pmM []) (cfn i).scope ir (cfn i).body:=And.intro l5 l6;have bd:∀(s:Shared) (aws:List Value),(KM w.params).In s.heap->aws.length=ids.length->BindsTo s (fnI i q) (Jv aws) ((ids.map nmM).zip aws):=by
  intro s aws hK hl;obtain⟨u,v,t,e1,e2⟩:=Fe (l:=ids.map nmM) (by rw[List.length_map];exact h3) (hl.trans (List.length_map _).symm)
  rw[List.length_map] at e1;rw[e2,e1];exact kp_binds hK (l4 u v t)
 have ok:FnOk (GM prog w mean mg mb base) Jv (7*i-69) ids q (cfn i).body (cfn i).scope (.ref (7*i-70)):=aK (G:=(GM prog w mean mg mb base)) (d:=cfn i) (df:=.none) (pm:=iS) l1 l2 l3 bd;exact hx hb hH ok ms hS (Nat.le_of_ble_eq_true h9)
theorem hd1:HdS (GM prog w mean mg mb base) 11 H1:=(hy hd0 (hy hd0 (hy hd0 hd0 95 fO rfl rfl rfl) 81 cw rfl rfl rfl) 68 fT rfl rfl rfl)
theorem ZD:HdS (GM prog w mean mg mb base) 12 H1w:=(hy hd1 (hd1.le (by decide)) 64 fP rfl rfl rfl)
theorem hd2:HdS (GM prog w mean mg mb base) 13 H2:=(hy ZD (hy ZD (hy ZD (hy ZD (hy ZD (hy (hd1.le (by decide)) (hy ZD (ZD.le (by decide)) 97 Q1 rfl rfl rfl) 75 mu rfl rfl rfl) 69 Qw rfl rfl rfl) 66 Uy rfl rfl rfl) 70 Q2 rfl rfl rfl) 85 Ux rfl rfl rfl) 86 QZ rfl rfl rfl)
theorem Au:HdS (GM prog w mean mg mb base) 14 H3b:=(hy hd2 (hd2.le (by decide)) 96 Q0 rfl rfl rfl)
theorem hd4:HdS (GM prog w mean mg mb base) 15 H4:=(hy Au (hy (hd2.le (by decide)) (hy (hd2.le (by decide)) (hy (hd2.le (by decide)) (hy (hd2.le (by decide)) (hy (hd2.le (by decide)) (hy (hd2.le (by decide)) (hy (hd2.le (by decide)) (hy (hd2.le (by decide)) (hy (hd2.le (by decide)) (hy (hd2.le (by decide)) (hy (hd2.le (by decide)) (hy (hd2.le (by decide)) (hy (hd2.le (by decide)) (hy (hd2.le (by decide)) (hy (hd2.le (by decide)) (hy (hd2.le (by decide)) (hy (hd2.le (by decide)) (hy (hd2.le (by decide)) (hy (hd2.le (by decide)) (hy (hd2.le (by decide)) (hy (hd2.le (by decide)) (Au.le (by decide)) 89 lY rfl rfl rfl) 87 lZ rfl rfl rfl) 88 l8 rfl rfl rfl) 65 ma rfl rfl rfl) 73 lS rfl rfl rfl) 77 lX rfl rfl rfl) 72 lV rfl rfl rfl) 79 lR rfl rfl rfl) 93 mh rfl rfl rfl) 90 fQ rfl rfl rfl) 67 lT rfl rfl rfl) 78 l9 rfl rfl rfl) 74 mc rfl rfl rfl) 80 mf rfl rfl rfl) 91 fR rfl rfl rfl) 94 fS rfl rfl rfl) 83 mj rfl rfl rfl) 84 mn rfl rfl rfl) 82 mo rfl rfl rfl) 71 lW rfl rfl rfl) 76 mi rfl rfl rfl) 92 lU rfl rfl rfl)
theorem hd5:HdS (GM prog w mean mg mb base) 16 H5:=by
 refine(hy hd4 (hy hd4 (hy hd4 (hy hd4 (hy hd4 (hy hd4 (hy hd4 (hy hd4 (hy hd4 (hy hd4 (hy hd4 (hy hd4 (hy hd4 (hy hd4 (hy hd4 (hy hd4 (hy hd4 (hy hd4 (hy hd4 (hy hd4 (hy hd4 (hy hd4 (hy hd4 (hy hd4 (hy hd4 (hy hd4 (hy hd4 (hy hd4 (hy hd4 (hy hd4 (hy hd4 (hy hd4 (hy hd4 (hy hd4 (hy hd4 (hy hd4 (hy hd4 (hy hd4 (hy hd4 (hy hd4 (hy hd4 (hy hd4 (hy hd4 (hy hd4 (hy hd4 (hy hd4 (hy hd4 (hy hd4 (hy hd4 (hy hd4 (hy hd4 (hy hd4 (hy hd4 (hy hd4 (hy hd4 (hy hd4 (hy hd4 (hy hd4 (hy hd4 (hy hd4 (hy hd4 (hy hd4 (hd4.le (by decide)) 2 ?_ rfl rfl rfl) 3 ?_ rfl rfl rfl) 4 i_8 rfl rfl rfl) 5 ?_ rfl rfl rfl) 6 DA rfl rfl rfl) 7 ?_ rfl rfl rfl) 8 DB rfl rfl rfl) 9 ?_ rfl rfl rfl) 10 ?_ rfl rfl rfl) 11 ?_ rfl rfl rfl) 12 DC rfl rfl rfl) 13 ?_ rfl rfl rfl) 14 DE rfl rfl rfl) 15 ?_ rfl rfl rfl) 16 DF rfl rfl rfl) 17 ?_ rfl rfl rfl) 18 ?_ rfl rfl rfl) 19 DG rfl rfl rfl) 20 ?_ rfl rfl rfl) 21 DH rfl rfl rfl) 22 ?_ rfl rfl rfl) 23 DI rfl rfl rfl) 24 ?_ rfl rfl rfl) 25 ?_ rfl rfl rfl) 26 Av rfl rfl rfl) 27 ?_ rfl rfl rfl) 28 Aw rfl rfl rfl) 29 ?_ rfl rfl rfl) 30 Ax rfl rfl rfl) 31 ?_ rfl rfl rfl) 32 ?_ rfl rfl rfl) 33 ?_ rfl rfl rfl) 34 Ay rfl rfl rfl) 35 ?_ rfl rfl rfl) 36 ?_ rfl rfl rfl) 37 Az rfl rfl rfl) 38 ?_ rfl rfl rfl) 39 ?_ rfl rfl rfl) 40 ?_ rfl rfl rfl) 41 ?_ rfl rfl rfl) 42 ?_ rfl rfl rfl) 43 AA rfl rfl rfl) 44 ?_ rfl rfl rfl) 45 AB rfl rfl rfl) 46 ?_ rfl rfl rfl) 47 AC rfl rfl rfl) 48 AD rfl rfl rfl) 49 AE rfl rfl rfl) 50 ?_ rfl rfl rfl) 51 AF rfl rfl rfl) 52 AG rfl rfl rfl) 53 AH rfl rfl rfl) 54 AI rfl rfl rfl) 55 AJ rfl rfl rfl) 56 AK rfl rfl rfl) 57 AL rfl rfl rfl) 58 ?_ rfl rfl rfl) 59 ?_ rfl rfl rfl) 60 AM rfl rfl rfl) 61 ?_ rfl rfl rfl) 62 AN rfl rfl rfl) 63 ?_ rfl rfl rfl)<;>first | exact Dv rfl rfl rfl (λZ=>rfl) (λZ=>rfl) λZ Z Z h=>h | exact Dw rfl rfl rfl (λZ=>rfl) (λZ=>rfl) λZ Z Z h=>h | exact Am rfl rfl rfl (λZ=>rfl) (λZ=>rfl) λZ Z Z h=>h
noncomputable def H6:Hd:=H5.ext 43 Uf
theorem hd6:HdS (GM prog w mean mg mb base) 17 H6:=(hy hd5 (hd5.le (by decide)) 0 tu rfl rfl rfl)
theorem hdI:HdS (GM prog w mean mg mb base) 11 HI:=(hy hd0 hd0 1 mq rfl rfl rfl)
theorem ctI:JQ (GM prog w mean mg mb base) 12 36 (Yd "memory" "pc") VT:=Al (Vy [] 0 (λZ=>none) (λZ Z Z=>False)) (X1 J2 rfl) (by decide) hdI YI rfl (λZ=>rfl) YD tq
end
section
variable {P:Nat->Prop}
theorem ltS{n:Nat}(h:∀i,i<n->P i)(p:P n):∀i,i<n+1->P i:=λi hi=>(Nat.lt_or_eq_of_le (Nat.le_of_lt_succ hi)).elim (h i) λe=>e▸p
theorem lt0:∀i,i<0->P i:=λi h=>absurd h (Nat.not_lt_zero i)
theorem Q3(a:P 0)(b:P 1)(c:P 2):∀i,i<3->P i:=ltS (ltS (ltS lt0 a) b) c
theorem gv(a:P 0)(b:P 1)(c:P 2)(d:P 3):∀i,i<4->P i:=ltS (Q3 a b c) d
end
inductive Run(V:Int->Prop):Nat->Cpu->Mem->Cpu->Mem->Prop
 | z {c m}:Run V 0 c m c m
 | s {n op c m k c' m'}:StpOk n op c m->V c.pc->Run V k (stp n op c m).1 (stp n op c m).2 c' m'->Run V (k+1) c m c' m'
theorem Run.app{V:Int->Prop}{k l:Nat}{c c' c'':Cpu}{m m' m'':Mem}(h:Run V k c m c' m')(h2:Run V l c' m' c'' m''):Run V (l+k) c m c'' m'':=by
 induction h with
 | z=>exact h2
 | s a v _ ih=>exact .s a v (ih h2)
theorem wn{n:Nat}{op:Op}{c:Cpu}{m:Mem}(h:Ok c m):Ok (stp n op c m).1 (stp n op c m).2:=wj (wV (wh h _)) _
structure As where
 a:Int
 x:Int
 y:Int
 s:Int
 f:Fl
 P:Mem
variable {A A':As}
noncomputable def As.cp(A:As)(pc ex:Int)(ac:PV)(cy:Int)(nm st:PV):Cpu:=⟨pc,A.s,A.a,A.x,A.y,A.f,ex,ac,cy,nm,st⟩
noncomputable def As.rg(A:As):Rg->Int
 | .a=>A.a | .x=>A.x | .y=>A.y
noncomputable def As.ofC(A:As)(c:Cpu):As:=⟨c.a,c.x,c.y,A.s,c.f,A.P⟩
noncomputable def As.c0(A:As):Cpu:=A.cp 0 0 .none 0 .none .none
noncomputable def As.rd(A:As)(r:Rd)(v:Int):As:=A.ofC (rdF r A.c0 v)
noncomputable def As.put(A:As)(g:Rg)(v:Int):As:=A.ofC (A.c0.put g v)
structure Is(A:As)(pc:Int)(c:Cpu)(m:Mem):Prop where
 ok:Ok c m
 rg:∃ex ac cy nm st,c=A.cp pc ex ac cy nm st
 mem:m=A.P
structure OkA(A:As):Prop where
 s:isB A.s
 a:isB A.a
 x:isB A.x
 y:isB A.y
 P:Bts A.P
theorem Is.okA{c:Cpu}{m:Mem}(i:Is A pc c m):OkA A:=by
 obtain⟨o,⟨ex,ac,cy,nm,st,rfl⟩,rfl⟩:=i;exact⟨o.sp,o.a,o.x,o.y,o.mem⟩
theorem Is.pcE{c:Cpu}{m:Mem}(i:Is A pc c m):c.pc=pc:=by
 obtain⟨_,⟨ex,ac,cy,nm,st,rfl⟩,_⟩:=i;rfl
noncomputable def At(K:Int->Int):Int->List Int->Prop
 | _,[]=>True
 | p,b::r=>K p=b/\At K (p+1) r
def St1(A:As)(pc:Int)(B:As)(pc':Int):Prop:=∀c m,Is A pc c m->∃n op,StpOk n op c m/\Is B pc' (stp n op c m).1 (stp n op c m).2
theorem adF{m:Mem}{u:Int}(h:m.length=65536)(h0:0<=u)(h1:u<65536):jp m u:=⟨h0,by rw[h];exact h1,Int.lt_trans h1 (by decide)⟩
theorem go{B:As}{pc':Int}{n:Nat}{op:Op}(hl:A.P.length=65536)(hn:n∈opL/\YJ n=some op)(hk:rd A.P pc=n)(h0:0<=pc)(h1:pc<65535)(h2:0<=pc')(h3:pc'<65536)
  (h:OkA A->∀ex ac cy nm st,iN op (A.cp (pc+1) ex (.int ac) cy nm st) A.P /\ ∃ex',xop op (A.cp (pc+1) ex (.int ac) cy nm st) A.P=(B.cp pc' ex' (.int ac) cy nm st,B.P)):St1 A pc B pc':=λc m i=>by
 have oa:=i.okA;obtain⟨o,⟨ex,ac,cy,nm,st,rfl⟩,rfl⟩:=i;have e1:(pc+1)%65536=pc+1:=Int.emod_eq_of_lt (zo (zq (zk h0)) rfl) (zQ (zq (zJ h1)) rfl);refine zh (h oa 0 (xcT n) cy nm st) λg1 Fy=>?_;obtain⟨ex',g2⟩:=Fy
 have es:st1 (A.cp pc ex ac cy nm st) (xcT n)=A.cp (pc+1) 0 (.int (xcT n)) cy nm st:=by
  show Cpu.mk _ _ _ _ _ _ _ _ _ _ _=_;rw[show(A.cp pc ex ac cy nm st).pc=pc from rfl,e1];rfl
 refine(jL n op ⟨adF hl h0 (by show pc<65536;exact zQ (zJ h1) rfl),hk,hn.1,hn.2,by rw[es];exact g1,o⟩ ⟨wn o,?_,?_⟩)
 ·unfold stp
  rw[es,g2];refine(zm ex' (.int (xcT n)) (cy+(cyT n+ex')) (Jo nm st ?_));show Cpu.mk _ _ _ _ _ _ _ _ _ _ _=_;rw[show(B.cp pc' ex' (.int (xcT n)) cy nm st).pc=pc' from rfl,Int.emod_eq_of_lt h2 h3];rfl
 ·unfold stp;rw[es,g2]
set_option genCtorIdx false in
inductive F where
 | rI (r:Rd) (v:Int)
 | rZ (r:Rd) (u:Int)
 | rX (r:Rd) (u:Int)
 | rB (w:Int)
 | cI (g:Rg) (v:Int)
 | cZ (g:Rg) (u:Int)
 | cX (u:Int)
 | sZ (g:Rg) (u:Int)
 | sA (w:Int)
 | sB (w:Int)
 | mZ (r:Rm) (u:Int)
 | ac (r:Rm)
 | fl (b:Nat) (on:Bool)
 | tr (g h:Rg)
 | upx | upy | dnx
 | tsx | txs | php | plp | pha | pla | nop
noncomputable def cI':Rd->Nat
 | .ora=>9 | .and=>41 | .eor=>73 | .adc=>105 | .sbc=>233 | .lda=>169 | .ldx=>162 | _=>0
noncomputable def cZ':Rd->Nat
 | .ora=>5 | .and=>37 | .eor=>69 | .adc=>101 | .sbc=>229 | .lda=>165 | .ldx=>166 | .ldy=>164 | .bit=>36
noncomputable def cX':Rd->Nat
 | .ora=>21 | .and=>53 | .eor=>85 | .adc=>117 | .sbc=>245 | .lda=>181 | _=>0
noncomputable def cCI:Rg->Nat
 | .a=>201 | .x=>224 | .y=>192
noncomputable def cCZ:Rg->Nat
 | .a=>197 | .x=>228 | .y=>0
noncomputable def cSZ:Rg->Nat
 | .a=>133 | .x=>134 | .y=>132
noncomputable def cM:Rm->Nat
 | .asl=>6 | .rol=>38 | .lsr=>70 | .ror=>102 | .dec=>198 | .inc=>230
noncomputable def cA:Rm->Nat
 | .asl=>10 | .rol=>42 | .lsr=>74 | .ror=>106 | _=>0
noncomputable def cF:Nat->Bool->Nat
 | 0,false=>24 | 0,true=>56 | 6,false=>184 | 2,false=>88 | 2,true=>120 | _,_=>0
noncomputable def cT:Rg->Rg->Nat
 | .x,.a=>138 | .a,.x=>170 | _,_=>0
noncomputable def F.cd:F->Nat
 | .rI r _=>cI' r | .rZ r _=>cZ' r | .rX r _=>cX' r | .rB _=>185 | .cI g _=>cCI g | .cZ g _=>cCZ g | .cX _=>213 | .sZ g _=>cSZ g | .sA _=>141 | .sB _=>153
 | .mZ r _=>cM r | .ac r=>cA r | .fl b on=>cF b on | .tr g h=>cT g h | .upx=>232 | .upy=>200 | .dnx=>202 | .tsx=>186 | .txs=>154 | .php=>8 | .plp=>40 | .pha=>72 | .pla=>104 | .nop=>234
noncomputable def F.op:F->Op
 | .rI r _=>.rd r .pc | .rZ r _=>.rd r .zp | .rX r _=>.rd r .zpx | .rB _=>.rd .lda .aby | .cI g _=>.cmp g .pc | .cZ g _=>.cmp g .zp | .cX _=>.cmp .a .zpx | .sZ g _=>.sto g .zp | .sA _=>.sto .a .ab | .sB _=>.sto .a .aby
 | .mZ r _=>.rmw r .zp | .ac r=>.acc r | .fl b on=>.flag b on | .tr g h=>.tr g h | .upx=>.upx | .upy=>.upy | .dnx=>.dnx | .tsx=>.tsx | .txs=>.txs | .php=>.php | .plp=>.plp | .pha=>.pha | .pla=>.pla | .nop=>.nop
noncomputable def F.ag:F->List Int
 | .rI _ v=>[v] | .rZ _ u=>[u] | .rX _ u=>[u] | .rB w=>[w%256,w/256] | .cI _ v=>[v] | .cZ _ u=>[u] | .cX u=>[u] | .sZ _ u=>[u] | .sA w=>[w%256,w/256] | .sB w=>[w%256,w/256] | .mZ _ u=>[u]
 | _=>[]
noncomputable def F.by(q:F):List Int:=(q.cd:Int)::q.ag
noncomputable def F.ex(A:As):F->As
 | .rI r v=>A.rd r v
 | .rZ r u=>A.rd r (Mine.rd A.P u)
 | .rX r u=>A.rd r (Mine.rd A.P ((A.x+u)%256))
 | .rB w=>A.rd .lda (Mine.rd A.P (w+A.y))
 | .cI g v=>A.ofC (V2 A.c0 (A.rg g) v)
 | .cZ g u=>A.ofC (V2 A.c0 (A.rg g) (Mine.rd A.P u))
 | .cX u=>A.ofC (V2 A.c0 A.a (Mine.rd A.P ((A.x+u)%256)))
 | .sZ g u=>{ A with P:=wr A.P u (A.rg g) }
 | .sA w=>{ A with P:=wr A.P w A.a }
 | .sB w=>{ A with P:=wr A.P (w+A.y) A.a }
 | .mZ r u=>{ A with f:=rmF r A.f (Mine.rd A.P u),P:=wr A.P u (rmT r A.f (Mine.rd A.P u)) }
 | .ac r=>{ A with f:=rmF r A.f A.a,a:=rmT r A.f A.a }
 | .fl b on=>{ A with f:=A.f.to on b }
 | .tr g h=>A.put h (A.rg g)
 | .upx=>A.put .x ((A.x+1)%256)
 | .upy=>A.put .y ((A.y+1)%256)
 | .dnx=>A.put .x ((A.x-1)%256)
 | .tsx=>{ A with x:=A.s,f:=nzF A.f A.s }
 | .txs=>{ A with s:=A.x }
 | .php=>{ A with s:=(A.s-1)%256,P:=wr A.P (A.s+256) (pk { A.f with b:=true,u:=true }) }
 | .plp=>{ A with s:=(A.s+1)%256,f:=plF (Mine.rd A.P ((A.s+1)%256+256)) }
 | .pha=>{ A with s:=(A.s-1)%256,P:=wr A.P (A.s+256) A.a }
 | .pla=>{ A with s:=(A.s+1)%256,a:=Mine.rd A.P ((A.s+1)%256+256),f:=nzF A.f (Mine.rd A.P ((A.s+1)%256+256)) }
 | .nop=>A
def wOk(w y:Int):Prop:=0<=w/\w+y<65536
noncomputable def F.ok(A:As):F->Prop
 | .rI r _=>rdD r A.f
 | .rZ r u=>isB u/\rdD r A.f
 | .rX r u=>rdD r A.f
 | .rB w=>wOk w A.y
 | .cZ _ u=>isB u
 | .sZ _ u=>isB u
 | .sA w=>wOk w 0
 | .sB w=>wOk w A.y
 | .mZ _ u=>isB u
 | _=>True
theorem inO{n:Nat}(h:opL.any (Nat.beq n)=true):n∈opL:=by
 refine zd (List.any_eq_true.mp h) λm hm e=>?_;rw[Nat.eq_of_beq_eq_true e];exact hm
theorem F.wf(q:F)(h:q.cd≠0):q.cd∈opL/\YJ q.cd=some q.op:=by
 cases q with
 | rI r _=>cases r<;>first | exact absurd rfl h | exact⟨inO rfl,rfl⟩
 | rZ r _=>cases r<;>first | exact absurd rfl h | exact⟨inO rfl,rfl⟩
 | rX r _=>cases r<;>first | exact absurd rfl h | exact⟨inO rfl,rfl⟩
 | cI g _=>cases g<;>first | exact absurd rfl h | exact⟨inO rfl,rfl⟩
 | cZ g _=>cases g<;>first | exact absurd rfl h | exact⟨inO rfl,rfl⟩
 | sZ g _=>cases g<;>first | exact absurd rfl h | exact⟨inO rfl,rfl⟩
 | mZ r _=>cases r<;>first | exact absurd rfl h | exact⟨inO rfl,rfl⟩
 | ac r=>cases r<;>first | exact absurd rfl h | exact⟨inO rfl,rfl⟩
 | fl b on =>
  match b,on,h with
  | 0,false,_ | 0,true,_ | 6,false,_ | 2,false,_ | 2,true,_=>exact⟨inO rfl,rfl⟩
  | 6,true,h | 1,_,h | 3,_,h | 4,_,h | 5,_,h | _+7,_,h=>exact absurd rfl h
 | tr g h'=>cases g<;>cases h'<;>first | exact absurd rfl h | exact⟨inO rfl,rfl⟩
 | _=>exact⟨inO rfl,rfl⟩
theorem vD{r:Rd}{v ex pc':Int}{nm st:PV}(A:As):({ rdF r (A.cp pc ex ac cy nm st) v with pc:=pc' }:Cpu)=(A.rd r v).cp pc' ex ac cy nm st:=by cases r<;>rfl
theorem iZ{g:Rg}{ex:Int}{nm st:PV}(A:As):(A.cp pc ex ac cy nm st).rg g=A.rg g:=by cases g<;>rfl
theorem vB{g:Rg}{v ex:Int}{nm st:PV}(A:As):(A.cp pc ex ac cy nm st).put g v=(A.put g v).cp pc ex ac cy nm st:=by cases g<;>rfl
theorem jn(x:Int):isB (x%256):=bl x
theorem kM{P:Mem}{w:Int}(h1:rd P pc=w%256)(h2:rd P (pc+1)=w/256):wd P pc=w:=by unfold wd;rw[h1,h2];lia
section
theorem aN{r:Rd}{m:Md}{u l:Int}{n:Nat}(hl:A.P.length=65536)(hn:n∈opL/\YJ n=some (.rd r m))(hk:rd A.P pc=n)(h0:0<=pc)(h1:pc<65535)(hd:rdD r A.f)(e:pc+1+mdL m=l)(h2:0<=l)(h3:l<65536)
  (h:OkA A->∀ex ac cy nm st,Jl m (A.cp (pc+1) ex (.int ac) cy nm st) A.P/\eaA m (A.cp (pc+1) ex (.int ac) cy nm st) A.P=u/\0<=u/\u<65536):St1 A pc (A.rd r (rd A.P u)) l:=go hl hn hk h0 h1 h2 h3 λoa ex ac cy nm st=>by
 refine jN (h oa ex ac cy nm st) λg1 g2 g3 g4=>?_;refine⟨⟨g1,by rw[g2];exact adF hl g3 g4,hd⟩,eaX m (A.cp (pc+1) ex (.int ac) cy nm st) A.P,?_⟩
 show(({ rdF r { A.cp (pc+1) ex (.int ac) cy nm st with ex:=eaX m (A.cp (pc+1) ex (.int ac) cy nm st) A.P } (rd A.P (eaA m (A.cp (pc+1) ex (.int ac) cy nm st) A.P)) with pc:=pc+1+mdL m }:Cpu),A.P)=_
 rw[g2,e];exact congrArg (·,A.P) (vD (pc:=pc+1) A)
theorem ZB{g:Rg}{m:Md}{u l:Int}{n:Nat}(hl:A.P.length=65536)(hn:n∈opL/\YJ n=some (.cmp g m))(hk:rd A.P pc=n)(h0:0<=pc)(h1:pc<65535)(e:pc+1+mdL m=l)(h2:0<=l)(h3:l<65536)
  (h:OkA A->∀ex ac cy nm st,Jl m (A.cp (pc+1) ex (.int ac) cy nm st) A.P/\eaA m (A.cp (pc+1) ex (.int ac) cy nm st) A.P=u/\0<=u/\u<65536):St1 A pc (A.ofC (V2 A.c0 (A.rg g) (rd A.P u))) l:=go hl hn hk h0 h1 h2 h3 λoa ex ac cy nm st=>by
 refine jN (h oa ex ac cy nm st) λg1 g2 g3 g4=>?_;refine⟨⟨g1,by rw[g2];exact adF hl g3 g4⟩,eaX m (A.cp (pc+1) ex (.int ac) cy nm st) A.P,?_⟩
 show(({ V2 { A.cp (pc+1) ex (.int ac) cy nm st with ex:=eaX m (A.cp (pc+1) ex (.int ac) cy nm st) A.P } ((A.cp (pc+1) ex (.int ac) cy nm st).rg g) (rd A.P (eaA m (A.cp (pc+1) ex (.int ac) cy nm st) A.P)) with pc:=pc+1+mdL m }:Cpu),A.P)=_
 rw[g2,e,iZ];rfl
theorem ZC{g:Rg}{m:Md}{u l:Int}{n:Nat}(hl:A.P.length=65536)(hn:n∈opL/\YJ n=some (.sto g m))(hk:rd A.P pc=n)(h0:0<=pc)(h1:pc<65535)(e:pc+1+mdL m=l)(h2:0<=l)(h3:l<65536)
  (h:OkA A->∀ex ac cy nm st,Jl m (A.cp (pc+1) ex (.int ac) cy nm st) A.P/\eaA m (A.cp (pc+1) ex (.int ac) cy nm st) A.P=u/\0<=u/\u<65536):St1 A pc { A with P:=wr A.P u (A.rg g) } l:=go hl hn hk h0 h1 h2 h3 λoa ex ac cy nm st=>by
 refine jN (h oa ex ac cy nm st) λg1 g2 g3 g4=>?_;refine⟨⟨g1,by rw[g2];exact adF hl g3 g4⟩,eaX m (A.cp (pc+1) ex (.int ac) cy nm st) A.P,?_⟩
 show(({ A.cp (pc+1) ex (.int ac) cy nm st with ex:=eaX m (A.cp (pc+1) ex (.int ac) cy nm st) A.P,pc:=pc+1+mdL m }:Cpu),wr A.P (eaA m (A.cp (pc+1) ex (.int ac) cy nm st) A.P) ((A.cp (pc+1) ex (.int ac) cy nm st).rg g))=_
 rw[g2,e,iZ];rfl
theorem XD(hl:A.P.length=65536):VH A.P:=by unfold VH;rw[hl];decide
theorem F.sound(q:F)(hc:q.cd≠0)(ho:q.ok A)(hl:A.P.length=65536)(hk:At (rd A.P) pc q.by)(h0:0<=pc)(h1:pc<65530):St1 A pc (q.ex A) (pc+(q.by).length):=by
 have hn:=q.wf hc;have hk0:rd A.P pc=q.cd:=hk.1;have p0:pc<65535:=zQ (zJ h1) rfl;have ad1:jp A.P (pc+1):=adF hl (zo (zq (zk h0)) rfl) (zQ (zq (zJ p0)) rfl);have ad2:jp A.P (pc+1+1):=adF hl (zo (zq (zk ad1.1)) rfl) (by lia)
 have e1:pc+1+0=pc+1:=Int.add_zero _;have e2:pc+1+1=pc+2:=Int.add_assoc _ _ _;have e3:pc+1+2=pc+3:=Int.add_assoc _ _ _;have p2:(0:Int)<=pc+2/\pc+2<65536:=⟨zo (zq (zk h0)) rfl,by lia⟩
 have p3:(0:Int)<=pc+3/\pc+3<65536:=⟨zo (zq (zk h0)) rfl,by lia⟩
 have p1:(0:Int)<=pc+1/\pc+1<65536:=⟨ad1.1,zQ (zq (zJ p0)) rfl⟩
 cases q with
 | rI r v =>
  have hv:rd A.P (pc+1)=v:=hk.2.1
  have:=aN (l:=pc+2) (u:=pc+1) hl hn hk0 h0 p0 ho e2 p2.1 p2.2 λoa ex ac cy nm st=>⟨trivial,rfl,p1.1,p1.2⟩
  rw[hv] at this;exact this
 | rZ r u=>exact aN hl hn hk0 h0 p0 ho.2 e2 p2.1 p2.2 λoa ex ac cy nm st=>⟨ad1,hk.2.1,ho.1.1,Int.lt_trans ho.1.2 (by decide)⟩
 | rX r u=>exact aN hl hn hk0 h0 p0 ho e2 p2.1 p2.2 λoa ex ac cy nm st=>⟨ad1,congrArg (λt=>(A.x+t)%256) hk.2.1,(jn _).1,Int.lt_trans (jn _).2 (by decide)⟩
 | rB w =>
  refine aN hl hn hk0 h0 p0 trivial e3 p3.1 p3.2 λoa ex ac cy nm st=>⟨⟨⟨ad1,ad2⟩,ac,rfl⟩,?_,?_,ho.2⟩
  ·show(wd A.P (pc+1)+A.y)%65536=w+A.y
   rw[kM hk.2.1 hk.2.2.1];exact Int.emod_eq_of_lt (Int.add_nonneg ho.1 oa.y.1) ho.2
  ·exact Int.add_nonneg ho.1 oa.y.1
 | cI g v =>
  have hv:rd A.P (pc+1)=v:=hk.2.1
  have:=ZB (l:=pc+2) (u:=pc+1) hl hn hk0 h0 p0 e2 p2.1 p2.2 λoa ex ac cy nm st=>⟨trivial,rfl,p1.1,p1.2⟩
  rw[hv] at this;exact this
 | cZ g u=>exact ZB hl hn hk0 h0 p0 e2 p2.1 p2.2 λoa ex ac cy nm st=>⟨ad1,hk.2.1,ho.1,Int.lt_trans ho.2 (by decide)⟩
 | cX u=>exact ZB hl hn hk0 h0 p0 e2 p2.1 p2.2 λoa ex ac cy nm st=>⟨ad1,congrArg (λt=>(A.x+t)%256) hk.2.1,(jn _).1,Int.lt_trans (jn _).2 (by decide)⟩
 | sZ g u=>exact ZC hl hn hk0 h0 p0 e2 p2.1 p2.2 λoa ex ac cy nm st=>⟨ad1,hk.2.1,ho.1,Int.lt_trans ho.2 (by decide)⟩
 | sA w=>exact ZC hl hn hk0 h0 p0 e3 p3.1 p3.2 λoa ex ac cy nm st=>⟨⟨ad1,ad2⟩,kM hk.2.1 hk.2.2.1,ho.1,(by have:=ho.2;exact zQ (EB ho.2) rfl)⟩
 | sB w =>
  refine ZC hl hn hk0 h0 p0 e3 p3.1 p3.2 λoa ex ac cy nm st=>⟨⟨⟨ad1,ad2⟩,ac,rfl⟩,?_,Int.add_nonneg ho.1 oa.y.1,ho.2⟩
  show(wd A.P (pc+1)+A.y)%65536=w+A.y
  rw[kM hk.2.1 hk.2.2.1];exact Int.emod_eq_of_lt (Int.add_nonneg ho.1 oa.y.1) ho.2
 | mZ r u =>
  have e:rd A.P (pc+1)=u:=hk.2.1;refine go hl hn hk0 h0 p0 p2.1 p2.2 λoa ex ac cy nm st=>⟨⟨ad1,?_⟩,ex,?_⟩
  ·show jp A.P (rd A.P (pc+1))
   rw[e];exact adF hl ho.1 (Int.lt_trans ho.2 (by decide))
  ·show(Cpu.mk (pc+1+1) _ _ _ _ (rmF r A.f (rd A.P (rd A.P (pc+1)))) _ _ _ _ _,wr A.P (rd A.P (pc+1)) (rmT r A.f (rd A.P (rd A.P (pc+1)))))=_
   rw[e,e2];rfl
 | ac r=>exact go hl hn hk0 h0 p0 p1.1 p1.2 λoa ex ac cy nm st=>⟨trivial,ex,rfl⟩
 | fl b on=>exact go hl hn hk0 h0 p0 p1.1 p1.2 λoa ex ac cy nm st=>⟨trivial,ex,rfl⟩
 | tr g h=>exact go hl hn hk0 h0 p0 p1.1 p1.2 λoa ex ac cy nm st=>⟨trivial,ex,by show(Cpu.put _ h _,A.P)=_;rw[iZ,vB];cases h<;>rfl⟩
 | upx=>exact go hl hn hk0 h0 p0 p1.1 p1.2 λoa ex ac cy nm st=>⟨trivial,ex,rfl⟩
 | upy=>exact go hl hn hk0 h0 p0 p1.1 p1.2 λoa ex ac cy nm st=>⟨trivial,ex,rfl⟩
 | dnx=>exact go hl hn hk0 h0 p0 p1.1 p1.2 λoa ex ac cy nm st=>⟨trivial,ex,rfl⟩
 | tsx=>exact go hl hn hk0 h0 p0 p1.1 p1.2 λoa ex ac cy nm st=>⟨trivial,ex,rfl⟩
 | txs=>exact go hl hn hk0 h0 p0 p1.1 p1.2 λoa ex ac cy nm st=>⟨trivial,ex,rfl⟩
 | php=>exact go hl hn hk0 h0 p0 p1.1 p1.2 λoa ex ac cy nm st=>⟨XD hl,ex,rfl⟩
 | plp=>exact go hl hn hk0 h0 p0 p1.1 p1.2 λoa ex ac cy nm st=>⟨XD hl,ex,rfl⟩
 | pha=>exact go hl hn hk0 h0 p0 p1.1 p1.2 λoa ex ac cy nm st=>⟨XD hl,ex,rfl⟩
 | pla=>exact go hl hn hk0 h0 p0 p1.1 p1.2 λoa ex ac cy nm st=>⟨XD hl,ex,rfl⟩
 | nop=>exact go hl hn hk0 h0 p0 p1.1 p1.2 λoa ex ac cy nm st=>⟨trivial,ex,rfl⟩
end
noncomputable def F.wa(A:As):F->Option Int
 | .sZ _ u=>some u | .sA w=>some w | .sB w=>some (w+A.y) | .mZ _ u=>some u | .php=>some (A.s+256) | .pha=>some (A.s+256) | _=>none
def Wr(B u:Int):Prop:=0<=u/\(u<1024∨u=B∨u=B+1)
def Kp(K:Int->Int)(B:Int)(P:Mem):Prop:=∀u,1024<=u->u≠B->u≠B+1->rd P u=K u
theorem Kp.wr{K:Int->Int}{B:Int}{P:Mem}(h:Kp K B P){u z:Int}(hl:P.length=65536)(hu:Wr B u)(hB:1024<=B/\B<65000):Kp K B (wr P u z):=λt t0 t1 t2=>by
 rw[zB hu.1 (zo (zk t0) rfl) (by rcases hu.2 with h | h | h<;>(first | exact iV (zk t0) (zJ h) rfl | lia))]
 exact h t t0 t1 t2
theorem F.exP(q:F)(A:As):(q.ex A).P=A.P ∨ ∃u z,q.wa A=some u/\(q.ex A).P=Mine.wr A.P u z:=by
 cases q with
 | sZ g u=>exact .inr (jL _ _ rfl rfl)
 | sA w=>exact .inr (jL _ _ rfl rfl)
 | sB w=>exact .inr (jL _ _ rfl rfl)
 | mZ r u=>exact .inr (jL _ _ rfl rfl)
 | php=>exact .inr (jL _ _ rfl rfl)
 | pha=>exact .inr (jL _ _ rfl rfl)
 | _=>exact .inl rfl
structure Iv(K:Int->Int)(B:Int)(P:Mem):Prop where
 len:P.length=65536
 kp:Kp K B P
 b:1024<=B/\B<65000
theorem Iv.ex{K:Int->Int}{B:Int}(i:Iv K B A.P){q:F}(h:∀u,q.wa A=some u->Wr B u):Iv K B (q.ex A).P:=by
 rcases q.exP A with e | ⟨u,z,e1,e⟩
 ·rw[e];exact i
 ·rw[e];exact⟨zG.trans i.len,i.kp.wr i.len (h u e1) i.b,i.b⟩
def Rn(stop:Int)(n:Nat)(A:As)(pc:Int)(B:As)(pc':Int):Prop:=∀c m,Is A pc c m->∃c' m',Run (λp=>p≠stop) n c m c' m'/\Is B pc' c' m'
section
variable {stop q r:Int}{B C:As}{n l:Nat}
theorem Rn.nil:Rn stop 0 A pc A pc:=λc m i=>(jL c m .z i)
theorem Rn.cons(h:St1 A pc B q)(hp:pc≠stop)(t:Rn stop n B q C r):Rn stop (n+1) A pc C r:=λc m i=>by
 refine yo (h c m i) λk op s j=>?_;refine yo (t _ _ j) λc' m' u i'=>?_;exact(jL c' m' (.s s (by rw[i.pcE];exact hp) u) i')
theorem Rn.app(h:Rn stop n A pc B q)(t:Rn stop l B q C r):Rn stop (l+n) A pc C r:=λc m i=>by
 refine yo (h c m i) λc' m' u i'=>?_;refine yo (t _ _ i') λc2 m2 u2 i2=>?_;exact(jL c2 m2 (u.app u2) i2)
end
noncomputable def XB:As->List F->As
 | A,[]=>A
 | A,q::r=>XB (q.ex A) r
noncomputable def byL:List F->List Int
 | []=>[]
 | q::r=>q.by++byL r
noncomputable def okL(B:Int):As->List F->Prop
 | _,[]=>True
 | A,q::r=>Nat.blt 0 q.cd=true/\q.ok A/\(∀u,q.wa A=some u->Wr B u)/\okL B (q.ex A) r
theorem At.app{K:Int->Int}:∀{l r:List Int} {pc:Int},At K pc (l++r)->At K pc l/\At K (pc+l.length) r
 | [],r,pc,h=>⟨trivial,by show At K (pc+0) r;rw[Int.add_zero];exact h⟩
 | b::l,r,pc,h=>by
  obtain⟨h1,h2⟩:=At.app (l:=l) h.2;refine⟨⟨h.1,h1⟩,?_⟩;rw[show pc+((b::l).length:Int)=pc+1+(l.length:Int) by rw[List.length_cons];lia]
  exact h2
theorem At.to{K:Int->Int}{B:Int}{P:Mem}(hK:Kp K B P):∀{l:List Int} {pc:Int},At K pc l->1024<=pc->(pc+l.length<=B∨B+2<=pc)->At (rd P) pc l
 | [],_,_,_,_=>trivial
 | b::l,pc,h,h0,h1=>by
  have e:((b::l).length:Int)=l.length+1:=by rw[List.length_cons];lia
  rw[e] at h1;exact⟨(hK pc h0 (by lia) (by lia)).trans h.1,At.to hK h.2 (zo (zq (zk h0)) rfl) (by lia)⟩
theorem sG(q:F):1<=(q.by).length:=Nat.le_add_left 1 _
theorem F.run{K:Int->Int}{B stop:Int}:∀(l:List F) {A:As} {pc:Int},okL B A l->Iv K B A.P->At K pc (byL l)->1024<=pc->pc+(byL l).length<=65000->(pc+(byL l).length<=B∨B+2<=pc)->pc+(byL l).length<=stop->Rn stop l.length A pc (XB A l) (pc+(byL l).length)/\Iv K B (XB A l).P
 | [],A,pc,_,i,_,_,_,_,_=>⟨by show Rn stop 0 A pc A (pc+0);rw[Int.add_zero];exact .nil,i⟩
 | q::l,A,pc,ho,i,hk,h0,h1,h2,hs=>by
  have e1:((byL (q::l)).length:Int)=(q.by).length+(byL l).length:=by show((q.by++byL l).length:Int)=_;rw[List.length_append];lia
  have p:=sG q;refine zh hk.app λk1 k2=>?_;refine jN ho λo1 o2 o3 o4=>?_;rw[e1] at h1 h2 hs ⊢;rw[<- Int.add_assoc]
  have⟨r1,r2⟩:=F.run (stop:=stop) l o4 (i.ex o3) k2 (zo (qq (zk h0) U8) rfl) (by lia) (by lia) (by lia)
  exact⟨.cons (F.sound q (Nat.ne_of_gt (Nat.le_of_ble_eq_true o1)) o2 i.len (At.to i.kp k1 h0 (by lia)) (zo (zk h0) rfl) (by lia)) (by lia) r1,r2⟩
noncomputable def YO(B T:Int):List F:=[.rZ .ldy 16,.rB T,.sA B,.upy,.rB T,.sA (B+1),.upy,.sZ .y 16,.rZ .lda 18,.pha,.rZ .lda 17,.plp]
noncomputable def QV(n:Int):List F:=[.sZ .a 17,.php,.pla,.sZ .a 18,.rZ .ldy 16,.rZ .lda 17,.sB 768,.rZ .lda 18,.sB 769,.cI .y n]
noncomputable def vw(B j op v:Int)(A:As):As:=⟨rd A.P 17,A.x,2*j+2,A.s,plF (rd A.P 18),wr (wr (wr (wr A.P B op) (B+1) v) 16 (2*j+2)) (A.s+256) (rd A.P 18)⟩
noncomputable def UL(j:Int)(A:As):Mem:=wr (wr (wr (wr (wr A.P 17 A.a) (A.s+256) (pk A.f)) 18 (pk A.f)) (770+2*j) A.a) (771+2*j) (pk A.f)
noncomputable def cpy(y n:Int)(f:Fl):Fl:={ f with c:=decide (n<=y),z:=decide (y=n),n:=bt 7 (y-n) }
theorem rV{s:Int}(h:isB s):((s-1)%256+1)%256=s:=yB (n:=256) (P:=λs=>((s-1)%256+1)%256=s) (by decide +kernel) h.1 h.2
theorem U9{P:Mem}{u z t:Int}(hl:P.length=65536)(h0:0<=u)(h1:u<65536):rd (wr P u z) u=z:=by rw[BR (adF hl h0 h1) h0,if_pos rfl]
theorem b16:isB 16:=⟨by decide,by decide⟩
theorem b17:isB 17:=⟨by decide,by decide⟩
theorem b18:isB 18:=⟨by decide,by decide⟩
theorem wNo{q:F}{B:Int}(h:q.wa A=none):∀u,q.wa A=some u->Wr B u:=λu e=>by rw[h] at e;cases e
theorem wSo{q:F}{B t:Int}(h:q.wa A=some t)(w:Wr B t):∀u,q.wa A=some u->Wr B u:=λu e=>by rw[h] at e;cases e;exact w
section
variable {K:Int->Int}{B T j op v:Int}
theorem wlo{u:Int}(h:isB u):Wr B u:=⟨h.1,.inl (Int.lt_trans h.2 (by decide))⟩
theorem wst{s:Int}(h:isB s):Wr B (s+256):=by obtain⟨a,b⟩:=h;exact⟨zo (zq (zk a)) rfl,.inl (zQ (zq (zJ b)) rfl)⟩
theorem vy(i:Iv K B A.P)(hy:rd A.P 16=2*j)(hj:0<=j/\j<16)(hT:4096<=T/\T<4400)(hs:isB A.s):okL B A (YO B T):=by
 have hb:=i.b;refine⟨rfl,⟨b16,trivial⟩,wNo rfl,rfl,?_,wNo rfl,rfl,⟨zo (zk hb.1) rfl,zQ (zq (zJ hb.2)) rfl⟩,wSo rfl ⟨zo (zk hb.1) rfl,.inr (.inl rfl)⟩,rfl,trivial,wNo rfl,rfl,?_,wNo rfl,rfl,⟨zo (zq (zk hb.1)) rfl,zQ (zq (zq (zJ hb.2))) rfl⟩,wSo rfl ⟨zo (zq (zk hb.1)) rfl,.inr (.inr rfl)⟩,rfl,trivial,wNo rfl,rfl,b16,wSo rfl (wlo b16),rfl,⟨b18,trivial⟩,wNo rfl,rfl,trivial,wSo rfl (wst hs),rfl,⟨b17,trivial⟩,wNo rfl,rfl,trivial,wNo rfl,trivial⟩
 ·show wOk T (rd A.P 16)
  rw[hy];exact⟨zo (zk hT.1) rfl,zQ (qq (zJ hT.2) (jr (zJ hj.2))) rfl⟩
 ·show wOk T ((rd A.P 16+1)%256)
  rw[hy];exact⟨zo (zk hT.1) rfl,zQ (qq (zJ hT.2) (ZR rfl)) rfl⟩
theorem vx(i:Iv K B A.P)(hy:rd A.P 16=2*j)(hj:0<=j/\j<16)(hT:4096<=T/\T<4400)(hB:20000<=B)(hs:isB A.s)(h1:rd A.P (T+2*j)=op)(h2:rd A.P (T+2*j+1)=v):XB A (YO B T)=vw B j op v A:=by
 have hb:=i.b;have hl:=i.len;obtain⟨s0,s1⟩:=id hs;have e1:(2*j+1)%256=2*j+1:=Int.emod_eq_of_lt (zo (zq (jr (zk hj.1))) rfl) (zQ (zq (jr (zJ hj.2))) rfl);have e2:(2*j+1+1)%256=2*j+2:=by rw[Int.emod_eq_of_lt (zo (zq (zq (jr (zk hj.1)))) rfl) (zQ (zq (zq (jr (zJ hj.2)))) rfl)];exact Int.add_assoc _ _ _
 have r1:rd (wr A.P B op) (T+(2*j+1))=v:=by rw[zB (zo (zk hb.1) rfl) (zo (qq (zk hT.1) (zq (jr (zk hj.1)))) rfl) (by lia),<- Int.add_assoc];exact h2
 have r2:∀t,t<1024->0<=t->t≠16->rd (wr (wr (wr A.P B op) (B+1) v) 16 (2*j+2)) t=rd A.P t:=λt t0 t1 t2=>by
  rw[zB (by decide) t1 t2,zB (zo (zq (zk hb.1)) rfl) t1 (JS (zJ t0) (zq (zk hb.1)) rfl),zB (zo (zk hb.1) rfl) t1 (JS (zJ t0) (zk hb.1) rfl)]
 have eP:wr (wr (wr A.P B (rd A.P (T+rd A.P 16))) (B+1) (rd (wr A.P B (rd A.P (T+rd A.P 16))) (T+(rd A.P 16+1)%256))) 16 (((rd A.P 16+1)%256+1)%256)=wr (wr (wr A.P B op) (B+1) v) 16 (2*j+2):=by
  rw[hy,h1,e1,r1,e2]
 show As.mk (rd (wr (wr (wr (wr A.P B (rd A.P (T+rd A.P 16))) (B+1) (rd (wr A.P B (rd A.P (T+rd A.P 16))) (T+(rd A.P 16+1)%256))) 16 (((rd A.P 16+1)%256+1)%256)) (A.s+256) (rd (wr (wr (wr A.P B (rd A.P (T+rd A.P 16))) (B+1) (rd (wr A.P B (rd A.P (T+rd A.P 16))) (T+(rd A.P 16+1)%256))) 16 (((rd A.P 16+1)%256+1)%256)) 18)) 17) A.x (((rd A.P 16+1)%256+1)%256) (((A.s-1)%256+1)%256)
  (plF (rd (wr (wr (wr (wr A.P B (rd A.P (T+rd A.P 16))) (B+1) (rd (wr A.P B (rd A.P (T+rd A.P 16))) (T+(rd A.P 16+1)%256))) 16 (((rd A.P 16+1)%256+1)%256)) (A.s+256) (rd (wr (wr (wr A.P B (rd A.P (T+rd A.P 16))) (B+1) (rd (wr A.P B (rd A.P (T+rd A.P 16))) (T+(rd A.P 16+1)%256))) 16 (((rd A.P 16+1)%256+1)%256)) 18)) (((A.s-1)%256+1)%256+256)))
  (wr (wr (wr (wr A.P B (rd A.P (T+rd A.P 16))) (B+1) (rd (wr A.P B (rd A.P (T+rd A.P 16))) (T+(rd A.P 16+1)%256))) 16 (((rd A.P 16+1)%256+1)%256)) (A.s+256) (rd (wr (wr (wr A.P B (rd A.P (T+rd A.P 16))) (B+1) (rd (wr A.P B (rd A.P (T+rd A.P 16))) (T+(rd A.P 16+1)%256))) 16 (((rd A.P 16+1)%256+1)%256)) 18))=vw B j op v A
 rw[eP,rV hs,r2 18 (by decide) (by decide) (by decide),U9 (t:=0) (by rw[zG,zG,zG];exact hl) (by lia) (by lia),zB (by lia) (by decide) (by lia),r2 17 (by decide) (by decide) (by decide),hy,e1,e2]
 rfl
end
section
variable {K:Int->Int}{B T j op v n stop:Int}
theorem qV{q:F}{l:List F}{C:As}(e:q.ex A=A')(h:XB A' l=C):XB A (q::l)=C:=by subst e;exact h
structure Bh(A:As)(j:Int):Prop where
 len:A.P.length=65536
 y16:rd A.P 16=2*j+2
 j:0<=j/\j<16
 s:isB A.s
 bu:A.f.b=true/\A.f.u=true
noncomputable def VA(j n:Int)(A:As):As:=⟨pk A.f,A.x,2*j+2,A.s,cpy (2*j+2) n A.f,UL j A⟩
theorem eO{f:Fl}(h:f.b=true/\f.u=true):({ f with b:=true,u:=true }:Fl)=f:=by
 obtain⟨a,b,c,d,e,g,h',k⟩:=f;obtain⟨rfl,rfl⟩:=h;rfl
theorem og(h:Bh A j):XB A (QV n)=VA j n A:=by
 obtain⟨hl,hy,⟨j0,j1⟩,hs,hbu⟩:=h;obtain⟨a,x,y,s,f,P⟩:=A;dsimp only at hl hy hs hbu;obtain⟨s0,s1⟩:=id hs;have l1:(wr P 17 a).length=65536:=zG.trans hl;have l2:(wr (wr P 17 a) (s+256) (pk f)).length=65536:=zG.trans l1;have l3:(wr (wr (wr P 17 a) (s+256) (pk f)) 18 (pk f)).length=65536:=zG.trans l2;refine qV (A':=⟨a,x,y,s,f,wr P 17 a⟩) rfl ?_;refine qV (A':=⟨a,x,y,(s-1)%256,f,wr (wr P 17 a) (s+256) (pk f)⟩) (by show As.mk _ _ _ _ _ (wr (wr P 17 a) (s+256) (pk { f with b:=true,u:=true }))=_;rw[eO hbu];try rfl) ?_
 refine qV (A':=⟨pk f,x,y,s,nzF f (pk f),wr (wr P 17 a) (s+256) (pk f)⟩) (by
  show As.mk (rd (wr (wr P 17 a) (s+256) (pk f)) (((s-1)%256+1)%256+256)) x y (((s-1)%256+1)%256) (nzF f (rd (wr (wr P 17 a) (s+256) (pk f)) (((s-1)%256+1)%256+256))) _=_;rw[rV hs,U9 (t:=0) l1 (by lia) (by lia)];try rfl) ?_
 refine qV (A':=⟨pk f,x,y,s,nzF f (pk f),wr (wr (wr P 17 a) (s+256) (pk f)) 18 (pk f)⟩) rfl ?_;have r16:rd (wr (wr (wr P 17 a) (s+256) (pk f)) 18 (pk f)) 16=2*j+2:=by rw[zB (by decide) (by decide) (by decide),zB (zo (zq (zk hs.1)) rfl) (by decide) (JS (Int.le_refl _) (zq (zk hs.1)) rfl),zB (by decide) (by decide) (by decide)];exact hy
 have r17:rd (wr (wr (wr P 17 a) (s+256) (pk f)) 18 (pk f)) 17=a:=by rw[zB (by decide) (by decide) (by decide),zB (zo (zq (zk hs.1)) rfl) (by decide) (JS (Int.le_refl _) (zq (zk hs.1)) rfl),U9 (t:=0) hl (by decide) (by decide)]
 refine qV (A':=⟨pk f,x,2*j+2,s,nzF (nzF f (pk f)) (2*j+2),wr (wr (wr P 17 a) (s+256) (pk f)) 18 (pk f)⟩) (by
  show As.mk _ _ (rd (wr (wr (wr P 17 a) (s+256) (pk f)) 18 (pk f)) 16) _ (nzF _ (rd (wr (wr (wr P 17 a) (s+256) (pk f)) 18 (pk f)) 16)) _=_;rw[r16];try rfl) ?_
 refine qV (A':=⟨a,x,2*j+2,s,nzF (nzF (nzF f (pk f)) (2*j+2)) a,wr (wr (wr P 17 a) (s+256) (pk f)) 18 (pk f)⟩) (by
  show As.mk (rd (wr (wr (wr P 17 a) (s+256) (pk f)) 18 (pk f)) 17) _ _ _ (nzF _ (rd (wr (wr (wr P 17 a) (s+256) (pk f)) 18 (pk f)) 17)) _=_;rw[r17];try rfl) ?_
 have e1:(768:Int)+(2*j+2)=770+2*j:=by lia
 have e2:(769:Int)+(2*j+2)=771+2*j:=by lia
 refine qV (A':=⟨a,x,2*j+2,s,nzF (nzF (nzF f (pk f)) (2*j+2)) a,wr (wr (wr (wr P 17 a) (s+256) (pk f)) 18 (pk f)) (770+2*j) a⟩) (by
  show As.mk _ _ _ _ _ (wr _ (768+(2*j+2)) a)=_;rw[e1];try rfl) ?_
 have r18:rd (wr (wr (wr (wr P 17 a) (s+256) (pk f)) 18 (pk f)) (770+2*j) a) 18=pk f:=by rw[zB (zo (jJ (jr (zk j0))) rfl) (by decide) (JS (Int.le_refl _) (jJ (jr (zk j0))) rfl),U9 (t:=0) l2 (by decide) (by decide)]
 refine qV (A':=⟨pk f,x,2*j+2,s,nzF (nzF (nzF (nzF f (pk f)) (2*j+2)) a) (pk f),wr (wr (wr (wr P 17 a) (s+256) (pk f)) 18 (pk f)) (770+2*j) a⟩) (by
  show As.mk (rd (wr (wr (wr (wr P 17 a) (s+256) (pk f)) 18 (pk f)) (770+2*j) a) 18) _ _ _ (nzF _ (rd (wr (wr (wr (wr P 17 a) (s+256) (pk f)) 18 (pk f)) (770+2*j) a) 18)) _=_;rw[r18];try rfl) ?_
 refine qV (A':=⟨pk f,x,2*j+2,s,nzF (nzF (nzF (nzF f (pk f)) (2*j+2)) a) (pk f),wr (wr (wr (wr (wr P 17 a) (s+256) (pk f)) 18 (pk f)) (770+2*j) a) (771+2*j) (pk f)⟩) (by
  show As.mk _ _ _ _ _ (wr _ (769+(2*j+2)) (pk f))=_;rw[e2];try rfl) ?_
 rfl
theorem oh(h:Bh A j):okL B A (QV n):=by
 obtain⟨hl,hy,⟨j0,j1⟩,hs,hbu⟩:=h;obtain⟨a,x,y,s,f,P⟩:=A;dsimp only at hl hy hs hbu;obtain⟨s0,s1⟩:=id hs;have yy:∀z w,rd (wr (wr (wr P 17 a) (s+256) z) 18 w) 16=2*j+2:=λz w=>by rw[zB (by decide) (by decide) (by decide),zB (zo (zq (zk hs.1)) rfl) (by decide) (JS (Int.le_refl _) (zq (zk hs.1)) rfl),zB (by decide) (by decide) (by decide)];exact hy
 refine⟨rfl,b17,wSo rfl (wlo b17),rfl,trivial,wSo rfl (wst hs),rfl,trivial,wNo rfl,rfl,b18,wSo rfl (wlo b18),rfl,⟨b16,trivial⟩,wNo rfl,rfl,⟨b17,trivial⟩,wNo rfl,rfl,?_,wSo rfl ?_,rfl,⟨b18,trivial⟩,wNo rfl,rfl,?_,wSo rfl ?_,rfl,trivial,wNo rfl,trivial⟩
 ·show wOk 768 (rd (wr (wr (wr P 17 a) (s+256) _) 18 _) 16)
  rw[yy];exact⟨by decide,zQ (jJ (zq (jr (zJ j1)))) rfl⟩
 ·show Wr B (768+rd (wr (wr (wr P 17 a) (s+256) _) 18 _) 16)
  rw[yy];exact⟨zo (jJ (zq (jr (zk j0)))) rfl,.inl (zQ (jJ (zq (jr (zJ j1)))) rfl)⟩
 ·show wOk 769 (rd (wr (wr (wr P 17 a) (s+256) _) 18 _) 16)
  rw[yy];exact⟨by decide,zQ (jJ (zq (jr (zJ j1)))) rfl⟩
 ·show Wr B (769+rd (wr (wr (wr P 17 a) (s+256) _) 18 _) 16)
  rw[yy];exact⟨zo (jJ (zq (jr (zk j0)))) rfl,.inl (zQ (jJ (zq (jr (zJ j1)))) rfl)⟩
theorem xo(hl:A.P.length=65536)(hk:At (rd A.P) pc [208,208])(h0:1024<=pc)(h1:pc<65000)(hz:A.f.z=false):St1 A pc A (pc-46):=
 go (op:=.bra 1 false) hl ⟨inO rfl,rfl⟩ hk.1 (zo (zk h0) rfl) (zQ (zJ h1) rfl) (zo (Qf (zk h0)) rfl) (zQ (Qf (zJ h1)) rfl) λoa ex ac cy nm st=>by
  have e1:rd A.P (pc+1)=208:=hk.2.1;refine⟨adF hl (u:=pc+1) (zo (zq (zk h0)) rfl) (zQ (zq (zJ h1)) rfl),?_⟩;show ∃ex',(cond (A.f.z==false) (cf (A.cp (pc+1) ex (.int ac) cy nm st) (rd A.P (pc+1))) ({ A.cp (pc+1) ex (.int ac) cy nm st with pc:=pc+1+1 }:Cpu),A.P)=_
  rw[hz,e1];refine⟨(cf (A.cp (pc+1) ex (.int ac) cy nm st) 208).ex,?_⟩
  show(Cpu.mk ((pc+1+1+208-256*b2 (bt 7 208))%65536) _ _ _ _ _ _ _ _ _ _,A.P)=_
  rw[show b2 (bt 7 208)=1 from rfl,show(pc+1+1+208-256*1)%65536=pc-46 by lia]
  rfl
theorem xn(hl:A.P.length=65536)(hk:At (rd A.P) pc [208,208])(h0:1024<=pc)(h1:pc<65000)(hz:A.f.z=true):St1 A pc A (pc+2):=
 go (op:=.bra 1 false) hl ⟨inO rfl,rfl⟩ hk.1 (zo (zk h0) rfl) (zQ (zJ h1) rfl) (zo (zq (zk h0)) rfl) (zQ (zq (zJ h1)) rfl) λoa ex ac cy nm st=>by
  refine⟨adF hl (u:=pc+1) (zo (zq (zk h0)) rfl) (zQ (zq (zJ h1)) rfl),ex,?_⟩
  show(cond (A.f.z==false) (cf (A.cp (pc+1) ex (.int ac) cy nm st) (rd A.P (pc+1))) ({ A.cp (pc+1) ex (.int ac) cy nm st with pc:=pc+1+1 }:Cpu),A.P)=_
  rw[hz,Int.add_assoc];rfl
end
noncomputable def rdK:Nat->Rd
 | 0=>.ora | 1=>.and | 2=>.eor | 3=>.adc | 4=>.sbc | _=>.lda
noncomputable def rmK:Nat->Rm
 | 11=>.asl | 12=>.rol | 13=>.lsr | 14=>.ror | 15=>.dec | _=>.inc
noncomputable def frm(w md:Nat)(v:Int):F:=match w with
 | 0 | 1 | 2 | 3 | 4 | 5=>(match md with | 0=>.rI (rdK w) v | 1=>.rZ (rdK w) v | _=>.rX (rdK w) v)
 | 6=>(match md with | 0=>.cI .a v | 1=>.cZ .a v | _=>.cX v)
 | 7=>(match md with | 0=>.rI .ldx v | _=>.rZ .ldx v)
 | 8=>(match md with | 0=>.cI .x v | _=>.cZ .x v)
 | 9=>.sZ .a v
 | 10=>.sZ .x v
 | 11 | 12 | 13 | 14=>(match md with | 3=>.ac (rmK w) | _=>.mZ (rmK w) v)
 | 15 | 16=>.mZ (rmK w) v
 | 17=>.rZ .bit v
 | 18=>.fl 0 false | 19=>.fl 0 true | 20=>.fl 6 false | 21=>.fl 2 false | 22=>.fl 2 true
 | 23=>.tr .a .x | 24=>.tr .x .a | 25=>.upx | 26=>.dnx | 27=>.pha | 28=>.pla | 29=>.tsx | 30=>.txs | 31=>.php | _=>.nop
def qC(op w md:Nat):Prop:=(op,w,md)∈qH
noncomputable def rwB(r:Nat×Nat×Nat):Bool:=Nat.blt 0 r.1&&(Nat.blt r.2.1 33&&Nat.blt r.2.2 4)
theorem vH(v:Int):qH.map (λr=>(frm r.2.1 r.2.2 v).by)=qH.map (λr=>(r.1:Int)::cond (Nat.beq r.2.2 3) [] [v]):=by kernel_rfl
theorem be{α β:Type}{f g:α->β}{x:α}:∀{l:List α},l.map f=l.map g->x∈l->f x=g x
 | _::_,e,h=>(List.mem_cons.mp h).elim (λq=>q▸(List.cons.inj e).1) (be (List.cons.inj e).2)
theorem oA:qH.all rwB=true:=by kernel_rfl
section
variable {op w:Nat}{v:Int}
theorem qC.by(h:qC op w md):(frm w md v).by=(op:Int)::cond (Nat.beq md 3) [] [v]:=be (vH v) h
theorem qC.cd(h:qC op w md):(frm w md v).cd=op:=Int.ofNat.inj (List.cons.inj (h.by (v:=v))).1
theorem qC.b(h:qC op w md):0<op/\w<33/\md<4:=by
 have:=List.all_eq_true.mp oA _ h
 obtain⟨a,b⟩:=za this;obtain⟨b,c⟩:=za b;exact⟨Nat.le_of_ble_eq_true a,Nat.le_of_ble_eq_true b,Nat.le_of_ble_eq_true c⟩
end
def Qc(md:Nat)(v:Int):Prop:=isB v/\(md=1->32<=v/\v<40)/\(md=3->v=234)
noncomputable def uK:Rd->Bool
 | .ldy=>false | _=>true
noncomputable def nY:Rg->Bool
 | .y=>false | _=>true
noncomputable def F.al(md:Nat):F->Bool
 | .rI r _=>uK r | .rZ r _=>uK r | .rX r _=>uK r | .cI _ _=>true | .cZ _ _=>true | .cX _=>true | .sZ _ _=>Nat.beq md 1 | .mZ _ _=>Nat.beq md 1 | .ac _=>true
 | .fl b _=>Nat.beq b 0||(Nat.beq b 6||Nat.beq b 2) | .tr _ h=>nY h | .upx=>true | .dnx=>true | .tsx=>true | .txs=>true | .php=>true | .pha=>true | .pla=>true | .nop=>true | _=>false
theorem vF(v:Int):qH.all (λr=>(frm r.2.1 r.2.2 v).al r.2.2)=true:=by kernel_rfl
structure Rw(md:Nat)(v:Int)(q:F):Prop where
 al:q.al md=true
 ag:∀u∈q.ag,u=v
 o:Qc md v
theorem qC.rw{op w md:Nat}{v:Int}(h:qC op w md)(ho:Qc md v):Rw md v (frm w md v):=by
 refine⟨List.all_eq_true.mp (vF v) _ h,λu hu=>?_,ho⟩;have e:(frm w md v).ag=cond (Nat.beq md 3) [] [v]:=(List.cons.inj (h.by (v:=v))).2;rw[e] at hu
 cases hb:Nat.beq md 3 with
 | true=>rw[hb] at hu;cases hu
 | false=>rw[hb] at hu;exact List.mem_singleton.mp hu
section
variable {v:Int}{q:F}{B:Int}
theorem iW{r:Rd}{f:Fl}(h:f.d=false):rdD r f:=by cases r<;>first | exact h | exact trivial
theorem Rw.b(h:Rw md v q){u:Int}(hu:u∈q.ag):isB u:=h.ag u hu▸h.o.1
theorem Rw.z(h:Rw md v q){u:Int}(hu:u∈q.ag)(hm:Nat.beq md 1=true):32<=u/\u<40:=h.ag u hu▸h.o.2.1 (Nat.eq_of_beq_eq_true hm)
theorem Rw.ok(h:Rw md v q)(hd:A.f.d=false):q.ok A:=by
 cases q with
 | rI r u=>exact iW hd
 | rZ r u=>exact⟨h.b (.head _),iW hd⟩
 | rX r u=>exact iW hd
 | cZ g u=>exact h.b (.head _)
 | sZ g u=>exact h.b (.head _)
 | mZ r u=>exact h.b (.head _)
 | rB w=>cases h.al
 | sA w=>cases h.al
 | sB w=>cases h.al
 | _=>exact trivial
theorem Rw.wa(h:Rw md v q):∀u,q.wa A=some u->(32<=u/\u<40)∨u=A.s+256:=λu e=>by
 cases q with
 | sZ g u'=>cases e;exact .inl (h.z (.head _) h.al)
 | mZ r u'=>cases e;exact .inl (h.z (.head _) h.al)
 | php=>cases e;exact .inr rfl
 | pha=>cases e;exact .inr rfl
 | sA w=>cases h.al
 | sB w=>cases h.al
 | _=>cases e
theorem Rw.wr(h:Rw md v q)(hs:isB A.s):∀u,q.wa A=some u->Wr B u:=λu e=>by
 rcases h.wa u e with ⟨a,b⟩ | rfl
 ·exact⟨zo (zk a) rfl,.inl (zQ (zJ b) rfl)⟩
 ·exact wst hs
theorem ZS{r:Rd}{u:Int}:(A.rd r u).f.d=A.f.d/\(A.rd r u).f.b=A.f.b/\(A.rd r u).f.u=A.f.u:=by cases r<;>exact⟨rfl,rfl,rfl⟩
theorem Rw.dbu(h:Rw md v q):(q.ex A).f.d=A.f.d/\(q.ex A).f.b=A.f.b/\(q.ex A).f.u=A.f.u:=by
 cases q with
 | rI r u=>exact ZS
 | rZ r u=>exact ZS
 | rX r u=>exact ZS
 | rB w=>cases h.al
 | tr g k=>cases k<;>exact⟨rfl,rfl,rfl⟩
 | fl b on =>
  rcases(Bool.or_eq_true _ _).mp h.al with e | e
  ·cases Nat.eq_of_beq_eq_true e;exact⟨rfl,rfl,rfl⟩
  ·rcases(Bool.or_eq_true _ _).mp e with e | e<;>(cases Nat.eq_of_beq_eq_true e;exact⟨rfl,rfl,rfl⟩)
 | plp=>cases h.al
 | _=>exact⟨rfl,rfl,rfl⟩
theorem OkA.ok(h:OkA A):Ok A.c0 A.P:=⟨Int.le_refl 0,h.s,h.a,h.x,h.y,h.P⟩
theorem OkA.of{c:Cpu}(h:Ok c A.P)(hs:isB A.s):OkA (A.ofC c):=⟨hs,h.a,h.x,h.y,h.mem⟩
theorem OkA.ex(q:F)(h:OkA A)(hv:∀u∈q.ag,isB u):OkA (q.ex A):=by
 have rb:=h.P.rd
 cases q with
 | rI r u=>exact .of (UR h.ok (hv u (.head _))) h.s
 | rZ r u=>exact .of (UR h.ok (rb _)) h.s
 | rX r u=>exact .of (UR h.ok (rb _)) h.s
 | rB w=>exact .of (UR h.ok (rb _)) h.s
 | cI g u=>exact⟨h.s,h.a,h.x,h.y,h.P⟩
 | cZ g u=>exact⟨h.s,h.a,h.x,h.y,h.P⟩
 | cX u=>exact⟨h.s,h.a,h.x,h.y,h.P⟩
 | sZ g u=>exact⟨h.s,h.a,h.x,h.y,h.P.wr _ (by cases g;exact h.a;exact h.x;exact h.y)⟩
 | sA w=>exact⟨h.s,h.a,h.x,h.y,h.P.wr _ h.a⟩
 | sB w=>exact⟨h.s,h.a,h.x,h.y,h.P.wr _ h.a⟩
 | mZ r u=>exact⟨h.s,h.a,h.x,h.y,h.P.wr _ (YU (rb _))⟩
 | ac r=>exact⟨h.s,YU h.a,h.x,h.y,h.P⟩
 | fl b on=>exact⟨h.s,h.a,h.x,h.y,h.P⟩
 | tr g k =>
  have hg:isB (A.rg g):=by cases g;exact h.a;exact h.x;exact h.y
  cases k
  ·exact⟨h.s,hg,h.x,h.y,h.P⟩
  ·exact⟨h.s,h.a,hg,h.y,h.P⟩
  ·exact⟨h.s,h.a,h.x,hg,h.P⟩
 | upx=>exact⟨h.s,h.a,jn _,h.y,h.P⟩
 | upy=>exact⟨h.s,h.a,h.x,jn _,h.P⟩
 | dnx=>exact⟨h.s,h.a,jn _,h.y,h.P⟩
 | tsx=>exact⟨h.s,h.a,h.s,h.y,h.P⟩
 | txs=>exact⟨h.x,h.a,h.x,h.y,h.P⟩
 | php=>exact⟨jn _,h.a,h.x,h.y,h.P.wr _ (yq _)⟩
 | pha=>exact⟨jn _,h.a,h.x,h.y,h.P.wr _ h.a⟩
 | plp=>exact⟨jn _,h.a,h.x,h.y,h.P⟩
 | pla=>exact⟨jn _,rb _,h.x,h.y,h.P⟩
 | nop=>exact h
end
noncomputable def eff(w md:Nat)(v:Int)(A:As):As:=(frm w md v).ex A
noncomputable def inP(B j op v:Int)(R:As):Mem:=wr (wr (wr (wr R.P B op) (B+1) v) 16 (2*j+2)) (R.s+256) (rd R.P 18)
noncomputable def mid(B j op v:Int)(R:As):As:=⟨R.a,R.x,2*j+2,R.s,R.f,inP B j op v R⟩
noncomputable def n8(j:Int)(R:As):As:=⟨R.a,R.x,R.y,R.s,R.f,UL j R⟩
noncomputable def tnR(B j:Int)(op w md:Nat)(v:Int)(R:As):As:=n8 j (eff w md v (mid B j op v R))
structure RI(K:Int->Int)(B j:Int)(R:As):Prop where
 ok:OkA R
 iv:Iv K B R.P
 y16:rd R.P 16=2*j
 a17:rd R.P 17=R.a
 f18:plF (rd R.P 18)=R.f
 d:R.f.d=false
 bu:R.f.b=true/\R.f.u=true
theorem BI(f:Fl):plF (pk f) = { f with b:=true,u:=true }:=by unfold plF;rw[qY]
section
variable {K:Int->Int}{B j op v:Int}{R:As}{w:Nat}
theorem ZJ(h:RI K B j R)(hj:0<=j/\j<16)(ho:isB op)(hv:isB v):OkA (mid B j op v R)/\Iv K B (inP B j op v R)/\rd (inP B j op v R) 16=2*j+2:=by
 have i:=h.iv;have hl:=i.len;have hb:=i.b;obtain⟨s0,s1⟩:=id h.ok.s;have hy:isB (2*j+2):=⟨zo (zq (jr (zk hj.1))) rfl,zQ (zq (jr (zJ hj.2))) rfl⟩;have l1:(wr R.P B op).length=65536:=zG.trans hl;have l2:(wr (wr R.P B op) (B+1) v).length=65536:=zG.trans l1;have l3:(wr (wr (wr R.P B op) (B+1) v) 16 (2*j+2)).length=65536:=zG.trans l2
 refine⟨⟨h.ok.s,h.ok.a,h.ok.x,hy,(((h.ok.P.wr _ ho).wr _ hv).wr _ hy).wr _ (h.ok.P.rd _)⟩,⟨zG.trans l3,?_,hb⟩,?_⟩
 ·exact(((i.kp.wr hl ⟨zo (zk hb.1) rfl,.inr (.inl rfl)⟩ hb).wr l1 ⟨zo (zq (zk hb.1)) rfl,.inr (.inr rfl)⟩ hb).wr l2 (wlo b16) hb).wr l3 (wst h.ok.s) hb
 ·unfold inP
  rw[zB (zo (zq (zk s0)) rfl) (by decide) (JS (Int.le_refl _) (zq (zk s0)) rfl),U9 (t:=0) l2 (by decide) (by decide)]
theorem Zp{q:F}(hq:Rw md v q)(h:OkA R)(i:Iv K B R.P)(hd:R.f.d=false)(hbu:R.f.b=true/\R.f.u=true)(h16:rd R.P 16=2*j+2)(hj:0<=j/\j<16):OkA (q.ex R)/\Iv K B (q.ex R).P/\Bh (q.ex R) j/\(q.ex R).f.d=false:=by
 have o:=h.ex q λu hu=>hq.b hu;have i':=i.ex (hq.wr h.s);refine yn (hq.dbu (A:=R)) λe1 e2 e3=>?_;refine⟨o,i',⟨i'.len,?_,hj,o.s,e2.trans hbu.1,e3.trans hbu.2⟩,e1.trans hd⟩
 rcases q.exP R with e | ⟨u,z,e,e'⟩
 ·rw[e];exact h16
 ·have hu:0<=u/\u≠16:=by
   rcases hq.wa u e with ⟨a,b⟩ | rfl
   ·exact⟨zo (zk a) rfl,iV (zk a) (Int.le_refl _) rfl⟩
   ·refine zh h.s λa b=>?_;exact⟨zo (zq (zk a)) rfl,iV (zq (zk a)) (Int.le_refl _) rfl⟩
  rw[e',zB hu.1 (by decide) hu.2.symm];exact h16
theorem vi(h:OkA R)(i:Iv K B R.P)(hb:Bh R j)(hd:R.f.d=false):RI K B (j+1) (n8 j R):=by
 obtain⟨hl,hy,⟨j0,j1⟩,hs,hbu⟩:=hb;obtain⟨s0,s1⟩:=id hs;have b:=i.b;have hp:=yq R.f;have l1:(wr R.P 17 R.a).length=65536:=zG.trans hl;have l2:(wr (wr R.P 17 R.a) (R.s+256) (pk R.f)).length=65536:=zG.trans l1;have l3:(wr (wr (wr R.P 17 R.a) (R.s+256) (pk R.f)) 18 (pk R.f)).length=65536:=zG.trans l2;have l4:(wr (wr (wr (wr R.P 17 R.a) (R.s+256) (pk R.f)) 18 (pk R.f)) (770+2*j) R.a).length=65536:=zG.trans l3;have e:∀t,0<=t->t<256->rd (UL j R) t=rd (wr (wr R.P 17 R.a) 18 (pk R.f)) t:=λt t0 t1=>by
  unfold UL;rw[zB (zo (jJ (jr (zk j0))) rfl) t0 (JS (zJ t1) (jJ (jr (zk j0))) rfl),zB (zo (jJ (jr (zk j0))) rfl) t0 (JS (zJ t1) (jJ (jr (zk j0))) rfl),bS (zo (zq (zk hs.1)) rfl) (by decide) (iV (zq (zk hs.1)) (Int.le_refl _) rfl),zB (zo (zq (zk hs.1)) rfl) t0 (JS (zJ t1) (zq (zk hs.1)) rfl)]
 refine⟨⟨hs,h.a,h.x,h.y,((((h.P.wr _ h.a).wr _ hp).wr _ hp).wr _ h.a).wr _ hp⟩,⟨zG.trans l4,?_,b⟩,?_,?_,?_,hd,hbu⟩
 ·exact((((i.kp.wr hl (wlo b17) b).wr l1 (wst hs) b).wr l2 (wlo b18) b).wr l3 ⟨zo (jJ (jr (zk j0))) rfl,.inl (zQ (jJ (jr (zJ j1))) rfl)⟩ b).wr l4 ⟨zo (jJ (jr (zk j0))) rfl,.inl (zQ (jJ (jr (zJ j1))) rfl)⟩ b
 ·show rd (UL j R) 16=_
  rw[e 16 (by decide) (by decide),zB (by decide) (by decide) (by decide),zB (by decide) (by decide) (by decide),hy];lia
 ·show rd (UL j R) 17=R.a
  rw[e 17 (by decide) (by decide),zB (by decide) (by decide) (by decide),U9 (t:=0) hl (by decide) (by decide)]
 ·show plF (rd (UL j R) 18)=R.f
  rw[e 18 (by decide) (by decide),U9 (t:=0) l1 (by decide) (by decide),BI,eO hbu]
theorem r7{o:Nat}(hr:qC o w md)(hv:Qc md v)(ho:isB (o:Int))(h:RI K B j R)(hj:0<=j/\j<16):RI K B (j+1) (tnR B j o w md v R):=by
 refine yn (ZJ (op:=(o:Int)) (v:=v) h hj ho hv.1) λm1 m2 m3=>?_;refine jN (Zp (R:=mid B j o v R) (hr.rw hv) m1 m2 h.d h.bu m3 hj) λe1 e2 e3 e4=>?_;exact vi e1 e2 e3 e4
end
structure Sm(A R:As):Prop where
 x:A.x=R.x
 s:A.s=R.s
 P:A.P=R.P
structure Cd(K:Int->Int)(b T n:Int):Prop where
 pre:At K b (byL (YO (b+24) T))
 post:At K (b+26) (byL (QV n))
 bne:At K (b+46) [208,208]
 b0:20000<=b
 b1:b<60000
 T:4096<=T/\T<4400
section
variable {K:Int->Int}{b T n j v:Int}{R:As}{w:Nat}
theorem eG{o:Nat}{M:As}(hr:qC o w md)(hv:Qc md v)(hm:OkA M)(hl:M.P.length=65536)(hd:M.f.d=false)(h1:rd M.P (b+24)=o)(h2:rd M.P (b+25)=v)(b0:20000<=b)(b1:b<60000):∃k,k<=2/\Rn (b+48) k M (b+24) (eff w md v M) (b+26):=by
 have hq:=hr.rw hv;have hc:(frm w md v).cd≠0:=by rw[hr.cd];exact Nat.ne_of_gt hr.b.1
 have hby:=hr.by (v:=v)
 cases hb:Nat.beq md 3 with
 | false =>
  rw[hb] at hby;have hk:At (rd M.P) (b+24) (frm w md v).by:=by rw[hby];exact⟨h1,by rw[show b+24+1=b+25 by lia];exact h2,trivial⟩
  have s:=F.sound (frm w md v) hc (hq.ok hd) hl hk (zo (zq (zk b0)) rfl) (zQ (zq (zJ b1)) rfl);rw[hby] at s;have e:b+24+(([(o:Int),v]:List Int).length:Int)=b+26:=by show b+24+2=_;exact Int.add_assoc _ _ _
  exact(zv 1 (by decide) (.cons (show St1 M (b+24) (eff w md v M) (b+26) from e▸s) (oq rfl) .nil))
 | true =>
  rw[hb] at hby;have hk:At (rd M.P) (b+24) (frm w md v).by:=by rw[hby];exact⟨h1,trivial⟩
  have s:=F.sound (frm w md v) hc (hq.ok hd) hl hk (zo (zq (zk b0)) rfl) (zQ (zq (zJ b1)) rfl);rw[hby] at s;have e:b+24+(([(o:Int)]:List Int).length:Int)=b+25:=by show b+24+1=_;exact Int.add_assoc _ _ _
  have hv':v=234:=hv.2.2 (Nat.eq_of_beq_eq_true hb);have hl2:(eff w md v M).P.length=65536:=by
   show((frm w md v).ex M).P.length=_
   rcases(frm w md v).exP M with e | ⟨u,z,_,e⟩
   ·rw[e];exact hl
   ·rw[e];exact zG.trans hl
  have h3:rd (eff w md v M).P (b+25)=234:=by
   show rd ((frm w md v).ex M).P (b+25)=_
   rcases(frm w md v).exP M with e | ⟨u,z,e,e'⟩
   ·rw[e,h2,hv']
   ·have hu:0<=u/\u<1024:=by
     rcases hq.wa u e with ⟨a,b⟩ | rfl
     ·exact⟨zo (zk a) rfl,zQ (zJ b) rfl⟩
     ·refine zh hm.s λa b=>?_;exact⟨zo (zq (zk a)) rfl,zQ (zq (zJ b)) rfl⟩
    rw[e',zB hu.1 (zo (zq (zk b0)) rfl) (iV (zq (zk b0)) (zJ hu.2) rfl),h2,hv']
  have s2:=F.sound (A:=eff w md v M) (pc:=b+25) .nop (by decide) trivial hl2 ⟨h3,trivial⟩ (zo (zq (zk b0)) rfl) (zQ (zq (zJ b1)) rfl)
  have e2:b+25+((F.nop.by).length:Int)=b+26:=by show b+25+1=_;exact Int.add_assoc _ _ _
  exact(zv 2 (by decide) (.cons (show St1 M (b+24) (eff w md v M) (b+25) from e▸s) (oq rfl) (.cons (show St1 (eff w md v M) (b+25) (eff w md v M) (b+26) from e2▸s2) (by lia) .nil)))
theorem EW{o:Nat}(hr:qC o w md)(hv:Qc md v)(ho:isB (o:Int))(h:RI K (b+24) j R)(hj:0<=j/\j<16)(c:Cd K b T n)(k1:K (T+2*j)=o)(k2:K (T+2*j+1)=v)(sm:Sm A R):
  ∃k,k<=25 /\ ∃A',Rn (b+48) k A b A' (cond (decide (2*j+2=n)) (b+48) b)/\Sm A' (tnR (b+24) j o w md v R)/\A'.f=cpy (2*j+2) n (tnR (b+24) j o w md v R).f:=by
 have b0:=c.b0;have b1:=c.b1;have hT:=c.T;refine yn (ZJ (op:=(o:Int)) (v:=v) h hj ho hv.1) λm1 m2 m3=>?_
 refine jN (Zp (R:=mid (b+24) j o v R) (hr.rw hv) m1 m2 h.d h.bu m3 hj) λe1 e2 e3 e4=>?_;have iA:Iv K (b+24) A.P:=sm.P▸h.iv;have y16:rd A.P 16=2*j:=sm.P▸h.y16;have hs:isB A.s:=sm.s▸h.ok.s;have lp:((byL (YO (b+24) T)).length:Int)=24:=rfl;have lq:((byL (QV n)).length:Int)=20:=rfl;have r1:rd A.P (T+2*j)=o:=(iA.kp _ (zo (qq (zk hT.1) (jr (zk hj.1))) rfl) (JS (qq (zJ hT.2) (jr (zJ hj.2))) (zq (zk b0)) rfl) (JS (qq (zJ hT.2) (jr (zJ hj.2))) (zq (zq (zk b0))) rfl)).trans k1;have r2:rd A.P (T+2*j+1)=v:=(iA.kp _ (zo (zq (qq (zk hT.1) (jr (zk hj.1)))) rfl) (JS (zq (qq (zJ hT.2) (jr (zJ hj.2)))) (zq (zk b0)) rfl) (JS (zq (qq (zJ hT.2) (jr (zJ hj.2)))) (zq (zq (zk b0))) rfl)).trans k2;have pe:XB A (YO (b+24) T)=mid (b+24) j o v R:=by
  rw[vx iA y16 hj hT (zo (zq (zk b0)) rfl) hs r1 r2];unfold vw mid inP;rw[sm.P,sm.s,sm.x,h.a17,h.f18]
 have⟨run1,i1⟩:=F.run (stop:=b+48) (YO (b+24) T) (vy iA y16 hj hT hs) iA c.pre (zo (zk b0) rfl) (by lia) (.inl (ot rfl)) (ot rfl)
 rw[pe,lp] at run1;have hm:∀u,b+24<=u->u<b+26->rd (inP (b+24) j o v R) u=rd (wr (wr R.P (b+24) o) (b+24+1) v) u:=λu u0 u1=>by
  unfold inP;refine zh h.ok.s λs0 s1=>?_;rw[zB (zo (zq (zk s0)) rfl) (by lia) (by lia),zB (by decide) (by lia) (by lia)]
 have hlR:=h.iv.len;obtain⟨kb,hkb,run2⟩:=eG (b:=b) (M:=mid (b+24) j o v R) hr hv m1 m2.len h.d
  (by show rd (inP _ _ _ _ _) _=_;rw[hm _ (by lia) (by lia),zB (by lia) (by lia) (by lia),U9 (t:=0) hlR (by lia) (by lia)])
  (by show rd (inP _ _ _ _ _) _=_;rw[hm _ (by lia) (by lia),show b+25=b+24+1 by lia,U9 (t:=0) (zG.trans hlR) (by lia) (by lia)]) b0 b1
 have⟨run3,i3⟩:=F.run (stop:=b+48) (QV n) (A:=eff w md v (mid (b+24) j o v R)) (pc:=b+26) (oh e3) e2 c.post (zo (zq (zk b0)) rfl) (by lia) (.inr (by lia)) (by lia)
 have pe3:XB (eff w md v (mid (b+24) j o v R)) (QV n)=VA j n (eff w md v (mid (b+24) j o v R)):=og e3;rw[pe3,lq] at run3;rw[pe3] at i3;have hz:(VA j n (eff w md v (mid (b+24) j o v R))).f.z=decide (2*j+2=n):=rfl;have kb2:At (rd (VA j n (eff w md v (mid (b+24) j o v R))).P) (b+46) [208,208]:=At.to i3.kp c.bne (zo (zq (zk b0)) rfl) (.inr (by lia))
 have run12:Rn (b+48) (kb+12) A b (eff w md v (mid (b+24) j o v R)) (b+26):=run1.app run2;have run123:Rn (b+48) (10+(kb+12)) A b (VA j n (eff w md v (mid (b+24) j o v R))) (b+46):=by
  have:=run12.app run3
  rw[show b+26+20=b+46 by lia] at this
  exact this
 refine(zv (1+(10+(kb+12))) (by lia) ⟨VA j n (eff w md v (mid (b+24) j o v R)),run123.app ?_,⟨rfl,rfl,rfl⟩,rfl⟩)
 cases hd:decide (2*j+2=n) with
 | true =>
  have:=xn i3.len kb2 (zo (zq (zk b0)) rfl) (zQ (zq (zJ b1)) rfl) (hz.trans hd)
  rw[show b+46+2=b+48 by lia] at this
  exact .cons this (oq rfl) .nil
 | false =>
  have:=xo i3.len kb2 (zo (zq (zk b0)) rfl) (zQ (zq (zJ b1)) rfl) (hz.trans hd)
  rw[show b+46-46=b by lia] at this
  exact .cons this (oq rfl) .nil
end
structure Row where
 op:Nat
 w:Nat
 md:Nat
 v:Int
variable {rs:List Row}
noncomputable def Qh(B:Int):Int->List Row->As->As
 | _,[],R=>R
 | j,r::l,R=>Qh B (j+1) l (tnR B j r.op r.w r.md r.v R)
structure RowOk(r:Row):Prop where
 row:qC r.op r.w r.md
 v:Qc r.md r.v
 op:isB (r.op:Int)
noncomputable def XQ(K:Int->Int)(T:Int):Int->List Row->Prop
 | _,[]=>True
 | j,r::l=>(K (T+2*j)=r.op/\K (T+2*j+1)=r.v)/\XQ K T (j+1) l
theorem r8{K:Int->Int}{b T n:Int}(c:Cd K b T n):∀{l:List Row} {j:Int} {R A:As},l ≠ []->(∀r∈l,RowOk r)->0<=j->j+l.length<=16->n=2*(j+l.length)->XQ K T j l->RI K (b+24) j R->Sm A R ->
  ∃k,k<=25*l.length /\ ∃A',Rn (b+48) k A b A' (b+48)/\Sm A' (Qh (b+24) j l R)/\A'.f=cpy n n (Qh (b+24) j l R).f
 | [],_,_,_,hne,_,_,_,_,_,_,_=>absurd rfl hne
 | r::l,j,R,A,_,hr,h0,h1,hn,ht,h,sm=>by
  have e:((r::l).length:Int)=l.length+1:=by rw[List.length_cons];lia
  rw[e] at h1 hn;have hk:=hr r (.head _);obtain⟨k,hk',A1,r1,s1,f1⟩:=EW hk.row hk.v hk.op h ⟨h0,by lia⟩ c ht.1.1 ht.1.2 sm
  cases l with
  | nil =>
   have hn':2*j+2=n:=by rw[hn];simp;lia
   rw[decide_eq_true hn'] at r1;rw[hn'] at f1;exact⟨k,hk',A1,r1,s1,f1⟩
  | cons r' l' =>
   have hn':¬ 2*j+2=n:=by rw[hn,List.length_cons];lia
   rw[decide_eq_false hn'] at r1;obtain⟨k2,h2,A2,r2,s2,f2⟩:=r8 c (l:=r'::l') (j:=j+1) (by simp) (λx hx=>hr x (.tail _ hx)) (by lia) (by lia) (by lia) ht.2 (r7 hk.row hk.v hk.op h ⟨h0,by lia⟩) s1
   exact⟨k2+k,by rw[List.length_cons];lia,A2,r1.app r2,s2,f2⟩
theorem dgp(x:Int){y:Int}(h:y.natAbs<2 ^ 64):Builtin.divisionGoesByPylong x y=false:=by
 unfold Builtin.divisionGoesByPylong
 have:(if (y==0)=true then 0 else y.natAbs.log2/30+1)<=300:=by
  split
  ·exact BN (Nat.le_refl _) rfl
  ·have h2:y.natAbs.log2<64:=by
    by_cases h0:y.natAbs=0
    ·rw[h0];decide
    ·exact(Nat.log2_lt h0).mpr h
   lia
 simp only[gt_iff_lt,Bool.and_eq_false_iff,decide_eq_false_iff_not,Nat.not_lt];exact .inl this
theorem fY(x:Int){y:Int}(h:0<=y):gq x y=x%y:=by rw[Wm,Int.fmod_eq_emod_of_nonneg _ h]
theorem fU(x:Int){y:Int}(h:0<=y):gp x y=x/y:=by rw[Wk,Int.fdiv_eq_ediv_of_nonneg _ h]
theorem mL{a b:Int}(h:a.natAbs<2 ^ 62):IntMulOk a b:=.of_left (intBits_le_64 (by lia) (by lia))
section
variable {l:List (Nat×PV)}{xs:List Int}{e:IE}{k:KF}{v:PV}
noncomputable def fK(W:PS->KF->Prop)(k:KF):KF:=λf O=>match f with
 | .next=>W O k
 | .brk=>k .brk O
 | .ret v=>k (.ret v) O
theorem Xr:∀(a:List IS) {b:List IS} {O:PS} {k:KF},pSs P H a O (fK (pSs P H b) k)=pSs P H (a++b) O k
 | [],_,_,_=>rfl
 | i::a,b,O,k=>by
  refine congrArg (pS P H i O) (funext λf=>funext λF1=>?_)
  induction f with
  | next=>exact Xr a
  | brk=>rfl
  | ret v=>rfl
theorem oH(he:∀κ:KE,κ v O->pE P H e O κ)(h:pSs P H is ⟨st x v O.loc,O.hp⟩ k):pSs P H (.name x e::is) O k:=
 he _ ((zW (O:=O)).mpr h)
theorem vM{t:IE}{a b:List IS}{c:Bool}(ht:∀κ:KB,κ c O->pT P H t O κ)(h1:c=true->pSs P H (a++is) O k)(h2:c=false->pSs P H (b++is) O k):pSs P H (.ite t a b::is) O k:=by
 refine ht _ ?_
 induction c
 ·exact(Xr b).symm▸h2 rfl
 ·exact(Xr a).symm▸h1 rfl
end
noncomputable def wK(Wt:PV->PS->KS->Prop)(Wb:PS->KF->Prop)(r:List PV)(K:KF):KF:=λf O=>match f with
 | .next=>qn Wt Wb r O K
 | .brk=>K .next O
 | .ret u=>K (.ret u) O
theorem Wg{v:PV}{r:List PV}{K:KF}(h:Wb ⟨st x v O.loc,O.hp⟩ (wK (pA P H (.name x)) Wb r K)):qn (pA P H (.name x)) Wb (v::r) O K:=
 (zW (O:=O) (x:=x) (v:=v) (c:=λF1=>Wb F1 (wK (pA P H (.name x)) Wb r K))).mpr h
section
variable {xs:List Int}{k m:Nat}
theorem uk:kms_lo (some (k:Int)) xs.length=min k xs.length:=by
 unfold kms_lo
 show(if (k:Int)<0 then _ else min (k:Int).toNat xs.length)=_
 rw[if_neg (Int.not_lt.mpr (Int.natCast_nonneg _)),Int.toNat_natCast]
theorem gm:kms_hi (some (k:Int)) xs.length=min k xs.length:=by
 unfold kms_hi
 show(if (k:Int)<0 then _ else min (k:Int).toNat xs.length)=_
 rw[if_neg (Int.not_lt.mpr (Int.natCast_nonneg _)),Int.toNat_natCast]
theorem kD:xs.take (min k xs.length)=xs.take k:=by
 rcases Nat.le_total k xs.length with h | h
 ·rw[Nat.min_eq_left h]
 ·rw[Nat.min_eq_right h,List.take_length,List.take_of_length_le h]
theorem X2:V4 none (some (k:Int)) xs=xs.take k:=by
 unfold V4;rw[gm]
 show(xs.drop 0).take (_-0)=_
 rw[List.drop_zero,Nat.sub_zero,kD]
theorem lC:V4 none none xs=xs:=by
 unfold V4 kms_lo kms_hi
 show(xs.drop 0).take (xs.length-0)=xs
 rw[List.drop_zero,Nat.sub_zero,List.take_length]
end
structure PwA(p:Int):Prop where
 z:isZ p=false
 b:p.natAbs<2 ^ 64
 n:0<=p
section
variable (P:Pi)(H:Hd)
def zf(e:IE)(O:PS)(v:PV):Prop:=∀κ:KE,κ v O->pE P H e O κ
def Uc(es:List IE)(O:PS)(us:List PV):Prop:=∀κ:List PV->PS->Prop,κ us O->pEs P H es O κ
def Jh(t:IE)(O:PS)(c:Bool):Prop:=∀κ:KB,κ c O->pT P H t O κ
def XN(e:Option IE)(O:PS)(v:PV):Prop:=∀κ:KE,κ v O->pO P H e O κ
end
section
variable {e l r t a b:IE}{es:List IE}{us:List PV}{u v:PV}{i j:Int}{xs:List Int}{c:Bool}
theorem zb(h:lk x O.loc=some v):zf P H (.loc x) O v:=λκ hκ=>by
 obtain⟨L,hp⟩:=O;show opt (lk x L) _;rw[show lk x L=some v from h];exact hκ
theorem zc:zf P H (.int i) O (.int i):=λκ hκ=>hκ
theorem yA{v:PV}(h:O.hp[P.base+off]?=some (.cell (some v))):zf P H (.cel x off) O v:=λκ hκ=>by
 show eU O.hp[P.base+off]? _;rw[h];exact hκ
theorem zD(h1:zf P H l O (.int i))(h2:zf P H r O (.int j)):zf P H (.bin .i .Add l r) O (.int (i+j)):=λκ hκ=>h1 _ (h2 _ (by show κ (.int (yU i j)) O;rw[zt];exact hκ))
theorem QL(h1:zf P H l O (.int i))(h2:zf P H r O (.int j)):zf P H (.bin .i .Sub l r) O (.int (i-j)):=λκ hκ=>h1 _ (h2 _ (by show κ (.int (U5 i j)) O;rw[jP];exact hκ))
theorem ju(h1:zf P H l O (.int i))(h2:zf P H r O (.int j))(hb:i.natAbs<2 ^ 62):zf P H (.bin .i .Mult l r) O (.int (i*j)):=λκ hκ=>h1 _ (h2 _ ⟨mL hb,by show κ (.int (mI i j)) O;rw[Wp];exact hκ⟩)
theorem qs(h1:zf P H l O (.int i))(h2:zf P H r O (.int j))(h:PwA j):zf P H (.bin .i .FloorDiv l r) O (.int (i/j)):=λκ hκ=>h1 _ (h2 _ (by
 show cond (isZ j) False _;rw[h.z];exact⟨dgp _ h.b,by show κ (.int (gp i j)) O;rw[fU _ h.n];exact hκ⟩))
theorem zV(h1:zf P H l O (.int i))(h2:zf P H r O (.int j))(h:PwA j):zf P H (.bin .i .Mod l r) O (.int (i%j)):=λκ hκ=>h1 _ (h2 _ (by
 show cond (isZ j) False _;rw[h.z];show κ (.int (gq i j)) O;rw[fY _ h.n];exact hκ))
theorem QK(h1:zf P H l O (.int i)):zf P H (.un .USub l) O (.int (-i)):=λκ hκ=>h1 _ (by show κ (.int (mJ i)) O;rw[aS];exact hκ)
theorem XK(h1:zf P H l O (.il xs))(h2:zf P H r O (.il ys))(hz:xs.length+ys.length<=2 ^ 24):zf P H (.bin (.add false) .Add l r) O (.il (xs++ys)):=λκ hκ=>h1 _ (h2 _ ⟨hz,hκ⟩)
theorem zL:Uc P H [] O []:=λκ hκ=>hκ
theorem ze(h1:zf P H e O u)(h2:Uc P H es O us):Uc P H (e::es) O (u::us):=λκ hκ=>h1 _ (h2 _ hκ)
theorem j5(h:Uc P H es O us)(hi:jZ us=some xs)(hl:Nat.ble us.length 1000=true):zf P H (.list false es) O (.il xs):=λκ hκ=>h _ (by
 show cond (Nat.ble us.length 1000) _ False;rw[hl];show Xj false us O κ;unfold Xj;rw[hi];exact hκ)
theorem JB(h:Uc P H es O us)(hl:Nat.ble us.length 1000=true):zf P H (.tup es) O (.tup us):=λκ hκ=>h _ (by
 show cond (Nat.ble us.length 1000) _ False;rw[hl];exact hκ)
theorem U0{k:Nat}(h1:zf P H a O (.il xs))(h2:zf P H b O (.int (k:Int)))(hk:k<xs.length)(h63:xs.length<2 ^ 62):zf P H (.sub a b) O (.int (xs.getD k 0)):=λκ hκ=>h1 _ (h2 _ (by
 show(0<=(k:Int)/\(k:Int)<xs.length/\(k:Int)<2 ^ 63)/\κ (.int (xs.getD (k:Int).toNat 0)) O
 exact⟨⟨Int.natCast_nonneg _,Int.ofNat_lt.mpr hk,by lia⟩,hκ⟩))
theorem Qm:XN P H none O .none:=λκ hκ=>hκ
theorem yQ(h:zf P H e O v):XN P H (some e) O v:=h
theorem Za{lo:Option IE}{hp:Option Int}(h1:zf P H a O (.il xs))(h2:XN P H lo O lv)(h3:XN P H hi O hv)(e2:je lv=some lp)(e3:je hv=some hp)(hz:xs.length<=2 ^ 24)(he:V4 lp hp xs=ys):zf P H (.slice false a lo hi) O (.il ys):=λκ hκ=>h1 _ (h2 _ (h3 _ (by
 show opt (je lv) _;rw[e2];show opt (je hv) _;rw[e3];subst he
 exact⟨hz,hκ⟩)))
theorem zN(h:Jh P H t O c)(h1:c=true->zf P H a O v)(h2:c=false->zf P H b O v):zf P H (.ite t a b) O v:=λκ hκ=>h _ (by
 induction c
 ·exact h2 rfl κ hκ
 ·exact h1 rfl κ hκ)
theorem yj{f:Bool->PV}(h:Jh P H t O c)(h1:zf P H a O (f true))(h2:zf P H b O (f false)):zf P H (.ite t a b) O (f c):=λκ hκ=>h _ (by
 induction c
 ·exact h2 κ hκ
 ·exact h1 κ hκ)
theorem qi(hf:P.fnT f=true)(h:Uc P H es O us)(hc:∀k:PV->List PO->Prop,k v O.hp->H f us O.hp k):zf P H (.callv (.top x f) es) O v:=λκ hκ =>
 ⟨hf,h _ (hc _ (by obtain⟨L,hp⟩:=O;exact hκ))⟩
theorem UZ(h1:zf P H l O (.int i))(h2:zf P H r O (.int j)):Jh P H (.cmp .i .Eq l r) O (i==j):=λκ hκ=>h1 _ (h2 _ hκ)
theorem sd(h1:zf P H l O (.int i))(h2:zf P H r O (.int j)):Jh P H (.cmp .i .Lt l r) O (decide (i<j)):=λκ hκ=>h1 _ (h2 _ hκ)
theorem bT(h1:zf P H l O (.int i))(h2:zf P H r O (.int j)):Jh P H (.cmp .i .Gt l r) O (decide (j<i)):=λκ hκ=>h1 _ (h2 _ hκ)
theorem XJ{c d:Bool}(h1:Jh P H a O c)(h2:Jh P H b O d):Jh P H (.or [a,b]) O (c||d):=λκ hκ=>h1 _ (by
 induction c
 ·exact h2 _ (by induction d<;>exact hκ)
 ·exact hκ)
variable {k:KF}
theorem Jg(he:zf P H e O v)(h:pSs P H is ⟨st x v O.loc,O.hp⟩ k):pSs P H (.name x e::is) O k:=oH he h
theorem vL{A:List IS}(ht:Jh P H t O c)(h1:c=true->pSs P H (A++is) O k)(h2:c=false->pSs P H (B++is) O k):pSs P H (.ite t A B::is) O k:=vM ht h1 h2
theorem i6{w:PV}(he:zf P H e O (.tup [v,w]))(h:pSs P H is ⟨st x v (st y w O.loc),O.hp⟩ k):pSs P H (.swap [x,y] e::is) O k:=he _ (by
 show O.slC y w λF1=>F1.slC x v λF5=>pSs P H is F5 k;exact zW.mpr (zW.mpr h))
theorem vN{z:Nat}{w w':PV}(he:zf P H e O (.tup [v,w,w']))(h:pSs P H is ⟨st x v (st y w (st z w' O.loc)),O.hp⟩ k):pSs P H (.swap [x,y,z] e::is) O k:=he _ (by
 show O.slC z w' λO6=>O6.slC y w λF1=>F1.slC x v λF5=>pSs P H is F5 k;exact zW.mpr (zW.mpr (zW.mpr h)))
theorem yg{L:List (Nat×PV)}{l':List (Nat×PV)}(hk:∀Q:List (Nat×PV)->Prop,Q L->bs ks l' Q)(h:pSs P H is ⟨L,hp⟩ k):pSs P H (.keep ks::is) ⟨l',hp⟩ k:=hk _ h
theorem vK{n:Nat}{A:List IS}(he:zf P H e O (.int (n:Int)))(hn:n<=1000)(h:qn (pA P H (.name x)) (pSs P H A) (jh 0 n) O (fK (pSs P H is) k)):pSs P H (.forR (.name x) y [e] A::is) O k:=
 he _ (show(-(2 ^ 61:Int)<=(n:Int)/\(n:Int)<=2 ^ 61)/\qn (pA P H (.name x)) (pSs P H A) (jh 0 (jy 0 (n:Int))) O (fK (pSs P H is) k) from⟨⟨zo U8 rfl,Je (YQ hn) rfl⟩,by
  rw[show jy 0 (n:Int)=n by unfold jy;lia];exact h⟩)
end
theorem pw2:PwA 2:=⟨rfl,by decide,by decide⟩
theorem pw4:PwA 4:=⟨rfl,by decide,by decide⟩
theorem pw8:PwA 8:=⟨rfl,by decide,by decide⟩
theorem rR:PwA 128:=⟨rfl,by decide,by decide⟩
theorem jV:PwA 256:=⟨rfl,by decide,by decide⟩
noncomputable def nt(l:List IS)(n:Nat):IS:=(l.drop n).headD .pass
noncomputable def bO:IS->List IS
 | .forS _ _ b=>b
 | .forR _ _ _ b=>b
 | _=>[]
noncomputable def iO(e:Bool):IS->List IS
 | .ite _ a b=>cond e b a
 | _=>[]
section
variable {t:IE}{c:Bool}{k:KF}
theorem vO{A:List IS}(ht:Jh P H t O c)(hc:c=true)(h:pSs P H (A++is) O k):pSs P H (.ite t A B::is) O k:=vL ht (λZ=>h) λe=>by rw[hc] at e;cases e
theorem vJ{A:List IS}(ht:Jh P H t O c)(hc:c=false)(h:pSs P H (B++is) O k):pSs P H (.ite t A B::is) O k:=vL ht (λe=>by rw[hc] at e;cases e) λZ=>h
end
section
variable (P:Pi)(H:Hd)
def Ta(t:IT)(v:PV)(O σ':PS):Prop:=∀κ:KS,κ σ'->pA P H t v O κ
def Tas(ts:List IT)(us:List PV)(O σ':PS):Prop:=∀κ:KS,κ σ'->Vh (pAs P H ts) us O κ
end
section
variable {F1 F5:PS}{e o i t:IE}{v:PV}{k:KF}{xs:List Int}{u w:Int}
theorem JL:Ta P H (.name x) v O ⟨st x v O.loc,O.hp⟩:=λκ h=>zW.mpr h
theorem wo{c:Option PV}(h:O.hp[P.base+off]?=some (.cell c)):Ta P H (.cel x off) v O ⟨O.loc,O.hp.set (P.base+off) (.cell (some v))⟩:=λκ hκ=>by
 show eU O.hp[P.base+off]? _;rw[h];exact jd.mpr hκ
theorem UU(h1:zf P H o O (.ref j))(h2:zf P H i O (.int u))(h:O.hp[j]?=some (.il xs))(u0:0<=u)(u1:u<xs.length)(u2:u<2 ^ 63):Ta P H (.sub o i) (.int w) O ⟨O.loc,O.hp.set j (.il (wr xs u w))⟩:=λκ hκ=>h1 _ (h2 _ (by
 show vA O.hp[j]? u (.int w) (λo'=>O.siC j o' κ);rw[h];exact⟨⟨u0,u1,u2⟩,jd.mpr hκ⟩))
theorem XF:Tas P H [] [] O O:=λκ h=>h
theorem y4{t:IT}{ts:List IT}{us:List PV}(h:Ta P H t v O F1)(h2:Tas P H ts us F1 F5):Tas P H (t::ts) (v::us) O F5:=λκ hκ=>h _ (h2 _ hκ)
theorem XA{a b:IT}(he:zf P H e O v)(h1:Ta P H a v O F1)(h2:Ta P H b v F1 F5)(h:pSs P H is F5 k):pSs P H (.two a b e::is) O k:=he _ (h1 _ (h2 _ h))
theorem ZU{ts:List IT}{us:List PV}(he:zf P H e O v)(hi:jm O v=some us)(hl:Nat.beq us.length (pAs P H ts).length=true)(h1:Tas P H ts us O F1)(h:pSs P H is F1 k):pSs P H (.tup ts e::is) O k:=he _ (by
 show opt (jm O v) _;rw[hi];show cond (Nat.beq us.length (pAs P H ts).length) _ False;rw[hl];exact h1 _ h)
theorem Xw{c:Option PV}(he:zf P H e O v)(h:O.hp[P.base+off]?=some (.cell c))(h2:pSs P H is ⟨O.loc,O.hp.set (P.base+off) (.cell (some v))⟩ k):pSs P H (.cel x off e::is) O k:=he _ (wo (P:=P) (H:=H) (x:=x) h _ h2)
theorem yx(he:zf P H e O (.int w))(h1:zf P H o O (.ref j))(h2:zf P H i O (.int u))(h:O.hp[j]?=some (.il xs))(u0:0<=u)(u1:u<xs.length)(u2:u<2 ^ 63)(h3:pSs P H is ⟨O.loc,O.hp.set j (.il (wr xs u w))⟩ k):pSs P H (.put o i e::is) O k:=he _ (UU h1 h2 h u0 u1 u2 _ h3)
theorem qr(he:zf P H e O v)(h:k (.ret v) O):pSs P H [.ret e] O k:=he _ h
theorem JP(h1:zf P H o O (.ref j))(h2:zf P H i O (.int u))(h:O.hp[j]?=some (.il xs))(u0:0<=u)(u1:u<xs.length)(u2:u<2 ^ 63):zf P H (.sub o i) O (.int (rd xs u)):=λκ hκ=>h1 _ (h2 _ (by
 show opt (ilP O.hp[j]?) _;rw[h];exact⟨⟨u0,u1,u2⟩,hκ⟩))
theorem r9(h1:zf P H e O (.int u))(h2:zf P H o O (.int w)):Jh P H (.cmp .i .GtE e o) O (decide (w<=u)):=λκ hκ=>h1 _ (h2 _ hκ)
theorem C4(h1:zf P H e O .none):Jh P H (.cmp .i .IsNot e .none) O false:=λκ hκ=>h1 _ hκ
theorem C3(h1:zf P H e O (.int u)):Jh P H (.cmp .i .IsNot e .none) O true:=λκ hκ=>h1 _ hκ
end
section
variable {e o i:IE}{s s':Str}{c:Bool}{r:Nat}{v:PV}
theorem jl(h1:zf P H e O (.str s))(h:jR s s'=c):Jh P H (.cmp .s .Eq e (.str s')) O c:=λκ hκ=>h1 _ (by
 subst h;exact hκ)
theorem Qn(h1:zf P H e O (.str s))(h:Txt.contains s s'=c):Jh P H (.cmp .ss .In (.str s') e) O c:=λκ hκ=>h1 _ (by
 subst h;exact hκ)
end
noncomputable def ye:List IS:=[.ret (.compR true 268 (.bin .i .Mod (.bin .i .FloorDiv (.cel 295 0) (.bin .i .Pow (.int 2) (.cv 268))) (.int 2)) 259 [.int 8])]
noncomputable def pB(n:Nat):Pi:=piM (Jk 0 [295]) n (λZ=>none) (λZ Z Z=>False)
noncomputable def pR(n:Nat):Pi:=piM (Jk 0 [268]) n (λZ=>none) (λZ Z Z=>False)
theorem nI:mSs nmM (pmM []) (tfn 5).scope yI (tfn 5).body:=⟨by kernel_rfl,by kernel_rfl⟩
theorem nu(n:Nat):mSs nmM (pB n).toPm (tfn 6).scope yG (tfn 6).body:=⟨by kernel_rfl,by kernel_rfl⟩
theorem hG(n:Nat):mSs nmM (pB n).toPm (tfn 6).scope ye (tfn 6).body:=⟨by kernel_rfl,by kernel_rfl⟩
theorem YE:mSs nmM (pmM []) (tfn 7).scope ji (tfn 7).body:=⟨by kernel_rfl,by kernel_rfl⟩
theorem cS:mSs nmM (pmM []) (tfn 8).scope j3 (tfn 8).body:=⟨by kernel_rfl,by kernel_rfl⟩
theorem uE:mSs nmM (pmM []) (tfn 9).scope qd (tfn 9).body:=⟨by kernel_rfl,by kernel_rfl⟩
theorem nH:mSs nmM (pmM []) (tfn 10).scope yH (tfn 10).body:=⟨by kernel_rfl,by kernel_rfl⟩
theorem uC(n:Nat):mSs nmM (pR n).toPm (tfn 11).scope zR (tfn 11).body:=⟨by kernel_rfl,by kernel_rfl⟩
section
variable {e elt l r:IE}{z:Nat}{v:PV}{xs:List Int}
theorem qL(h:lk x P.cvs=some v):zf P H (.cv x) O v:=λκ hκ=>by
 show opt (lk x P.cvs) _;rw[h];exact hκ
theorem jz{i j:Int}(h:zf P H e O (.int i))(e':i=j):zf P H e O (.int j):=e'▸h
theorem bW(h1:zf P H l O (.int 2))(h2:zf P H r O (.int (i:Int)))(hi:i<=1000):zf P H (.bin .i .Pow l r) O (.int (2 ^ i)):=λκ hκ=>h1 _ (h2 _ (by
 show cond (Nat.ble i 1000000) ((2:Int).natAbs<2 ^ 64/\κ (.int (mK 2 (i:Int))) O) False;rw[Nat.ble_eq_true_of_le (Nat.le_trans hi (by decide)),Wq]
 exact⟨by decide,hκ⟩))
noncomputable def upL:Int->Nat->List Int
 | _,0=>[]
 | a,n+1=>a::upL (a+1) n
theorem Z5:∀(n:Nat) (a:Int),jh a n=(upL a n).map .int
 | 0,_=>rfl
 | n+1,a=>congrArg (PV.int a :: ·) (Z5 n (a+1))
theorem cw_list{Wv:PV->PS->KE->Prop}{g:Int->Int}{O:PS}{κ:List PV->PS->Prop}:∀(xs ys:List Int),(∀u∈xs,∀κ:KE,κ (.int (g u)) O->Wv (.int u) O κ)->κ ((ys++xs.map g).map .int) O->q7 Wv (xs.map .int) (ys.map .int) O κ
 | [],ys,_,h=>by rw[List.map_nil,List.append_nil] at h;exact h
 | u::xs,ys,hw,h=>hw u (.head _) _ (by
  have:=cw_list (Wv:=Wv) (g:=g) (κ:=κ) (O:=O) xs (ys ++ [g u]) (λx hx=>hw x (.tail _ hx)) (by rw[List.append_assoc];exact h)
  rw[List.map_append] at this;exact this)
theorem Kq:∀(xs:List Int),jZ (xs.map .int)=some xs
 | []=>rfl
 | x::xs=>by
  show(jZ (xs.map .int)).map (x :: ·)=_
  rw[Kq xs];rfl
theorem K9{L:List (Nat×PV)}(hl:xs.length<=1000)(h:κ (.il xs) ⟨L,hp⟩):qf false (xs.map .int) ⟨L,hp⟩ κ:=by
 show cond (Nat.ble _ 1000) (Xj false _ _ _) False;rw[List.length_map,Nat.ble_eq_true_of_le hl];unfold Xj;rw[Kq];exact h
theorem cL{L:List (Nat×PV)}(hl:xs.length<=1000)(h:κ (.ref hp.length) ⟨L,hp ++ [.il xs]⟩):qf true (xs.map .int) ⟨L,hp⟩ κ:=by
 show cond (Nat.ble _ 1000) (Xj true _ _ _) False;rw[List.length_map,Nat.ble_eq_true_of_le hl];unfold Xj;rw[Kq];exact jv.mpr h
theorem JO:∀(n:Nat) (a:Int),(upL a n).length=n
 | 0,_=>rfl
 | n+1,a=>congrArg (· + 1) (JO n (a+1))
theorem cR{mt:Bool}{n:Nat}{g:Int->Int}(h1:zf P H e O (.int (n:Int)))(hn:n<=1000)(he:∀u∈upL 0 n,zf (P.cv x (.int u)) H elt O (.int (g u)))(h:qf mt (((upL 0 n).map g).map .int) O κ):pE P H (.compR mt x elt y [e]) O κ:=
 h1 _ (show(0<=(n:Int)/\(n:Int)<=100000)/\q7 (λv=>pE (P.cv x v) H elt) (jh 0 (jy 0 (n:Int))) [] O (λus F5=>qf mt us F5 κ) from⟨⟨Int.natCast_nonneg _,Je (YQ hn) rfl⟩,by
  rw[show jy 0 (n:Int)=n by unfold jy;lia,Z5]
  exact cw_list (g:=g) (upL 0 n) [] (λu hu κ hκ=>he u hu κ hκ) h⟩)
theorem Qo{n:Nat}{g:Int->Int}(h1:zf P H e O (.int (n:Int)))(hn:n<=1000)(he:∀u∈upL 0 n,zf (P.cv x (.int u)) H elt O (.int (g u))):zf P H (.compR false x elt y [e]) O (.il ((upL 0 n).map g)):=λκ hκ=>by
 obtain⟨L,hp⟩:=O;exact cR h1 hn he (K9 (by rw[List.length_map,JO];exact hn) hκ)
noncomputable def Xf(g:Nat->Int->Int):Nat->List Int->List Int
 | _,[]=>[]
 | i,u::r=>g i u::Xf g (i+1) r
theorem UN{g:Nat->Int->Int}:∀(i:Nat) (xs:List Int),(Xf g i xs).length=xs.length
 | _,[]=>rfl
 | i,u::r=>congrArg (· + 1) (UN (i+1) r)
theorem V1{Wv:PV->PV->PS->KE->Prop}{g:Nat->Int->Int}{O:PS}{κ:List PV->PS->Prop}:∀(xs ys:List Int) (i:Nat),(∀j u,j<i+xs.length->u∈xs->∀κ:KE,κ (.int (g j u)) O->Wv (.int (j:Int)) (.int u) O κ)->κ ((ys++Xf g i xs).map .int) O->X0 Wv i (xs.map .int) (ys.map .int) O κ
 | [],ys,_,_,h=>by rw[show Xf g _ [] = [] from rfl,List.append_nil] at h;exact h
 | u::xs,ys,i,hw,h=>hw i u (by rw[List.length_cons];lia) (.head _) _ (by
  have:=V1 (Wv:=Wv) (g:=g) (κ:=κ) (O:=O) xs (ys ++ [g i u]) (i+1) (λj x hj hx=>hw j x (by rw[List.length_cons];lia) (.tail _ hx)) (by rw[List.append_assoc];exact h)
  rw[List.map_append] at this;exact this)
theorem kS{g:Nat->Int->Int}(h1:zf P H e O (.il xs))(hn:xs.length<=1000)(he:∀j u,j<0+xs.length->u∈xs->zf (P.cv2 x (.int (j:Int)) y (.int u)) H elt O (.int (g j u))):zf P H (.compE false x y elt z [e]) O (.il (Xf g 0 xs)):=λκ hκ=>h1 _ (by
 refine Or.inl ?_
 show(JU (xs.map .int)=true/\(xs.map PV.int).length<=100000)/\X0 (λu v=>pE (P.cv2 x u y v) H elt) 0 (xs.map .int) [] O (λus F5=>qf false us F5 κ)
 refine⟨⟨qN xs,by rw[List.length_map];exact qG hn rfl⟩,V1 (g:=g) xs [] 0 (λj u hj hu κ hκ=>he j u hj hu κ hκ) ?_⟩
 obtain⟨L,hp⟩:=O;exact K9 (by rw[List.nil_append,UN];exact hn) hκ)
theorem kg{o:PO}(h:hp[j]?=some o)(o':PO):(hp.set j o').set j o=hp:=by
 rw[List.set_set];obtain⟨h1,h2⟩:=List.getElem?_eq_some_iff.mp h;rw[<- h2];exact List.set_getElem_self h1
theorem kT{g:Nat->Int->Int}{L:List (Nat×PV)}(h1:zf P H e ⟨L,hp⟩ (.ref j))(hj:hp[j]?=some (.il xs))(hn:xs.length<=1000)(he:∀i u,i<0+xs.length->u∈xs->zf (P.cv2 x (.int (i:Int)) y (.int u)) H elt ⟨L,hp.set j .gone⟩ (.int (g i u))):zf P H (.compE false x y elt z [e]) ⟨L,hp⟩ (.il (Xf g 0 xs)):=λκ hκ=>h1 _ (by
 refine Or.inr ?_;show ilO hp[j]? _;rw[hj];show xs.length<=100000/\dm .gone hp j _
 refine⟨by lia,qI.mpr ?_⟩
 refine V1 (g:=g) xs [] 0 (λi u hi hu κ hκ=>he i u hi hu κ hκ) ?_;have hlt:=(List.getElem?_eq_some_iff.mp hj).1;show match (hp.set j .gone)[j]? with | some .gone=>_ | _=>False
 rw[List.getElem?_set_self hlt];refine jd.mpr ?_;show qf false _ ⟨L,(hp.set j .gone).set j (.il xs)⟩ κ;rw[kg hj];exact K9 (by rw[List.nil_append,UN];exact hn) hκ)
theorem kW(h1:zf P H e O (.il xs)):zf P H (.blt .sum y [e]) O (.int xs.sum):=λκ hκ=>h1 _ hκ
end
noncomputable def dd(i:Nat)(u:Int):Int:=u*2 ^ i
noncomputable def qS(xs:List Int):Int:=(Xf dd 0 xs).sum
noncomputable def lr(n u:Int):Int:=n/2 ^ u.toNat%2
noncomputable def zY(n:Int):List Int:=[b2 (bt 0 n),b2 (bt 1 n),b2 (bt 2 n),b2 (bt 3 n),b2 (bt 4 n),b2 (bt 5 n),b2 (bt 6 n),b2 (bt 7 n)]
noncomputable def fL(f:Fl):List Int:=[b2 f.c,b2 f.z,b2 f.i,b2 f.d,b2 f.b,b2 f.u,b2 f.v,b2 f.n]
theorem tm(n:Int):fL (unp n)=zY n:=rfl
theorem Xp(f:Fl):qS (fL f)=pk f:=by
 unfold qS fL Xf dd pk;simp only[Xf,dd,List.sum_cons,List.sum_nil]
 lia
theorem u8{n:Int}(h:isB n):qS (zY n)=n:=by
 rw[<- tm,Xp];exact yB (n:=256) (P:=λn=>pk (unp n)=n) (by decide +kernel) h.1 h.2
theorem qR(t:Int)(k:Nat):t/2 ^ k%2=b2 (bt k t):=by
 unfold bt b2
 rcases Int.emod_two_eq (t/2 ^ k) with h | h<;>rw[h]<;>rfl
theorem ai(n:Int):(upL 0 8).map (lr n)=zY n:=by
 unfold zY;rw[<- qR,<- qR,<- qR,<- qR,<- qR,<- qR,<- qR,<- qR];rfl
noncomputable def dN:Sp:=λargs hp k=>∃p:Int,args = [.int p]/\k (.il [p%256,p/256]) hp
theorem tB:∀args hp k,dN args hp k->zX [294] (pSs pi0 H0 yI) args hp k:=by
 rintro args hp k ⟨p,rfl,hk⟩;refine⟨rfl,?_⟩;show pSs pi0 H0 yI ⟨[(294,.int p)],hp⟩ _;delta yI;exact qr (v:=.il [p%256,p/256]) (j5 (us:=[.int (p%256),.int (p/256)]) (ze (zV (zb rfl) zc jV) (ze (qs (zb rfl) zc jV) zL)) rfl rfl) hk
theorem Xe{o:PO}:(hp ++ [o])[hp.length]?=some o:=by rw[List.getElem?_append_right (Nat.le_refl _),Nat.sub_self];rfl
theorem XG:∀{n:Nat} {a u:Int},u∈upL a n->a<=u/\u<a+n
 | n+1,a,u,h=>by
  rcases List.mem_cons.mp h with rfl | h
  ·exact⟨Int.le_refl _,by lia⟩
  ·have:=XG h
   exact⟨by lia,by lia⟩
theorem ru{n u:Int}{L:List (Nat×PV)}(hu:u∈upL 0 8):zf ((pB hp.length).cv 268 (.int u)) H (.bin .i .Mod (.bin .i .FloorDiv (.cel 295 0) (.bin .i .Pow (.int 2) (.cv 268))) (.int 2)) ⟨L,hp ++ [.cell (some (.int n))]⟩ (.int (lr n u)):=by
 refine zh (XG hu) λh0 h1=>?_;refine zI (Int.eq_ofNat_of_zero_le h0) λk Fy=>?_;subst Fy;have hk:k<8:=by lia
 have pw:PwA (2 ^ k):=by
  exact ltS (ltS (ltS (ltS (gv (P:=λk=>PwA (2 ^ k)) ⟨rfl,by decide,by decide⟩ ⟨rfl,by decide,by decide⟩ ⟨rfl,by decide,by decide⟩ ⟨rfl,by decide,by decide⟩) ⟨rfl,by decide,by decide⟩) ⟨rfl,by decide,by decide⟩) ⟨rfl,by decide,by decide⟩) ⟨rfl,by decide,by decide⟩ k hk
 refine zV (qs (yA (v:=.int n) ?_) (bW (i:=k) zc (qL rfl) (qG (di hk) rfl)) pw) zc pw2
 show(hp ++ [PO.cell (some (PV.int n))])[hp.length+0]?=_
 rw[Nat.add_zero];exact Xe
noncomputable def dK:Sp:=λargs hp k=>∃n:Int,args = [.int n]/\k (.il (zY n)) (hp ++ [.cell (some (.int n))])
theorem tn:∀args hp k,dK args hp k->Yb [295] [295] (λn=>pSs (pB n) H0 yG) args hp k:=by
 rintro args hp k ⟨n,rfl,hk⟩;refine⟨rfl,?_⟩;show pSs (pB hp.length) H0 yG ⟨[],hp ++ [.cell (some (.int n))]⟩ _;delta yG;refine qr (v:=.il (zY n)) ?_ hk;rw[<- ai];exact Qo (n:=8) (g:=lr n) zc (by decide) λu hu=>ru hu
noncomputable def VS:Sp:=λargs hp k=>∃n:Int,args = [.int n]/\k (.ref (hp.length+1)) (hp ++ [.cell (some (.int n)),.il (zY n)])
theorem lQ:∀args hp k,VS args hp k->Yb [295] [295] (λn=>pSs (pB n) H0 ye) args hp k:=by
 rintro args hp k ⟨n,rfl,hk⟩;refine⟨rfl,?_⟩;show pSs (pB hp.length) H0 ye ⟨[],hp ++ [.cell (some (.int n))]⟩ _;delta ye;refine cR (n:=8) (g:=lr n) (y:=259) zc (by decide) (λu hu=>ru hu) ?_
 rw[ai];refine cL (Nat.le_of_ble_eq_true rfl) ?_;rw[List.length_append,List.append_assoc];exact hk
theorem rv{u:Int}(hj:j<100)(hu:u.natAbs<2 ^ 62):zf (P.cv2 268 (.int (j:Int)) 296 (.int u)) H (.bin .i .Mult (.cv 296) (.bin .i .Pow (.int 2) (.cv 268))) O (.int (dd j u)):=
 ju (qL rfl) (bW zc (qL rfl) (qG (di hj) rfl)) hu
structure Oc(xs:List Int):Prop where
 len:xs.length<=9
 b:∀u∈xs,u.natAbs<2 ^ 62
noncomputable def rf:Sp:=λargs hp k=>∃xs,args = [.il xs]/\Oc xs/\k (.int (qS xs)) hp
theorem Ad:∀args hp k,rf args hp k->zX [297] (pSs pi0 H0 ji) args hp k:=by
 rintro args hp k ⟨xs,rfl,ho,hk⟩;refine⟨rfl,?_⟩;show pSs pi0 H0 ji ⟨[(297,.il xs)],hp⟩ _;delta ji;have hl:=ho.len;exact qr (v:=.int (qS xs)) (kW (kS (g:=dd) (zb rfl) (qG hl rfl) λj u hj hu=>rv (by lia) (ho.b u hu))) hk
noncomputable def VU:Sp:=λargs hp k=>∃j xs,args = [.ref j]/\hp[j]?=some (.il xs)/\Oc xs/\k (.int (qS xs)) hp
theorem tt:∀args hp k,VU args hp k->zX [297] (pSs pi0 H0 ji) args hp k:=by
 rintro args hp k ⟨j,xs,rfl,hj,ho,hk⟩;refine⟨rfl,?_⟩;show pSs pi0 H0 ji ⟨[(297,.ref j)],hp⟩ _;delta ji;have hl:=ho.len;exact qr (v:=.int (qS xs)) (kW (kT (g:=dd) (zb rfl) hj (by lia) λi u hi hu=>rv (by lia) (ho.b u hu))) hk
noncomputable def sgn(n:Int):Int:=cond (decide (127<n)) (n-256) n
noncomputable def rk:Sp:=λargs hp k=>∃n:Int,args = [.int n]/\k (.int (sgn n)) hp
theorem Af:∀args hp k,rk args hp k->zX [295] (pSs pi0 H0 j3) args hp k:=by
 rintro args hp k ⟨n,rfl,hk⟩;refine⟨rfl,?_⟩;show pSs pi0 H0 j3 ⟨[(295,.int n)],hp⟩ _;delta j3;refine qr (v:=.int (sgn n)) (yj (f:=λb=>.int (cond b (n-256) n)) (bT (zb rfl) zc) (QL (zb rfl) zc) (zb rfl)) hk
noncomputable def dE:Sp:=λargs hp k=>∃n:Int,args = [.int n]/\k (.il (zY n)) hp
@[irreducible] noncomputable def HA:Hd:=((((H6.cut 1498 dE).ext 1503 rf).ext 1510 rk).ext 1493 dN).or ((H0.ext 1503 VU).ext 1498 VS)
section
variable {args:List PV}{k:PV->List PO->Prop}{n:Int}{xs:List Int}
theorem aO(h:k (.il (zY n)) hp):HA 1498 [.int n] hp k:=by unfold HA;exact .inl ⟨n,rfl,h⟩
theorem gh(h:k (.ref (hp.length+1)) (hp ++ [.cell (some (.int n)),.il (zY n)])):HA 1498 [.int n] hp k:=by unfold HA;exact .inr (zv n rfl h)
theorem gi(ho:Oc xs)(h:k (.int (qS xs)) hp):HA 1503 [.il xs] hp k:=by unfold HA;exact .inl (jY xs rfl ho h)
theorem mz(hj:hp[j]?=some (.il xs))(ho:Oc xs)(h:k (.int (qS xs)) hp):HA 1503 [.ref j] hp k:=by unfold HA;exact .inr (yV j xs rfl hj ho h)
theorem tG(h:k (.int (sgn n)) hp):HA 1510 [.int n] hp k:=by unfold HA;exact .inl ⟨n,rfl,h⟩
theorem mB(h:k (.il [n%256,n/256]) hp):HA 1493 [.int n] hp k:=by unfold HA;exact .inl (zv n rfl h)
theorem mA(h:Uf args hp k):HA 43 args hp k:=by unfold HA;exact .inl h
end
theorem sgF:∀i:Fin 512,∀p q:Bool,decide (cond p (128:Int) 0+cond q 128 0<=(i.val:Int))=true->decide ((i.val:Int)<=cond p 255 127+cond q 255 127+1)=true->(decide ((i.val:Int)-256*(b2 p+b2 q) < -128)||decide (127<(i.val:Int)-256*(b2 p+b2 q)))=((p==q)&&(p !=bt 7 (i.val:Int))):=by decide +kernel
theorem sgA:∀i:Fin 256,cond (bt 7 (i.val:Int)) (128:Int) 0<=i.val/\(i.val:Int)<=cond (bt 7 (i.val:Int)) 255 127/\sgn i.val=i.val-256*b2 (bt 7 (i.val:Int)):=by decide +kernel
theorem BG{a d:Int}(ha:isB a)(hd:isB d)(c:Bool):(decide (sgn a+sgn d+b2 c < -128)||decide (127<sgn a+sgn d+b2 c))=ovA a d (a+d+b2 c):=by
 have c1:=ah c;have h1:=yB (P:=λa=>cond (bt 7 a) (128:Int) 0<=a/\a<=cond (bt 7 a) 255 127/\sgn a=a-256*b2 (bt 7 a)) sgA ha.1 ha.2
 have h2:=yB (P:=λa=>cond (bt 7 a) (128:Int) 0<=a/\a<=cond (bt 7 a) 255 127/\sgn a=a-256*b2 (bt 7 a)) sgA hd.1 hd.2;have e:sgn a+sgn d+b2 c=a+d+b2 c-256*(b2 (bt 7 a)+b2 (bt 7 d)):=by
  rw[h1.2.2,h2.2.2];generalize b2 (bt 7 a)=x;generalize b2 (bt 7 d)=y;generalize b2 c=z;clear h1 h2 c1 ha hd
  lia
 rw[e];refine yB (P:=λt=>decide (cond (bt 7 a) (128:Int) 0+cond (bt 7 d) 128 0<=t)=true->decide (t<=cond (bt 7 a) 255 127+cond (bt 7 d) 255 127+1)=true->(decide (t-256*(b2 (bt 7 a)+b2 (bt 7 d)) < -128)||decide (127<t-256*(b2 (bt 7 a)+b2 (bt 7 d))))=((bt 7 a==bt 7 d)&&(bt 7 a !=bt 7 t))) (n:=512) (λi=>sgF i _ _) (by have:=ha.1;have:=hd.1;exact zo (qq (qq (zk ha.1) (zk hd.1)) (zk c1.1)) rfl) (by have:=ha.2;have:=hd.2;exact zQ (qq (qq (zJ ha.2) (zJ hd.2)) (vC c1.2)) rfl) (decide_eq_true ?_) (decide_eq_true ?_)
 ·exact Int.le_trans (Int.add_le_add h1.1 h2.1) (Int.le_add_of_nonneg_right c1.1)
 ·exact Int.add_le_add (Int.add_le_add h1.2.1 h2.2.1) c1.2
theorem bnF:∀i:Fin 256,bt 7 (255-(i.val:Int)) = !bt 7 (i.val:Int):=by decide +kernel
theorem ov1{a v r:Int}(hv:isB v):ovA a (255-v) r=ovS a v r:=by
 unfold ovA ovS;rw[yB (P:=λt=>bt 7 (255-t) = !bt 7 t) bnF hv.1 hv.2]
 cases bt 7 a<;>cases bt 7 v<;>rfl
theorem Co{d:Int}(hd:isB d):sgn (255-d) = -sgn d-1:=yB (P:=λd=>sgn (255-d) = -sgn d-1) (n:=256) (by decide +kernel) hd.1 hd.2
theorem Dp{d:Int}(hd:isB d):isB (255-d):=⟨by have:=hd.2;exact zo (BQ (Int.le_refl _) (zJ hd.2)) rfl,by have:=hd.1;exact zQ (BQ (Int.le_refl _) (zk hd.1)) rfl⟩
noncomputable def smR(b:Bool)(a d:Int)(F:Fl):Int:=cond b (a+d+b2 F.c) (a+(255-d)+b2 F.c)
noncomputable def smF(b:Bool)(a d:Int)(F:Fl):Fl:={ F with c:=decide (255<smR b a d F),v:=cond b (ovA a d (smR b a d F)) (ovS a d (smR b a d F)) }
noncomputable def dM:Sp:=λargs hp k=>∃(b:Bool) (j:Nat) (F:Fl) (a d:Int),args = [.ref j,.int a,.int d,.int (cond b 1 (-1))]/\hp[j]?=some (.il (fL F))/\isB a/\isB d/\k (.int (smR b a d F%256)) (hp.set j (.il (fL (smF b a d F))))
section
variable {e:IE}
theorem Ki{n:Int}(h1:zf pi0 HA e O (.int n)):zf pi0 HA (.callv (.top x 1510) [e]) O (.int (sgn n)):=qi (by kernel_rfl) (ze h1 zL) λk h=>tG h
end
theorem gb{o:PO}(h:hp[j]?=some o)(o':PO):(hp.set j o')[j]?=some o':=List.getElem?_set_self (List.getElem?_eq_some_iff.mp h).1
theorem Ag:∀args hp k,dM args hp k->zX [289,301,302,299] (pSs pi0 HA qd) args hp k:=by
 rintro args hp k ⟨b,j,F,a,d,rfl,hj,ha,hd,hk⟩;refine⟨rfl,?_⟩;have c1:=ah F.c;have a0:=ha.1;have a1:=ha.2;have d0:=hd.1;have d1:=hd.2
 have ns:∀{n:Int},isB n->(sgn n).natAbs<2 ^ 62:=λ{n} h=>by unfold sgn;obtain⟨h0,h1⟩:=h;cases decide (127<n)<;>simp<;>lia
 show pSs pi0 HA qd ⟨[(289,.ref j),(301,.int a),(302,.int d),(299,.int (cond b 1 (-1)))],hp⟩ _;delta qd
 cases b with
 | true =>
  refine Jg (v:=.int (b2 F.c)) (zN (c:=true) (UZ (i:=1) (zb rfl) zc) (λZ=>JP (xs:=fL F) (u:=0) (zb rfl) zc hj (by decide) (of_decide_eq_true rfl) (by decide)) λh=>nomatch h) ?_
  refine Jg (v:=.int (a+d+b2 F.c)) (jz (zD (zD (zb rfl) (ju (i:=1) (zb rfl) (zb rfl) (by decide))) (zb rfl)) (by rw[Int.one_mul])) ?_
  refine Jg (v:=.int (sgn a+sgn d+b2 F.c)) (jz (zD (zD (Ki (zb rfl)) (ju (i:=1) (zb rfl) (Ki (zb rfl)) (by decide))) (zb rfl)) (by rw[Int.one_mul])) ?_
  refine yx (w:=b2 (decide (255<a+d+b2 F.c))) (u:=0) (zN (c:=true) (UZ (i:=1) (zb rfl) zc) (λZ=>yj (f:=λb=>.int (cond b 1 0)) (bT (zb rfl) zc) zc zc) λh=>nomatch h) (zb rfl) zc hj (by decide) (of_decide_eq_true rfl) (by decide) ?_
  refine yx (w:=b2 (ovA a d (a+d+b2 F.c))) (u:=6) (jz (yj (f:=λb=>.int (cond b 1 0)) (XJ (sd (zb rfl) (QK zc)) (bT (zb rfl) zc)) zc zc) (by rw[<- BG ha hd F.c];rfl)) (zb rfl) zc (gb hj _) (by decide) (of_decide_eq_true rfl) (by decide) ?_
  refine qr (v:=.int ((a+d+b2 F.c)%256)) (zV (zb rfl) zc jV) ?_;show k _ ((hp.set j _).set j _);rw[List.set_set];exact hk
 | false =>
  have e1:a + -1*d+(b2 F.c-1)=a+(255-d)+b2 F.c-256:=by lia
  have e2:(a+(255-d)+b2 F.c-256)%256=(a+(255-d)+b2 F.c)%256:=by lia
  have e3:sgn a + -1*sgn d+(b2 F.c-1)=sgn a+sgn (255-d)+b2 F.c:=by rw[Co hd];lia
  refine Jg (v:=.int (b2 F.c-1)) (zN (c:=false) (UZ (i:=-1) (zb rfl) zc) (λh=>nomatch h) λZ=>QL (JP (xs:=fL F) (u:=0) (zb rfl) zc hj (by decide) (of_decide_eq_true rfl) (by decide)) zc) ?_
  refine Jg (v:=.int (a+(255-d)+b2 F.c-256)) (jz (zD (zD (zb rfl) (ju (i:=-1) (zb rfl) (zb rfl) (by decide))) (zb rfl)) e1) ?_
  refine Jg (v:=.int (sgn a+sgn (255-d)+b2 F.c)) (jz (zD (zD (Ki (zb rfl)) (ju (i:=-1) (zb rfl) (Ki (zb rfl)) (by decide))) (zb rfl)) e3) ?_
  refine yx (w:=b2 (decide (255<a+(255-d)+b2 F.c))) (u:=0) (zN (c:=false) (UZ (i:=-1) (zb rfl) zc) (λh=>nomatch h) λZ=>jz (yj (f:=λb=>.int (cond b 1 0)) (r9 (zb rfl) zc) zc zc) ?_) (zb rfl) zc hj (by decide) (of_decide_eq_true rfl) (by decide) ?_
  ·show(b2 (decide (0<=a+(255-d)+b2 F.c-256)):Int)=_
   exact congrArg b2 (decide_eq_decide.mpr (by lia))
  refine yx (w:=b2 (ovS a d (a+(255-d)+b2 F.c))) (u:=6) (jz (yj (f:=λb=>.int (cond b 1 0)) (XJ (sd (zb rfl) (QK zc)) (bT (zb rfl) zc)) zc zc) (by rw[<- ov1 hd,<- BG ha (Dp hd) F.c];rfl)) (zb rfl) zc (gb hj _) (by decide) (of_decide_eq_true rfl) (by decide) ?_
  refine qr (v:=.int ((a+(255-d)+b2 F.c)%256)) (jz (zV (zb rfl) zc jV) e2) ?_;show k _ ((hp.set j _).set j _);rw[List.set_set];exact hk
noncomputable def rC:Str:=⟨⟨[108,101,102,116]⟩⟩
noncomputable def i4:Str:=⟨⟨[114,111,117,110,100]⟩⟩
theorem Xo{l:List Bool}(h:Nat.ble l.length 9=true):Oc (l.map b2):=⟨by rw[List.length_map];exact Nat.le_of_ble_eq_true h,λu hu=>by
 refine zd (List.mem_map.mp hu) λb Z Fy=>?_;subst Fy
 cases b<;>decide⟩
theorem iL(F:Fl):Oc (fL F):=Xo (l:=[F.c,F.z,F.i,F.d,F.b,F.u,F.v,F.n]) rfl
noncomputable def tnE(R:Bool)(F:Fl):Bool:=R&&F.c
noncomputable def tnV(L:Bool)(e:Bool)(v:Int):Int:=cond L ((2*v+b2 e)%256) (v/2+128*b2 e)
noncomputable def tnC(L:Bool)(v:Int):Bool:=cond L (bt 7 v) (bt 0 v)
theorem Ep{v:Int}(h:isB v)(c:Bool):qS [b2 c,b2 (bt 0 v),b2 (bt 1 v),b2 (bt 2 v),b2 (bt 3 v),b2 (bt 4 v),b2 (bt 5 v),b2 (bt 6 v)]=(2*v+b2 c)%256:=by
 have:∀c:Bool,qS [b2 c,b2 (bt 0 v),b2 (bt 1 v),b2 (bt 2 v),b2 (bt 3 v),b2 (bt 4 v),b2 (bt 5 v),b2 (bt 6 v)]=(2*v+b2 c)%256:=yB (n:=256) (P:=λv=>∀c:Bool,qS [b2 c,b2 (bt 0 v),b2 (bt 1 v),b2 (bt 2 v),b2 (bt 3 v),b2 (bt 4 v),b2 (bt 5 v),b2 (bt 6 v)]=(2*v+b2 c)%256) (by decide +kernel) h.1 h.2
 exact this c
theorem Es{v:Int}(h:isB v)(c:Bool):qS [b2 (bt 1 v),b2 (bt 2 v),b2 (bt 3 v),b2 (bt 4 v),b2 (bt 5 v),b2 (bt 6 v),b2 (bt 7 v),b2 c]=v/2+128*b2 c:=by
 have:∀c:Bool,qS [b2 (bt 1 v),b2 (bt 2 v),b2 (bt 3 v),b2 (bt 4 v),b2 (bt 5 v),b2 (bt 6 v),b2 (bt 7 v),b2 c]=v/2+128*b2 c:=yB (n:=256) (P:=λv=>∀c:Bool,qS [b2 (bt 1 v),b2 (bt 2 v),b2 (bt 3 v),b2 (bt 4 v),b2 (bt 5 v),b2 (bt 6 v),b2 (bt 7 v),b2 c]=v/2+128*b2 c) (by decide +kernel) h.1 h.2
 exact this c
noncomputable def Zc:Sp:=λargs hp k=>∃(s:Str) (L R:Bool) (j:Nat) (F:Fl) (v:Int),args = [.ref j,.str s,.int v]/\Txt.contains s rC=L/\Txt.contains s i4=R/\hp[j]?=some (.il (fL F))/\isB v/\k (.int (tnV L (tnE R F) v)) (hp.set j (.il (fL { F with c:=tnC L v })))
section
variable {e:IE}
theorem ch{n:Int}(h1:zf pi0 HA e O (.int n)):zf pi0 HA (.callv (.top x 1498) [e]) O (.il (zY n)):=qi (by kernel_rfl) (ze h1 zL) λk h=>aO h
theorem XX{xs:List Int}(h1:zf pi0 HA e O (.il xs))(ho:Oc xs):zf pi0 HA (.callv (.top x 1503) [e]) O (.int (qS xs)):=qi (by kernel_rfl) (ze h1 zL) λk h=>gi ho h
end
theorem tA:∀args hp k,Zc args hp k->zX [289,306,40] (pSs pi0 HA yH) args hp k:=by
 rintro args hp k ⟨s,L,R,j,F,v,rfl,hL,hR,hj,hv,hk⟩;refine⟨rfl,?_⟩;show pSs pi0 HA yH ⟨[(289,.ref j),(306,.str s),(40,.int v)],hp⟩ _;delta yH;refine Jg (v:=.int (b2 (tnE R F))) (zN (c:=R) (Qn (zb rfl) hR) (λh=>?_) λh=>?_) ?_
 ·rw[h];exact JP (xs:=fL F) (u:=0) (zb rfl) zc hj (by decide) (of_decide_eq_true rfl) (by decide)
 ·rw[h];exact zc
 refine Jg (ch (zb rfl)) ?_
 cases L with
 | true =>
  refine Jg (v:=.il (b2 (tnE R F)::zY v)) (zN (c:=true) (Qn (zb rfl) hL) (λZ=>XK (xs:=[b2 (tnE R F)]) (ys:=zY v) (j5 (ze (zb rfl) zL) rfl rfl) (zb rfl) (Nat.le_of_ble_eq_true rfl)) λh=>nomatch h) ?_;refine yx (w:=b2 (bt 7 v)) (u:=0) (zN (c:=true) (Qn (zb rfl) hL) (λZ=>U0 (k:=8) (xs:=b2 (tnE R F)::zY v) (zb rfl) zc (Nat.le_of_ble_eq_true rfl) (Nat.le_of_ble_eq_true rfl)) λh=>nomatch h) (zb rfl) zc hj (by decide) (of_decide_eq_true rfl) (by decide) ?_
  refine qr (v:=.int ((2*v+b2 (tnE R F))%256)) (jz (XX (xs:=[b2 (tnE R F),b2 (bt 0 v),b2 (bt 1 v),b2 (bt 2 v),b2 (bt 3 v),b2 (bt 4 v),b2 (bt 5 v),b2 (bt 6 v)]) (zN (c:=true) (Qn (zb rfl) hL) (λZ=>Za (xs:=b2 (tnE R F)::zY v) (zb rfl) Qm (yQ zc) rfl rfl (Nat.le_of_ble_eq_true rfl) rfl) λh=>nomatch h) (Xo (l:=[tnE R F,bt 0 v,bt 1 v,bt 2 v,bt 3 v,bt 4 v,bt 5 v,bt 6 v]) rfl)) (Ep hv _)) hk
 | false =>
  refine Jg (v:=.il (zY v ++ [b2 (tnE R F)])) (zN (c:=false) (Qn (zb rfl) hL) (λh=>nomatch h) λZ=>XK (xs:=zY v) (ys:=[b2 (tnE R F)]) (zb rfl) (j5 (ze (zb rfl) zL) rfl rfl) (Nat.le_of_ble_eq_true rfl)) ?_;refine yx (w:=b2 (bt 0 v)) (u:=0) (zN (c:=false) (Qn (zb rfl) hL) (λh=>nomatch h) λZ=>U0 (k:=0) (xs:=zY v ++ [b2 (tnE R F)]) (zb rfl) zc (Nat.le_of_ble_eq_true rfl) (Nat.le_of_ble_eq_true rfl)) (zb rfl) zc hj (by decide) (of_decide_eq_true rfl) (by decide) ?_
  refine qr (v:=.int (v/2+128*b2 (tnE R F))) (jz (XX (xs:=[b2 (bt 1 v),b2 (bt 2 v),b2 (bt 3 v),b2 (bt 4 v),b2 (bt 5 v),b2 (bt 6 v),b2 (bt 7 v),b2 (tnE R F)]) (zN (c:=false) (Qn (zb rfl) hL) (λh=>nomatch h) λZ=>Za (xs:=zY v ++ [b2 (tnE R F)]) (zb rfl) (yQ zc) Qm rfl rfl (Nat.le_of_ble_eq_true rfl) rfl) (Xo (l:=[bt 1 v,bt 2 v,bt 3 v,bt 4 v,bt 5 v,bt 6 v,bt 7 v,tnE R F]) rfl)) (Es hv _)) hk
section
section
variable {n m:Nat}(gg:n<=m)
include gg
mutual
theorem VY:∀(v:PV),bdd n v->bdd m v
 | .ref i,b=>Nat.lt_of_lt_of_le b gg
 | .tup vs,b=>JE vs b
 | .ls vs,b=>JE vs b
 | .bound v _,b=>VY v b
 | .none,_=>trivial
 | .bool _,_=>trivial
 | .int _,_=>trivial
 | .str _,_=>trivial
 | .top _,_=>trivial
 | .il _,_=>trivial
theorem JE:∀(vs:List PV),qm n vs->qm m vs
 | [],_=>trivial
 | v::vs,b=>⟨VY v b.1,JE vs b.2⟩
end
theorem dG:∀(l:List (Nat×PV)),FR.bdd n l->FR.bdd m l
 | [],_=>trivial
 | (k,v)::r,b=>⟨VY gg v b.1,dG r b.2⟩
theorem qk:∀(l:List PO),POs.bdd n l->POs.bdd m l
 | [],_=>trivial
 | .inst fs::r,b=>⟨dG gg fs b.1,qk r b.2⟩
 | .ls vs::r,b=>⟨JE gg vs b.1,qk r b.2⟩
 | .cell (some v)::r,b=>⟨VY gg v b.1,qk r b.2⟩
 | .dct fs::r,b=>⟨JE gg (fs.map (·.2)) b.1,qk r b.2⟩
 | .zip u v::r,b=>⟨JE gg [u,v] b.1,qk r b.2⟩
 | .cell none::r,b=>qk r b
 | .il _::r,b=>qk r b
 | .gone::r,b=>qk r b
 | .tab _::r,b=>qk r b
end
theorem yd{n:Nat}:∀(l:List PO) {r:List PO},POs.bdd n l->POs.bdd n r->POs.bdd n (l++r)
 | [],_,_,q=>q
 | .inst fs::l,_,b,q=>⟨b.1,yd l b.2 q⟩
 | .ls vs::l,_,b,q=>⟨b.1,yd l b.2 q⟩
 | .cell (some v)::l,_,b,q=>⟨b.1,yd l b.2 q⟩
 | .dct fs::l,_,b,q=>⟨b.1,yd l b.2 q⟩
 | .zip u v::l,_,b,q=>⟨b.1,yd l b.2 q⟩
 | .cell none::l,_,b,q=>yd l (r:=_) b q
 | .il _::l,_,b,q=>yd l (r:=_) b q
 | .gone::l,_,b,q=>yd l (r:=_) b q
 | .tab _::l,_,b,q=>yd l (r:=_) b q
section
variable {e i:IE}{r:Nat}{v:PV}{fs:List (Nat×PV)}{k:KF}{L:List (Nat×PV)}
theorem jt(h1:lk r L=some (.ref j))(h2:hp[j]?=some (.dct fs))(h3:lk x fs=some v):zf P H (.dget r x) ⟨L,hp⟩ v:=λκ hκ=>by
 show opt (lk r L) _;rw[h1];show V7 hp[j]? _;rw[h2];show opt (lk x fs) _;rw[h3];exact hκ
theorem JK(h1:lk r L=some (.ref j))(h2:hp[j]?=some (.dct fs))(hl:Nat.ble fs.length 1000=true):Ta P H (.dset r x) v ⟨L,hp⟩ ⟨L,hp.set j (.dct (st x v fs))⟩:=λκ hκ=>by
 show opt (lk r L) _;rw[h1];show V7 hp[j]? _;rw[h2]
 exact⟨hl,jd.mpr hκ⟩
theorem Ua(he:zf P H e ⟨L,hp⟩ v)(h1:lk r L=some (.ref j))(h2:hp[j]?=some (.dct fs))(hl:Nat.ble fs.length 1000=true)(h:pSs P H is ⟨L,hp.set j (.dct (st x v fs))⟩ k):pSs P H (.dput r x e::is) ⟨L,hp⟩ k:=he _ (JK (P:=P) (H:=H) h1 h2 hl _ h)
theorem bH{a b:IT}{F1 F5:PS}(he:∀κ:KE,κ v σ'->pE P H e O κ)(h1:Ta P H a v σ' F1)(h2:Ta P H b v F1 F5)(h:pSs P H is F5 k):pSs P H (.two a b e::is) O k:=he _ (h1 _ (h2 _ h))
theorem i5(he:∀κ:KE,κ v σ'->pE P H e O κ)(h:pSs P H is ⟨st x v σ'.loc,σ'.hp⟩ k):pSs P H (.name x e::is) O k:=he _ ((zW (O:=σ')).mpr h)
theorem Ub{y:Addr}{es:List IE}{us:List PV}(hf:P.fnT f=true)(h:Uc P H es ⟨L,hp⟩ us)(hc:∀k:PV->List PO->Prop,k v hp'->H f us hp k)(κ:KE)(hκ:κ v ⟨L,hp'⟩):pE P H (.callv (.top y f) es) ⟨L,hp⟩ κ:=
 ⟨hf,h _ (hc _ hκ)⟩
theorem kh{o o':PO}:(hp ++ [o]).set hp.length o'=hp ++ [o']:=by rw[List.set_append_right _ _ (Nat.le_refl _),Nat.sub_self];rfl
theorem bU{es:List IE}{us:List PV}{s:Str}(hb:POs.bdd hp.length hp)(hL:FR.bdd hp.length L)(hus:∀d,Uc P H es ⟨L,hp ++ [d]⟩ us)(hi:∀d,zf P H i ⟨L,hp ++ [d]⟩ (.str s))(hk:(kxs.find? λp=>jR p.1 s).map (·.2)=some x)
  (hv:lk x ((kxs.map (·.2)).zip us)=some v) (hvb:bdd hp.length v):zf P H (.dsel kxs es i) ⟨L,hp⟩ v:=λκ hκ=>by
 show VW (.dct []) hp _;refine jv.mpr (hus _ _ ?_);show V7 (hp ++ [PO.dct []])[hp.length]? _;rw[Xe]
 refine⟨rfl,jd.mpr ?_⟩;show pE P H i ⟨L,(hp ++ [PO.dct []]).set hp.length (.dct ((kxs.map (·.2)).zip us))⟩ (λb F5=>fw kxs (.ref hp.length) b F5 (wD hp.length κ))
 rw[kh];refine hi _ _ ?_;show opt _ _;rw[hk];show V7 (hp ++ [PO.dct ((kxs.map (·.2)).zip us)])[hp.length]? _;rw[Xe];show opt (lk x _) _;rw[hv];exact(yV hp ([_]) rfl rfl hb ⟨hL,hvb,hκ⟩)
end
section
variable {elt it a b:IE}{z:Nat}{xs:List Int}{L:List (Nat×PV)}
theorem kP(h1:zf P H a ⟨L,hp⟩ (.il xs))(h2:zf P H b ⟨L,hp⟩ (.il ys))(κ:KE)(hκ:κ (.ref hp.length) ⟨L,hp ++ [.zip (.il xs) (.il ys)]⟩):pE P H (.zip z [a,b]) ⟨L,hp⟩ κ:=h1 _ (h2 _ (jv.mpr hκ))
noncomputable def zpW(g:Int->Int->Int):List Int->List Int->List Int
 | x::xs,y::ys=>g x y::zpW g xs ys
 | _,_=>[]
theorem bZ{g:Int->Int->Int}:∀{xs ys:List Int},(zpW g xs ys).length<=xs.length
 | [],_=>Nat.le_refl 0
 | _::_,[]=>Nat.zero_le _
 | _::xs,_::ys=>Nat.succ_le_succ (bZ (xs:=xs) (ys:=ys))
theorem az{Wv:PV->PS->KE->Prop}{g:Int->Int->Int}{O:PS}{κ:List PV->PS->Prop}:∀(xs ys acc:List Int),(∀u v,∀κ:KE,κ (.int (g u v)) O->Wv (.tup [.int u,.int v]) O κ)->κ ((acc++zpW g xs ys).map .int) O->q7 Wv (U1 (xs.map .int) (ys.map .int)) (acc.map .int) O κ
 | [],ys,acc,_,h=>by rw[show zpW g [] ys = [] from rfl,List.append_nil] at h;exact h
 | x::xs,[],acc,_,h=>by rw[show zpW g (x::xs) [] = [] from rfl,List.append_nil] at h;exact h
 | u::xs,v::ys,acc,hw,h=>hw u v _ (by
  have:=az (Wv:=Wv) (g:=g) (κ:=κ) (O:=O) xs ys (acc ++ [g u v]) hw (by rw[List.append_assoc];exact h)
  rw[List.map_append] at this;exact this)
theorem Y9{g:Int->Int->Int}{L':List (Nat×PV)}(hi:∀κ:KE,κ (.ref j) ⟨L',hp'⟩->pE P H it ⟨L,hp⟩ κ)(hj:hp'[j]?=some (.zip (.il xs) (.il ys)))(hl:xs.length=ys.length)(hn:xs.length<=1000)
  (he:∀u v,zf (P.cv x (.tup [.int u,.int v])) H elt ⟨L',hp'.set j .gone⟩ (.int (g u v))) (κ:KE) (hκ:κ (.il (zpW g xs ys)) ⟨L',hp'.set j .gone⟩):pE P H (.compZ false x elt it) ⟨L,hp⟩ κ:=hi _ (by
 show w4 hp'[j]? _;rw[hj];refine⟨⟨⟨qN xs,qN ys⟩,by rw[List.length_map,List.length_map,hl],by rw[List.length_map];exact qG hn rfl⟩,qI.mpr ?_⟩
 refine az (g:=g) xs ys [] (λu v κ hκ=>he u v κ hκ) ?_;exact K9 (Nat.le_trans bZ hn) hκ)
theorem bV{u v:Int}(h:zf P H a O (.tup [.int u,.int v])):zf P H (.blt .minT y [a]) O (.int (if v<u then v else u)):=λκ hκ=>h _ hκ
theorem pY{u v:Int}(h:zf P H a O (.tup [.int u,.int v])):zf P H (.blt .maxT y [a]) O (.int (if v>u then v else u)):=λκ hκ=>h _ hκ
theorem pZ{u v:Int}(h:zf P H a O (.tup [.int u,.int v])):zf P H (.blt .sumT y [a]) O (.int ([u,v].sum)):=λκ hκ=>h _ hκ
end
end
@[irreducible] noncomputable def HB:Hd:=(HA.ext 1517 dM).ext 1524 Zc
section
variable {args:List PV}{k:PV->List PO->Prop}{n:Int}{xs:List Int}
theorem tI(h:dM args hp k):HB 1517 args hp k:=by unfold HB;exact h
theorem mE(h:Zc args hp k):HB 1524 args hp k:=by unfold HB;exact h
theorem mC(h:k (.il (zY n)) hp):HB 1498 [.int n] hp k:=by unfold HB;exact aO h
theorem gk(h:k (.ref (hp.length+1)) (hp ++ [.cell (some (.int n)),.il (zY n)])):HB 1498 [.int n] hp k:=by unfold HB;exact gh h
theorem tH(ho:Oc xs)(h:k (.int (qS xs)) hp):HB 1503 [.il xs] hp k:=by unfold HB;exact gi ho h
theorem aQ(hj:hp[j]?=some (.il xs))(ho:Oc xs)(h:k (.int (qS xs)) hp):HB 1503 [.ref j] hp k:=by unfold HB;exact mz hj ho h
theorem mF(h:k (.il [n%256,n/256]) hp):HB 1493 [.int n] hp k:=by unfold HB;exact mB h
theorem mD(h:Uf args hp k):HB 43 args hp k:=by unfold HB;exact mA h
end
set_option genCtorIdx false in
inductive Tq where
 | st3 (a b c:Str)
 | or2 (a b:Str)
 | in2 (a b:Str)
 | eq (a:Str)
 | ne (a:Str)
noncomputable def Tq.ie:Tq->IE
 | .st3 a b c=>.cmp .st .In (.loc 306) (.tup [.str a,.str b,.str c])
 | .or2 a b=>.or [.cmp .s .Eq (.loc 306) (.str a),.cmp .s .Eq (.loc 306) (.str b)]
 | .in2 a b=>.or [.cmp .ss .In (.str a) (.loc 306),.cmp .ss .In (.str b) (.loc 306)]
 | .eq a=>.cmp .s .Eq (.loc 306) (.str a)
 | .ne a=>.cmp .s .NotEq (.loc 306) (.str a)
noncomputable def Tq.b(s:Str):Tq->Bool
 | .st3 a b c=>[a,b,c].any (· == s)
 | .or2 a b=>jR s a||jR s b
 | .in2 a b=>Txt.contains s a||Txt.contains s b
 | .eq a=>jR s a
 | .ne a=>!jR s a
section
variable {k:KF}{s:Str}
theorem Tq.ok(h:lk 306 O.loc=some (.str s))(q:Tq):Jh P H q.ie O (q.b s):=by
 have h0:=zb (P:=P) (H:=H) h
 cases q with
 | st3 a b c=>exact λκ hκ=>h0 _ ⟨show(3:Nat)<=1000 by decide,hκ⟩
 | or2 a b=>exact XJ (jl h0 rfl) (jl h0 rfl)
 | in2 a b=>exact XJ (Qn h0 rfl) (Qn h0 rfl)
 | eq a=>exact jl h0 rfl
 | ne a=>exact λκ hκ=>h0 _ hκ
noncomputable def chO(d:List IS):List (Tq×List IS)->List IS
 | []=>d
 | (q,A)::r=>[.ite q.ie A (chO d r)]
noncomputable def iQ(s:Str)(d:List IS):List (Tq×List IS)->List IS
 | []=>d
 | (q,A)::r=>cond (q.b s) A (iQ s d r)
theorem bw{d:List IS}(h:lk 306 O.loc=some (.str s)):∀{r:List (Tq×List IS)},pSs P H (iQ s d r++is) O k->pSs P H (chO d r++is) O k
 | [],hk=>hk
 | (q,A)::r,hk=>by
  refine vL (q.ok h) (λe=>?_) (λe=>?_)
  ·replace hk:pSs P H (cond (q.b s) A (iQ s d r)++is) O k:=hk
   rw[e] at hk;exact hk
  ·replace hk:pSs P H (cond (q.b s) A (iQ s d r)++is) O k:=hk
   rw[e] at hk;exact bw h hk
end
noncomputable def ck(i:Nat):IS:=match i with
 | 0=>nt zR 4
 | i+1=>nt (iO true (ck i)) 0
noncomputable def rT:List (Tq×List IS):=[(.st3 ⟨⟨[111,114]⟩⟩ ⟨⟨[97,110,100]⟩⟩ ⟨⟨[100,105,102,102,101,114]⟩⟩,iO false (ck 0)),(.or2 ⟨⟨[97,100,100]⟩⟩ ⟨⟨[116,97,107,101]⟩⟩,iO false (ck 1)),(.or2 ⟨⟨[108,111,97,100]⟩⟩ ⟨⟨[120,32,116,111,32,97]⟩⟩,iO false (ck 2)),(.or2 ⟨⟨[108,111,97,100,32,120]⟩⟩ ⟨⟨[97,32,116,111,32,120]⟩⟩,iO false (ck 3)),(.or2 ⟨⟨[111,114,100,101,114]⟩⟩ ⟨⟨[111,114,100,101,114,32,120]⟩⟩,iO false (ck 4)),(.or2 ⟨⟨[115,116,111,114,101]⟩⟩ ⟨⟨[115,116,111,114,101,32,120]⟩⟩,iO false (ck 5)),(.in2 ⟨⟨[108,101,102,116]⟩⟩ ⟨⟨[114,105,103,104,116]⟩⟩,iO false (ck 6)),(.or2 ⟨⟨[117,112]⟩⟩ ⟨⟨[100,111,119,110]⟩⟩,iO false (ck 7)),(.or2 ⟨⟨[117,112,32,120]⟩⟩ ⟨⟨[100,111,119,110,32,120]⟩⟩,iO false (ck 8)),(.eq ⟨⟨[108,111,111,107]⟩⟩,iO false (ck 9)),(.or2 ⟨⟨[112,117,115,104]⟩⟩ ⟨⟨[112,117,115,104,32,102,108,97,103,115]⟩⟩,iO false (ck 10)),(.eq ⟨⟨[112,117,108,108]⟩⟩,iO false (ck 11)),(.eq ⟨⟨[116,111,112,32,116,111,32,120]⟩⟩,iO false (ck 12)),(.eq ⟨⟨[120,32,116,111,32,116,111,112]⟩⟩,iO false (ck 13)),(.ne ⟨⟨[110,111,116,104,105,110,103]⟩⟩,iO false (ck 14))]
noncomputable def tlR:List IS:=[nt zR 5]
noncomputable def brR(w:Nat):List IS:=iQ (jg w) (iO true (ck 14)) rT
theorem tP:zR=nt zR 0::nt zR 1::nt zR 2::nt zR 3::(chO (iO true (ck 14)) rT++tlR):=by kernel_rfl
theorem De:brR 0=iO false (ck 0):=by kernel_rfl
theorem Df:brR 1=iO false (ck 0):=by kernel_rfl
theorem Dg:brR 2=iO false (ck 0):=by kernel_rfl
theorem Dh:brR 3=iO false (ck 1):=by kernel_rfl
theorem Di:brR 4=iO false (ck 1):=by kernel_rfl
theorem Dj:brR 5=iO false (ck 2):=by kernel_rfl
theorem Dk:brR 6=iO false (ck 4):=by kernel_rfl
theorem Dl:brR 7=iO false (ck 3):=by kernel_rfl
theorem Dm:brR 8=iO false (ck 4):=by kernel_rfl
theorem Do:brR 9=iO false (ck 5):=by kernel_rfl
theorem xp:brR 10=iO false (ck 5):=by kernel_rfl
theorem xq:brR 11=iO false (ck 6):=by kernel_rfl
theorem xr:brR 12=iO false (ck 6):=by kernel_rfl
theorem xt:brR 13=iO false (ck 6):=by kernel_rfl
theorem xu:brR 14=iO false (ck 6):=by kernel_rfl
theorem xv:brR 15=iO false (ck 7):=by kernel_rfl
theorem xw:brR 16=iO false (ck 7):=by kernel_rfl
theorem xx:brR 17=iO false (ck 9):=by kernel_rfl
theorem xy:brR 18=iO false (ck 14):=by kernel_rfl
theorem xz:brR 19=iO false (ck 14):=by kernel_rfl
theorem xA:brR 20=iO false (ck 14):=by kernel_rfl
theorem xB:brR 21=iO false (ck 14):=by kernel_rfl
theorem xC:brR 22=iO false (ck 14):=by kernel_rfl
theorem xD:brR 23=iO false (ck 3):=by kernel_rfl
theorem xE:brR 24=iO false (ck 2):=by kernel_rfl
theorem xF:brR 25=iO false (ck 8):=by kernel_rfl
theorem xG:brR 26=iO false (ck 8):=by kernel_rfl
theorem xH:brR 27=iO false (ck 10):=by kernel_rfl
theorem xI:brR 28=iO false (ck 11):=by kernel_rfl
theorem xJ:brR 29=iO false (ck 12):=by kernel_rfl
theorem xK:brR 30=iO false (ck 13):=by kernel_rfl
theorem xL:brR 31=iO false (ck 10):=by kernel_rfl
theorem xM:brR 32 = []:=by kernel_rfl
structure O5 where
 o0:PO
 o1:PO
 o2:PO
 o3:PO
 o5:PO
 o7:PO
noncomputable def dR(A:As):PO:=.dct [(20,.int A.a),(21,.int A.x),(288,.int A.s),(289,.ref 8)]
noncomputable def hB(o:O5)(A:As):List PO:=[o.o0,o.o1,o.o2,o.o3,.il A.P,o.o5,dR A,o.o7,.il (fL A.f)]
noncomputable def hR(o:O5)(A:As)(cs:Option PV)(ex:List PO):List PO:=o.o0::o.o1::o.o2::o.o3::.il A.P::o.o5::dR A::o.o7::.il (fL A.f)::.cell cs::ex
noncomputable def plV(md:Nat)(v:Int)(A:As):Int:=cond (Nat.beq md 2) ((A.x+v)%256) v
noncomputable def vlV(md:Nat)(v:Int)(A:As):Int:=match md with | 0=>v | 3=>A.a | _=>rd A.P (plV md v A)
noncomputable def LT(w md:Nat)(v:Int)(A:As):List (Nat×PV):=[(287,.ref 6),(284,.ref 4),(306,.str (jg w)),(308,.str (yZ md)),(309,.int v),(21,.int A.x),(20,.int A.a),(289,.ref 8),(294,.int (plV md v A)),(40,.int (vlV md v A)),(310,.none)]
structure Gr(md:Nat)(v:Int)(A:As):Prop where
 ok:OkA A
 len:A.P.length=65536
 v:Qc md v
 md:md<4
 bu:A.f.b=true/\A.f.u=true
section
variable {o:O5}{cs:Option PV}{ex:List PO}{w:Nat}{v:Int}{K:KF}{L:List (Nat×PV)}
theorem Gr.pl(g:Gr md v A):isB (plV md v A):=by
 unfold plV
 cases Nat.beq md 2 with
 | true=>exact jn _
 | false=>exact g.v.1
theorem Gr.vl(g:Gr md v A):isB (vlV md v A):=by
 have hm:=g.md
 revert g
 exact gv (P:=λmd=>Gr md v A->isB (vlV md v A)) (λg=>g.v.1) (λg=>g.ok.P.rd _) (λg=>g.ok.P.rd _) (λg=>g.ok.a) md hm
theorem lnP{P:Mem}(h:P.length=65536){u:Int}(h1:u<65536):u<P.length:=by rw[h];exact h1
theorem Z9{i:IE}{u:Int}(hl:A.P.length=65536)(h0:lk 284 L=some (.ref 4))(h1:zf (pR 9) H i ⟨L,hR o A cs ex⟩ (.int u))(u0:0<=u)(u1:u<65536):zf (pR 9) H (.sub (.loc 284) i) ⟨L,hR o A cs ex⟩ (.int (rd A.P u)):=
 JP (zb h0) h1 rfl u0 (lnP hl u1) (Int.lt_trans u1 (by decide))
theorem wt{i:IE}{u z:Int}(hl:A.P.length=65536)(h0:lk 284 L=some (.ref 4))(h1:zf (pR 9) H i ⟨L,hR o A cs ex⟩ (.int u))(u0:0<=u)(u1:u<65536):Ta (pR 9) H (.sub (.loc 284) i) (.int z) ⟨L,hR o A cs ex⟩ ⟨L,hR o { A with P:=wr A.P u z } cs ex⟩:=
 UU (P:=pR 9) (H:=H) (O:=⟨L,hR o A cs ex⟩) (j:=4) (u:=u) (w:=z) (xs:=A.P) (zb h0) h1 rfl u0 (lnP hl u1) (Int.lt_trans u1 (by decide))
noncomputable def eI:IS->IE
 | .name _ e=>e
 | _=>.none
theorem tL(g:Gr md v A)(h:pSs (pR 9) HB (brR w++tlR) ⟨LT w md v A,hR o A none []⟩ K):pSs (pR 9) HB zR ⟨[(287,.ref 6),(284,.ref 4),(306,.str (jg w)),(308,.str (yZ md)),(309,.int v)],hR o A none []⟩ K:=by
 rw[tP];have p:=g.pl;refine vN (v:=.ref 8) (w:=.int A.a) (w':=.int A.x) (JB (ze (jt rfl rfl rfl) (ze (jt rfl rfl rfl) (ze (jt rfl rfl rfl) zL))) rfl) ?_;refine Jg (v:=.int (plV md v A)) ?_ ?_
 ·exact gv (P:=λmd=>zf (pR 9) HB (eI (nt zR 1)) ⟨[(287,.ref 6),(284,.ref 4),(306,.str (jg w)),(308,.str (yZ md)),(309,.int v),(21,.int A.x),(20,.int A.a),(289,.ref 8)],hR o A none []⟩ (.int (plV md v A))) (zN (c:=false) (jl (zb rfl) rfl) (λh=>nomatch h) λZ=>zb rfl) (zN (c:=false) (jl (zb rfl) rfl) (λh=>nomatch h) λZ=>zb rfl) (zN (c:=true) (jl (zb rfl) rfl) (λZ=>jz (zV (zD (zb rfl) (zb rfl)) zc jV) (by rw[Int.add_comm];rfl)) λh=>nomatch h) (zN (c:=false) (jl (zb rfl) rfl) (λh=>nomatch h) λZ=>zb rfl) md g.md
 refine Jg (v:=.int (vlV md v A)) ?_ ?_
 ·have gl:=g.len
  exact gv (P:=λmd=>isB (plV md v A)->zf (pR 9) HB (eI (nt zR 2)) ⟨[(287,.ref 6),(284,.ref 4),(306,.str (jg w)),(308,.str (yZ md)),(309,.int v),(21,.int A.x),(20,.int A.a),(289,.ref 8),(294,.int (plV md v A))],hR o A none []⟩ (.int (vlV md v A))) (λp=>zN (c:=true) (jl (zb rfl) rfl) (λZ=>zb rfl) λh=>nomatch h) (λp=>zN (c:=false) (jl (zb rfl) rfl) (λh=>nomatch h) λZ=>zN (c:=false) (jl (zb rfl) rfl) (λh=>nomatch h) λZ=>Z9 gl rfl (zb rfl) p.1 (Int.lt_trans p.2 (by decide))) (λp=>zN (c:=false) (jl (zb rfl) rfl) (λh=>nomatch h) λZ=>zN (c:=false) (jl (zb rfl) rfl) (λh=>nomatch h) λZ=>Z9 gl rfl (zb rfl) p.1 (Int.lt_trans p.2 (by decide))) (λp=>zN (c:=false) (jl (zb rfl) rfl) (λh=>nomatch h) λZ=>zN (c:=true) (jl (zb rfl) rfl) (λZ=>zb rfl) λh=>nomatch h) md g.md p
 refine Jg (v:=.none) (λκ h=>h) ?_;exact bw rfl h
theorem rH{t:Int}(h:isB t):t/128=b2 (bt 7 t):=yB (n:=256) (P:=λt=>t/128=b2 (bt 7 t)) (by decide +kernel) h.1 h.2
structure Lk2(L:List (Nat×PV))(t:PV):Prop where
 t:lk 310 L=some t
 f:lk 289 L=some (.ref 8)
theorem pv{z:Int}(h0:lk 289 L=some (.ref 8))(hi:i<8):Ta (pR 9) H (.sub (.loc 289) (.int (i:Int))) (.int z) ⟨L,hR o A cs ex⟩ ⟨L,(hR o A cs ex).set 8 (.il (wr (fL A.f) i z))⟩:=
 UU (P:=pR 9) (H:=H) (O:=⟨L,hR o A cs ex⟩) (j:=8) (u:=(i:Int)) (w:=z) (xs:=fL A.f) (zb h0) zc rfl (Int.natCast_nonneg _) (by show(i:Int)<8;exact zQ (bC hi) rfl) (by lia)
theorem JM(q:Lk2 L .none)(h:K .next ⟨L,hR o A cs ex⟩):pSs (pR 9) HB tlR ⟨L,hR o A cs ex⟩ K:=vJ (C4 (zb q.t)) rfl h
theorem qX{t:Int}(ht:isB t)(q:Lk2 L (.int t))(h:K .next ⟨L,hR o { A with f:=nzF A.f t } cs ex⟩):pSs (pR 9) HB tlR ⟨L,hR o A cs ex⟩ K:=by
 refine vO (C3 (zb q.t)) rfl ?_;refine ZU (v:=.tup [.int (b2 (decide (t=0))),.int (b2 (bt 7 t))]) (us:=[.int (b2 (decide (t=0))),.int (b2 (bt 7 t))]) (JB (ze (yj (f:=λb=>.int (cond b 1 0)) (UZ (zb q.t) zc) zc zc) (ze (by rw[<- rH ht];exact qs (zb q.t) zc rR) zL)) rfl) rfl rfl
  (y4 (pv (i:=1) q.f (by decide)) (y4 (pv (A:={ A with f:={ A.f with z:=decide (t=0) } }) (i:=7) q.f (by decide)) XF)) ?_
 exact h
end
noncomputable def wmB(w md:Nat):Bool:=cond (Nat.ble w 6) (Nat.blt md 3) (cond (Nat.ble w 8) (Nat.blt md 2) (cond (Nat.ble 11 w&&Nat.ble w 14) (Nat.beq md 1||Nat.beq md 3) (cond (Nat.ble w 17) (Nat.beq md 1) (Nat.beq md 3))))
theorem vI:qH.all (λr=>wmB r.2.1 r.2.2)=true:=by kernel_rfl
def Tk(w:Nat):Prop:=∀{o:O5} {A:As} {v:Int} {md:Nat} {K:KF},Gr md v A->POs.bdd 9 (hB o A)->wmB w md=true->(∀L cs ex,K .next ⟨L,hR o (eff w md v A) cs ex⟩)->pSs (pR 9) HB (brR w++tlR) ⟨LT w md v A,hR o A none []⟩ K
section
variable {e i o:IE}{v:PV}{u w:Int}{hp1:List PO}{L L':List (Nat×PV)}{k:KF}{xs:List Int}{n:Int}
theorem pW{v':PV}(h:zf P H e O v)(e':v=v'):zf P H e O v':=e'▸h
theorem cb(h1:zf (pR 9) HB e O (.int n)):zf (pR 9) HB (.callv (.top x 1498) [e]) O (.il (zY n)):=qi (by kernel_rfl) (ze h1 zL) λk h=>mC h
theorem kN{y:Addr}{uu:PV}(hf:P.fnT f=true)(he:∀κ:KE,κ uu ⟨L',hp1⟩->pE P H e ⟨L,hp⟩ κ)(hc:∀k:PV->List PO->Prop,k v hp'->H f [uu] hp1 k)(κ:KE)(hκ:κ v ⟨L',hp'⟩):pE P H (.callv (.top y f) [e]) ⟨L,hp⟩ κ:=
 ⟨hf,he _ (hc _ hκ)⟩
theorem oK(he:∀κ:KE,κ (.int w) σ'->pE P H e O κ)(h1:zf P H o σ' (.ref j))(h2:zf P H i σ' (.int u))(h:σ'.hp[j]?=some (.il xs))(u0:0<=u)(u1:u<xs.length)(u2:u<2 ^ 63)(h3:pSs P H is ⟨σ'.loc,σ'.hp.set j (.il (wr xs u w))⟩ k):pSs P H (.put o i e::is) O k:=he _ (UU h1 h2 h u0 u1 u2 _ h3)
theorem kU{s:Str}{c:Nat}(h:zf P H e O (.str s))(hi:zf P H i O (.int u))(hb:-(2 ^ 63)<=u/\u<2 ^ 63)(hj:((seqIndex? u s.length).bind (s.cps[·]?))=some c):zf P H (.sat e i) O (.str ⟨#[c]⟩):=λκ hκ=>h _ (hi _ ⟨hb,by
 show opt ((seqIndex? u s.length).bind (s.cps[·]?)) _;rw[hj];exact hκ⟩)
theorem wZ{c:Nat}(h:zf P H e O (.str ⟨#[c]⟩)):zf P H (.blt .ord y [e]) O (.int (c:Nat)):=λκ hκ=>h _ ⟨c,rfl,hκ⟩
end
theorem ae{g:Int->Int->Int}{f:Bool->Bool->Bool}{a v r:Int}(h:∀p q,g (b2 p) (b2 q)=b2 (f p q))(hr:∀k,bt k r=f (bt k a) (bt k v)):zpW g (zY a) (zY v)=zY r:=by
 unfold zY;simp only[hr,<- h];rfl
noncomputable def gK:Nat->Int->Int->Int
 | 0=>λu v=>if v>u then v else u
 | 1=>λu v=>if v<u then v else u
 | _=>λu v=>[u,v].sum%2
noncomputable def rK:Nat->Int->Int->Int
 | 0=>iOr | 1=>zA | _=>Jc
theorem kZ(a v:Int):∀w:Nat,zpW (gK w) (zY a) (zY v)=zY (rK w a v)
 | 0=>ae (f:=λp q=>p||q) (λp q=>by cases p<;>cases q<;>rfl) λk=>rp k a v
 | 1=>ae (f:=λp q=>p&&q) (λp q=>by cases p<;>cases q<;>rfl) λk=>Jj k a v
 | _+2=>ae (f:=λp q=>p !=q) (λp q=>by cases p<;>cases q<;>rfl) λk=>Qq k a v
theorem EC{a v:Int}(ha:isB a)(hv:isB v):∀w:Nat,isB (rK w a v)
 | 0=>gC ha hv
 | 1=>W8 ha
 | _+2=>aU ha hv
theorem u7(n:Int):Oc (zY n):=Xo (l:=[bt 0 n,bt 1 n,bt 2 n,bt 3 n,bt 4 n,bt 5 n,bt 6 n,bt 7 n]) rfl
section
variable {o:O5}{v:Int}{K:KF}
theorem tU{w:Nat}(hw:w<3)(ebr:brR w=iO false (ck 0))(Fg:eff w md v A = { A with a:=rK w A.a (vlV md v A),f:=nzF A.f (rK w A.a (vlV md v A)) })(hk:([(⟨⟨[111,114]⟩⟩,311),(⟨⟨[97,110,100]⟩⟩,312),(⟨⟨[100,105,102,102,101,114]⟩⟩,313)].find? λp:Str×Nat=>jR p.1 (jg w)).map (·.2)=some (311+w))(hv:lk (311+w) [(311,PV.int 0),(312,PV.int 1),(313,PV.int 2)]=some (.int (w:Int)))
  (hg:∀u v:Int,[if v>u then v else u,if v<u then v else u,[u,v].sum%2].getD w 0=gK w u v) (g:Gr md v A) (hb:POs.bdd 9 (hB o A)) (hK:∀L cs ex,K .next ⟨L,hR o (eff w md v A) cs ex⟩):pSs (pR 9) HB (brR w++tlR) ⟨LT w md v A,hR o A none []⟩ K:=by
 rw[ebr];have hr:=EC g.ok.a g.vl w;refine i5 (σ':=⟨LT w md v A,hR o A none [.zip (.il (zY A.a)) (.il (zY (vlV md v A)))]⟩) (v:=.ref 10) (kP (L:=LT w md v A) (hp:=hR o A none []) (xs:=zY A.a) (ys:=zY (vlV md v A)) (cb (zb rfl)) (cb (zb rfl))) ?_;refine Xw (v:=.int (w:Int)) (off:=0) (c:=none) (bU (x:=311+w) (s:=jg w) (us:=[.int 0,.int 1,.int 2]) (hp:=hR o A none [.zip (.il (zY A.a)) (.il (zY (vlV md v A)))]) ?_ ?_ (λd=>ze zc (ze zc (ze zc zL))) (λd=>zb rfl) hk hv trivial) rfl ?_
 ·exact yd (hB o A) (qk (by decide:9<=11) _ hb) ⟨⟨trivial,trivial,trivial⟩,trivial⟩
 ·exact⟨Nat.le_of_ble_eq_true rfl,Nat.le_of_ble_eq_true rfl,trivial,trivial,trivial,trivial,trivial,Nat.le_of_ble_eq_true rfl,trivial,trivial,trivial,Nat.le_of_ble_eq_true rfl,trivial⟩
 refine bH (σ':=⟨st 272 (.ref 10) (LT w md v A),hR o A (some (.int (w:Int))) [.gone]⟩) (v:=.int (rK w A.a (vlV md v A))) (kN (uu:=.il (zY (rK w A.a (vlV md v A)))) (hp1:=hR o A (some (.int (w:Int))) [.gone]) (by kernel_rfl) (λκ hκ=>Y9 (j:=10) (g:=gK w) (hp':=hR o A (some (.int (w:Int))) [.zip (.il (zY A.a)) (.il (zY (vlV md v A)))]) (L':=st 272 (.ref 10) (LT w md v A)) (λκ h=>zb rfl κ h) rfl rfl (Nat.le_of_ble_eq_true rfl) (λu v=>?_) κ ?_) λk h=>tH (u7 _) ?_) JL (JK rfl rfl rfl) ?_
 ·refine jz (U0 (k:=w) (xs:=[if v>u then v else u,if v<u then v else u,[u,v].sum%2]) (j5 (ze (pY (qL rfl)) (ze (bV (qL rfl)) (ze (zV (pZ (qL rfl)) zc pw2) zL))) rfl rfl) (yA rfl) hw (Nat.le_of_ble_eq_true rfl)) (hg u v)
 ·rw[kZ];exact hκ
 ·rw[u8 hr];exact h
 refine qX (A:={ A with a:=rK w A.a (vlV md v A) }) hr ⟨rfl,rfl⟩ ?_
 rw[Fg] at hK;exact hK _ _ _
theorem Wc(w:Nat)(hw:w<3)(hm:Nat.blt md 3=true):eff w md v A = { A with a:=rK w A.a (vlV md v A),f:=nzF A.f (rK w A.a (vlV md v A)) }:=by
 have r3:∀w,(∀md,md<3->eff w md v A = { A with a:=rK w A.a (vlV md v A),f:=nzF A.f (rK w A.a (vlV md v A)) })->eff w md v A = { A with a:=rK w A.a (vlV md v A),f:=nzF A.f (rK w A.a (vlV md v A)) }:=λw h=>h md (Nat.le_of_ble_eq_true hm)
 exact Q3 (P:=λw=>eff w md v A = { A with a:=rK w A.a (vlV md v A),f:=nzF A.f (rK w A.a (vlV md v A)) }) (r3 0 (Q3 rfl rfl rfl)) (r3 1 (Q3 rfl rfl rfl)) (r3 2 (Q3 rfl rfl rfl)) w hw
end
theorem k0':Tk 0:=λg hb hw hK=>tU (by decide) De (Wc 0 (by decide) hw) rfl rfl (λZ Z=>rfl) g hb hK
theorem k1':Tk 1:=λg hb hw hK=>tU (by decide) Df (Wc 1 (by decide) hw) rfl rfl (λZ Z=>rfl) g hb hK
theorem k2':Tk 2:=λg hb hw hK=>tU (by decide) Dg (Wc 2 (by decide) hw) rfl rfl (λZ Z=>rfl) g hb hK
section
variable {o:O5}{v:Int}{K:KF}
theorem Zq(w:Nat)(hw:w<6)(hm:Nat.blt md 3=true):eff w md v A=A.rd (rdK w) (vlV md v A):=by
 have r3:∀w,(∀md,md<3->eff w md v A=A.rd (rdK w) (vlV md v A))->eff w md v A=A.rd (rdK w) (vlV md v A):=λw h=>h md (Nat.le_of_ble_eq_true hm);exact ltS (P:=λw=>eff w md v A=A.rd (rdK w) (vlV md v A)) (ltS (ltS (Q3 (r3 0 (Q3 rfl rfl rfl)) (r3 1 (Q3 rfl rfl rfl)) (r3 2 (Q3 rfl rfl rfl))) (r3 3 (Q3 rfl rfl rfl))) (r3 4 (Q3 rfl rfl rfl))) (r3 5 (Q3 rfl rfl rfl)) w hw
theorem AV{w:Nat}(b:Bool)(ebr:brR w=iO false (ck 1))(hs:jR (jg w) ⟨⟨[97,100,100]⟩⟩=b)(Fg:eff w md v A = { A with a:=smR b A.a (vlV md v A) A.f%256,f:=nzF (smF b A.a (vlV md v A) A.f) (smR b A.a (vlV md v A) A.f%256) })(g:Gr md v A)(hK:∀L cs ex,K .next ⟨L,hR o (eff w md v A) cs ex⟩):pSs (pR 9) HB (brR w++tlR) ⟨LT w md v A,hR o A none []⟩ K:=by
 rw[ebr];refine bH (σ':=⟨LT w md v A,hR o { A with f:=smF b A.a (vlV md v A) A.f } none []⟩) (v:=.int (smR b A.a (vlV md v A) A.f%256)) (Ub (us:=[.ref 8,.int A.a,.int (vlV md v A),.int (cond b 1 (-1))]) (hp':=hR o { A with f:=smF b A.a (vlV md v A) A.f } none []) (by kernel_rfl) (ze (zb rfl) (ze (zb rfl) (ze (zb rfl) (ze (zN (c:=b) (jl (zb rfl) hs) (λh=>by rw[h];exact zc) λh=>by rw[h];exact QK zc) zL)))) λk h=>tI (zm b 8 A.f (yV A.a (vlV md v A) rfl rfl g.ok.a ⟨g.vl,h⟩))) JL (JK rfl rfl rfl) ?_
 refine qX (A:={ A with a:=smR b A.a (vlV md v A) A.f%256,f:=smF b A.a (vlV md v A) A.f }) (jn _) ⟨rfl,rfl⟩ ?_
 rw[Fg] at hK;exact hK _ _ _
end
theorem k3':Tk 3:=λ{o A v md K} g hb hw hK=>AV true Dh rfl ((Zq 3 (by decide) hw).trans rfl) g hK
theorem k4':Tk 4:=λ{o A v md K} g hb hw hK=>AV false Di rfl ((Zq 4 (by decide) hw).trans rfl) g hK
section
variable {o:O5}{v:Int}{K:KF}
theorem kA{w:Nat}{e:IE}{t:Int}(ebr:brR w = [.two (.name 310) (.dset 287 20) e])(he:zf (pR 9) HB e ⟨LT w md v A,hR o A none []⟩ (.int t))(ht:isB t)(Fg:eff w md v A = { A with a:=t,f:=nzF A.f t })(hK:∀L cs ex,K .next ⟨L,hR o (eff w md v A) cs ex⟩):pSs (pR 9) HB (brR w++tlR) ⟨LT w md v A,hR o A none []⟩ K:=by
 rw[ebr];refine XA he JL (JK rfl rfl rfl) ?_;refine qX (A:={ A with a:=t }) ht ⟨rfl,rfl⟩ ?_
 rw[Fg] at hK;exact hK _ _ _
theorem kX{w:Nat}{e:IE}{t:Int}(ebr:brR w = [.two (.name 310) (.dset 287 21) e])(he:zf (pR 9) HB e ⟨LT w md v A,hR o A none []⟩ (.int t))(ht:isB t)(Fg:eff w md v A = { A with x:=t,f:=nzF A.f t })(hK:∀L cs ex,K .next ⟨L,hR o (eff w md v A) cs ex⟩):pSs (pR 9) HB (brR w++tlR) ⟨LT w md v A,hR o A none []⟩ K:=by
 rw[ebr];refine XA he JL (JK rfl rfl rfl) ?_;refine qX (A:={ A with x:=t }) ht ⟨rfl,rfl⟩ ?_
 rw[Fg] at hK;exact hK _ _ _
end
theorem k5':Tk 5:=λ{o A v md K} g hb hw hK=>kA Dj (zN (c:=true) (jl (zb rfl) rfl) (λZ=>zb rfl) λh=>nomatch h) g.vl ((Zq 5 (by decide) hw).trans rfl) hK
theorem md3(h:Nat.beq md 3=true):md=3:=Nat.eq_of_beq_eq_true h
theorem md1(h:Nat.beq md 1=true):md=1:=Nat.eq_of_beq_eq_true h
theorem DY:Tk 24:=λ{o A v md K} g hb hw hK=>kA xE (zN (c:=false) (jl (zb rfl) rfl) (λh=>nomatch h) λZ=>zb rfl) g.ok.x (by cases md3 hw;rfl) hK
theorem k7':Tk 7:=λ{o A v md K} g hb hw hK=>kX Dl (zb rfl) g.vl (by match md,hw with | 0,_ | 1,_=>rfl) hK
theorem DW:Tk 23:=λ{o A v md K} g hb hw hK=>kX (t:=A.a) xD (pW (v:=.int (vlV md v A)) (zb rfl) (by cases md3 hw;rfl)) g.ok.a (by cases md3 hw;rfl) hK
theorem DZ:Tk 25:=λ{o A v md K} g hb hw hK=>kX (t:=(A.x+1)%256) xF (zV (zD (zb rfl) (zN (c:=true) (jl (zb rfl) rfl) (λZ=>zc) λh=>nomatch h)) zc jV) (jn _) (by cases md3 hw;rfl) hK
theorem D0:Tk 26:=λ{o A v md K} g hb hw hK=>kX (t:=(A.x-1)%256) xG (zV (zD (zb rfl) (zN (c:=false) (jl (zb rfl) rfl) (λh=>nomatch h) λZ=>QK zc)) zc jV) (jn _) (by cases md3 hw;rfl) hK
theorem D4:Tk 29:=λ{o A v md K} g hb hw hK=>kX (t:=A.s) xJ (jt rfl rfl rfl) g.ok.s (by cases md3 hw;rfl) hK
theorem Dq(x:Int):bt 7 (x%256)=bt 7 x:=by rw[<- jC,Jj];exact Bool.and_true _
theorem cmv{a v:Int}(ha:isB a)(hv:isB v):bt 7 ((a-v)%256)=bt 7 (a-v)/\decide ((a-v)%256=0)=decide (a=v):=
 ⟨Dq _,decide_eq_decide.mpr ⟨λh=>by obtain⟨a0,a1⟩:=ha;obtain⟨v0,v1⟩:=hv;lia,λh=>by rw[h,Int.sub_self];rfl⟩⟩
theorem AT{w:Nat}{o:O5}{v:Int}{K:KF}{m:Int}{b:Bool}(hm:isB m)(ebr:brR w=iO false (ck 4))(hs:jR (jg w) ⟨⟨[111,114,100,101,114]⟩⟩=b)(em:cond b A.a A.x=m)(Fg:eff w md v A=A.ofC (V2 A.c0 m (vlV md v A)))(g:Gr md v A)(hK:∀L cs ex,K .next ⟨L,hR o (eff w md v A) cs ex⟩):pSs (pR 9) HB (brR w++tlR) ⟨LT w md v A,hR o A none []⟩ K:=by
 rw[ebr];subst em;obtain⟨e1,e2⟩:=cmv hm g.vl;refine Jg (v:=.int (cond b A.a A.x)) (yj (f:=λb=>.int (cond b A.a A.x)) (jl (zb rfl) hs) (zb rfl) (zb rfl)) ?_;refine yx (w:=b2 (decide (vlV md v A<=cond b A.a A.x))) (u:=0) (xs:=fL A.f) (j:=8) (yj (f:=λb=>.int (cond b 1 0)) (r9 (zb rfl) (zb rfl)) zc zc) (zb rfl) zc rfl (by decide) (of_decide_eq_true rfl) (by decide) ?_
 refine Jg (v:=.int ((cond b A.a A.x-vlV md v A)%256)) (zV (QL (zb rfl) (zb rfl)) zc jV) ?_;refine qX (A:={ A with f:={ A.f with c:=decide (vlV md v A<=cond b A.a A.x) } }) (jn _) ⟨rfl,rfl⟩ ?_
 rw[Fg] at hK
 have:=hK
 unfold nzF;rw[e1,e2];exact hK _ _ _
theorem k6':Tk 6:=λ{o A v md K} g hb hw hK=>AT g.ok.a Dk rfl rfl (by match md,hw with | 0,_ | 1,_ | 2,_=>rfl) g hK
theorem k8':Tk 8:=λ{o A v md K} g hb hw hK=>AT g.ok.x Dm rfl rfl (by match md,hw with | 0,_ | 1,_=>rfl) g hK
theorem AU{w:Nat}{o:O5}{v:Int}{K:KF}{b:Bool}(ebr:brR w=iO false (ck 5))(hs:jR (jg w) ⟨⟨[115,116,111,114,101]⟩⟩=b)(Fg:eff w md v A = { A with P:=wr A.P (plV md v A) (cond b A.a A.x) })(g:Gr md v A)(hK:∀L cs ex,K .next ⟨L,hR o (eff w md v A) cs ex⟩):pSs (pR 9) HB (brR w++tlR) ⟨LT w md v A,hR o A none []⟩ K:=by
 rw[ebr];have p:=g.pl;refine yx (w:=cond b A.a A.x) (u:=plV md v A) (xs:=A.P) (j:=4) (yj (f:=λb=>.int (cond b A.a A.x)) (jl (zb rfl) hs) (zb rfl) (zb rfl)) (zb rfl) (zb rfl) rfl p.1 (lnP g.len (Int.lt_trans p.2 (by decide))) (Int.lt_trans p.2 (by decide)) ?_
 refine JM (A:={ A with P:=wr A.P (plV md v A) (cond b A.a A.x) }) ⟨rfl,rfl⟩ ?_
 rw[Fg] at hK;exact hK _ _ _
theorem k9':Tk 9:=λ{o A v md K} g hb hw hK=>AU Do rfl (by cases md1 hw;rfl) g hK
theorem DJ:Tk 10:=λ{o A v md K} g hb hw hK=>AU xp rfl (by cases md1 hw;rfl) g hK
theorem CP{L R:Bool}{r:Rm}{F:Fl}{t:Int}(h:(L,R,r) ∈ [(true,false,Rm.asl),(true,true,.rol),(false,false,.lsr),(false,true,.ror)]):tnV L (tnE R F) t=rmT r F t/\tnC L t=rmC r F t:=by
 simp only[List.mem_cons,List.not_mem_nil,or_false] at h
 rcases h with h | h | h | h<;>cases h
 ·exact⟨by show(2*t+0)%256=2*t%256;rw[Int.add_zero],rfl⟩
 ·exact⟨rfl,rfl⟩
 ·exact⟨by show t/2+128*0=t/2;rw[Int.mul_zero,Int.add_zero],rfl⟩
 ·exact⟨rfl,rfl⟩
theorem aY{w:Nat}{o:O5}{v:Int}{K:KF}{L R:Bool}{r:Rm}(ebr:brR w=iO false (ck 6))(hL:Txt.contains (jg w) rC=L)(hR':Txt.contains (jg w) i4=R)(hr:(L,R,r) ∈ [(true,false,Rm.asl),(true,true,.rol),(false,false,.lsr),(false,true,.ror)])(hw:(Nat.beq md 1||Nat.beq md 3)=true)
  (Fg:eff w md v A=cond (Nat.beq md 3) { A with f:=rmF r A.f (vlV md v A),a:=rmT r A.f (vlV md v A) } { A with f:=rmF r A.f (vlV md v A),P:=wr A.P (plV md v A) (rmT r A.f (vlV md v A)) }) (g:Gr md v A) (hK:∀L cs ex,K .next ⟨L,hR o (eff w md v A) cs ex⟩):pSs (pR 9) HB (brR w++tlR) ⟨LT w md v A,hR o A none []⟩ K:=by
 rw[ebr];have p:=g.pl;refine zh (CP (F:=A.f) (t:=vlV md v A) hr) λt1 t2=>?_
 have ht:isB (rmT r A.f (vlV md v A)):=YU g.vl;refine i5 (σ':=⟨LT w md v A,hR o { A with f:={ A.f with c:=rmC r A.f (vlV md v A) } } none []⟩) (v:=.int (rmT r A.f (vlV md v A))) (Ub (us:=[.ref 8,.str (jg w),.int (vlV md v A)]) (hp':=hR o { A with f:={ A.f with c:=rmC r A.f (vlV md v A) } } none []) (by kernel_rfl) (ze (zb rfl) (ze (zb rfl) (ze (zb rfl) zL))) λk h=>mE (zm (jg w) L R (Ko 8 A.f (vlV md v A) rfl hL hR' ⟨rfl,g.vl,by rw[t1,t2];exact h⟩))) ?_
 cases hb:Nat.beq md 3 with
 | true =>
  cases md3 hb
  refine vO (jl (zb rfl) rfl) rfl ?_;refine Ua (zb rfl) rfl rfl rfl ?_;refine qX (A:={ A with a:=rmT r A.f (vlV 3 v A),f:={ A.f with c:=rmC r A.f (vlV 3 v A) } }) ht ⟨rfl,rfl⟩ ?_
  rw[Fg] at hK;exact hK _ _ _
 | false =>
  have h1:Nat.beq md 1=true:=by rw[hb,Bool.or_false] at hw;exact hw
  cases md1 h1
  refine vJ (jl (zb rfl) rfl) rfl ?_;refine yx (w:=rmT r A.f (vlV 1 v A)) (u:=plV 1 v A) (xs:=A.P) (j:=4) (zb rfl) (zb rfl) (zb rfl) rfl p.1 (lnP g.len (Int.lt_trans p.2 (by decide))) (Int.lt_trans p.2 (by decide)) ?_
  refine qX (A:={ A with P:=wr A.P (plV 1 v A) (rmT r A.f (vlV 1 v A)),f:={ A.f with c:=rmC r A.f (vlV 1 v A) } }) ht ⟨rfl,rfl⟩ ?_
  rw[Fg] at hK;exact hK _ _ _
theorem m0(h:(Nat.beq md 1||Nat.beq md 3)=true):md=1∨md=3:=(Bool.or_eq_true _ _).mp h |>.imp md1 md3
theorem DK:Tk 11:=λ{o A v md K} g hb hw hK=>aY (L:=true) (R:=false) (r:=.asl) xq (by kernel_rfl) (by kernel_rfl) (.head _) hw (by rcases m0 hw with rfl | rfl<;>rfl) g hK
theorem DL:Tk 12:=λ{o A v md K} g hb hw hK=>aY (L:=true) (R:=true) (r:=.rol) xr (by kernel_rfl) (by kernel_rfl) (.tail _ (.head _)) hw (by rcases m0 hw with rfl | rfl<;>rfl) g hK
theorem DM:Tk 13:=λ{o A v md K} g hb hw hK=>aY (L:=false) (R:=false) (r:=.lsr) xt (by kernel_rfl) (by kernel_rfl) (.tail _ (.tail _ (.head _))) hw (by rcases m0 hw with rfl | rfl<;>rfl) g hK
theorem DN:Tk 14:=λ{o A v md K} g hb hw hK=>aY (L:=false) (R:=true) (r:=.ror) xu (by kernel_rfl) (by kernel_rfl) (.tail _ (.tail _ (.tail _ (.head _)))) hw (by rcases m0 hw with rfl | rfl<;>rfl) g hK
theorem kUp{w:Nat}{o:O5}{v:Int}{K:KF}{t:Int}(ht:isB t)(ebr:brR w=iO false (ck 7))(he:zf (pR 9) HB (.bin .i .Mod (.bin .i .Add (.loc 40) (.ite (.cmp .s .Eq (.loc 306) (.str ⟨⟨[117,112]⟩⟩)) (.int 1) (.un .USub (.int 1)))) (.int 256)) ⟨LT w md v A,hR o A none []⟩ (.int t))(Fg:eff w md v A = { A with f:=nzF A.f t,P:=wr A.P (plV md v A) t })(g:Gr md v A)(hK:∀L cs ex,K .next ⟨L,hR o (eff w md v A) cs ex⟩):pSs (pR 9) HB (brR w++tlR) ⟨LT w md v A,hR o A none []⟩ K:=by
 rw[ebr];have p:=g.pl;refine XA (v:=.int t) he JL (wt g.len rfl (zb rfl) p.1 (Int.lt_trans p.2 (by decide))) ?_
 refine qX (A:={ A with P:=wr A.P (plV md v A) t }) ht ⟨rfl,rfl⟩ ?_
 rw[Fg] at hK;exact hK _ _ _
theorem DO:Tk 15:=λ{o A v md K} g hb hw hK=>kUp (t:=(vlV md v A-1)%256) (jn _) xv (zV (zD (zb rfl) (zN (c:=false) (jl (zb rfl) rfl) (λh=>nomatch h) λZ=>QK zc)) zc jV) (by cases md1 hw;rfl) g hK
theorem DP:Tk 16:=λ{o A v md K} g hb hw hK=>kUp (t:=(vlV md v A+1)%256) (jn _) xw (zV (zD (zb rfl) (zN (c:=true) (jl (zb rfl) rfl) (λZ=>zc) λh=>nomatch h)) zc jV) (by cases md1 hw;rfl) g hK
theorem w9{n:Int}(h:isB n):(zY n).any (· == 1) = !decide (n=0):=yB (n:=256) (P:=λn=>(zY n).any (· == 1) = !decide (n=0)) (by decide +kernel) h.1 h.2
theorem Dc(t:Int):t/64%2=b2 (bt 6 t):=qR t 6
theorem kO{r:IE}{i x y:Int}(hr:∀κ:KE,κ (.il ys) σ'->pE P H r O κ)(κ:KE)(hκ:κ (.int (cond (ys.any (· == i)) x y)) σ'):pE P H (.ite (.cmp .n .In (.int i) r) (.int x) (.int y)) O κ:=hr _ (by
 show cond (ys.any (· == i)) (κ (.int x) σ') (κ (.int y) σ')
 cases h:ys.any (· == i) with
 | true=>rw[h] at hκ;exact hκ
 | false=>rw[h] at hκ;exact hκ)
theorem DQ:Tk 17:=λ{o A v md K} g hb hw hK=>by
 rw[xx];have hr:isB (zA A.a (vlV md v A)):=W8 g.ok.a;refine ZU (v:=.tup [.int (b2 (bt 6 (vlV md v A))),.int (b2 (bt 7 (vlV md v A)))]) (us:=[.int (b2 (bt 6 (vlV md v A))),.int (b2 (bt 7 (vlV md v A)))]) (JB (ze (by rw[<- Dc];exact zV (qs (zb rfl) zc ⟨rfl,by decide,by decide⟩) zc pw2) (ze (by rw[<- rH g.vl];exact qs (zb rfl) zc rR) zL)) rfl) rfl rfl
  (y4 (pv (i:=6) rfl (by decide)) (y4 (pv (A:={ A with f:={ A.f with v:=bt 6 (vlV md v A) } }) (i:=7) rfl (by decide)) XF)) ?_
 refine oK (σ':=⟨LT 17 md v A,hR o { A with f:={ A.f with v:=bt 6 (vlV md v A),n:=bt 7 (vlV md v A) } } none [.gone]⟩) (w:=b2 (decide (zA A.a (vlV md v A)=0))) (u:=1) (xs:=fL { A.f with v:=bt 6 (vlV md v A),n:=bt 7 (vlV md v A) }) (j:=8) (λκ hκ=>?_) (zb rfl) zc rfl (by decide) (of_decide_eq_true rfl) (by decide) ?_
 ·refine kO (ys:=zY (zA A.a (vlV md v A))) (λκ hκ=>Y9 (j:=10) (g:=gK 1) (L:=LT 17 md v A) (hp:=hR o { A with f:={ A.f with v:=bt 6 (vlV md v A),n:=bt 7 (vlV md v A) } } none []) (hp':=hR o { A with f:={ A.f with v:=bt 6 (vlV md v A),n:=bt 7 (vlV md v A) } } none [.zip (.il (zY A.a)) (.il (zY (vlV md v A)))]) (L':=LT 17 md v A) (kP (L:=LT 17 md v A) (hp:=hR o { A with f:={ A.f with v:=bt 6 (vlV md v A),n:=bt 7 (vlV md v A) } } none []) (xs:=zY A.a) (ys:=zY (vlV md v A)) (cb (zb rfl)) (cb (zb rfl))) rfl rfl (Nat.le_of_ble_eq_true rfl) (λu v=>bV (qL rfl)) κ (by rw[kZ];exact hκ)) κ ?_
  rw[w9 hr,show(cond (!decide (zA A.a (vlV md v A)=0)) 0 1:Int)=b2 (decide (zA A.a (vlV md v A)=0)) by cases decide (zA A.a (vlV md v A)=0)<;>rfl]
  exact hκ
 refine JM (A:={ A with f:={ A.f with v:=bt 6 (vlV md v A),n:=bt 7 (vlV md v A),z:=decide (zA A.a (vlV md v A)=0) } }) ⟨rfl,rfl⟩ ?_
 cases md1 hw
 exact hK _ _ _
noncomputable def flS:IS:=.put (.loc 289) (.bin .i .Sub (.blt .ord 263 [.sat (.loc 306) (.un .USub (.int 1))]) (.int 48)) (.ite (.cmp .s .Eq (.sat (.loc 306) (.int 0)) (.str ⟨⟨[115]⟩⟩)) (.int 1) (.int 0))
theorem Ah:iO false (ck 14) = [flS]:=by kernel_rfl
theorem kFl{w:Nat}{o:O5}{v:Int}{K:KF}{on:Bool}{c0 c1:Nat}(hi:i<8)(ebr:brR w=iO false (ck 14))(h0:((seqIndex? 0 (jg w).length).bind ((jg w).cps[·]?))=some c0)(h1:((seqIndex? (-1) (jg w).length).bind ((jg w).cps[·]?))=some c1)(hi1:(c1:Int)-48=(i:Int))(hs:jR ⟨#[c0]⟩ ⟨⟨[115]⟩⟩=on)
  (Fg:eff w md v A = { A with f:=A.f.to on i }) (ef:wr (fL A.f) i (b2 on)=fL (A.f.to on i)) (hK:∀L cs ex,K .next ⟨L,hR o (eff w md v A) cs ex⟩):pSs (pR 9) HB (brR w++tlR) ⟨LT w md v A,hR o A none []⟩ K:=by
 rw[ebr,Ah];have hw:lk 306 (LT w md v A)=some (.str (jg w)):=rfl;have e1:zf (pR 9) HB (.ite (.cmp .s .Eq (.sat (.loc 306) (.int 0)) (.str ⟨⟨[115]⟩⟩)) (.int 1) (.int 0)) ⟨LT w md v A,hR o A none []⟩ (.int (b2 on)):=yj (f:=λb=>.int (cond b 1 0)) (jl (kU (zb hw) zc ⟨by decide,by decide⟩ h0) hs) zc zc
 have e2:zf (pR 9) HB (.bin .i .Sub (.blt .ord 263 [.sat (.loc 306) (.un .USub (.int 1))]) (.int 48)) ⟨LT w md v A,hR o A none []⟩ (.int (i:Int)):=jz (QL (wZ (kU (u:=-1) (zb hw) (QK zc) ⟨by decide,by decide⟩ h1)) zc) hi1
 refine yx e1 (zb (v:=.ref 8) rfl) e2 (xs:=fL A.f) rfl (Int.natCast_nonneg _) (by show(i:Int)<8;exact zQ (bC hi) rfl) (by lia) ?_
 rw[ef];refine JM (A:={ A with f:=A.f.to on i }) ⟨rfl,rfl⟩ ?_
 rw[Fg] at hK;exact hK _ _ _
theorem DR:Tk 18:=λ{o A v md K} g hb hw hK=>kFl (i:=0) (c0:=99) (c1:=48) (by decide) xy rfl rfl rfl rfl (by cases md3 hw;rfl) rfl hK
theorem DS:Tk 19:=λ{o A v md K} g hb hw hK=>kFl (i:=0) (c0:=115) (c1:=48) (by decide) xz rfl rfl rfl rfl (by cases md3 hw;rfl) rfl hK
theorem DT:Tk 20:=λ{o A v md K} g hb hw hK=>kFl (i:=6) (c0:=99) (c1:=54) (by decide) xA rfl rfl rfl rfl (by cases md3 hw;rfl) rfl hK
theorem DU:Tk 21:=λ{o A v md K} g hb hw hK=>kFl (i:=2) (c0:=99) (c1:=50) (by decide) xB rfl rfl rfl rfl (by cases md3 hw;rfl) rfl hK
theorem DV:Tk 22:=λ{o A v md K} g hb hw hK=>kFl (i:=2) (c0:=115) (c1:=50) (by decide) xC rfl rfl rfl rfl (by cases md3 hw;rfl) rfl hK
theorem D5:Tk 30:=λ{o A v md K} g hb hw hK=>by
 rw[xK];refine Ua (zb rfl) rfl rfl rfl ?_;refine JM (A:={ A with s:=A.x }) ⟨rfl,rfl⟩ ?_
 cases md3 hw
 exact hK _ _ _
theorem D7:Tk 32:=λ{o A v md K} g hb hw hK=>by
 rw[xM];refine JM (A:=A) ⟨rfl,rfl⟩ ?_
 cases md3 hw
 exact hK _ _ _
theorem CG{s:Int}(h:isB s):0<=s+256/\s+256<65536:=by obtain⟨a,b⟩:=h;exact⟨zo (zq (zk a)) rfl,zQ (zq (zJ b)) rfl⟩
theorem rx{w:Nat}{o:O5}{v:Int}{K:KF}{t:Int}(ebr:brR w=iO false (ck 10))(he:zf (pR 9) HB (.ite (.cmp .s .Eq (.loc 306) (.str ⟨⟨[112,117,115,104]⟩⟩)) (.loc 20) (.callv (.top 293 1503) [.loc 289])) ⟨LT w md v A,hR o A none []⟩ (.int t))(Fg:eff w md v A = { A with s:=(A.s-1)%256,P:=wr A.P (A.s+256) t })(g:Gr md v A)(hK:∀L cs ex,K .next ⟨L,hR o (eff w md v A) cs ex⟩):pSs (pR 9) HB (brR w++tlR) ⟨LT w md v A,hR o A none []⟩ K:=by
 rw[ebr];obtain⟨s0,s1⟩:=CG g.ok.s;refine yx (w:=t) (u:=A.s+256) (xs:=A.P) (j:=4) he (zb rfl) (jz (zD zc (jt rfl rfl rfl)) (Int.add_comm _ _)) rfl s0 (lnP g.len s1) (Int.lt_trans s1 (by decide)) ?_
 refine Ua (v:=.int ((A.s-1)%256)) (zV (QL (jt rfl rfl rfl) zc) zc jV) rfl rfl rfl ?_;refine JM (A:={ A with s:=(A.s-1)%256,P:=wr A.P (A.s+256) t }) ⟨rfl,rfl⟩ ?_
 rw[Fg] at hK;exact hK _ _ _
theorem D1:Tk 27:=λ{o A v md K} g hb hw hK=>rx (t:=A.a) xH (zN (c:=true) (jl (zb rfl) rfl) (λZ=>zb rfl) λh=>nomatch h) (by cases md3 hw;rfl) g hK
theorem D6:Tk 31:=λ{o A v md K} g hb hw hK=>rx (t:=pk A.f) xL (zN (c:=false) (jl (zb rfl) rfl) (λh=>nomatch h) λZ=>by rw[<- Xp];exact qi (by kernel_rfl) (ze (zb rfl) zL) λk h=>aQ rfl (iL _) h) (by cases md3 hw;show As.mk _ _ _ _ _ (wr _ _ (pk { A.f with b:=true,u:=true }))=_;rw[eO g.bu]) g hK
theorem D3:Tk 28:=λ{o A v md K} g hb hw hK=>by
 rw[xI];obtain⟨s0,s1⟩:=CG (jn (A.s+1));refine Ua (v:=.int ((A.s+1)%256)) (zV (zD (jt rfl rfl rfl) zc) zc jV) rfl rfl rfl ?_;refine XA (v:=.int (rd A.P ((A.s+1)%256+256))) (Z9 (A:={ A with s:=(A.s+1)%256 }) g.len rfl (jz (zD zc (jt rfl rfl rfl)) (Int.add_comm _ _)) s0 s1) JL (JK rfl rfl rfl) ?_
 refine qX (A:={ A with s:=(A.s+1)%256,a:=rd A.P ((A.s+1)%256+256) }) (g.ok.P.rd _) ⟨rfl,rfl⟩ ?_
 cases md3 hw
 exact hK _ _ _
theorem AW{w:Nat}:w<33->Tk w:=(ltS (P:=Tk) (ltS (ltS (ltS (ltS (ltS (ltS (ltS (ltS (ltS (ltS (ltS (ltS (ltS (ltS (ltS (ltS (ltS (ltS (ltS (ltS (ltS (ltS (ltS (ltS (ltS (ltS (ltS (ltS (ltS (ltS (ltS (ltS lt0 k0') k1') k2') k3') k4') k5') k6') k7') k8') k9') DJ) DK) DL) DM) DN) DO) DP) DQ) DR) DS) DT) DU) DV) DW) DY) DZ) D0) D1) D3) D4) D5) D6) D7) w
noncomputable def rh:Sp:=λargs hp k=>∃(o:O5) (A:As) (w md:Nat) (v:Int),args = [.ref 6,.ref 4,.str (jg w),.str (yZ md),.int v]/\hp=hB o A/\Gr md v A/\w<33/\wmB w md=true/\POs.bdd 9 (hB o A) /\ ∀cs ex,k .none (hR o (eff w md v A) cs ex)
theorem Ae:∀args hp k,rh args hp k->Yb [287,284,306,308,309] [268] (λn=>pSs (pR n) HB zR) args hp k:=by
 rintro args hp k ⟨o,A,w,md,v,rfl,rfl,g,hw,hm,hb,hk⟩;refine⟨rfl,?_⟩;exact tL g (AW hw g hb hm λL cs ex=>hk cs ex)
noncomputable def p9:Sp:=λargs hp k=>∃(o:O5) (A:As) (w md:Nat) (v:Int),args = [.ref 6,.ref 4,.str (jg w),.str (yZ md),.int v]/\hp=hB o A/\Gr md v A/\w<33/\wmB w md=true/\k .none (hB o (eff w md v A))
@[irreducible] noncomputable def HL1:Hd:=HB.cut 1529 p9
section
variable {args:List PV}{k:PV->List PO->Prop}{n:Int}{xs:List Int}
theorem tM(h:p9 args hp k):HL1 1529 args hp k:=by unfold HL1;exact h
theorem gn(h:k (.ref (hp.length+1)) (hp ++ [.cell (some (.int n)),.il (zY n)])):HL1 1498 [.int n] hp k:=by unfold HL1;exact gk h
theorem aR(hj:hp[j]?=some (.il xs))(ho:Oc xs)(h:k (.int (qS xs)) hp):HL1 1503 [.ref j] hp k:=by unfold HL1;exact aQ hj ho h
theorem mH(h:k (.il [n%256,n/256]) hp):HL1 1493 [.int n] hp k:=by unfold HL1;exact mF h
theorem mG(h:Uf args hp k):HL1 43 args hp k:=by unfold HL1;exact mD h
end
theorem Yz{n:Nat}{g:Prop}:∀{xs:List α},xs.length=n+1->(∀a ys,xs=a::ys->ys.length=n->g)->g
 | a::ys,h,k=>k a ys rfl (Nat.succ.inj h)
theorem Ec{xs:List α}(h:xs.length=5):∃a b c d e,xs = [a,b,c,d,e]:=Yz h λa Z e1 h=>Yz h λb Z e2 h=>Yz h λc Z e3 h=>Yz h λd Z e4 h=>Yz h λe Z e5 h=>⟨a,b,c,d,e,by rw[e1,e2,e3,e4,e5,List.length_eq_zero_iff.mp h]⟩
theorem sw{K:Frag}{nm:Nat->Str}{l o p:Nat}(h:∀u v w x y S,peek K S (bindArgs fd ⟨[u,v,w,x,y],[]⟩)=some [(nm i,u),(nm j,v),(nm l,w),(nm o,x),(nm p,y)])(s:Shared)(aws:List Value)(hK:K.In s.heap)(hl:aws.length = [i,j,l,o,p].length):BindsTo s fd (Jv aws) (([i,j,l,o,p].map nm).zip aws):=by
 refine zi (Ec hl) λu v w Gb=>UQ Gb λx y Fy=>?_;subst Fy;exact kp_binds hK (h u v w x y)
theorem yT{n:Nat}{P P':Mem}{r:List PO}:∀{l:List PO},POs.bdd n (l++.il P::r)->POs.bdd n (l++.il P'::r)
 | [],h=>h
 | .inst _::l,h=>⟨h.1,yT (l:=l) h.2⟩
 | .ls _::l,h=>⟨h.1,yT (l:=l) h.2⟩
 | .cell (some _)::l,h=>⟨h.1,yT (l:=l) h.2⟩
 | .dct _::l,h=>⟨h.1,yT (l:=l) h.2⟩
 | .zip _ _::l,h=>⟨h.1,yT (l:=l) h.2⟩
 | .cell none::l,h=>yT (l:=l) h
 | .il _::l,h=>yT (l:=l) h
 | .gone::l,h=>yT (l:=l) h
 | .tab _::l,h=>yT (l:=l) h
theorem ql{n:Nat}{A A':As}{r:List PO}:∀{l:List PO},POs.bdd n (l++dR A::r)->POs.bdd n (l++dR A'::r)
 | [],h=>h
 | .inst _::l,h=>⟨h.1,ql (l:=l) h.2⟩
 | .ls _::l,h=>⟨h.1,ql (l:=l) h.2⟩
 | .cell (some _)::l,h=>⟨h.1,ql (l:=l) h.2⟩
 | .dct _::l,h=>⟨h.1,ql (l:=l) h.2⟩
 | .zip _ _::l,h=>⟨h.1,ql (l:=l) h.2⟩
 | .cell none::l,h=>ql (l:=l) h
 | .il _::l,h=>ql (l:=l) h
 | .gone::l,h=>ql (l:=l) h
 | .tab _::l,h=>ql (l:=l) h
theorem xj{n:Nat}{o:O5}(h:POs.bdd n (hB o A)):POs.bdd n (hB o A'):=by
 have h1:POs.bdd n ([o.o0,o.o1,o.o2,o.o3]++.il A.P :: [o.o5,dR A,o.o7,.il (fL A.f)]):=h;have h2:POs.bdd n ([o.o0,o.o1,o.o2,o.o3,.il A'.P,o.o5]++dR A :: [o.o7,.il (fL A.f)]):=yT (P':=A'.P) h1;have h3:POs.bdd n ([o.o0,o.o1,o.o2,o.o3,.il A'.P,o.o5,dR A',o.o7]++.il (fL A.f) :: []):=ql (A':=A') h2;exact yT (P':=fL A'.f) h3
section
variable {prog:Program}{w:World}{mean:ExcName->Option Value}{mg mb:Str->Option Value}{base:Heap}
theorem n4:FnOk (GM prog w mean mg mb base) Jv 1493 [294] "_law_word" (tfn 5).body (tfn 5).scope (.ref 1492):=fo .none ZQ (VZ λZ Z=>by kernel_rfl) (by kernel_rfl) (by kernel_rfl) (by kernel_rfl)
theorem br:FnOkC (GM prog w mean mg mb base) Jv 1498 [295] [295] "_law_bits" (tfn 6).body (tfn 6).scope (.ref 1497):=Vk (d:=tfn 6) (df:=.none) (pm:=ZQ) (by kernel_rfl) (by kernel_rfl) (by kernel_rfl) (VZ λZ Z=>by kernel_rfl)
theorem iM:FnOk (GM prog w mean mg mb base) Jv 1503 [297] "_law_octet" (tfn 7).body (tfn 7).scope (.ref 1502):=fo .none ZQ (VZ λZ Z=>by kernel_rfl) (by kernel_rfl) (by kernel_rfl) (by kernel_rfl)
theorem vd:FnOk (GM prog w mean mg mb base) Jv 1510 [295] "_law_signed" (tfn 8).body (tfn 8).scope (.ref 1509):=fo .none ZQ (VZ λZ Z=>by kernel_rfl) (by kernel_rfl) (by kernel_rfl) (by kernel_rfl)
theorem ve:FnOk (GM prog w mean mg mb base) Jv 1517 [289,301,302,299] "_law_sum" (tfn 9).body (tfn 9).scope (.ref 1516):=fo .none ZQ (su λZ Z Z Z Z=>by kernel_rfl) (by kernel_rfl) (by kernel_rfl) (by kernel_rfl)
theorem n3:FnOk (GM prog w mean mg mb base) Jv 1524 [289,306,40] "_law_turn" (tfn 10).body (tfn 10).scope (.ref 1523):=fo .none ZQ (sr λZ Z Z Z=>by kernel_rfl) (by kernel_rfl) (by kernel_rfl) (by kernel_rfl)
theorem vc:FnOkC (GM prog w mean mg mb base) Jv 1529 [287,284,306,308,309] [268] "_law_run" (tfn 11).body (tfn 11).scope (.ref 1528):=Vk (d:=tfn 11) (df:=.none) (pm:=ZQ) (by kernel_rfl) (by kernel_rfl) (by kernel_rfl) (sw λZ Z Z Z Z Z=>by kernel_rfl)
theorem hdA:HdS (GM prog w mean mg mb base) 18 HA:=by
 unfold HA;have h1:HdS (GM prog w mean mg mb base) 18 (H6.cut 1498 dE):=by
  refine HdS.cut (S:=dK) (UB (d:=17) (P:=pB) (λn=>Vy _ _ _ _) (λn=>(jw 16 36 rfl J2 (λps args O k h=>h.elim))) (by decide) hd0 (hd6.le (by decide)) br (λZ=>rfl) (λZ=>rfl) (λZ Z=>rfl) nu tn) ?_
  rintro args hp k hb ha ⟨n,rfl,hk⟩;exact(zv n rfl ⟨hp,[.cell (some (.int n))],rfl,rfl,hb,trivial,hk⟩)
 have h2:=hx (d:=17) hd0 h1 iM YE Ad (by decide)
 have h3:=hx (d:=17) hd0 h2 vd cS Af (by decide)
 have h4:=hx (d:=17) hd0 h3 n4 nI tB (by decide)
 have h5:HdS (GM prog w mean mg mb base) 18 (H0.ext 1503 VU):=hx (d:=17) hd0 hd0 iM YE tt (by decide)
 have h6:HdS (GM prog w mean mg mb base) 18 ((H0.ext 1503 VU).ext 1498 VS):=UB (d:=17) (P:=pB) (λn=>Vy _ _ _ _) (λn=>(jw 16 36 rfl J2 (λps args O k h=>h.elim))) (by decide) hd0 h5 br (λZ=>rfl) (λZ=>rfl) (λZ Z=>rfl) hG lQ
 exact HdS.or h4 h6
theorem hdB:HdS (GM prog w mean mg mb base) 19 HB:=by
 unfold HB;exact hx (d:=18) hdA (hx (d:=18) hdA (hdA.le (by decide)) ve uE Ag (by decide)) n3 nH tA (by decide)
theorem hdL:HdS (GM prog w mean mg mb base) 20 HL1:=by
 unfold HL1;refine HdS.cut (S:=rh) (UB (d:=19) (P:=pR) (λn=>Vy _ _ _ _) (λn=>(jw 18 36 rfl J2 (λps args O k h=>h.elim))) (by decide) hdB (hdB.le (by decide)) vc (λZ=>rfl) (λZ=>rfl) (λZ Z=>rfl) uC Ae) ?_
 rintro args hp k hb ha ⟨o,A,w,md,v,rfl,rfl,g,hw,hm,hk⟩;exact(zm o A w (yV md v rfl rfl g ⟨hw,hm,hb,λcs ex=>(yV (hB o (eff w md v A)) (.cell cs::ex) rfl rfl (xj hb) ⟨trivial,hk⟩)⟩))
end
noncomputable def stP(us:List PV):PO:=cond us.isEmpty (.il []) (.ls us)
theorem pb{us:List PV}{w:PV}{κ:Nat->PO->Prop}(hw:gA w=none)(h:κ us.length (stP (us ++ [w]))):lc (some (stP us)) w κ:=by
 cases us with
 | nil =>
  show dW [] w κ;unfold dW;rw[hw];exact h
 | cons u r=>exact h
theorem pd{us:List PV}:cO (some (stP us))=true:=by cases us<;>rfl
section
variable {e t a b l r:IE}{k:KF}{z:Nat}{xs zs:List Int}{us:List PV}{L:List (Nat×PV)}{v:PV}{i:Int}
theorem dl{us:List PV}{w:PV}(h1:lk x L=some (.ref j))(hj:hp[j]?=some (stP us))(he:zf P H e ⟨L,hp⟩ w)(hw:gA w=none)(hus:us.length<2 ^ 24)(hk:pSs P H is ⟨L,hp.set j (stP (us ++ [w]))⟩ k):pSs P H (.expr (.append (.loc x) e)::is) ⟨L,hp⟩ k:=by
 show opt (lk x L) _;rw[h1];show cond (cO hp[j]?) _ False;rw[hj,pd];refine he _ ?_;show lc hp[j]? w _;rw[hj];exact pb hw ⟨hus,jd.mpr hk⟩
theorem oF{w:PV}{t:IT}{A:List IS}{items:List PV}(he:zf P H e O w)(hi:jm O w=some items)(h:qn (pA P H t) (pSs P H A) items O (fK (pSs P H is) k)):pSs P H (.forS t e A::is) O k:=he _ (by
 show opt (jm O w) _;rw[hi];exact h)
theorem Xx{A:List IS}(he:zf P H e O (.ls us))(h:qn (JZ (pAs P H [.name x,.name y])) (pSs P H A) (J3 0 us) O (fK (pSs P H is) k)):pSs P H (.forE [.name x,.name y] z [e] A::is) O k:=he _ h
theorem Wj{n:Nat}{u:PV}{r:List PV}{K:KF}(h:Wb ⟨st y u (st x (.int (n:Int)) O.loc),O.hp⟩ (wK (JZ (pAs P H [.name x,.name y])) Wb r K)):qn (JZ (pAs P H [.name x,.name y])) Wb (.tup [.int (n:Int),u]::r) O K:=by
 show PS.slC O x (.int (n:Int)) λF1=>F1.slC y u λF5=>Wb F5 (wK (JZ (pAs P H [.name x,.name y])) Wb r K);exact zW.mpr (zW.mpr h)
theorem bX{b:Addr}{i:IE}{n:Nat}{v:PV}(h1:zf P H e O (.top b))(h2:zf P H i O (.int (n:Int)))(hn:n<1000)(ht:(P.tab b)[n]?=some v):zf P H (.sub e i) O v:=λκ hκ=>h1 _ (h2 _ (by
 show(0<=(n:Int)/\(n:Int)<2 ^ 63)/\opt (P.tab b)[(n:Int).toNat]? _
 rw[Int.toNat_natCast,ht];exact⟨⟨Int.natCast_nonneg _,by lia⟩,hκ⟩))
theorem pX{n:Nat}(h1:zf P H a O (.ls us))(h2:zf P H e O (.int (n:Int)))(hv:us[n]?=some v)(hn:n<1000):zf P H (.sub a e) O v:=λκ hκ=>h1 _ (h2 _ (by
 show(0<=(n:Int)/\(n:Int)<2 ^ 63)/\opt us[(n:Int).toNat]? _
 rw[Int.toNat_natCast,hv];exact⟨⟨Int.natCast_nonneg _,by lia⟩,hκ⟩))
theorem kR{a:Addr}{lo:Option IE}{hpp:Option Int}(h1:lk x O.loc=some (.top a))(ha:P.arg (.top a)=some ns)(h2:XN P H lo O lv)(h3:XN P H hi O hv)(e2:je lv=some lp)(e3:je hv=some hpp)(hz:ns.length<=2 ^ 24)(he:V4 lp hpp ns=ys):zf P H (.slice false (.loc x) lo hi) O (.il ys):=λκ hκ=>zb (P:=P) (H:=H) h1 _ (h2 _ (h3 _ (by
 show opt (je lv) _;rw[e2];show opt (je hv) _;rw[e3];show opt ((Jd O (.top a)).or (P.arg (.top a))) _;rw[ha];subst he
 exact⟨hz,hκ⟩)))
theorem pV{a:Addr}(h1:lk x O.loc=some (.top a))(ha:P.arg (.top a)=some ns)(hz:ns.length<=16384):zf P H (.argL z x) O (.int (ns.length:Int)):=λκ hκ=>by
 obtain⟨L,hp⟩:=O;show opt (lk x L) _;rw[show lk x L=some (.top a) from h1]
 show opt (P.arg (.top a)) _;rw[ha];exact⟨hz,hκ⟩
theorem wY{u v:Int}(h1:zf P H a O (.int u))(h2:zf P H b O (.int v)):zf P H (.blt .min z [a,b]) O (.int (if v<u then v else u)):=λκ hκ=>h1 _ (h2 _ hκ)
theorem oG(h1:lk x L=some (.ref j))(hj:hp[j]?=some (.ls us))(h:pSs P H is ⟨st x (.ls us) L,hp.set j .gone⟩ k):pSs P H (.frz x::is) ⟨L,hp⟩ k:=by
 show opt (lk x L) _;rw[h1];show opt hp[j]? _;rw[hj];refine(jd (O:=⟨L,hp⟩) (i:=j) (o:=.gone) (c:=λF1=>F1.slC x (.ls us) λF5=>pSs P H is F5 k)).mpr ?_
 exact(zW (O:=⟨L,hp.set j .gone⟩) (x:=x) (v:=.ls us) (c:=λF5=>pSs P H is F5 k)).mpr h
theorem ZT{lo:Option IE}{hpp:Option Int}(h1:lk x L=some (.ref j))(hj:hp[j]?=some (.il xs))(he:zf P H e ⟨L,hp⟩ (.il ys))(h2:XN P H lo ⟨L,hp⟩ lv)(h3:XN P H hi ⟨L,hp⟩ hv)(e2:je lv=some lp)(e3:je hv=some hpp)(hz:xs.length+ys.length<=2 ^ 24)(hs:yz (kms_lo lp xs.length) (kms_hi hpp xs.length) xs ys=zs)(hk:pSs P H is ⟨L,hp.set j (.il zs)⟩ k):
  pSs P H (.slp (.loc x) lo hi e::is) ⟨L,hp⟩ k:=he _ (zb (P:=P) (H:=H) (O:=⟨L,hp⟩) h1 _ (h2 _ (h3 _ (by
 show ilO hp[j]? _;rw[hj];show opt (je lv) λlo=>opt (je hv) λhi=>xs.length+ys.length<=2 ^ 24/\PS.siC ⟨L,hp⟩ j (.il (yz (kms_lo lo xs.length) (kms_hi hi xs.length) xs ys)) λO=>pSs P H is O k
 rw[e2];show opt (je hv) λhi=>xs.length+ys.length<=2 ^ 24/\PS.siC ⟨L,hp⟩ j (.il (yz (kms_lo lp xs.length) (kms_hi hi xs.length) xs ys)) λO=>pSs P H is O k
 rw[e3];refine⟨hz,?_⟩;rw[hs];exact jd.mpr hk))))
theorem oE(h1:lk x L=some (.ref j))(hj:hp[j]?=some (.il xs))(hz:xs.length<=2 ^ 24)(h:pSs P H is ⟨st y (.ref hp.length) L,hp ++ [.il xs]⟩ k):pSs P H (.name y (.slice true (.loc x) none none)::is) ⟨L,hp⟩ k:=by
 show opt (lk x L) _;rw[h1];show opt ((ilP hp[j]?).or _) _;rw[hj]
 refine⟨hz,?_⟩;rw[lC];exact jv.mpr (zW.mpr h)
theorem oJ(h:pSs P H is ⟨st x (.ref hp.length) L,hp ++ [.il []]⟩ k):pSs P H (.name x (.list true [])::is) ⟨L,hp⟩ k:=by
 show VW (.il []) hp λh'=>PS.slC ⟨L,h'⟩ x (.ref hp.length) λF1=>pSs P H is F1 k;exact jv.mpr (zW.mpr h)
theorem oN{n:Nat}(h1:zf P H l ⟨L,hp⟩ (.il xs))(h2:zf P H r ⟨L,hp⟩ (.int (n:Int)))(hz:xs.length*n<=2 ^ 24)(hn:n<=2 ^ 24)(h:pSs P H is ⟨st x (.ref hp.length) L,hp ++ [.il (qU n xs)]⟩ k):pSs P H (.name x (.bin (.mul true) .Mult l r)::is) ⟨L,hp⟩ k:=
 h1 _ (h2 _ ⟨⟨hz,by lia⟩,jv.mpr (zW.mpr h)⟩)
theorem cw_v{Wv:PV->PS->KE->Prop}{g:Int->PV}{O:PS}{κ:List PV->PS->Prop}:∀(xs:List Int) (ys:List PV),(∀u∈xs,∀κ:KE,κ (g u) O->Wv (.int u) O κ)->κ (ys++xs.map g) O->q7 Wv (xs.map .int) ys O κ
 | [],ys,_,h=>by rw[List.map_nil,List.append_nil] at h;exact h
 | u::xs,ys,hw,h=>hw u (.head _) _ (cw_v (g:=g) xs (ys ++ [g u]) (λx hx=>hw x (.tail _ hx)) (by rw[List.append_assoc];exact h))
theorem oO{n:Nat}{g:Int->PV}(h1:zf P H b O (.int (n:Int)))(hn:n<=1000)(hg:∀u∈upL 0 n,zf (P.cv x (.int u)) H e O (g u))(h:pSs P H is ⟨st z (.ls ((upL 0 n).map g)) O.loc,O.hp⟩ k):pSs P H (.rowT z x e y [b]::is) O k:=h1 _ (by
 show(0<=(n:Int)/\(n:Int)<=100000)/\q7 (λv=>pE (P.cv x v) H e) (jh 0 (jy 0 (n:Int))) [] O _
 refine⟨⟨Int.natCast_nonneg _,Je (YQ hn) rfl⟩,?_⟩;rw[show jy 0 (n:Int)=n by unfold jy;lia,Z5]
 refine cw_v (g:=g) (upL 0 n) [] (λu hu κ hκ=>hg u hu κ hκ) ?_;rw[List.nil_append];exact(zW (O:=O) (x:=z) (v:=.ls ((upL 0 n).map g)) (c:=λO=>pSs P H is O k)).mpr h)
theorem qZ{w:PV}{fs:List (Nat×PV)}(h:lk x L=some (.ref j))(hj:hp[j]?=some (.inst fs))(hw:lk y fs=some w):zf P H (.attr x y) ⟨L,hp⟩ w:=λκ hκ=>by
 show opt (lk x L) _;rw[h];show gy hp[j]? _;rw[hj];show opt (lk y fs) _;rw[hw];exact hκ
end
noncomputable def lay:Mem->Int->List Int->Mem
 | M,_,[]=>M
 | M,p,b::r=>lay (wr M p b) (p+1) r
theorem ja:∀{ys:List Int} {M:Mem} {p:Int},(lay M p ys).length=M.length
 | [],_,_=>rfl
 | b::r,M,p=>(ja (ys:=r)).trans zG
theorem yv:∀{ys:List Int} {M:Mem} {p u:Int},0<=p->0<=u->(u<p∨p+ys.length<=u)->rd (lay M p ys) u=rd M u
 | [],_,_,_,_,_,_=>rfl
 | b::r,M,p,u,h0,hu,h=>by
  have e:((b::r).length:Int)=r.length+1:=by rw[List.length_cons];lia
  rw[e] at h;show rd (lay (wr M p b) (p+1) r) u=_;rw[yv (ys:=r) (zo (zq (zk h0)) rfl) hu (by lia),zB h0 hu (by lia)]
theorem J6:∀{ys:List Int} {M:Mem} {p:Int},M.length=65536->0<=p->p+ys.length<=65536->At (rd (lay M p ys)) p ys
 | [],_,_,_,_,_=>trivial
 | b::r,M,p,hl,h0,h1=>by
  have e:((b::r).length:Int)=r.length+1:=by rw[List.length_cons];lia
  rw[e] at h1;refine⟨?_,J6 (ys:=r) (zG.trans hl) (by lia) (by lia)⟩
  show rd (lay (wr M p b) (p+1) r) p=b;rw[yv (by lia) h0 (by lia),U9 (t:=0) hl h0 (by lia)]
theorem K8:∀{ys:List Int} {M:Mem} {p:Int},Bts M->(∀y∈ys,isB y)->Bts (lay M p ys)
 | [],_,_,h,_=>h
 | b::r,M,p,h,hy=>K8 (ys:=r) (h.wr _ (hy b (.head _))) λy q=>hy y (.tail _ q)
theorem bc:∀{ys:List Int} {M:Mem} {p:Nat},p+ys.length<=M.length->lay M (p:Int) ys=M.take p++ys++M.drop (p+ys.length)
 | [],M,p,_=>by
  show M=M.take p ++ []++M.drop (p+0);rw[List.append_nil,Nat.add_zero,List.take_append_drop]
 | b::r,M,p,h=>by
  rw[List.length_cons] at h ⊢;have hw:wr M (p:Int) b=M.set p b:=by unfold wr;rw[Int.toNat_natCast]
  have ih:=bc (ys:=r) (M:=M.set p b) (p:=p+1) (by rw[List.length_set];lia)
  show lay (wr M (p:Int) b) ((p:Int)+1) r=_;rw[hw,show(p:Int)+1=((p+1:Nat):Int) by lia,ih,List.drop_set_of_lt (by lia),List.take_add_one,List.take_set_of_le (Nat.le_refl _),List.getElem?_set_self (by lia),show p+1+r.length=p+(r.length+1) by lia]
  show M.take p ++ [b]++r++_=M.take p++(b::r)++_;rw[List.append_assoc (M.take p) [b] r];rfl
theorem V5{M:Mem}{p q:Int}(h0:0<=p)(hq:q=p+ys.length)(h:q<=M.length):yz (kms_lo (some p) M.length) (kms_hi (some q) M.length) M ys=lay M p ys:=by
 refine zI (Int.eq_ofNat_of_zero_le h0) λn Fy=>?_;subst Fy;rw[hq,show(n:Int)+(ys.length:Int)=((n+ys.length:Nat):Int) by lia] at h ⊢
 rw[uk,gm,bc (Int.ofNat_le.mp h)];unfold yz;rw[Nat.min_eq_left (by lia),Nat.min_eq_left (Int.ofNat_le.mp h),Nat.max_eq_right (Nat.le_add_right _ _)]
theorem fj{M:Mem}{q:Int}(hq:q=ys.length)(h:q<=M.length):yz (kms_lo none M.length) (kms_hi (some q) M.length) M ys=lay M 0 ys:=V5 (p:=0) (by decide) (by lia) h
noncomputable def pi1(a:Addr)(ns:List Int):Pi:=piM (Jk 0 [267,264]) 0 (λv=>match v with | .top b=>cond (Nat.beq b a) (some ns) none | _=>none) VT
noncomputable def Z4(t n:Int):Int:=(31*t+n)%1000003
noncomputable def dA(ns:List Int):Int:=(ns.take 18).foldl Z4 0
noncomputable def c8(ns:List Int):List Int:=ns.take 18++(upL 0 18).map λc=>dA ns+7*c
noncomputable def ci(ns:List Int):Nat:=min 9 (3+ns.length/2)
noncomputable def idx(nums:List Int)(s:Nat):Nat:=((nums.getD (2*s) 0+17*(s:Int))%53).toNat
noncomputable def rw3(i:Nat):Nat×Nat×Nat:=qH.getD i (9,0,0)
noncomputable def n5(md:Nat)(m:Int):Int:=match md with
 | 0=>m%256 | 1=>32+m%8 | 2=>m%256 | _=>234
noncomputable def Jf(nums:List Int)(s:Nat):Row:=⟨(rw3 (idx nums s)).1,(rw3 (idx nums s)).2.1,(rw3 (idx nums s)).2.2,n5 (rw3 (idx nums s)).2.2 (nums.getD (2*s+1) 0)⟩
noncomputable def mkR(nums:List Int):Nat->Nat->List Row
 | _,0=>[]
 | s,n+1=>Jf nums s::mkR nums (s+1) n
noncomputable def prV(r:Row):PV:=.il [r.op,r.v]
noncomputable def tpV(nums:List Int)(u:Int):PV:=.top (1433+idx nums u.toNat)
theorem pC:XE 1486=(List.range 53).map λi=>.top (1433+i):=by kernel_rfl
theorem oD:(List.range 53).map (λi=>XE (1433+i))=qH.map λr=>[.int r.1,.str (jg r.2.1),.str (yZ r.2.2)]:=by kernel_rfl
theorem VF:qH.length=53:=by kernel_rfl
theorem gc{l:List α}{d:α}(h:i<l.length):l[i]?=some (l.getD i d):=by rw[List.getD_eq_getElem?_getD,List.getElem?_eq_getElem h];rfl
theorem wx(h:i<53):(XE 1486)[i]?=some (.top (1433+i)):=by
 rw[pC,List.getElem?_map,List.getElem?_range h];rfl
theorem vG(h:i<53):XE (1433+i) = [.int (rw3 i).1,.str (jg (rw3 i).2.1),.str (yZ (rw3 i).2.2)]:=by
 have e:=congrArg (·[i]?) oD;rw[show((List.range 53).map (λi=>XE (1433+i)))[i]?=some (XE (1433+i)) by rw[List.getElem?_map,List.getElem?_range h];rfl,
  show(qH.map λr=>[PV.int r.1,.str (jg r.2.1),.str (yZ r.2.2)])[i]?=some [.int (rw3 i).1,.str (jg (rw3 i).2.1),.str (yZ (rw3 i).2.2)] by rw[List.getElem?_map,gc (d:=(9,0,0)) (by rw[VF];exact h)];rfl] at e
 exact Option.some.inj e
theorem ZE(nums:List Int)(s:Nat):idx nums s<53:=(Int.toNat_lt (Int.emod_nonneg _ (by decide))).mpr (Int.emod_lt_of_pos _ (by decide))
theorem tN(nums:List Int)(s:Nat):((idx nums s:Nat):Int)=(nums.getD (2*s) 0+17*(s:Int))%53:=Int.toNat_of_nonneg (Int.emod_nonneg _ (by decide))
theorem vR(i:Nat)(h:i<53):qC (rw3 i).1 (rw3 i).2.1 (rw3 i).2.2:=List.mem_of_getElem? (gc (d:=(9,0,0)) (by rw[VF];exact h))
theorem vf:qH.all (λr=>Nat.blt r.1 256)=true:=by kernel_rfl
theorem n6{m:Int}(h:md<4):Qc md (n5 md m):=by
 exact gv (P:=λmd=>Qc md (n5 md m)) ⟨jn _,nofun,nofun⟩
  ⟨⟨show 0<=32+m%8 from zo (jJ (dh rfl)) rfl,show 32+m%8<256 from zQ (jJ (ZR rfl)) rfl⟩,λZ=>⟨show 32<=32+m%8 from zo (jJ (dh rfl)) rfl,show 32+m%8<40 from zQ (jJ (ZR rfl)) rfl⟩,nofun⟩
  ⟨jn _,nofun,nofun⟩ ⟨show(0:Int)<=234/\(234:Int)<256 from⟨by decide,by decide⟩,nofun,λZ=>rfl⟩ md h
theorem Q9(nums:List Int)(s:Nat):RowOk (Jf nums s):=by
 have h:=vR _ (ZE nums s);refine⟨h,n6 h.b.2.2,⟨Int.natCast_nonneg _,?_⟩⟩
 have:=Nat.le_of_ble_eq_true (List.all_eq_true.mp vf _ h)
 show((rw3 (idx nums s)).1:Int)<256
 exact Int.ofNat_lt.mpr this
theorem g6(nums:List Int):∀(n s:Nat) (r:Row),r∈mkR nums s n->RowOk r
 | n+1,s,r,h=>(List.mem_cons.mp h).elim (λe=>e▸Q9 nums s) (g6 nums n (s+1) r)
theorem bj(nums:List Int):∀(n s:Nat),(mkR nums s n).length=n
 | 0,_=>rfl
 | n+1,s=>congrArg (· + 1) (bj nums n (s+1))
theorem rr(ns:List Int):3<=ci ns/\ci ns<=9:=⟨Nat.le_min.mpr ⟨by decide,Nat.le_add_right _ _⟩,Nat.min_le_left _ _⟩
theorem bp:18<=(c8 ns).length/\(c8 ns).length<=36:=by
 unfold c8;rw[List.length_append,List.length_map,JO,List.length_take];lia
theorem fZ:∀(xs:List Int) (t:Int),0<=t/\t<1000003->0<=xs.foldl Z4 t/\xs.foldl Z4 t<1000003
 | [],_,h=>h
 | n::xs,t,_=>fZ xs (Z4 t n) ⟨Int.emod_nonneg _ (by decide),Int.emod_lt_of_pos _ (by decide)⟩
theorem CQ(ns:List Int):0<=dA ns/\dA ns<1000003:=fZ _ 0 ⟨by decide,by decide⟩
noncomputable def rn:List IS:=bO (nt yX 2)
noncomputable def Ey:PwA 53:=⟨rfl,by decide,by decide⟩
section
variable {a:Addr}{rest:List IS}{K:KF}
theorem Xs:(pi1 a ns).arg (.top a)=some ns:=by
 show cond (Nat.beq a a) (some ns) none=some ns;rw[Nat.beq_refl];rfl
theorem fW{W:PS->KF->Prop}{k:KF}(h:W O k):fK W k .next O:=h
theorem Y8{T:Int}:∀(xs:List Int) (t:Int),xs.foldl Z4 t=T->K .next ⟨[(265,.top a)],[.cell none,.cell (some (.int T))]⟩ ->
  qn (pA (pi1 a ns) HL1 (.name 266)) (pSs (pi1 a ns) HL1 rn) (xs.map .int) ⟨[(265,.top a)],[.cell none,.cell (some (.int t))]⟩ K
 | [],_,e,h=>by cases e;exact h
 | n::xs,t,e,h=>by
  refine Wg ?_;refine Xw (off:=1) (c:=some (.int t)) (v:=.int (Z4 t n)) (zV (zD (ju zc (yA rfl) (by decide)) (zb rfl)) zc ⟨rfl,by decide,by decide⟩) rfl ?_
  refine yg (L:=[(265,.top a)]) (λQ hQ=>hQ) ?_;exact Y8 xs (Z4 t n) e h
noncomputable def LC(a:Addr)(nums:List Int)(cnt:Nat):List (Nat×PV):=[(265,.top a),(269,.int (cnt:Int)),(270,.ls ((upL 0 cnt).map (tpV nums))),(272,.ref 2)]
theorem CS{tot:Int}(hn:18<=nums.length/\nums.length<=36)(hc:cnt<=9){L:List (Nat×PV)}:∀u∈upL 0 cnt,zf ((pi1 a ns).cv 268 (.int u)) HL1 (.sub (.top 271 1486) (.bin .i .Mod (.bin .i .Add (.sub (.cel 267 0) (.bin .i .Mult (.int 2) (.cv 268))) (.bin .i .Mult (.int 17) (.cv 268))) (.int 53))) ⟨L,.cell (some (.il nums))::hp⟩ (tpV nums u):=λu hu=>by
 refine zh (XG hu) λu0 u1=>?_;refine zI (Int.eq_ofNat_of_zero_le u0) λs Fy=>?_;subst Fy;have hs:s<9:=by lia
 have e:tpV nums (s:Int)=.top (1433+idx nums s):=by unfold tpV;rw[Int.toNat_natCast]
 rw[e];have hi:=ZE nums s;have h1:zf ((pi1 a ns).cv 268 (.int (s:Int))) HL1 (.sub (.cel 267 0) (.bin .i .Mult (.int 2) (.cv 268))) ⟨L,.cell (some (.il nums))::hp⟩ (.int (nums.getD (2*s) 0)):=U0 (k:=2*s) (xs:=nums) (yA rfl) (jz (ju (i:=2) (j:=(s:Int)) zc (qL rfl) (by decide)) (by lia)) (by lia) (VB hn.2 rfl)
 have h2:zf ((pi1 a ns).cv 268 (.int (s:Int))) HL1 (.bin .i .Mod (.bin .i .Add (.sub (.cel 267 0) (.bin .i .Mult (.int 2) (.cv 268))) (.bin .i .Mult (.int 17) (.cv 268))) (.int 53)) ⟨L,.cell (some (.il nums))::hp⟩ (.int (idx nums s:Int)):=tN nums s▸zV (zD h1 (ju (i:=17) (j:=(s:Int)) zc (qL rfl) (by decide))) zc Ey
 exact bX (b:=1486) (n:=idx nums s) (λκ h=>h) h2 (VB (di hi) rfl) (wx hi)
theorem Cm(hn:18<=nums.length/\nums.length<=36)(hc:cnt<=9)(h:pSs (pi1 a ns) HL1 rest ⟨LC a nums cnt,[.cell (some (.il nums)),.cell (some (.int tot)),.il []]⟩ K):
  pSs (pi1 a ns) HL1 ((yX++rest).drop 5) ⟨[(265,.top a),(269,.int (cnt:Int))],[.cell (some (.il nums)),.cell (some (.int tot))]⟩ K:=by
 refine oO (n:=cnt) (g:=tpV nums) (zb rfl) (by lia) (CS (tot:=tot) hn hc) ?_
 refine oJ ?_;exact h
theorem Ck(hn:ns.length<=63)(nl:18<=nums.length/\nums.length<=36)(c1:cnt<=9)(ec:(if 3+(ns.length:Int)/2<9 then 3+(ns.length:Int)/2 else 9)=(cnt:Int))(en:ns.take 18++(upL 0 18).map (λc=>tot+7*c)=nums)(h:pSs (pi1 a ns) HL1 rest ⟨LC a nums cnt,[.cell (some (.il nums)),.cell (some (.int tot)),.il []]⟩ K):
  pSs (pi1 a ns) HL1 ((yX++rest).drop 3) ⟨[(265,.top a)],[.cell none,.cell (some (.int tot))]⟩ K:=by
 have hz:ns.length<=2 ^ 24:=by lia
 have tl:(ns.take 18).length<=18:=by rw[List.length_take];lia
 have e267:zf (pi1 a ns) HL1 (.bin (.add false) .Add (.slice false (.loc 265) none (some (.int 18))) (.compR false 268 (.bin .i .Add (.cel 264 1) (.bin .i .Mult (.int 7) (.cv 268))) 259 [.int 18])) ⟨[(265,.top a)],[.cell none,.cell (some (.int tot))]⟩ (.il nums):=en▸XK (xs:=ns.take 18) (ys:=(upL 0 18).map λc=>tot+7*c) (kR rfl Xs Qm (yQ zc) rfl rfl hz (X2 (k:=18)))
  (Qo (n:=18) (g:=λc=>tot+7*c) zc (by decide) λu hu=>zD (yA rfl) (ju zc (qL rfl) (by decide))) (by rw[List.length_map,JO];lia)
 refine Xw (off:=0) (c:=none) (v:=.il nums) e267 rfl ?_;refine Jg (v:=.int (cnt:Int)) (jz (wY (u:=9) (v:=3+(ns.length:Int)/2) zc (zD zc (qs (pV rfl Xs (by lia)) zc pw2))) ec) ?_
 exact Cm nl c1 h
theorem EG(hn:ns.length<=63)(h:pSs (pi1 a ns) HL1 rest ⟨LC a (c8 ns) (ci ns),[.cell (some (.il (c8 ns))),.cell (some (.int (dA ns))),.il []]⟩ K):
  pSs (pi1 a ns) HL1 (yX++rest) ⟨[(265,.top a)],[.cell none,.cell none]⟩ K:=by
 have hz:ns.length<=2 ^ 24:=by lia
 have e18:zf (pi1 a ns) HL1 (.slice false (.loc 265) none (some (.int 18))) ⟨[(265,.top a)],[.cell none,.cell (some (.int 0))]⟩ (.il (ns.take 18)):=kR rfl Xs Qm (yQ zc) rfl rfl hz (X2 (k:=18));refine Xw (off:=1) (c:=none) (v:=.int 0) zc rfl ?_;refine yg (L:=[(265,.top a)]) (λQ hQ=>hQ) ?_;refine oF (t:=.name 266) (A:=rn) (is:=(yX++rest).drop 3) e18 rfl ?_;refine Y8 (T:=dA ns) (ns.take 18) 0 rfl (fW ?_);have ec:(if 3+(ns.length:Int)/2<9 then 3+(ns.length:Int)/2 else 9)=((ci ns:Nat):Int):=by unfold ci;split<;>lia
 exact Ck hn bp (rr ns).2 ec rfl h
end
noncomputable def bE:IS->List IS
 | .forE _ _ _ b=>b
 | _=>[]
noncomputable def ak:List IS:=bE (nt K0 1)
noncomputable def L1(nums:List Int)(cnt:Nat):List (Nat×PV):=[(269,.int (cnt:Int)),(270,.ls ((upL 0 cnt).map (tpV nums))),(272,.ref 2)]
noncomputable def h1(nums:List Int)(tot:Int)(rs:List Row):List PO:=[.cell (some (.il nums)),.cell (some (.int tot)),stP (rs.map prV)]
theorem eD{nums:List Int}:∀(xs:List Int),qm 3 (xs.map (tpV nums))
 | []=>trivial
 | _::xs=>⟨trivial,eD xs⟩
theorem eC:∀(rs:List Row),qm 3 (rs.map prV)
 | []=>trivial
 | _::rs=>⟨trivial,eC rs⟩
theorem so:∀{rs:List Row},POs.bdd 3 (h1 nums tot rs)
 | []=>⟨trivial,trivial,trivial⟩
 | r::rs=>⟨trivial,trivial,eC (r::rs),trivial⟩
section
variable {a:Addr}{rest:List IS}{K:KF}
theorem US{s n:Nat}{v:PV}{e i:IE}(h1:zf (pi1 a ns) HL1 e O (tpV nums (s:Int)))(h2:zf (pi1 a ns) HL1 i O (.int (n:Int)))(hn:n<3)(hv:[PV.int (Jf nums s).op,.str (jg (Jf nums s).w),.str (yZ (Jf nums s).md)][n]?=some v):zf (pi1 a ns) HL1 (.sub e i) O v:=by
 have e':tpV nums (s:Int)=.top (1433+idx nums s):=by unfold tpV;rw[Int.toNat_natCast]
 rw[e'] at h1;refine bX (n:=n) h1 h2 (VB (di hn) rfl) ?_
 show(XE (1433+idx nums s))[n]?=_
 rw[vG (ZE nums s)];exact hv
theorem oj{s:Nat}(hn:18<=nums.length/\nums.length<=36)(hs:s<9)(hr:rs.length<100)(hK:K .next ⟨L1 nums cnt,h1 nums tot (rs ++ [Jf nums s])⟩):
  pSs (pi1 a ns) HL1 ak ⟨L1 nums cnt ++ [(268,.int (s:Int)),(273,tpV nums (s:Int))],h1 nums tot rs⟩ K:=by
 have em:zf (pi1 a ns) HL1 (.sub (.cel 267 0) (.bin .i .Add (.bin .i .Mult (.int 2) (.loc 268)) (.int 1))) ⟨L1 nums cnt ++ [(268,.int (s:Int)),(273,tpV nums (s:Int))],h1 nums tot rs⟩ (.int (nums.getD (2*s+1) 0)):=U0 (k:=2*s+1) (xs:=nums) (yA rfl) (jz (zD (ju (i:=2) (j:=(s:Int)) zc (zb rfl) (by decide)) zc) (by lia)) (by lia) (VB hn.2 rfl)
 refine Jg (v:=.int (nums.getD (2*s+1) 0)) em ?_;have hm:=(Q9 nums s).row.b.2.2;have ev:(Jf nums s).v=n5 (Jf nums s).md (nums.getD (2*s+1) 0):=rfl;have ri:=λ{e i:IE} {O:PS} {n:Nat} {v:PV}=>US (a:=a) (ns:=ns) (nums:=nums) (s:=s) (n:=n) (v:=v) (e:=e) (i:=i) (O:=O)
 have tb:bdd 3 (tpV nums (s:Int)):=trivial;generalize nums.getD (2*s+1) 0=m at *;generalize Jf nums s=r at *;generalize tpV nums (s:Int)=tp at *;show pSs (pi1 a ns) HL1 (ak.drop 1) ⟨L1 nums cnt ++ [(268,.int (s:Int)),(273,tp),(274,.int m)],h1 nums tot rs⟩ K;have four:∀d,Uc (pi1 a ns) HL1 [.bin .i .Mod (.loc 274) (.int 256),.bin .i .Add (.int 32) (.bin .i .Mod (.loc 274) (.int 8)),.bin .i .Mod (.loc 274) (.int 256),.int 234] ⟨L1 nums cnt ++ [(268,.int (s:Int)),(273,tp),(274,.int m)],h1 nums tot rs ++ [d]⟩ [.int (m%256),.int (32+m%8),.int (m%256),.int 234]:=λd =>
  ze (zV (zb rfl) zc jV) (ze (zD zc (zV (zb rfl) zc pw8)) (ze (zV (zb rfl) zc jV) (ze zc zL)))
 have hL:FR.bdd 3 (L1 nums cnt ++ [(268,.int (s:Int)),(273,tp),(274,.int m)]):=⟨trivial,eD _,show 2<3 by decide,trivial,tb,trivial,trivial⟩
 have key:(([(⟨⟨[35]⟩⟩,275),(⟨⟨[122]⟩⟩,37),(⟨⟨[122,44,120]⟩⟩,276),(⟨⟨[]⟩⟩,277)]:List (Str×Nat)).find? λp=>jR p.1 (yZ r.md)).map (·.2)=some ([275,37,276,277].getD r.md 0)/\lk ([275,37,276,277].getD r.md 0) (([(⟨⟨[35]⟩⟩,275),(⟨⟨[122]⟩⟩,37),(⟨⟨[122,44,120]⟩⟩,276),(⟨⟨[]⟩⟩,277)]:List (Str×Nat)).map (·.2) |>.zip [PV.int (m%256),.int (32+m%8),.int (m%256),.int 234])=some (.int r.v):=by
  rw[ev];clear ev ri;generalize r.md=md at *
  match md,hm with
  | 0,_ | 1,_ | 2,_ | 3,_=>exact⟨by kernel_rfl,rfl⟩
 refine dl (us:=rs.map prV) (w:=prV r) rfl rfl (j5 (us:=[.int r.op,.int r.v]) (ze (ri (n:=0) (zb rfl) zc (by decide) rfl)
  (ze (bU (hp:=h1 nums tot rs) so hL four (λd=>ri (n:=2) (zb rfl) zc (by decide) rfl) key.1 key.2 trivial) zL)) rfl rfl) rfl (by rw[List.length_map];exact VB (di hr) rfl) ?_
 refine yg (L:=L1 nums cnt) (λQ hQ=>hQ) ?_;show K .next ⟨L1 nums cnt,[.cell (some (.il nums)),.cell (some (.int tot)),stP (rs.map prV ++ [prV r])]⟩;have e:rs.map prV ++ [prV r]=(rs ++ [r]).map prV:=by rw[List.map_append];rfl
 rw[e];exact hK
theorem bx(hn:18<=nums.length/\nums.length<=36):∀(n s:Nat) (rs:List Row),s+n<=9->rs.length+n<100->K .next ⟨L1 nums cnt,h1 nums tot (rs++mkR nums s n)⟩ ->
  qn (JZ (pAs (pi1 a ns) HL1 [.name 268,.name 273])) (pSs (pi1 a ns) HL1 ak) (J3 s ((upL (s:Int) n).map (tpV nums))) ⟨L1 nums cnt,h1 nums tot rs⟩ K
 | 0,s,rs,_,_,hK=>by rw[show mkR nums s 0 = [] from rfl,List.append_nil] at hK;exact hK
 | n+1,s,rs,h9,hr,hK=>by
  refine Wj (O:=⟨L1 nums cnt,h1 nums tot rs⟩) ?_;refine oj hn (by lia) (by lia) ?_
  refine bx hn n (s+1) (rs ++ [Jf nums s]) (by lia) (by rw[List.length_append];show rs.length+1+n<100;lia) ?_
  rw[List.append_assoc];exact hK
theorem EH(hn:18<=nums.length/\nums.length<=36)(hc:cnt<=9)(h:pSs (pi1 a ns) HL1 rest ⟨L1 nums cnt,h1 nums tot (mkR nums 0 cnt)⟩ K):
  pSs (pi1 a ns) HL1 (K0++rest) ⟨LC a nums cnt,[.cell (some (.il nums)),.cell (some (.int tot)),.il []]⟩ K:=by
 refine yg (L:=L1 nums cnt) (λQ hQ=>hQ) ?_;refine Xx (A:=ak) (is:=rest) (us:=(upL 0 cnt).map (tpV nums)) (zb rfl) ?_;refine bx (rs:=[]) hn cnt 0 (by lia) (by show 0+cnt<100;lia) (fW ?_)
 rw[List.nil_append];exact h
noncomputable def L2r(nums:List Int)(cnt:Nat)(rs:List Row)(T b:Int):List (Nat×PV):=[(269,.int (cnt:Int)),(270,.ls ((upL 0 cnt).map (tpV nums))),(272,.ls (rs.map prV)),(279,.int b),(278,.int T),(281,.int (b+48)),(280,.int (b+24)),(1,.ref 3)]
noncomputable def h2(nums:List Int)(tot:Int)(M:Mem):List PO:=[.cell (some (.il nums)),.cell (some (.int tot)),.gone,.il M]
noncomputable def BJ:PwA 40000:=⟨rfl,by decide,by decide⟩
theorem oM{l r:IE}{L:List (Nat×PV)}{xs:List Int}{M:Mem}{n:Nat}{k:KF}(hM:qU n xs=M)(h1:zf P H l ⟨L,hp⟩ (.il xs))(h2:zf P H r ⟨L,hp⟩ (.int (n:Int)))(hz:xs.length*n<=2 ^ 24)(hn:n<=2 ^ 24)(h:pSs P H is ⟨st x (.ref hp.length) L,hp ++ [.il M]⟩ k):pSs P H (.name x (.bin (.mul true) .Mult l r)::is) ⟨L,hp⟩ k:=by
 subst hM;exact oN h1 h2 hz hn h
theorem EI{r:Row}{M:Mem}(hM:qU 65536 [0]=M)(h:pSs (pi1 a ns) HL1 rest ⟨L2r nums cnt (r::rs) (4096+tot%256) (20000+tot%40000),h2 nums tot M⟩ K):
  pSs (pi1 a ns) HL1 (K1++rest) ⟨L1 nums cnt,h1 nums tot (r::rs)⟩ K:=by
 refine oG (j:=2) (us:=(r::rs).map prV) rfl rfl ?_;refine i6 (v:=.int (4096+tot%256)) (w:=.int (20000+tot%40000)) (JB (ze (zD zc (zV (yA rfl) zc jV)) (ze (zD zc (zV (yA rfl) zc BJ)) zL)) rfl) ?_;generalize 4096+tot%256=T at *;generalize 20000+tot%40000=b at *;show pSs (pi1 a ns) HL1 ((K1++rest).drop 2) ⟨[(269,.int (cnt:Int)),(270,.ls ((upL 0 cnt).map (tpV nums))),(272,.ls ((r::rs).map prV)),(279,.int b),(278,.int T)],[.cell (some (.il nums)),.cell (some (.int tot)),.gone]⟩ K;refine i6 (v:=.int (b+24)) (w:=.int (b+48)) (JB (ze (zD (zb rfl) zc) (ze (zD (zb rfl) zc) zL)) rfl) ?_;refine oM (n:=65536) hM (j5 (us:=[.int 0]) (ze zc zL) rfl rfl) zc (by show 1*65536<=2 ^ 24;decide) (by decide) ?_
 exact h
end
noncomputable def wP(T:Int):Nat->List Row->Mem->Mem
 | _,[],M=>M
 | s,r::rs,M=>wP T (s+1) rs (lay M (T+2*(s:Int)) [(r.op:Int),r.v])
noncomputable def zpF(tot:Int):List Int:=(upL 0 256).map λc=>(tot+53*c+7)%256
noncomputable def spF(tot:Int):List Int:=[0,tot/8%256,tot%8+tot/8%4*64]
noncomputable def dtF(tot:Int):List Int:=(upL 0 8).map λc=>(tot+37*c*c)%256
noncomputable def lxF(tot:Int):List Int:=[162,tot/64%256]
noncomputable def wdF(n:Int):List Int:=[n%256,n/256]
noncomputable def cqA(T B:Int):List Int:=[164,16,185]++wdF T ++ [141]++wdF B ++ [200,185]++wdF T ++ [141]++wdF (B+1) ++ [200]
noncomputable def cqB:List Int:=[132,16,165,18,72,165,17,40,234,234,133,17,8,104,133,18]
noncomputable def cqC(n:Int):List Int:=[164,16,165,17,153,0,3,165,18,153,1,3,192,n,208,208]
noncomputable def g5(tot T b n:Int)(rs:List Row)(M:Mem):Mem:=lay (lay (lay (lay (lay (lay (lay (wP T 0 rs M) 0 (zpF tot)) 16 (spF tot)) 32 (dtF tot)) (b-2) (lxF tot)) b (cqA T (b+24))) (b+16) cqB) (b+32) (cqC n)
theorem Z7{T:Int}:∀{rs:List Row} {s:Nat} {M:Mem},(wP T s rs M).length=M.length
 | [],_,_=>rfl
 | r::rs,s,M=>(Z7 (rs:=rs)).trans ja
theorem kI{T:Int}(h0:0<=T):∀{rs:List Row} {s:Nat} {M:Mem} {u:Int},0<=u->u<T+2*(s:Int)->rd (wP T s rs M) u=rd M u
 | [],_,_,_,_,_=>rfl
 | r::rs,s,M,u,hu,h=>by
  show rd (wP T (s+1) rs (lay M (T+2*(s:Int)) [(r.op:Int),r.v])) u=_;rw[kI h0 hu (by lia),yv (zo (qq (zk h0) (jr U8)) rfl) hu (.inl h)]
theorem CZ{T:Int}:∀{rs:List Row} {s:Nat} {M:Mem},(∀r∈rs,RowOk r)->Bts M->Bts (wP T s rs M)
 | [],_,_,_,h=>h
 | r::rs,s,M,hr,h=>CZ (rs:=rs) (λx hx=>hr x (.tail _ hx)) (K8 h λy hy=>by
  have k:=hr r (.head _)
  rcases List.mem_cons.mp hy with rfl | hy
  ·exact k.op
  ·rw[List.mem_singleton.mp hy];exact k.v.1)
theorem kJ{T:Int}(h0:0<=T)(h1:T<5000):∀{rs:List Row} {s:Nat} {M:Mem},M.length=65536->s+rs.length<100->XQ (rd (wP T s rs M)) T s rs
 | [],_,_,_,_=>trivial
 | r::rs,s,M,hl,hs=>by
  rw[List.length_cons] at hs;have a:=J6 (ys:=[(r.op:Int),r.v]) (M:=M) (p:=T+2*(s:Int)) hl (zo (qq (zk h0) (jr U8)) rfl) (by show T+2*(s:Int)+2<=65536;lia)
  have t:=kJ h0 h1 (rs:=rs) (s:=s+1) (M:=lay M (T+2*(s:Int)) [(r.op:Int),r.v]) (ja.trans hl) (by lia)
  refine⟨⟨?_,?_⟩,t⟩
  ·show rd (wP T (s+1) rs (lay M (T+2*(s:Int)) [(r.op:Int),r.v])) (T+2*(s:Int))=_
   rw[kI h0 (zo (qq (zk h0) (jr U8)) rfl) (by lia)];exact a.1
  ·show rd (wP T (s+1) rs (lay M (T+2*(s:Int)) [(r.op:Int),r.v])) (T+2*(s:Int)+1)=_
   rw[kI h0 (zo (zq (qq (zk h0) (jr U8))) rfl) (by lia)];exact a.2.1
theorem XQ.eq{K K':Int->Int}{T:Int}:∀{l:List Row} {j:Nat},XQ K T j l->(∀u,T<=u->u<T+2*((j:Int)+l.length)->K' u=K u)->XQ K' T j l
 | [],_,_,_=>trivial
 | r::l,j,h,e=>by
  have q:((r::l).length:Int)=l.length+1:=by rw[List.length_cons];lia
  rw[q] at e;exact⟨⟨(e _ (EA rfl) (by lia)).trans h.1.1,(e _ (by lia) (by lia)).trans h.1.2⟩,XQ.eq (l:=l) (j:=j+1) h.2 λu h1 h2=>e u h1 (by lia)⟩
theorem At.lay{M:Mem}{q:Int}{ys:List Int}:∀{l:List Int} {p:Int},At (rd M) p l->0<=p->0<=q->(p+l.length<=q∨q+ys.length<=p)->At (rd (lay M q ys)) p l
 | [],_,_,_,_,_=>trivial
 | b::l,p,h,h0,h1,h2=>by
  have e:((b::l).length:Int)=l.length+1:=by rw[List.length_cons];lia
  rw[e] at h2;exact⟨(yv h1 h0 (by lia)).trans h.1,At.lay (l:=l) h.2 (zo (zq (zk h0)) rfl) h1 (by lia)⟩
theorem At.cat{K:Int->Int}:∀{l r:List Int} {pc:Int},At K pc l->At K (pc+l.length) r->At K pc (l++r)
 | [],r,pc,_,h=>by have h:At K (pc+0) r:=h;rw[Int.add_zero] at h;exact h
 | b::l,r,pc,h,h2=>⟨h.1,At.cat h.2 (by
  rw[show pc+((b::l).length:Int)=pc+1+(l.length:Int) by rw[List.length_cons];lia] at h2
  exact h2)⟩
structure MF(tot T b n:Int)(rs:List Row)(M:Mem):Prop where
 len:M.length=65536
 B:Bts M
 y16:rd M 16=0
 r18:rd M 18=tot%8+tot/8%4*64
 lx:At (rd M) (b-2) (lxF tot)
 cd:At (rd M) b (cqA T (b+24)++(cqB++cqC n))
 tab:XQ (rd M) T 0 rs
theorem pP{n:Int}(h:0<=n/\n<65536):∀y∈wdF n,isB y:=λy hy=>by
 rcases List.mem_cons.mp hy with rfl | hy
 ·exact jn _
 ·rw[List.mem_singleton.mp hy];exact⟨zo (BL (zk h.1) rfl) rfl,Int.ediv_lt_of_lt_mul (of_decide_eq_true rfl) h.2⟩
theorem Ji{l:List Int}(h:l.all (λy=>decide (0<=y/\y<256))=true):∀y∈l,isB y:=λy hy=>show 0<=y/\y<256 from of_decide_eq_true (List.all_eq_true.mp h y hy)
theorem qM{l r:List Int}(h:∀y∈l,isB y)(h2:∀y∈r,isB y):∀y∈l++r,isB y:=λy hy=>(List.mem_append.mp hy).elim (h y) (h2 y)
theorem eJ{f:Int->Int}{l:List Int}(h:∀u,isB (f u)):∀y∈l.map f,isB y:=λy hy=>by
 refine zd (List.mem_map.mp hy) λu Z Fy=>?_;subst Fy;exact h u
theorem Bd{T b n:Int}{M:Mem}(hl:M.length=65536)(hB:Bts M)(hr:∀r∈rs,RowOk r)(hrl:rs.length<=9)(ht:4096<=T/\T<4352)(hb:20000<=b/\b<60000)(hn:isB n):MF tot T b n rs (g5 tot T b n rs M):=by
 have z1:((zpF tot).length:Int)=256:=by unfold zpF;rw[List.length_map,JO];rfl
 have z2:((spF tot).length:Int)=3:=rfl;have z3:((dtF tot).length:Int)=8:=rfl;have z4:((lxF tot).length:Int)=2:=rfl;have z5:((cqA T (b+24)).length:Int)=16:=rfl;have z6:((cqB).length:Int)=16:=rfl;have z7:((cqC n).length:Int)=16:=rfl;have b1:∀y∈zpF tot,isB y:=eJ λu=>jn _
 have b2:∀y∈spF tot,isB y:=λy hy=>by
  rcases List.mem_cons.mp hy with rfl | hy
  ·exact⟨by decide,by decide⟩
  ·rcases List.mem_cons.mp hy with rfl | hy
   ·exact jn _
   ·rw[List.mem_singleton.mp hy];exact⟨zo (qq (dh rfl) (BM (dh rfl))) rfl,zQ (qq (ZR rfl) (BM (ZR rfl))) rfl⟩
 have b3:∀y∈dtF tot,isB y:=eJ λu=>jn _;have b4:∀y∈lxF tot,isB y:=λy hy=>by
  rcases List.mem_cons.mp hy with rfl | hy
  ·exact⟨by decide,by decide⟩
  ·rw[List.mem_singleton.mp hy];exact jn _
 have b5:∀y∈cqA T (b+24),isB y:=qM (qM (qM (qM (qM (qM (qM (qM (Ji rfl) (pP ⟨zo (zk ht.1) rfl,zQ (zJ ht.2) rfl⟩)) (Ji rfl)) (pP ⟨zo (zq (zk hb.1)) rfl,zQ (zq (zJ hb.2)) rfl⟩)) (Ji rfl)) (pP ⟨zo (zk ht.1) rfl,zQ (zJ ht.2) rfl⟩)) (Ji rfl)) (pP ⟨zo (zq (zq (zk hb.1))) rfl,zQ (zq (zq (zJ hb.2))) rfl⟩)) (Ji rfl);have b6:∀y∈cqB,isB y:=Ji rfl;have b7:∀y∈cqC n,isB y:=qM (l:=[164,16,165,17,153,0,3,165,18,153,1,3,192]) (r:=[n,208,208]) (Ji rfl) λy hy=>by
  rcases List.mem_cons.mp hy with rfl | hy
  ·exact hn
  ·exact Ji (l:=[208,208]) rfl y hy
 have t0:=kJ (T:=T) (zo (zk ht.1) rfl) (zQ (zJ ht.2) rfl) (rs:=rs) (s:=0) (M:=M) hl (VB (oo (Nat.le_refl _) hrl) rfl);have l0:(wP T 0 rs M).length=65536:=Z7.trans hl;have B0:=CZ (T:=T) (s:=0) hr hB;unfold g5;generalize wP T 0 rs M=M0 at *;have l1:(lay M0 0 (zpF tot)).length=65536:=ja.trans l0;have B1:=K8 (p:=0) B0 b1;have t1:=t0.eq (K':=rd (lay M0 0 (zpF tot))) λu h1 h2=>yv (by decide) (by lia) (.inr (by rw[z1];lia))
 generalize lay M0 0 (zpF tot)=M1 at *;have l2:(lay M1 16 (spF tot)).length=65536:=ja.trans l1;have B2:=K8 (p:=16) B1 b2;have t2:=t1.eq (K':=rd (lay M1 16 (spF tot))) λu h1 h2=>yv (by decide) (by lia) (.inr (by rw[z2];lia))
 have a2:=J6 (ys:=spF tot) (p:=16) l1 (by decide) (by rw[z2];decide)
 generalize lay M1 16 (spF tot)=M2 at *;have l3:(lay M2 32 (dtF tot)).length=65536:=ja.trans l2;have B3:=K8 (p:=32) B2 b3;have t3:=t2.eq (K':=rd (lay M2 32 (dtF tot))) λu h1 h2=>yv (by decide) (by lia) (.inr (by rw[z3];lia))
 have a3:=a2.lay (q:=32) (ys:=dtF tot) (by decide) (by decide) (.inl (by rw[z2];decide))
 generalize lay M2 32 (dtF tot)=M3 at *;have l4:(lay M3 (b-2) (lxF tot)).length=65536:=ja.trans l3;have B4:=K8 (p:=b-2) B3 b4;have t4:=t3.eq (K':=rd (lay M3 (b-2) (lxF tot))) λu h1 h2=>yv (zo (Qf (zk hb.1)) rfl) (by lia) (.inl (by lia))
 have a4:=a3.lay (q:=b-2) (ys:=lxF tot) (by decide) (zo (Qf (zk hb.1)) rfl) (.inl (by rw[z2];exact zo (Qf (zk hb.1)) rfl))
 have x4:=J6 (ys:=lxF tot) (p:=b-2) l3 (zo (Qf (zk hb.1)) rfl) (by rw[z4];exact Je (zq (Qf (zJ hb.2))) rfl)
 generalize lay M3 (b-2) (lxF tot)=M4 at *;have l5:(lay M4 b (cqA T (b+24))).length=65536:=ja.trans l4;have B5:=K8 (p:=b) B4 b5;have t5:=t4.eq (K':=rd (lay M4 b (cqA T (b+24)))) λu h1 h2=>yv (zo (zk hb.1) rfl) (by lia) (.inl (by lia))
 have a5:=a4.lay (q:=b) (ys:=cqA T (b+24)) (by decide) (zo (zk hb.1) rfl) (.inl (by rw[z2];exact zo (zk hb.1) rfl))
 have x5:=x4.lay (q:=b) (ys:=cqA T (b+24)) (zo (Qf (zk hb.1)) rfl) (zo (zk hb.1) rfl) (.inl (by rw[z4];lia))
 have c5:=J6 (ys:=cqA T (b+24)) (p:=b) l4 (zo (zk hb.1) rfl) (by rw[z5];exact Je (zq (zJ hb.2)) rfl)
 generalize lay M4 b (cqA T (b+24))=M5 at *;have l6:(lay M5 (b+16) cqB).length=65536:=ja.trans l5;have B6:=K8 (p:=b+16) B5 b6;have t6:=t5.eq (K':=rd (lay M5 (b+16) cqB)) λu h1 h2=>yv (zo (zq (zk hb.1)) rfl) (by lia) (.inl (by lia))
 have a6:=a5.lay (q:=b+16) (ys:=cqB) (by decide) (zo (zq (zk hb.1)) rfl) (.inl (by rw[z2];exact zo (zq (zk hb.1)) rfl))
 have x6:=x5.lay (q:=b+16) (ys:=cqB) (zo (Qf (zk hb.1)) rfl) (zo (zq (zk hb.1)) rfl) (.inl (by rw[z4];lia))
 have c6:=c5.lay (q:=b+16) (ys:=cqB) (zo (zk hb.1) rfl) (zo (zq (zk hb.1)) rfl) (.inl (by rw[z5];exact ot rfl))
 have d6:=J6 (ys:=cqB) (p:=b+16) l5 (zo (zq (zk hb.1)) rfl) (by rw[z6];exact Je (zq (zq (zJ hb.2))) rfl)
 generalize lay M5 (b+16) cqB=M6 at *;have l7:(lay M6 (b+32) (cqC n)).length=65536:=ja.trans l6;have B7:=K8 (p:=b+32) B6 b7;have t7:=t6.eq (K':=rd (lay M6 (b+32) (cqC n))) λu h1 h2=>yv (zo (zq (zk hb.1)) rfl) (by lia) (.inl (by lia))
 have a7:=a6.lay (q:=b+32) (ys:=cqC n) (by decide) (zo (zq (zk hb.1)) rfl) (.inl (by rw[z2];exact zo (zq (zk hb.1)) rfl))
 have x7:=x6.lay (q:=b+32) (ys:=cqC n) (zo (Qf (zk hb.1)) rfl) (zo (zq (zk hb.1)) rfl) (.inl (by rw[z4];lia))
 have c7:=c6.lay (q:=b+32) (ys:=cqC n) (zo (zk hb.1) rfl) (zo (zq (zk hb.1)) rfl) (.inl (by rw[z5];exact ot rfl))
 have d7:=d6.lay (q:=b+32) (ys:=cqC n) (zo (zq (zk hb.1)) rfl) (zo (zq (zk hb.1)) rfl) (.inl (by rw[z6];lia))
 have e7:=J6 (ys:=cqC n) (p:=b+32) l6 (zo (zq (zk hb.1)) rfl) (by rw[z7];exact Je (zq (zq (zJ hb.2))) rfl)
 exact⟨l7,B7,a7.1,a7.2.2.1,x7,c7.cat (by rw[z5];exact d7.cat (by rw[z6,show b+16+16=b+32 by lia];exact e7)),t7⟩
theorem xS{K:Int->Int}{T b n:Int}(ht:4096<=T/\T<4352)(hb:20000<=b/\b<60000)(h:At K b (cqA T (b+24)++(cqB++cqC n))):Cd K b T n:=by
 have e:cqA T (b+24)++(cqB++cqC n)=byL (YO (b+24) T)++([234,234]++(byL (QV n) ++ [208,208])):=rfl;rw[e] at h;obtain⟨p1,p2⟩:=h.app;obtain⟨p3,p4⟩:=p2.app;obtain⟨p5,p6⟩:=p4.app;have lp:((byL (YO (b+24) T)).length:Int)=24:=rfl;have lq:((byL (QV n)).length:Int)=20:=rfl;rw[lp,show b+24+(([234,234]:List Int).length:Int)=b+26 by show b+24+2=_;exact Int.add_assoc _ _ _] at p5
 rw[lp,lq,show b+24+(([234,234]:List Int).length:Int)+20=b+46 by show b+24+2+20=_;lia] at p6
 exact⟨p1,p5,p6,hb.1,hb.2,⟨ht.1,zQ (zJ ht.2) rfl⟩⟩
noncomputable def ro:List IS:=bE (nt yY 1)
noncomputable def L3(nums:List Int)(cnt:Nat)(rs:List Row)(T b:Int):List (Nat×PV):=[(269,.int (cnt:Int)),(270,.ls ((upL 0 cnt).map (tpV nums))),(272,.ls (rs.map prV)),(278,.int T),(279,.int b),(280,.int (b+24)),(281,.int (b+48)),(1,.ref 3)]
section
variable {a:Addr}{rest:List IS}{K:KF}{T b:Int}{M M':Mem}{L:List (Nat×PV)}{e:IE}{p q:Int}{elo ehi:IE}
theorem J8(h1:lk 1 L=some (.ref 3))(hl:M.length=65536)(he:zf (pi1 a ns) HL1 e ⟨L,h2 nums tot M⟩ (.il ys))(g1:zf (pi1 a ns) HL1 elo ⟨L,h2 nums tot M⟩ (.int p))(g2:zf (pi1 a ns) HL1 ehi ⟨L,h2 nums tot M⟩ (.int q))(h0:0<=p)(hq:q=p+ys.length)(h:q<=65536)(hk:pSs (pi1 a ns) HL1 is ⟨L,h2 nums tot (lay M p ys)⟩ K):
  pSs (pi1 a ns) HL1 (.slp (.loc 1) (some elo) (some ehi) e::is) ⟨L,h2 nums tot M⟩ K:=
 ZT (x:=1) (j:=3) (xs:=M) (ys:=ys) (zs:=lay M p ys) h1 rfl he (yQ g1) (yQ g2) rfl rfl (by rw[hl];exact Nat.le_trans (Nat.add_le_add_left (show ys.length<=65536 by lia) _) (by decide)) (V5 h0 hq (by rw[hl];exact h)) hk
theorem kL(ht:4096<=T/\T<4352):∀(l:List Row) (s:Nat) (M:Mem),M.length=65536->s+l.length<=9->K .next ⟨L3 nums cnt rs T b,h2 nums tot (wP T s l M)⟩ ->
  qn (JZ (pAs (pi1 a ns) HL1 [.name 268,.name 282])) (pSs (pi1 a ns) HL1 ro) (J3 s (l.map prV)) ⟨L3 nums cnt rs T b,h2 nums tot M⟩ K
 | [],_,_,_,_,hK=>hK
 | r::l,s,M,hl,hs,hK=>by
  rw[List.length_cons] at hs;refine Wj (O:=⟨L3 nums cnt rs T b,h2 nums tot M⟩) ?_;have g:zf (pi1 a ns) HL1 (.bin .i .Add (.loc 278) (.bin .i .Mult (.int 2) (.loc 268))) ⟨L3 nums cnt rs T b ++ [(268,.int (s:Int)),(282,prV r)],h2 nums tot M⟩ (.int (T+2*(s:Int))):=zD (zb rfl) (ju zc (zb rfl) (by decide))
  refine J8 (ys:=[(r.op:Int),r.v]) (p:=T+2*(s:Int)) (q:=T+2*(s:Int)+2) rfl hl (zb rfl) g (zD g zc) (zo (qq (zk ht.1) (jr U8)) rfl) rfl (by lia) ?_
  refine yg (L:=L3 nums cnt rs T b) (λQ hQ=>hQ) ?_;exact kL ht l (s+1) _ (ja.trans hl) (by lia) hK
theorem Zu{n:Int}(h:zf (pi1 a ns) HL1 e O (.int n)):zf (pi1 a ns) HL1 (.callv (.top 283 1493) [e]) O (.il (wdF n)):=qi (by kernel_rfl) (ze h zL) λk h=>mH h
noncomputable def I16(l:List Int):List IE:=l.map .int
theorem fy{O:PS}:∀(l:List Int),Uc (pi1 a ns) HL1 (I16 l) O (l.map .int)
 | []=>zL
 | _::l=>ze zc (fy l)
theorem Qu{l:List Int}(hl:Nat.ble l.length 1000=true):zf (pi1 a ns) HL1 (.list false (I16 l)) O (.il l):=j5 (us:=l.map .int) (fy l) (Kq l) (by rw[List.length_map];exact hl)
theorem EJ(ht:4096<=T/\T<4352)(hb:20000<=b/\b<60000)(hl:M.length=65536)(hr:rs.length<=9)(h:pSs (pi1 a ns) HL1 rest ⟨L3 nums cnt rs T b,h2 nums tot (g5 tot T b (2*(cnt:Int)) rs M)⟩ K):
  pSs (pi1 a ns) HL1 (yY++rest) ⟨L2r nums cnt rs T b,h2 nums tot M⟩ K:=by
 refine yg (L:=L3 nums cnt rs T b) (λQ hQ=>hQ) ?_;refine Xx (A:=ro) (is:=(yY++rest).drop 2) (us:=rs.map prV) (zb rfl) ?_;refine kL ht rs 0 M hl (qG (oo (Nat.le_refl _) hr) rfl) (fW ?_);unfold g5 at h;have l0:(wP T 0 rs M).length=65536:=Z7.trans hl;generalize wP T 0 rs M=M0 at *;have tv:∀{M:Mem},zf (pi1 a ns) HL1 (.cel 264 1) ⟨L3 nums cnt rs T b,h2 nums tot M⟩ (.int tot):=λ{M}=>yA rfl
 have bv:∀{M:Mem},zf (pi1 a ns) HL1 (.loc 279) ⟨L3 nums cnt rs T b,h2 nums tot M⟩ (.int b):=λ{M}=>zb rfl;have z1:((zpF tot).length:Int)=256:=by unfold zpF;rw[List.length_map,JO];rfl
 refine ZT (x:=1) (j:=3) (xs:=M0) (ys:=zpF tot) (zs:=lay M0 0 (zpF tot)) rfl rfl (Qo (n:=256) (g:=λc=>(tot+53*c+7)%256) zc (by decide) λu hu=>zV (zD (zD (yA rfl) (ju zc (qL rfl) (by decide))) zc) zc jV) Qm (yQ zc) rfl rfl (by rw[l0];lia) (fj z1.symm (by rw[l0];decide)) ?_
 show pSs (pi1 a ns) HL1 ((yY++rest).drop 3) ⟨L3 nums cnt rs T b,h2 nums tot (lay M0 0 (zpF tot))⟩ K;have l1:(lay M0 0 (zpF tot)).length=65536:=ja.trans l0;generalize lay M0 0 (zpF tot)=M1 at *;refine J8 (ys:=spF tot) (p:=16) (q:=19) rfl l1 (j5 (us:=[.int 0,.int (tot/8%256),.int (tot%8+tot/8%4*64)]) (ze zc (ze (zV (qs tv zc pw8) zc jV) (ze (zD (zV tv zc pw8) (ju (zV (qs tv zc pw8) zc pw4) zc (by lia))) zL))) rfl rfl) zc zc (by decide) rfl (by decide) ?_
 have l2:(lay M1 16 (spF tot)).length=65536:=ja.trans l1;generalize lay M1 16 (spF tot)=M2 at *;refine J8 (ys:=dtF tot) (p:=32) (q:=40) rfl l2 (Qo (n:=8) (g:=λc=>(tot+37*c*c)%256) zc (by decide) λu hu=>zV (zD (yA rfl) (ju (ju zc (qL rfl) (by decide)) (qL rfl) (by have:=XG hu;lia))) zc jV) zc zc (by decide) rfl (by decide) ?_
 have l3:(lay M2 32 (dtF tot)).length=65536:=ja.trans l2;generalize lay M2 32 (dtF tot)=M3 at *;refine J8 (ys:=lxF tot) (p:=b-2) (q:=b) rfl l3 (j5 (us:=[.int 162,.int (tot/64%256)]) (ze zc (ze (zV (qs tv zc ⟨rfl,by decide,by decide⟩) zc jV) zL)) rfl rfl) (QL bv zc) bv (zo (Qf (zk hb.1)) rfl) (by show b=b-2+2;lia) (Je (zJ hb.2) rfl) ?_
 have l4:(lay M3 (b-2) (lxF tot)).length=65536:=ja.trans l3;generalize lay M3 (b-2) (lxF tot)=M4 at *;have c1:∀{n:Int} {xs ys:List Int} {l r:IE} {O:PS},zf (pi1 a ns) HL1 l O (.il xs)->zf (pi1 a ns) HL1 r O (.il ys)->Nat.ble (xs.length+ys.length) 100=true->zf (pi1 a ns) HL1 (.bin (.add false) .Add l r) O (.il (xs++ys)):=λ{n xs ys l r O} h1 h2 h3=>XK h1 h2 (Nat.le_trans (Nat.le_of_ble_eq_true h3) (by decide))
 have wT:∀{M:Mem},zf (pi1 a ns) HL1 (.callv (.top 283 1493) [.loc 278]) ⟨L3 nums cnt rs T b,h2 nums tot M⟩ (.il (wdF T)):=λ{M}=>Zu (zb rfl);have wB:∀{M:Mem},zf (pi1 a ns) HL1 (.callv (.top 283 1493) [.loc 280]) ⟨L3 nums cnt rs T b,h2 nums tot M⟩ (.il (wdF (b+24))):=λ{M}=>Zu (zb rfl);have wC:∀{M:Mem},zf (pi1 a ns) HL1 (.callv (.top 283 1493) [.bin .i .Add (.loc 280) (.int 1)]) ⟨L3 nums cnt rs T b,h2 nums tot M⟩ (.il (wdF (b+24+1))):=λ{M}=>Zu (zD (zb rfl) zc);refine J8 (ys:=cqA T (b+24)) (p:=b) (q:=b+16) rfl l4 (c1 (n:=0) (c1 (n:=0) (c1 (n:=0) (c1 (n:=0) (c1 (n:=0) (c1 (n:=0) (c1 (n:=0) (c1 (n:=0) (Qu (l:=[164,16,185]) rfl) wT rfl) (Qu (l:=[141]) rfl) rfl) wB rfl) (Qu (l:=[200,185]) rfl) rfl) wT rfl) (Qu (l:=[141]) rfl) rfl) wC rfl) (Qu (l:=[200]) rfl) rfl) bv (zD bv zc) (zo (zk hb.1) rfl) rfl (Je (zq (zJ hb.2)) rfl) ?_;have l5:(lay M4 b (cqA T (b+24))).length=65536:=ja.trans l4;generalize lay M4 b (cqA T (b+24))=M5 at *;refine J8 (ys:=cqB) (p:=b+16) (q:=b+32) rfl l5 (Qu (l:=cqB) rfl) (zD bv zc) (zD bv zc) (zo (zq (zk hb.1)) rfl) (by show b+32=b+16+16;lia) (Je (zq (zJ hb.2)) rfl) ?_
 have l6:(lay M5 (b+16) cqB).length=65536:=ja.trans l5;generalize lay M5 (b+16) cqB=M6 at *;refine J8 (ys:=cqC (2*(cnt:Int))) (p:=b+32) (q:=b+48) rfl l6 (j5 (us:=(cqC (2*(cnt:Int))).map .int) (ze zc (ze zc (ze zc (ze zc (ze zc (ze zc (ze zc (ze zc (ze zc (ze zc (ze zc (ze zc (ze zc (ze (ju zc (zb rfl) (by decide)) (ze zc (ze zc zL)))))))))))))))) rfl rfl) (zD bv zc) (zb rfl) (zo (zq (zk hb.1)) rfl) (by show b+48=b+32+16;lia) (Je (zq (zJ hb.2)) rfl) ?_
 exact h
noncomputable def h4(nums:List Int)(tot:Int)(M:Mem)(N:Mem)(c:Cpu):List PO:=[.cell (some (.il nums)),.cell (some (.int tot)),.gone,.il M,.il N,.inst (qo c)]
noncomputable def L4(nums:List Int)(cnt:Nat)(rs:List Row)(T b:Int):List (Nat×PV):=L3 nums cnt rs T b ++ [(284,.ref 4),(285,.ref 5)]
theorem EK(hl:M.length=65536)(h:pSs (pi1 a ns) HL1 rest ⟨L4 nums cnt rs T b,h4 nums tot M M (c0 (b-2))⟩ K):
  pSs (pi1 a ns) HL1 (Jq++rest) ⟨L3 nums cnt rs T b,h2 nums tot M⟩ K:=by
 refine oE (x:=1) (j:=3) (xs:=M) rfl rfl (by rw[hl];decide) ?_
 show pSs (pi1 a ns) HL1 ((Jq++rest).drop 1) ⟨L3 nums cnt rs T b ++ [(284,.ref 4)],h2 nums tot M ++ [.il M]⟩ K;conv=>whnf
 refine(yW M ⟨.cell (some (.il nums)),.cell (some (.int tot)),.gone,.il M,[]⟩ (b-2) (by rw[jP];rfl) rfl ?_)
 conv=>whnf
 exact h
end
noncomputable def bR:IS->List IS
 | .forR _ _ _ b=>b
 | _=>[]
noncomputable def XW:List IS:=bR (nt Jr 1)
noncomputable def L5(nums:List Int)(cnt:Nat)(rs:List Row)(b:Int):List (Nat×PV):=[(270,.ls ((upL 0 cnt).map (tpV nums))),(272,.ls (rs.map prV)),(280,.int (b+24)),(281,.int (b+48)),(284,.ref 4),(285,.ref 5)]
noncomputable def L5i(nums:List Int)(cnt:Nat)(rs:List Row)(b i:Int):List (Nat×PV):=[(270,.ls ((upL 0 cnt).map (tpV nums))),(272,.ls (rs.map prV)),(280,.int (b+24)),(281,.int (b+48)),(284,.ref 4),(285,.ref 5),(286,.int i)]
noncomputable def h4d(nums:List Int)(tot:Int)(M N:Mem)(c:Cpu):List PO:=[.cell (some (.il nums)),.cell (some (.int tot)),.gone,.il M,.il N,.inst (qo c),.dct []]
section
variable {a:Addr}{rest:List IS}{K:KF}{T b:Int}{M M' N:Mem}{c c':Cpu}
theorem oP(he:c.pc=b+48)(hK:∀i,K .next ⟨L5i nums cnt rs b i,h4 nums tot M N c⟩):∀(n:Nat) (i:Int),0<n ->
  qn (pA (pi1 a ns) HL1 (.name 286)) (pSs (pi1 a ns) HL1 XW) (jh i n) ⟨L5 nums cnt rs b,h4 nums tot M N c⟩ K
 | 0,_,h=>absurd h (Nat.lt_irrefl 0)
 | n+1,i,_=>by
  refine Wg ?_;refine vO (A:=[.brk]) (B:=[]) (is:=XW.drop 1) (UZ (i:=c.pc) (j:=b+48) (qZ (j:=5) (fs:=qo c) rfl rfl rfl) (zb rfl)) (by rw[he];exact beq_self_eq_true _) ?_
  exact hK i
theorem ph{L:List (Nat×PV)}{k:Nat}{op:Op}(h5:lk 285 L=some (.ref 5))(hs:StpOk k op c M)(hk:pSs (pi1 a ns) HL1 is ⟨L,h4 nums tot (stp k op c M).2 N (stp k op c M).1⟩ K):pSs (pi1 a ns) HL1 (.expr (.mcall 285 99 43 [])::is) ⟨L,h4 nums tot M N c⟩ K:=by
 show opt (lk 285 L) _;rw[h5];conv=>whnf
 exact mG (zm c M ⟨.cell (some (.il nums)),.cell (some (.int tot)),.gone,.il N,[]⟩ (yV k op rfl rfl hs hk))
theorem i7{k:Nat}(r:Run (λi=>i≠b+48) k c M c' M'):c'.pc=b+48->∀(n:Nat) (i:Int),k<n->(∀i,K .next ⟨L5i nums cnt rs b i,h4 nums tot M' N c'⟩) ->
  qn (pA (pi1 a ns) HL1 (.name 286)) (pSs (pi1 a ns) HL1 XW) (jh i n) ⟨L5 nums cnt rs b,h4 nums tot M N c⟩ K:=by
 induction r with
 | z=>intro he n i h hk;exact oP he hk n i h
 | @s nn op c m k c' m' hs hv _ ih =>
  intro he n i hn hk
  cases n with
  | zero=>exact absurd hn (Nat.not_lt_zero _)
  | succ n =>
   refine Wg ?_;refine vJ (A:=[.brk]) (B:=[]) (is:=XW.drop 1) (UZ (i:=c.pc) (j:=b+48) (qZ (j:=5) (fs:=qo c) rfl rfl rfl) (zb rfl)) (beq_false_of_ne hv) ?_;refine ph rfl hs ?_;refine yg (L:=L5 nums cnt rs b) (λQ hQ=>hQ) ?_;exact ih he n (i+1) (Nat.lt_of_succ_lt_succ hn) hk
theorem EM{k:Nat}(r:Run (λi=>i≠b+48) k c M c' M')(he:c'.pc=b+48)(hk:k<400)(h:∀i,pSs (pi1 a ns) HL1 rest ⟨L5i nums cnt rs b i,h4 nums tot M' N c'⟩ K):
  pSs (pi1 a ns) HL1 (Jr++rest) ⟨L4 nums cnt rs T b,h4 nums tot M N c⟩ K:=by
 refine yg (L:=L5 nums cnt rs b) (λQ hQ=>hQ) ?_;refine vK (n:=400) (A:=XW) (is:=rest) zc (by decide) ?_
 exact i7 r he 400 0 hk λi=>fW (h i)
theorem pQ{es:List IE}{us:List PV}{L:List (Nat×PV)}{ex:List PO}(hE:∀κ:List PV->PS->Prop,κ us ⟨L,hp++.dct []::ex⟩->pEs P H es ⟨L,hp ++ [.dct []]⟩ κ)(κ:KE)(hκ:κ (.ref hp.length) ⟨L,hp++.dct (ks.zip us)::ex⟩):pE P H (.disp ks es) ⟨L,hp⟩ κ:=by
 show VW (.dct []) hp _;refine jv.mpr (hE _ ?_);show V7 (hp++PO.dct []::ex)[hp.length]? _;rw[List.getElem?_append_right (Nat.le_refl _),Nat.sub_self]
 refine⟨rfl,jd.mpr ?_⟩;show κ (.ref hp.length) ⟨L,(hp++PO.dct []::ex).set hp.length (.dct (ks.zip us))⟩;rw[List.set_append_right _ _ (Nat.le_refl _),Nat.sub_self];exact hκ
noncomputable def L6(nums:List Int)(cnt:Nat)(rs:List Row)(b i:Int):List (Nat×PV):=L5 nums cnt rs b ++ [(286,.int i),(287,.ref 6)]
noncomputable def h6(nums:List Int)(tot:Int)(M N:Mem)(c:Cpu)(A:As)(g:Int):List PO:=[.cell (some (.il nums)),.cell (some (.int tot)),.gone,.il M,.il N,.inst (qo c),dR A,.cell (some (.int g)),.il (fL A.f)]
noncomputable def h6x(nums:List Int)(tot:Int)(M N:Mem)(c:Cpu)(d:PO)(g:Int)(ys:List Int):List PO:=[.cell (some (.il nums)),.cell (some (.int tot)),.gone,.il M,.il N,.inst (qo c),d,.cell (some (.int g)),.il ys]
noncomputable def st0(tot:Int)(N:Mem):As:=⟨rd N 17,tot/64%256,0,255,plF (rd N 18),N⟩
theorem C5{l r:IE}{i j:Int}(h1:zf P H l O (.int i))(h2:zf P H r O (.int j)):zf P H (.bin .i .BitOr l r) O (.int (iOr i j)):=λκ hκ=>h1 _ (h2 _ hκ)
theorem Et{n:Int}(h:isB n):zY (iOr n 48)=fL (plF n):=yB (n:=256) (P:=λn=>zY (iOr n 48)=fL (plF n)) (by decide +kernel) h.1 h.2
theorem EN{i:Int}(hl:N.length=65536)(hB:Bts N)(h:∀g,pSs (pi1 a ns) HL1 rest ⟨L6 nums cnt rs b i,h6 nums tot M N c (st0 tot N) g⟩ K):
  pSs (pi1 a ns) HL1 (K2++rest) ⟨L5i nums cnt rs b i,h4 nums tot M N c⟩ K:=by
 have g17:∀{O:PS},lk 284 O.loc=some (.ref 4)->O.hp[4]?=some (.il N)->∀u:Int,0<=u->u<65536->zf (pi1 a ns) HL1 (.sub (.loc 284) (.int u)) O (.int (rd N u)):=λ{O} e1 e2 u u0 u1=>JP (zb e1) zc e2 u0 (by rw[hl];exact u1) (by lia)
 have h:=h (iOr (rd N 18) 48);have e48:=Et (hB.rd 18);have a1:fL (st0 tot N).f=zY (iOr (rd N 18) 48):=e48.symm;unfold h6 at h;rw[a1] at h;have a2:dR (st0 tot N)=.dct [(20,.int (rd N 17)),(21,.int (tot/64%256)),(288,.int 255),(289,.ref 8)]:=rfl;rw[a2] at h;have ebo:zf (pi1 a ns) HL1 (.bin .i .BitOr (.sub (.loc 284) (.int 18)) (.int 48)) ⟨L5i nums cnt rs b i,h4d nums tot M N c⟩ (.int (iOr (rd N 18) 48)):=C5 (g17 rfl rfl 18 (by decide) (by decide)) zc
 have g17:=g17 (O:=⟨L5i nums cnt rs b i,h4d nums tot M N c⟩) rfl rfl 17 (by decide) (by decide)
 have gx:zf (pi1 a ns) HL1 (.bin .i .Mod (.bin .i .FloorDiv (.cel 264 1) (.int 64)) (.int 256)) ⟨L5i nums cnt rs b i,h4d nums tot M N c⟩ (.int (tot/64%256)):=zV (qs (yA rfl) zc ⟨rfl,by decide,by decide⟩) zc jV
 generalize iOr (rd N 18) 48=g at *;have hc:=λκ=>Ub (P:=pi1 a ns) (H:=HL1) (L:=L5i nums cnt rs b i) (hp:=h4d nums tot M N c) (y:=290) (f:=1498) (es:=[.bin .i .BitOr (.sub (.loc 284) (.int 18)) (.int 48)]) (us:=[.int g]) (v:=.ref 8) (hp':=h6x nums tot M N c (.dct []) g (zY g)) (by kernel_rfl) (ze ebo zL) (λk hk=>gn hk) κ
 have hE:∀κ:List PV->PS->Prop,κ [.int (rd N 17),.int (tot/64%256),.int 255,.ref 8] ⟨L5i nums cnt rs b i,h6x nums tot M N c (.dct []) g (zY g)⟩->pEs (pi1 a ns) HL1 [.sub (.loc 284) (.int 17),.bin .i .Mod (.bin .i .FloorDiv (.cel 264 1) (.int 64)) (.int 256),.int 255,.callv (.top 290 1498) [.bin .i .BitOr (.sub (.loc 284) (.int 18)) (.int 48)]] ⟨L5i nums cnt rs b i,h4d nums tot M N c⟩ κ:=λκ hκ =>
  g17 _ (gx _ (zc (P:=pi1 a ns) (H:=HL1) _ (hc _ hκ)))
 exact i5 (v:=.ref 6) (σ':=⟨L5i nums cnt rs b i,h6x nums tot M N c (.dct [(20,.int (rd N 17)),(21,.int (tot/64%256)),(288,.int 255),(289,.ref 8)]) g (zY g)⟩) (λκ hκ=>pQ (hp:=h4 nums tot M N c) (ex:=[.cell (some (.int g)),.il (zY g)]) (us:=[.int (rd N 17),.int (tot/64%256),.int 255,.ref 8]) hE κ hκ) h
end
noncomputable def QM:List IS:=bE (nt qA 1)
noncomputable def oL(nums:List Int)(tot:Int)(M:Mem)(c:Cpu)(g:Int):O5:=⟨.cell (some (.il nums)),.cell (some (.int tot)),.gone,.il M,.inst (qo c),.cell (some (.int g))⟩
noncomputable def L7(nums:List Int)(cnt:Nat)(rs:List Row)(b:Int):List (Nat×PV):=[(270,.ls ((upL 0 cnt).map (tpV nums))),(272,.ls (rs.map prV)),(280,.int (b+24)),(281,.int (b+48)),(284,.ref 4),(285,.ref 5),(287,.ref 6)]
noncomputable def L7s(nums:List Int)(cnt:Nat)(rs:List Row)(b:Int)(s:Nat)(r:Row):List (Nat×PV):=L7 nums cnt rs b ++ [(268,.int (s:Int)),(282,prV r)]
theorem ge{o:O5}(ha:A.a=A'.a)(hx:A.x=A'.x)(hs:A.s=A'.s)(hf:A.f=A'.f)(hP:A.P=A'.P):hB o A=hB o A':=by
 obtain⟨a,x,y,s,f,P⟩:=A;obtain⟨a',x',y',s',f',P'⟩:=A';dsimp only at ha hx hs hf hP;subst ha hx hs hf hP;rfl
section
variable {o:O5}{L:List (Nat×PV)}{e i elo ehi:IE}{K:KF}{u w p q:Int}
theorem B8{v:PV}(he:∀κ:KE,κ v σ'->pE P H e O κ)(h:pSs P H is σ' K):pSs P H (.expr e::is) O K:=he _ h
noncomputable def As.pt(A:As)(M:Mem):As:=⟨A.a,A.x,A.y,A.s,A.f,M⟩
theorem Xy(h1:lk 284 L=some (.ref 4))(hl:A.P.length=65536)(he:zf P H e ⟨L,hB o A⟩ (.il ys))(g1:zf P H elo ⟨L,hB o A⟩ (.int p))(g2:zf P H ehi ⟨L,hB o A⟩ (.int q))(h0:0<=p)(hq:q=p+ys.length)(h:q<=65536)(hk:pSs P H is ⟨L,hB o (A.pt (lay A.P p ys))⟩ K):
  pSs P H (.slp (.loc 284) (some elo) (some ehi) e::is) ⟨L,hB o A⟩ K:=
 ZT (x:=284) (j:=4) (xs:=A.P) (ys:=ys) (zs:=lay A.P p ys) h1 rfl he (yQ g1) (yQ g2) rfl rfl (by rw[hl];exact Nat.le_trans (Nat.add_le_add_left (show ys.length<=65536 by lia) _) (by decide)) (V5 h0 hq (by rw[hl];exact h)) hk
theorem Xz(h1:lk 284 L=some (.ref 4))(hl:A.P.length=65536)(he:zf P H e ⟨L,hB o A⟩ (.int w))(g:zf P H i ⟨L,hB o A⟩ (.int u))(h0:0<=u)(h:u<65536)(hk:pSs P H is ⟨L,hB o (A.pt (wr A.P u w))⟩ K):pSs P H (.put (.loc 284) i e::is) ⟨L,hB o A⟩ K:=
 yx (O:=⟨L,hB o A⟩) (j:=4) (xs:=A.P) he (zb h1) g rfl h0 (by rw[hl];exact h) (zQ (zJ h) rfl) hk
theorem Fd(h1:lk 284 L=some (.ref 4))(hl:A.P.length=65536)(g:zf P H i ⟨L,hB o A⟩ (.int u))(h0:0<=u)(h:u<65536):zf P H (.sub (.loc 284) i) ⟨L,hB o A⟩ (.int (rd A.P u)):=
 JP (zb h1) g rfl h0 (by show u<(A.P.length:Int);rw[hl];exact h) (by lia)
end
section
variable {a:Addr}{rest:List IS}{K:KF}{b:Int}{o:O5}{s:Nat}{R:As}{Kf:Int->Int}
theorem sn{s:Nat}(h:s<cnt):((upL 0 cnt).map (tpV nums))[s]?=some (tpV nums (s:Int)):=by
 have g:∀(n s:Nat) (a:Int),s<n->(upL a n)[s]?=some (a+s):=λn=>by
  induction n with
  | zero=>intro s a h;exact absurd h (Nat.not_lt_zero _)
  | succ n ih =>
   intro s a h
   cases s with
   | zero=>show some a=some (a+0);rw[Int.add_zero]
   | succ s =>
    show(upL (a+1) n)[s]?=_
    rw[ih s (a+1) (Nat.lt_of_succ_lt_succ h)];exact congrArg some (by lia)
 rw[List.getElem?_map,g cnt s 0 h,Int.zero_add];rfl
theorem iX{r:Row}(hr:RowOk r)(h:RI Kf (b+24) s R)(hs:s<9)(hK:pSs (pi1 a ns) HL1 (QM.drop 3) ⟨L7s nums cnt rs b s r,hB o (mid (b+24) s r.op r.v R)⟩ K):pSs (pi1 a ns) HL1 QM ⟨L7s nums cnt rs b s r,hB o R⟩ K:=by
 have hb:=h.iv.b;have hl:=h.iv.len;obtain⟨s0,s1⟩:=h.ok.s;refine Xy (ys:=[(r.op:Int),r.v]) (p:=b+24) (q:=b+24+2) rfl hl (zb rfl) (zb rfl) (zD (zb rfl) zc) (zo (zk hb.1) rfl) rfl (Je (zq (zJ hb.2)) rfl) ?_;have l1:(R.pt (lay R.P (b+24) [(r.op:Int),r.v])).P.length=65536:=ja.trans hl;refine Xz (u:=16) (w:=2*(s:Int)+2) rfl l1 (zD (ju zc (zb rfl) (by decide)) zc) zc (by decide) (by decide) ?_
 have l2:((R.pt (lay R.P (b+24) [(r.op:Int),r.v])).pt (wr (R.pt (lay R.P (b+24) [(r.op:Int),r.v])).P 16 (2*(s:Int)+2))).P.length=65536:=zG.trans l1;refine Xz (u:=256+R.s) rfl l2 (Fd (u:=18) rfl l2 zc (by decide) (by decide)) (zD zc (jt (j:=6) rfl rfl rfl)) (zo (jJ (zk s0)) rfl) (zQ (jJ (zJ s1)) rfl) ?_
 have e18:rd (wr (lay R.P (b+24) [(r.op:Int),r.v]) 16 (2*(s:Int)+2)) 18=rd R.P 18:=by
  rw[zB (by decide) (by decide) (by decide),yv (zo (zk hb.1) rfl) (by decide) (.inl (Ez (zk hb.1) rfl))]
 have e:hB o (mid (b+24) s r.op r.v R)=hB o (((R.pt (lay R.P (b+24) [(r.op:Int),r.v])).pt (wr (R.pt (lay R.P (b+24) [(r.op:Int),r.v])).P 16 (2*(s:Int)+2))).pt (wr (wr (lay R.P (b+24) [(r.op:Int),r.v]) 16 (2*(s:Int)+2)) (256+R.s) (rd (wr (lay R.P (b+24) [(r.op:Int),r.v]) 16 (2*(s:Int)+2)) 18))):=by
  refine ge rfl rfl rfl rfl ?_;show wr (wr (wr (wr R.P (b+24) r.op) (b+24+1) r.v) 16 (2*(s:Int)+2)) (R.s+256) (rd R.P 18)=_;rw[e18,Int.add_comm R.s 256];rfl
 rw[e] at hK;exact hK
theorem iY{r:Row}{E:As}(hl:E.P.length=65536)(hb:isB E.s)(hs:s<9)(hK:K .next ⟨L7 nums cnt rs b,hB o (n8 s E)⟩):pSs (pi1 a ns) HL1 (QM.drop 4) ⟨L7s nums cnt rs b s r,hB o E⟩ K:=by
 refine zh (id hb) λs0 s1=>?_;refine Jg (v:=.il [E.a,pk E.f]) (j5 (us:=[.int E.a,.int (pk E.f)]) (ze (jt (j:=6) rfl rfl rfl) (ze (qi (us:=[.ref 8]) (by kernel_rfl) (ze (jt (j:=6) rfl rfl rfl) zL) λk h=>aR (xs:=fL E.f) rfl (iL E.f) (by rw[Xp];exact h)) zL)) rfl rfl) ?_
 show pSs (pi1 a ns) HL1 (QM.drop 5) ⟨L7s nums cnt rs b s r ++ [(292,.il [E.a,pk E.f])],hB o E⟩ K;refine Xz (u:=256+E.s) (w:=pk E.f) rfl hl (U0 (k:=1) (xs:=[E.a,pk E.f]) (zb rfl) zc (show 1<2 by decide) (show 2<2 ^ 62 by decide)) (zD zc (jt (j:=6) rfl rfl rfl)) (zo (jJ (zk hb.1)) rfl) (zQ (jJ (zJ hb.2)) rfl) ?_
 have l1:(E.pt (wr E.P (256+E.s) (pk E.f))).P.length=65536:=zG.trans hl;refine Xy (ys:=[E.a,pk E.f]) (p:=17) (q:=19) rfl l1 (zb rfl) zc zc (by decide) rfl (by decide) ?_
 have l2:((E.pt (wr E.P (256+E.s) (pk E.f))).pt (lay (E.pt (wr E.P (256+E.s) (pk E.f))).P 17 [E.a,pk E.f])).P.length=65536:=ja.trans l1;refine Xy (ys:=[E.a,pk E.f]) (p:=770+2*(s:Int)) (q:=772+2*(s:Int)) rfl l2 (zb rfl) (zD zc (ju zc (zb rfl) (by decide))) (zD zc (ju zc (zb rfl) (by decide))) (zo (jJ (jr U8)) rfl) (by show 772+2*(s:Int)=770+2*(s:Int)+2;lia) (Je (jJ (jr (bC hs))) rfl) ?_
 refine yg (L:=L7 nums cnt rs b) (λQ hQ=>hQ) ?_;have e:hB o (n8 s E)=hB o (((E.pt (wr E.P (256+E.s) (pk E.f))).pt (lay (wr E.P (256+E.s) (pk E.f)) 17 [E.a,pk E.f])).pt (lay (lay (wr E.P (256+E.s) (pk E.f)) 17 [E.a,pk E.f]) (770+2*(s:Int)) [E.a,pk E.f])):=by
  refine ge rfl rfl rfl rfl ?_;show wr (wr (wr (wr (wr E.P 17 E.a) (E.s+256) (pk E.f)) 18 (pk E.f)) (770+2*(s:Int)) E.a) (771+2*(s:Int)) (pk E.f)=wr (wr (wr (wr (wr E.P (256+E.s) (pk E.f)) 17 E.a) (17+1) (pk E.f)) (770+2*(s:Int)) E.a) (770+2*(s:Int)+1) (pk E.f);rw[Int.add_comm E.s 256,bS (a:=17) (by decide) (zo (jJ (zk hb.1)) rfl) (JS (Int.le_refl _) (jJ (zk hb.1)) rfl),show 770+2*(s:Int)+1=771+2*(s:Int) by lia]
  rfl
 rw[e] at hK;exact hK
theorem ou{r:Row}(er:r=Jf nums s)(h:RI Kf (b+24) s R)(hs:s<9)(hc:s<cnt)(hK:K .next ⟨L7 nums cnt rs b,hB o (tnR (b+24) s r.op r.w r.md r.v R)⟩):pSs (pi1 a ns) HL1 QM ⟨L7s nums cnt rs b s r,hB o R⟩ K:=by
 have hr:RowOk r:=er▸Q9 nums s;have hj:(0:Int)<=(s:Int)/\(s:Int)<16:=⟨Int.natCast_nonneg _,by lia⟩
 refine yn (ZJ (op:=(r.op:Int)) (v:=r.v) h hj hr.op hr.v.1) λm1 m2 m3=>?_;refine jN (Zp (R:=mid (b+24) s r.op r.v R) (hr.row.rw hr.v) m1 m2 h.d h.bu m3 hj) λe1 e2 e3 e4=>?_;have hm:=hr.row.b;have hw:wmB r.w r.md=true:=List.all_eq_true.mp vI _ hr.row;have gr:Gr r.md r.v (mid (b+24) s r.op r.v R):=⟨m1,m2.len,hr.v,hm.2.2,h.bu⟩;refine iX hr h hs ?_;have t3:=iY (a:=a) (ns:=ns) (nums:=nums) (cnt:=cnt) (rs:=rs) (b:=b) (o:=o) (r:=r) (K:=K) e2.len e1.s hs hK
 change pSs (pi1 a ns) HL1 (QM.drop 4) ⟨L7s nums cnt rs b s r,hB o (eff r.w r.md r.v (mid (b+24) s r.op r.v R))⟩ K at t3
 generalize mid (b+24) s r.op r.v R=A at *;have eR:∀{O:PS},lk 270 O.loc=some (.ls ((upL 0 cnt).map (tpV nums)))->lk 268 O.loc=some (.int (s:Int))->zf (pi1 a ns) HL1 (.sub (.loc 270) (.loc 268)) O (tpV nums (s:Int)):=λ{O} q1 q2=>pX (n:=s) (zb q1) (zb q2) (sn hc) (by lia)
 have es:Uc (pi1 a ns) HL1 [.loc 287,.loc 284,.sub (.sub (.loc 270) (.loc 268)) (.int 1),.sub (.sub (.loc 270) (.loc 268)) (.int 2),.sub (.loc 282) (.int 1)] ⟨L7s nums cnt rs b s r,hB o A⟩ [.ref 6,.ref 4,.str (jg r.w),.str (yZ r.md),.int r.v]:=
  ze (zb rfl) (ze (zb rfl) (ze (US (n:=1) (eR rfl rfl) zc (by decide) (by rw[<- er];rfl)) (ze (US (n:=2) (eR rfl rfl) zc (by decide) (by rw[<- er];rfl)) (ze (U0 (k:=1) (xs:=[(r.op:Int),r.v]) (zb rfl) zc (show 1<2 by decide) (show 2<2 ^ 62 by decide)) zL))))
 have hc:=λκ=>Ub (P:=pi1 a ns) (H:=HL1) (L:=L7s nums cnt rs b s r) (hp:=hB o A) (y:=291) (f:=1529) (v:=.none) (hp':=hB o (eff r.w r.md r.v A)) (by kernel_rfl) es (λk hk=>tM (zm o A r.w (yV r.md r.v rfl rfl gr ⟨hm.2.1,hw,hk⟩))) κ
 exact B8 (v:=.none) hc t3
end
section
variable {a:Addr}{rest:List IS}{K:KF}{b i g:Int}{o:O5}{R:As}{M:Mem}{c:Cpu}{Kf:Int->Int}
theorem bF:∀(n s:Nat) (R:As),s+n<=9->s+n<=cnt->RI Kf (b+24) (s:Int) R->K .next ⟨L7 nums cnt rs b,hB o (Qh (b+24) (s:Int) (mkR nums s n) R)⟩ ->
  qn (JZ (pAs (pi1 a ns) HL1 [.name 268,.name 282])) (pSs (pi1 a ns) HL1 QM) (J3 s ((mkR nums s n).map prV)) ⟨L7 nums cnt rs b,hB o R⟩ K
 | 0,s,R,_,_,_,hK=>hK
 | n+1,s,R,h9,hc,h,hK=>by
  refine Wj (O:=⟨L7 nums cnt rs b,hB o R⟩) ?_;have hr:=Q9 nums s;have h':RI Kf (b+24) ((s+1:Nat):Int) (tnR (b+24) s (Jf nums s).op (Jf nums s).w (Jf nums s).md (Jf nums s).v R):=r7 hr.row hr.v hr.op h ⟨Int.natCast_nonneg _,by lia⟩
  refine ou (r:=Jf nums s) rfl h (by lia) (by lia) ?_
  exact bF n (s+1) _ (by lia) (by lia) h' hK
theorem EO(hc:cnt<=9)(h:RI Kf (b+24) 0 A)(hK:pSs (pi1 a ns) HL1 rest ⟨L7 nums cnt (mkR nums 0 cnt) b,hB (oL nums tot M c g) (Qh (b+24) 0 (mkR nums 0 cnt) A)⟩ K):
  pSs (pi1 a ns) HL1 (qA++rest) ⟨L6 nums cnt (mkR nums 0 cnt) b i,hB (oL nums tot M c g) A⟩ K:=by
 refine yg (L:=L7 nums cnt (mkR nums 0 cnt) b) (λQ hQ=>hQ) ?_;refine Xx (A:=QM) (is:=rest) (us:=(mkR nums 0 cnt).map prV) (zb rfl) ?_;exact bF (Kf:=Kf) cnt 0 A (qG (oo (Nat.le_refl _) hc) rfl) (by lia) h (fW hK)
noncomputable def Ud:KF:=λf O=>match f with | .ret (.bool true)=>True | _=>False
theorem xY(n:Int)(f:Fl):cpy n n f = { f with c:=true,z:=true,n:=false }:=by
 unfold cpy;rw[decide_eq_true (Int.le_refl n),decide_eq_true (rfl:n=n),Int.sub_self];rfl
theorem kC{u w:Int}{e i:IE}{L:List (Nat×PV)}{xs:List Int}(h1:zf P H e ⟨L,hp⟩ (.ref j))(h2:zf P H i ⟨L,hp⟩ (.int u))(h:hp[j]?=some (.il xs))(u0:0<=u)(u1:u<xs.length)(u2:u<2 ^ 63):Ta P H (.sub e i) (.int w) ⟨L,hp⟩ ⟨L,hp.set j (.il (wr xs u w))⟩:=UU (O:=⟨L,hp⟩) h1 h2 h u0 u1 u2
theorem pU{e1 e2:IE}{v:PV}(h1:zf P H e1 O (.bool true))(h2:zf P H e2 O v):zf P H (.andV [e1,e2]) O v:=λκ hκ=>h1 _ (h2 κ hκ)
theorem w3{l r:IE}{us ws:List PV}{xs:List Int}(h1:zf P H l O (.tup us))(h2:zf P H r O (.tup ws))(e1:jZ us=some xs)(e2:jZ ws=some ys)(e:xs=ys):zf P H (.cmp .t .Eq l r) O (.bool true):=λκ hκ=>h1 _ (h2 _ (by
 show opt (jZ us) _;rw[e1];show opt (jZ ws) _;rw[e2];show κ (.bool (decide (xs=ys))) O;rw[decide_eq_true e];exact hκ))
theorem wX{L:List (Nat×PV)}{l r:IE}{k:Nat}{xs:List Int}(h1:zf P H l ⟨L,hp⟩ (.ref j))(h2:zf P H r ⟨L,hp⟩ (.ref k))(e1:hp[j]?=some (.il xs))(e2:hp[k]?=some (.il ys))(e:xs=ys):zf P H (.cmp .l .Eq l r) ⟨L,hp⟩ (.bool true):=λκ hκ=>h1 _ (h2 _ (by
 show opt (ilP hp[j]?) _;rw[e1];show opt (ilP hp[k]?) _;rw[e2];show κ (.bool (decide (xs=ys))) _;rw[decide_eq_true e];exact hκ))
theorem EP(e1:c.pc=b+48)(e2:c.x=A.x)(e3:c.sp=A.s)(e4:pk c.f=pk { A.f with c:=true,z:=true,n:=false })(eM:M=A.P):pSs (pi1 a ns) HL1 qB ⟨L7 nums cnt rs b,hB (oL nums tot M c g) A⟩ Ud:=by
 obtain⟨aa,ax,ay,as,⟨fn,fv,fu,fb,fd,fi,fz,fc⟩,aP⟩:=A;dsimp only at e2 e3 e4 eM;have d8:∀{f:Fl},zf (pi1 a ns) HL1 (.dget 287 289) ⟨L7 nums cnt rs b,hB (oL nums tot M c g) ⟨aa,ax,ay,as,f,aP⟩⟩ (.ref 8):=λ{f}=>jt (j:=6) rfl rfl rfl
 refine ZU (us:=[.int 1,.int 1,.int 0]) (JB (ze zc (ze zc (ze zc zL))) rfl) rfl rfl
  (y4 (kC (u:=0) (w:=1) d8 zc rfl (by decide) (show(0:Int)<8 by decide) (by decide))
  (y4 (kC (j:=8) (u:=1) (w:=1) (xs:=fL ⟨fn,fv,fu,fb,fd,fi,fz,true⟩) (d8 (f:=⟨fn,fv,fu,fb,fd,fi,fz,true⟩)) zc rfl (by decide) (show(1:Int)<8 by decide) (by decide))
  (y4 (kC (j:=8) (u:=7) (w:=0) (xs:=fL ⟨fn,fv,fu,fb,fd,fi,true,true⟩) (d8 (f:=⟨fn,fv,fu,fb,fd,fi,true,true⟩)) zc rfl (by decide) (show(7:Int)<8 by decide) (by decide)) XF))) ?_
 show pSs (pi1 a ns) HL1 (qB.drop 1) ⟨L7 nums cnt rs b,hB (oL nums tot M c g) ⟨aa,ax,ay,as,⟨false,fv,fu,fb,fd,fi,true,true⟩,aP⟩⟩ Ud;have d8:=d8 (f:=⟨false,fv,fu,fb,fd,fi,true,true⟩);generalize hf:(⟨false,fv,fu,fb,fd,fi,true,true⟩:Fl)=F at *;have t1:zf (pi1 a ns) HL1 (.callv (.top 293 1503) [.dget 287 289]) ⟨L7 nums cnt rs b,hB (oL nums tot M c g) ⟨aa,ax,ay,as,F,aP⟩⟩ (.int (pk F)):=qi (us:=[.ref 8]) (by kernel_rfl) (ze d8 zL) λk h=>aR (xs:=fL F) rfl (iL F) (by rw[Xp];exact h)
 refine qr (v:=.bool true) (pU (w3 (us:=[.int c.pc,.int c.x,.int c.sp,.int (pk c.f)]) (ws:=[.int (b+48),.int ax,.int as,.int (pk F)]) (JB (ze (qZ (j:=5) (fs:=qo c) rfl rfl rfl) (ze (qZ (j:=5) (fs:=qo c) rfl rfl rfl) (ze (qZ (j:=5) (fs:=qo c) rfl rfl rfl) (ze (qZ (j:=5) (fs:=qo c) rfl rfl rfl) zL)))) rfl)
  (JB (ze (zb rfl) (ze (jt (j:=6) rfl rfl rfl) (ze (jt (j:=6) rfl rfl rfl) (ze t1 zL)))) rfl) rfl rfl (by rw[e1,e2,e3,e4]))
  (wX (j:=3) (k:=4) (qZ (j:=5) (fs:=qo c) rfl rfl rfl) (zb rfl) rfl rfl eM)) ?_
 exact trivial
end
theorem YR:∀(n:Nat) (l:List Int),(qU n l).length=n*l.length
 | 0,l=>(Nat.zero_mul _).symm
 | n+1,l=>by show(l++qU n l).length=_;rw[List.length_append,YR n l,Nat.succ_mul,Nat.add_comm]
theorem YS{l:List Int}{x:Int}:∀{n:Nat},x∈qU n l->x∈l
 | 0,h=>nomatch h
 | n+1,h=>(List.mem_append.mp h).elim id YS
theorem kY:∃M:Mem,qU 65536 [(0:Int)]=M/\M.length=65536/\Bts M:=⟨_,rfl,(YR _ _).trans (Nat.mul_one _),λx hx=>by rw[List.mem_singleton.mp (YS hx)];exact⟨by decide,by decide⟩⟩
theorem xN:bt 3 (tot%8+tot/8%4*64)=false:=by
 unfold bt;refine decide_eq_false ?_;show ¬ (tot%8+tot/8%4*64)/8%2=1
 lia
section
variable {T b n:Int}{N:Mem}
theorem kq(m:MF tot T b n rs N)(hb:20000<=b/\b<60000):RI (rd N) (b+24) 0 (st0 tot N):=
 ⟨⟨⟨by show(0:Int)<=255;decide,by show(255:Int)<256;decide⟩,m.B.rd 17,jn _,⟨by show(0:Int)<=0;decide,by show(0:Int)<256;decide⟩,m.B⟩,⟨m.len,λZ Z Z Z=>rfl,⟨zo (zq (zk hb.1)) rfl,zQ (zq (zJ hb.2)) rfl⟩⟩,m.y16,rfl,rfl,by show bt 3 (rd N 18)=false;rw[m.r18];exact xN,⟨rfl,rfl⟩⟩
structure Rs5(tot b n:Int)(rs:List Row)(N:Mem)(k:Nat)(c:Cpu)(m:Mem):Prop where
 run:Run (λp=>p≠b+48) k (c0 (b-2)) N c m
 lt:k<400
 pc:c.pc=b+48
 x:c.x=(Qh (b+24) 0 rs (st0 tot N)).x
 s:c.sp=(Qh (b+24) 0 rs (st0 tot N)).s
 f:c.f = { (Qh (b+24) 0 rs (st0 tot N)).f with c:=true,z:=true,n:=false }
 m:m=(Qh (b+24) 0 rs (st0 tot N)).P
theorem vQ(m:MF tot T b n rs N)(ht:4096<=T/\T<4352)(hb:20000<=b/\b<60000)(hne:rs ≠ [])(hr:∀r∈rs,RowOk r)(hl:rs.length<=9)(hn:n=2*(rs.length:Int)):∃k c mm,Rs5 tot b n rs N k c mm:=by
 have ri:=kq m hb;have cd:=xS ht hb m.cd;have s1:=F.sound (A:=⟨0,0,0,255,fl0,N⟩) (pc:=b-2) (.rI .ldx (tot/64%256)) (show(162:Nat)≠0 by decide) trivial m.len (show At (rd N) (b-2) (lxF tot) from m.lx) (zo (Qf (zk hb.1)) rfl) (zQ (Qf (zJ hb.2)) rfl)
 have e2:b-2+(((F.rI .ldx (tot/64%256)).by).length:Int)=b:=by show b-2+2=b;lia
 rw[e2] at s1;obtain⟨k,hk,A',r2,sm,ff⟩:=r8 cd (j:=0) (R:=st0 tot N) (A:=(F.rI .ldx (tot/64%256)).ex ⟨0,0,0,255,fl0,N⟩) hne hr (Int.le_refl 0) (Je (jJ (YQ hl)) rfl) (by rw[hn];lia) m.tab ri ⟨rfl,rfl,rfl⟩
 have r:=(Rn.cons (stop:=b+48) s1 (by lia) .nil).app r2
 obtain⟨c',m',run,is⟩:=r (c0 (b-2)) N ⟨⟨by show 0<=b-2;exact zo (Qf (zk hb.1)) rfl,⟨by show(0:Int)<=255;decide,by show(255:Int)<256;decide⟩,⟨by show(0:Int)<=0;decide,by show(0:Int)<256;decide⟩,⟨by show(0:Int)<=0;decide,by show(0:Int)<256;decide⟩,⟨by show(0:Int)<=0;decide,by show(0:Int)<256;decide⟩,m.B⟩,(zm 0 (.bool false) 0 (Jo (.str "6502") (.int (b-2)) rfl)),rfl⟩
 have hpc:=is.pcE;have hm:=is.mem;refine zi is.rg λex ac cy Gb=>UQ Gb λnm st e=>?_
 refine(zm _ c' m' ⟨run,by lia,hpc,?_,?_,?_,?_⟩)
 ·rw[e];exact sm.x
 ·rw[e];exact sm.s
 ·rw[e];exact ff.trans (xY _ _)
 ·rw[hm];exact sm.P
end
theorem gL(a:Addr)(ns:List Int)(hn:ns.length<=63):pSs (pi1 a ns) HL1 UG ⟨[(265,.top a)],[.cell none,.cell none]⟩ Ud:=by
 have e:UG=yX++(K0++(K1++(yY++(Jq++(Jr++(K2++(qA++qB))))))):=rfl;rw[e];refine EG hn ?_;have nl:=bp (ns:=ns);refine zh (rr ns) λc0' c1=>?_
 refine zh (CQ ns) λt0 t1=>?_;generalize c8 ns=nums at *;generalize dA ns=tot at *;generalize ci ns=cnt at *;refine EH nl c1 ?_;have hr:∀r∈mkR nums 0 cnt,RowOk r:=λr h=>g6 nums cnt 0 r h
 have hl:(mkR nums 0 cnt).length=cnt:=bj nums cnt 0;refine jG kY λM0 hM hM1 hM2=>?_;have ht:4096<=4096+tot%256/\4096+tot%256<4352:=⟨zo (jJ (dh rfl)) rfl,zQ (jJ (ZR rfl)) rfl⟩;have hb:20000<=20000+tot%40000/\20000+tot%40000<60000:=⟨zo (jJ (dh rfl)) rfl,zQ (jJ (ZR rfl)) rfl⟩;have s2:=EI (a:=a) (ns:=ns) (nums:=nums) (tot:=tot) (cnt:=cnt) (rest:=yY++(Jq++(Jr++(K2++(qA++qB))))) (K:=Ud) (M:=M0) (r:=Jf nums 0) (rs:=mkR nums 1 (cnt-1)) hM;have e1:Jf nums 0::mkR nums 1 (cnt-1)=mkR nums 0 cnt:=by
  cases cnt with
  | zero=>exact absurd c0' (by decide)
  | succ k=>rfl
 rw[e1] at s2;refine s2 ?_;generalize 4096+tot%256=T at *;generalize 20000+tot%40000=b at *;clear s2;refine EJ ht hb hM1 (by rw[hl];exact c1) ?_
 have m:=Bd (tot:=tot) (T:=T) (b:=b) (n:=2*(cnt:Int)) hM1 hM2 hr (by rw[hl];exact c1) ht hb ⟨zo (jr U8) rfl,zQ (jr (YQ c1)) rfl⟩
 generalize g5 tot T b (2*(cnt:Int)) (mkR nums 0 cnt) M0=N at *;obtain⟨k,c,mm,z⟩:=vQ m ht hb (by rw[<- e1];exact nofun) hr (by rw[hl];exact c1) (by rw[hl])
 refine EK m.len ?_;refine EM z.run z.pc z.lt λi=>?_;refine EN m.len m.B λg=>?_;show pSs (pi1 a ns) HL1 (qA++qB) ⟨L6 nums cnt (mkR nums 0 cnt) b i,hB (oL nums tot mm c g) (st0 tot N)⟩ Ud;refine EO (Kf:=rd N) c1 (kq m hb) ?_;exact EP z.pc z.x z.s (by rw[z.f]) z.m
namespace MH
theorem twg:TablesWhole.wSs TablesWhole.gather pw.main.scope ⟨pw.main.scope,[],[],[],none⟩ pw.main.scope pw.main.body = []:=by kernel_rfl
noncomputable def csN:List Nat:=MH.cs1++(MH.cds MH.Ei++MH.cs2)
theorem twn:cdB jq.names csN=true:=by kernel_rfl
noncomputable abbrev cxC:TablesWhole.Ctx:=⟨jq,TablesWhole.declSs false zx,TablesWhole.declSs true zx,[],none⟩
noncomputable abbrev cxM:TablesWhole.Ctx:=⟨pw.main.scope,[],[],[],none⟩
theorem EY:TablesWhole.wSs Bq pw.main.scope cxC jq ((zx.drop 0).take 20)=true:=by kernel_rfl
theorem EZ:TablesWhole.wSs Bq pw.main.scope cxC jq ((zx.drop 20).take 20)=true:=by kernel_rfl
theorem E4:TablesWhole.wSs Bq pw.main.scope cxC jq ((zx.drop 40).take 20)=true:=by kernel_rfl
theorem E5:TablesWhole.wSs Bq pw.main.scope cxC jq ((zx.drop 60).take 20)=true:=by kernel_rfl
theorem E6:TablesWhole.wSs Bq pw.main.scope cxC jq ((zx.drop 80).take 20)=true:=by kernel_rfl
theorem E7:TablesWhole.wSs Bq pw.main.scope cxC jq ((zx.drop 100).take 20)=true:=by kernel_rfl
theorem E8:TablesWhole.wSs Bq pw.main.scope cxC jq ((zx.drop 120).take 20)=true:=by kernel_rfl
theorem E9:TablesWhole.wSs Bq pw.main.scope cxC jq ((zx.drop 140).take 20)=true:=by kernel_rfl
theorem Fa:TablesWhole.wSs Bq pw.main.scope cxC jq ((zx.drop 160).take 20)=true:=by kernel_rfl
theorem Fb:TablesWhole.wSs Bq pw.main.scope cxC jq ((zx.drop 180).take 20)=true:=by kernel_rfl
theorem CW:TablesWhole.wSs Bq pw.main.scope cxC jq ((zx.drop 200).take 20)=true:=by kernel_rfl
theorem twe:zx.drop 220 = []:=by kernel_rfl
theorem twb:TablesWhole.wSs Bq pw.main.scope cxC jq zx=true:=(y5 0 EY (y5 20 EZ (y5 40 E4 (y5 60 E5 (y5 80 E6 (y5 100 E7 (y5 120 E8 (y5 140 E9 (y5 160 Fa (y5 180 Fb (y5 200 CW (C1 twe))))))))))))
theorem twh{bind:Str}{gl:List Str}(h:TablesWhole.Alg.bind Bq cxM pw.main.scope bind (some pos)=true)(hg:gl = []):TablesWhole.wClassHead Bq cxM pw.main.scope [] [] [] [] jq none bind pos gl=true:=by
 subst hg;have h2:=ZO twn;unfold TablesWhole.wClassHead TablesWhole.Alg.enterFrom;simp only[h2,h]
 kernel_rfl
noncomputable def cnm:Str:=match yE with | .ClassDef n _ _ _ _ _ _ _ _ _ _=>n | _=>Str.empty
noncomputable def rq:Str:=match yE with | .ClassDef _ _ _ _ _ _ _ _ b _ _=>b | _=>Str.empty
noncomputable def csa:List Str:=match yE with | .ClassDef _ _ _ _ _ _ _ _ _ a _=>a | _=>[]
noncomputable def xX:Pos:=match yE with | .ClassDef _ _ _ _ _ _ _ _ _ _ p=>p | _=>⟨0,0,0,0⟩
theorem sL:yE=.ClassDef cnm [] [] zx [] [] jq none rq csa xX:=by kernel_rfl
theorem twk:TablesWhole.Alg.bind Bq cxM pw.main.scope rq (some xX)=true:=by kernel_rfl
theorem Fc:TablesWhole.declSs true zx = []:=by kernel_rfl
theorem twp:TablesWhole.wSs Bq pw.main.scope cxM pw.main.scope (pw.main.body.take 2)=true:=by kernel_rfl
theorem twq:TablesWhole.wSs Bq pw.main.scope cxM pw.main.scope (pw.main.body.drop (2+1))=true:=by kernel_rfl
theorem twd:pw.main.body.drop 2=yE::pw.main.body.drop (2+1):=by kernel_rfl
theorem twm:TablesWhole.noTwice pw.main.scope=true:=by kernel_rfl
theorem tw:pw.tablesWhole=true:=by
 refine UV rfl rfl rfl (pM twg twm (kK 2 twp ?_));rw[twd];refine pN ?_ twq;rw[sL];exact wQ (twh twk Fc) twb
end MH
namespace Ws
noncomputable abbrev p:Program:=PySem.Challenge.pw_me0007_01
noncomputable abbrev l:OpenLaw:=PySem.Challenge.rw_me0007_01
noncomputable def sv:Bool:=!(importedModules p.main.body).all cThrough.contains
theorem a4:(["vars", "dir", "locals"]:List Str).filter (readsOut p p.main.body) = []:=by kernel_rfl
theorem a5:noRoadLSs { strict:=sv,foot:=none,bare:=[] } p.main.body=true:=by kernel_rfl
theorem a5':noRoadLSs { strict:=sv,foot:=none,bare:=(["vars", "dir", "locals"]:List Str).filter (readsOut p p.main.body) } p.main.body=true:=by rw[a4];exact a5
theorem a6:namesResolve p=true:=by kernel_rfl
theorem a8:namesMeet p p.main.body (λZ n=>attrL n)=true:=by kernel_rfl
theorem a0:looksOpen p=true:=by
 unfold looksOpen
 with_reducible refine look_both (look_both (look_both (look_both ?a a6) ?b) ?c) a8
 ·kernel_rfl
 ·kernel_rfl
 ·exact a5'
theorem aP:l.row.partSaid=true:=by
 unfold OpenRow.partSaid
 with_reducible
  iterate 13 (refine look_both ?_ ?h;case h=>kernel_rfl)
 exact a0
theorem aA:l.row.wellSaid=true:=by
 unfold OpenRow.wellSaid
 with_reducible
  iterate 2 (refine look_both ?_ ?h;case h=>kernel_rfl)
 exact aP
theorem b8:namesMeet l.prog l.above (λZ n=>!l.own.contains n)=true:=by kernel_rfl
theorem said:l.wellSaid=true:=by
 unfold OpenLaw.wellSaid
 with_reducible
  refine look_both ?_ ?h
  case h=>kernel_rfl
  refine look_both ?_ b8
  iterate 16 (refine look_both ?_ ?h;case h=>kernel_rfl)
 exact aA
end Ws
noncomputable def j8:DefRec×List (Str×Expr):=(defOf MH.qv "law").get (by kernel_rfl)
theorem nC:mSs nmM (pmM (Jk 0 [267,264])) j8.1.scope UG j8.1.body:=⟨by kernel_rfl,by kernel_rfl⟩
section
variable {prog:Program}{w:World}{mean:ExcName->Option Value}{mg mb:Str->Option Value}{base:Heap}
theorem ctL(a:Addr)(ns:List Int):CtS (GM prog w mean mg mb base) 20 (pi1 a ns):=(jw 19 36 rfl J2 (ctI.le (by decide)))
end
theorem gJ(pm cd doc v:Value):bindArgs (docDef j8.1.name j8.1.params j8.1.body j8.1.scope pm cd doc) ⟨[v],[]⟩=pure [(nmM 265,v)]:=by kernel_rfl
theorem AZ:j8.1.scope.names.lookup (nmM 265)=some .local:=by kernel_rfl
theorem cH:(cellsFrom 0 j8.1.scope.names []).map (·.1) = [267,264].map nmM:=by kernel_rfl
theorem ug:j8.1.scope.names.lookup (nmM 267)=some .cell:=by kernel_rfl
theorem mS:j8.1.scope.names.lookup (nmM 264)=some .cell:=by kernel_rfl
theorem Yy:j8.1.scope.kind=.function:=by kernel_rfl
set_option tactic.hygienic true in
theorem wR:WalkO MH.qv MH.jx (XL MH.qv []) MH.HK.says Challenge.rw_me0007_01.row.toRowW j8.1 j8.2 λf vs=>PySem.call f vs:=by
 intro w T1 F8 mg mb G Y fa o pm cd doc dV kV ho hd hcd hD hmg hg args vals as hpre hlay hrd hwl hlo;have KX:=kIn_of Y;refine Ground.open G ?_;intro T B D TE TW;obtain⟨C0,P0,he,B0⟩:=based_of_top (d:=j8.1) T (by kernel_rfl) hmg ho hd
 wrow_args hpre hlay hrd hwl hlo
 rename_i ns _ _ _ _ _ _ _ a items _ hL _ _ _ hI _ hcond _
 first | refine callC_kw (enter_call ?_) | refine enter_call ?_
 have hdv:=Dflts.none hD rfl;subst hdv;have hdk:=Dflts.noKw hD;subst hdk;refine uh (G:=GM Challenge.rw_me0007_01.row.prog w (ExcName.means T1.heap) mg mb F8.heap) (d:=20) (x:=265) (cids:=[267,264]) (name:=j8.1.name) (params:=j8.1.params) (body:=j8.1.body) (scope:=j8.1.scope) (pm:=pm) (cd:=cd) (doc:=doc) (W:=pSs (pi1 a ns) HL1 UG) ⟨rfl,rfl,rfl⟩ KX T rfl ho hd hcd (gJ pm cd doc) AZ cH (by decide) (by decide) (by decide) (by decide) (by kernel_rfl) (by kernel_rfl) Yy ?_ ?_ ?_
 ·intro cl outer F0 L A eh Fn D
  refine sSs ((Vy (Jk 0 [267,264]) 0 _ VT).pin _) (hdL.pin _) ((ctL a ns).pin _) (by decide) D ⟨X5 Yy,rfl,rfl,λp hp hs=>?_,λv xs e=>?_⟩ UG nC
  ·rcases List.mem_cons.mp hp with e | hp
   ·subst e
    refine zd (Fn 0 267 rfl) λc h1 h2=>?_;exact⟨(zv c h1 h2),ug⟩
   ·obtain rfl:=List.mem_singleton.mp hp
    refine zd (Fn 1 264 rfl) λc h1 h2=>?_;exact⟨(zv c h1 h2),mS⟩
  ·subst eh
   cases v with
   | top b =>
    have e:cond (Nat.beq b a) (some ns) none=some xs:=e
    cases q:Nat.beq b a with
    | false=>rw[q] at e;cases e
    | true =>
     rw[q] at e
     cases e
     obtain rfl:=Nat.eq_of_beq_eq_true q;exact(jw b items rfl hL hI)
   | _=>cases e
 ·exact gL a ns (by lia)
 ·intro L h' m tk F
  refine goodWG_reads (s':={ F8 with heap:=h',toks:=tk }) (d:=.bool true) (as:=[]) B0 F ?_ (λZ=>rfl) (ReadsW.bool _) (λZ=>⟨List.nodup_nil,λZ h=>nomatch h⟩) ?_ rfl
  ·exact AllBare.of_eq hg
  ·kernel_rfl
theorem AY:PySem.Challenge.rw_me0007_01.Holds:=by
 refine holds_law Ws.said λsaid=>?_;refine holds_open (q:=MH.qv) (loose:=MH.jx) (Xt:=MH.XtN) (XP:=XL MH.qv []) (Yf:=MH.HK.obs) (Ya:=MH.HK.val) (YP:=MH.HK.says) (N:=9000) MH.ui MH.HK.of MH.HK.keeps (λs e=>xl_of s (Bool.and_eq_true_iff.mp e).1) XL.keeps (by kernel_rfl) (by kernel_rfl) (by kernel_rfl) (λs e=>recFacts_of (Bool.and_eq_true_iff.mp e).2) (by kernel_rfl) ?k1 ?ok ⟨by kernel_rfl,by kernel_rfl,by kernel_rfl,by kernel_rfl,by kernel_rfl,?bare⟩ ?hw wR
 case k1=>assumption
 case ok=>kernel_rfl
 case bare=>exact MH.tw
 case hw=>w_witness2
end Mine
theorem PySem.Challenge.cw_me0007_01_holds : PySem.Challenge.rw_me0007_01.Holds :=
 Mine.AY

