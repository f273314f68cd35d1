/- How texts read (the grammar), and the rules by which functions are walked: each rule is shown of the model. No condition. -/
import Derived.Test.YtaccphdkapmdhaaGreatProg
import Derived.Tactics
import Derived.KernelRfl
import Derived.OrdersHeld
import Derived.Laws.StructEq
import Derived.Laws.Strings
import Derived.Laws.NewBlocks
import Derived.Laws.OwnMore
import Derived.Laws.MakeOwn
import Derived.Laws.CopyRow
import Derived.Lib.AppendStr
import Derived.Laws.BytesArg
import Derived.Laws.RangeString
import Derived.Laws.Concat
import Derived.Laws.IdiomStrings
import Derived.Laws.Runes
import Derived.MapKept
import Derived.Laws.Slices
import Derived.Lib.SlBytesConst
import Derived.ProofKit
namespace Go.Proofs.YtaccphdkapmdhaaGreat
set_option maxRecDepth 100000
set_option maxHeartbeats 64000000
set_option linter.all false
section
universe u
theorem Z {α:Sort u} {a:α}:a=a:=rfl
theorem V:True:=trivial
theorem Y {n:Nat}:n<=n:=Nat.le_refl n
theorem O {n:Nat}:0<=n:=Nat.zero_le n
theorem T2 {α β:Type} {A:α->Prop} {B C:α->β->Prop} {v:α} {l:β} (a:A v) (b:B v l) (c:C v l):∃v l,A v/\B v l/\C v l:=⟨v,l,a,b,c⟩
theorem Ya {α:Type u} {a:α} {s:List α}:(a::s).length=s.length+1:=rfl
theorem Yb {α:Type u} {a b:α}:(some a=some b)=(a=b):=Option.some.injEq a b
theorem Yc {α:Type u} {a:α} {l:List α} {i:Nat}:l[i]?=some a↔∃h:i<l.length,l[i]=a:=List.getElem?_eq_some_iff
theorem Yd {α:Type u} {l:List α} {i:Nat} (h:i<l.length):l[i]?=some l[i]:=List.getElem?_eq_getElem h
theorem Ye {α:Type u} {a b:List α}:(a++b).length=a.length+b.length:=List.length_append
theorem Yf {α:Type u} {a b:List α} {i:Nat} (h:i<a.length):(a++b)[i]?=a[i]?:=List.getElem?_append_left h
theorem Yg {α:Type u} {a b:List α} {i:Nat} (h:a.length<=i):(a++b)[i]?=b[i-a.length]?:=List.getElem?_append_right h
theorem Yh {α:Type u} {i:Nat} {l:List α}:(l.drop i).length=l.length-i:=List.length_drop
theorem Yi (n:Nat):0+n=n:=Nat.zero_add n
abbrev F (b:Nat):Option Addr:=some ⟨b,0,none⟩
end
section
abbrev Bs:=List UInt8
def Ji (c:UInt8):Bool:=decide (c.toNat=32∨c.toNat=9)
def Bd:Bs->Bs
 | []=>[]
 | c::l=>if Ji c then Bd l else c::l
def Ku:Bs->Nat
 | c::c1::l=>
  if 194<=c.toNat/\c.toNat<224 then (if 128<=c1.toNat/\c1.toNat<192 then 2 else 0)
  else match l with
  | c2::l'=>
   if 224<=c.toNat/\c.toNat<240 then
    (if 128<=c2.toNat/\c2.toNat<192/\128<=c1.toNat/\c1.toNat<192/\(c.toNat=224->160<=c1.toNat)/\(c.toNat=237->c1.toNat<160) then 3 else 0)
   else match l' with
   | c3::_=>
    if 240<=c.toNat/\c.toNat<245 then
     (if 128<=c2.toNat/\c2.toNat<192/\128<=c3.toNat/\c3.toNat<192/\128<=c1.toNat/\c1.toNat<192/\(c.toNat=240->144<=c1.toNat)/\(c.toNat=244->c1.toNat<144) then 4 else 0)
    else 0
   | []=>0
  | []=>0
 | _=>0
def Gj (c:UInt8):Bool:=decide (c.toNat=9∨(32<=c.toNat/\c.toNat<127))
def Dm:Bs->Nat
 | []=>0
 | c::l=>if Gj c then 1 else if c.toNat<128 then 0 else Ku (c::l)
inductive Cm:Bs->Bs->Prop
 | eof:Cm [] []
 | lf (r:Bs):Cm (10::r) (10::r)
 | crlf (r:Bs):Cm (13::10::r) (13::10::r)
 | sign {b r:Bs} (n:Nat):Dm b=n->0<n->Cm (b.drop n) r->Cm b r
inductive Nl:Bs->Bs->Prop
 | eof:Nl [] []
 | lf (r:Bs):Nl (10::r) r
 | crlf (r:Bs):Nl (13::10::r) r
inductive eX:Bs->Bs->Prop
 | nl {b r:Bs}:Nl b r->eX b r
 | cm {b r r':Bs}:Cm (35::b) r->Nl r r'->eX (35::b) r'
def Er (c:UInt8):Bool:=decide ((48<=c.toNat/\c.toNat<=57)∨(97<=c.toNat/\c.toNat<=122)∨(65<=c.toNat/\c.toNat<=90)∨c.toNat=95∨c.toNat=45)
def Ey (v:Nat):Bs:=
 if v<0x80 then [UInt8.ofNat v]
 else if v<0x800 then [UInt8.ofNat (0xC0+v/64),UInt8.ofNat (0x80+v%64)]
 else if v<0x10000 then [UInt8.ofNat (0xE0+v/4096),UInt8.ofNat (0x80+v/64%64),UInt8.ofNat (0x80+v%64)]
 else [UInt8.ofNat (0xF0+v/262144),UInt8.ofNat (0x80+v/4096%64),UInt8.ofNat (0x80+v/64%64),UInt8.ofNat (0x80+v%64)]
def Fb (c:UInt8):Nat:=
 if 48<=c.toNat/\c.toNat<=57 then c.toNat-48 else if 97<=c.toNat/\c.toNat<=102 then c.toNat-87 else if 65<=c.toNat/\c.toNat<=70 then c.toNat-55 else 99
def Ja (l:Bs):Nat:=l.foldl (fun v c=>v*16+Fb c) 0
def Rh (c:UInt8):Option UInt8:=
 if c=98 then some 8 else if c=116 then some 9 else if c=110 then some 10 else if c=102 then some 12 else if c=114 then some 13 else if c=34 then some 34 else if c=92 then some 92 else none
def Jh (v:Nat):Prop:=v<=0x10FFFF/\¬(0xD800<=v/\v<0xE000)
inductive Vc:Bs->Bs->Bs->Prop
 | ch {c x:UInt8} {r:Bs}:Rh c=some x->Vc (c::r) [x] r
 | u {ds r:Bs}:ds.length=4->(∀c∈ds,Fb c<16)->Jh (Ja ds)->Vc (117::ds++r) (Ey (Ja ds)) r
 | U {ds r:Bs}:ds.length=8->(∀c∈ds,Fb c<16)->Jh (Ja ds)->Vc (85::ds++r) (Ey (Ja ds)) r
inductive Gn:Bs->Bs->Bs->Prop
 | close (r:Bs):Gn (39::r) [] r
 | sign {b out r:Bs} (n:Nat):b.head?≠some 39->Dm b=n->0<n->Gn (b.drop n) out r->Gn b (b.take n++out) r
inductive Fn:Bs->Bs->Bs->Prop
 | close (r:Bs):Fn (34::r) [] r
 | esc {b u b' out r:Bs}:Vc b u b'->Fn b' out r->Fn (92::b) (u++out) r
 | sign {b out r:Bs} (n:Nat):b.head?≠some 34->b.head?≠some 92->Dm b=n->0<n->Fn (b.drop n) out r->Fn b (b.take n++out) r
def Cb (q:UInt8):Bs->Nat
 | []=>0
 | c::l=>if c=q then Cb q l+1 else 0
inductive Fv:Bs->Bs->Bs->Prop
 | close {b:Bs} (n:Nat):Cb 39 b=n->3<=n->n<=5->Fv b (List.replicate (n-3) 39) (b.drop n)
 | quote {b out r:Bs} (n:Nat):Cb 39 b=n->0<n->n<3->Fv (b.drop n) out r->Fv b (List.replicate n 39++out) r
 | lf {b out r:Bs}:Fv b out r->Fv (10::b) (10::out) r
 | crlf {b out r:Bs}:Fv b out r->Fv (13::10::b) (13::10::out) r
 | sign {b out r:Bs} (n:Nat):b.head?≠some 39->Dm b=n->0<n->Fv (b.drop n) out r->Fv b (b.take n++out) r
inductive Qr:Bs->Bs->Prop
 | stop {b:Bs}:(∀r,Bd b≠10::r)->(∀r,Bd b≠13::10::r)->Qr b (Bd b)
 | lf {b r r':Bs}:Bd b=10::r->Qr r r'->Qr b r'
 | crlf {b r r':Bs}:Bd b=13::10::r->Qr r r'->Qr b r'
inductive Eu:Bs->Bs->Bs->Prop
 | close {b:Bs} (n:Nat):Cb 34 b=n->3<=n->n<=5->Eu b (List.replicate (n-3) 34) (b.drop n)
 | quote {b out r:Bs} (n:Nat):Cb 34 b=n->0<n->n<3->Eu (b.drop n) out r->Eu b (List.replicate n 34++out) r
 | lf {b out r:Bs}:Eu b out r->Eu (10::b) (10::out) r
 | crlf {b out r:Bs}:Eu b out r->Eu (13::10::b) (13::10::out) r
 | cont {b b' b'' out r:Bs}:Bd b=10::b'∨Bd b=13::10::b'->Qr b' b''->Eu b'' out r->Eu (92::b) out r
 | esc {b u b' out r:Bs}:(∀b',Bd b≠10::b')->(∀b',Bd b≠13::10::b')->Vc b u b'->Eu b' out r->Eu (92::b) (u++out) r
 | sign {b out r:Bs} (n:Nat):b.head?≠some 34->b.head?≠some 92->Dm b=n->0<n->Eu (b.drop n) out r->Eu b (b.take n++out) r
def Hz:Bs->Bs
 | 10::r=>r
 | 13::10::r=>r
 | b=>b
inductive KP:Bs->Bs->Bs->Prop
 | bare {l r:Bs}:l≠[]->(∀c∈l,Er c=true)->(∀c,r.head?=some c->Er c=false)->KP (l++r) l r
 | lit {b out r:Bs}:Gn b out r->KP (39::b) out r
 | bas {b out r:Bs}:Fn b out r->KP (34::b) out r
inductive Ks:Bs->List Bs->Bs->Prop
 | one {b k r:Bs}:KP (Bd b) k r->(Bd r).head?≠some 46->Ks b [k] (Bd r)
 | dot {b k r r' r'':Bs} {ks:List Bs}:KP (Bd b) k r->Bd r=46::r'->Ks r' ks r''->Ks b (k::ks) r''
def pk (b:Bs) (n:Nat):UInt8:=b.getD n 0
def Dj (c:UInt8):Bool:=decide (48<=c.toNat/\c.toNat<=57)
def Fc (base:Nat):Bs->Nat
 | []=>0
 | c::l=>if Fb c<base then Fc base l+1 else 0
inductive Sd (base:Nat):Bs->Nat->Prop
 | one {b:Bs} {k:Nat}:Fc base b=k->0<k->(b.drop k).head?≠some 95->Sd base b k
 | more {b b':Bs} {k n:Nat}:Fc base b=k->0<k->b.drop k=95::b'->Sd base b' n->Sd base b (k+1+n)
def Da (b:Bs) (n k:Nat):Prop:=∀i,i<k->Dj (pk b (n+i))=true
inductive cI (b:Bs) (n:Nat):Nat->Prop
 | plain:Da b n 2->pk b (n+2)=58->Da b (n+3) 2->pk b (n+5)=58->Da b (n+6) 2->pk b (n+8)≠46->cI b n 8
 | frac (f:Nat):Da b n 2->pk b (n+2)=58->Da b (n+3) 2->pk b (n+5)=58->Da b (n+6) 2->pk b (n+8)=46->Fc 10 (b.drop (n+9))=f->0<f->cI b n (9+f)
def Gd (b:Bs):Prop:=Da b 0 4/\pk b 4=45
def Jj (b:Bs):Prop:=Da b 0 2/\pk b 2=58
def Di (b:Bs):Nat:=if pk b 0=43∨pk b 0=45 then 1 else 0
inductive Lp (b:Bs):Nat->Nat->Prop
 | date:Gd b->Da b 5 2->pk b 7=45->Da b 8 2->pk b 10≠84->pk b 10≠116->(pk b 10=32->¬Da b 11 2)->Lp b 6 10
 | dateTime {k:Nat}:Gd b->Da b 5 2->pk b 7=45->Da b 8 2->(pk b 10=84∨pk b 10=32)->cI b 11 k->pk b (11+k)≠90->pk b (11+k)≠122->pk b (11+k)≠43->pk b (11+k)≠45->Lp b 5 (11+k)
 | offZ {k:Nat}:Gd b->Da b 5 2->pk b 7=45->Da b 8 2->(pk b 10=84∨pk b 10=32)->cI b 11 k->pk b (11+k)=90->Lp b 4 (12+k)
 | offN {k:Nat}:Gd b->Da b 5 2->pk b 7=45->Da b 8 2->(pk b 10=84∨pk b 10=32)->cI b 11 k->(pk b (11+k)=43∨pk b (11+k)=45)->
   Da b (12+k) 2->pk b (14+k)=58->Da b (15+k) 2->Lp b 4 (17+k)
 | time {k:Nat}:¬Gd b->Jj b->cI b 0 k->Lp b 7 k
 | radix {c:UInt8} {base n:Nat} {r:Bs}:b=48::c::r->((c=120/\base=16)∨(c=111/\base=8)∨(c=98/\base=2))->Sd base r n->Lp b 1 (2+n)
 | inf:b.drop (Di b)=105::110::102::b.drop (Di b+3)->Lp b 2 (Di b+3)
 | nan:b.drop (Di b)=110::97::110::b.drop (Di b+3)->Lp b 2 (Di b+3)
 | dec {k f e:Nat} {kind:Nat}:¬Gd b->¬Jj b->¬(pk b 0=48/\(pk b 1=120∨pk b 1=111∨pk b 1=98))->
   Sd 10 (b.drop (Di b)) k->(pk b (Di b)=48->k=1)->
   ((pk b (Di b+k)≠46/\f=0)∨∃g,pk b (Di b+k)=46/\Sd 10 (b.drop (Di b+k+1)) g/\f=1+g)->
   ((pk b (Di b+k+f)≠101/\pk b (Di b+k+f)≠69/\e=0)∨
    ∃m g,(pk b (Di b+k+f)=101∨pk b (Di b+k+f)=69)/\(m=if pk b (Di b+k+f+1)=43∨pk b (Di b+k+f+1)=45 then 2 else 1)/\Sd 10 (b.drop (Di b+k+f+m)) g/\e=m+g)->
   kind=(if f=0/\e=0 then 1 else 2)->Lp b kind (Di b+k+f+e)
inductive Bz where
 | sc (kind:Nat) (text:Bs)
 | arr (items:List Bz)
 | tbl (items:List (List Bs×Bz))
inductive Ex where
 | kv (keys:List Bs) (v:Bz)
 | tab (keys:List Bs)
 | atab (keys:List Bs)
end
section
def Ic (r:Bs):Prop:=Bd r=[]∨∃c t,Bd r=c::t/\(c.toNat=10∨c.toNat=13∨c.toNat=35∨c.toNat=44∨c.toNat=93∨c.toNat=125)
mutual
inductive VV:Nat->Bs->Bz->Bs->Prop
 | Bm {d:Nat} {b out r:Bs}:d<=60->Fn b out r->(∀r',b≠34::34::r')->VV d (34::b) (.sc 0 out) r
 | lit {d:Nat} {b out r:Bs}:d<=60->Gn b out r->(∀r',b≠39::39::r')->VV d (39::b) (.sc 0 out) r
 | mstr {d:Nat} {b out r:Bs}:d<=60->Eu (Hz b) out r->VV d (34::34::34::b) (.sc 0 out) r
 | mlit {d:Nat} {b out r:Bs}:d<=60->Fv (Hz b) out r->VV d (39::39::39::b) (.sc 0 out) r
 | tru {d:Nat} {r:Bs}:d<=60->VV d (116::114::117::101::r) (.sc 3 [116,114,117,101]) r
 | fls {d:Nat} {r:Bs}:d<=60->VV d (102::97::108::115::101::r) (.sc 3 [102,97,108,115,101]) r
 | num {d:Nat} {b:Bs} {kind n:Nat}:d<=60->Lp b kind n->Ic (b.drop n)->VV d b (.sc kind (b.take n)) (b.drop n)
 | arr {d:Nat} {b r:Bs} {vs:List Bz}:d<=60->VA (d+1) false b vs r->VV d (91::b) (.arr vs) r
 | tbl {d:Nat} {b r:Bs} {vs:List (List Bs×Bz)}:d<=60->VT (d+1) false b vs r->VV d (123::b) (.tbl vs) r
inductive VA:Nat->Bool->Bs->List Bz->Bs->Prop
 | close {d:Nat} {a:Bool} {b r:Bs}:Bd b=93::r->VA d a b [] r
 | lf {d:Nat} {a:Bool} {b b' r:Bs} {vs:List Bz}:Bd b=10::b'->VA d a b' vs r->VA d a b vs r
 | crlf {d:Nat} {a:Bool} {b b' r:Bs} {vs:List Bz}:Bd b=13::10::b'->VA d a b' vs r->VA d a b vs r
 | cm {d:Nat} {a:Bool} {b c b' r:Bs} {vs:List Bz}:Bd b=35::c->Cm (35::c) b'->VA d a b' vs r->VA d a b vs r
 | comma {d:Nat} {b b' r:Bs} {vs:List Bz}:Bd b=44::b'->VA d false b' vs r->VA d true b vs r
 | val {d:Nat} {b b1 b2 r:Bs} {c:UInt8} {v:Bz} {vs:List Bz}:Bd b=c::b1->(c.toNat≠93/\c.toNat≠10/\c.toNat≠13/\c.toNat≠35/\c.toNat≠44)->VV d (c::b1) v b2->VA d true b2 vs r->VA d false b (v::vs) r
inductive VT:Nat->Bool->Bs->List (List Bs×Bz)->Bs->Prop
 | close {d:Nat} {a:Bool} {b r:Bs}:Bd b=125::r->VT d a b [] r
 | comma {d:Nat} {b b' r:Bs} {vs:List (List Bs×Bz)}:Bd b=44::b'->VT d false b' vs r->VT d true b vs r
 | ent {d:Nat} {b b1 b2 r:Bs} {ks:List Bs} {v:Bz} {vs:List (List Bs×Bz)}:Ks b ks (61::b1)->VV d (Bd b1) v b2->VT d true b2 vs r->VT d false b ((ks,v)::vs) r
end
inductive EX:Bs->Ex->Bs->Prop
 | tab {b r:Bs} {ks:List Bs}:b.head?≠some 91->Ks b ks (93::r)->EX (91::b) (.tab ks) r
 | atab {b r:Bs} {ks:List Bs}:Ks b ks (93::93::r)->EX (91::91::b) (.atab ks) r
 | kv {c:UInt8} {b b1 r:Bs} {ks:List Bs} {v:Bz}:Ks (c::b) ks (61::b1)->VV 0 (Bd b1) v r->EX (c::b) (.kv ks v) r
inductive Lr:Bs->List Ex->Prop
 | done {b:Bs}:Bd b=[]->Lr b []
 | blank {b b':Bs} {es:List Ex}:Bd b≠[]->eX (Bd b) b'->Lr b' es->Lr b es
 | expr {b c b1 b2:Bs} {h:UInt8} {e:Ex} {es:List Ex}:Bd b=h::c->EX (h::c) e b1->eX (Bd b1) b2->Lr b2 es->Lr b (e::es)
structure Be where
 kind:Nat
 data:Option Bs
 next:Nat
 child:Nat
def Ck:Nat->List Bs->List Be
 | _,[]=>[]
 | _,[s]=>[⟨2,some s,0,0⟩]
 | k,s::t::l=>⟨2,some s,k+2,0⟩::Ck (k+1) (t::l)
def No:List Be->Nat->List Be
 | [],_=>[]
 | a::l,n=>{ a with next:=n }::l
def Cq:Nat->List (Nat->List Be)->List Be
 | _,[]=>[]
 | k,[x]=>x k
 | k,x::y::l=>No (x k) (k+(x k).length+1)++Cq (k+(x k).length) (y::l)
def Db:Nat->Nat
 | 0=>8|1=>11|2=>10|3=>9|4=>15|5=>14|6=>12|_=>13
def He (ks:List Bs) (x:Nat->List Be) (k:Nat):List Be:=⟨5,none,0,k+ks.length+2⟩::(Ck (k+1) ks++No (x (k+1+ks.length)) (k+2))
mutual
def Df:Bz->Nat->List Be
 | .sc kind text,_=>[⟨Db kind,some text,0,0⟩]
 | .arr vs,k=>⟨6,none,0,if vs.isEmpty then 0 else k+2⟩::Cq (k+1) (Eb vs)
 | .tbl es,k=>⟨7,none,0,if es.isEmpty then 0 else k+2⟩::Cq (k+1) (Dx es)
def Eb:List Bz->List (Nat->List Be)
 | []=>[]
 | v::vs=>Df v::Eb vs
def Dx:List (List Bs×Bz)->List (Nat->List Be)
 | []=>[]
 | (ks,v)::es=>He ks (Df v)::Dx es
end
theorem Cf:∀(l:List Bs) (k:Nat),(Ck k l).length=l.length
 | [],_=>rfl
 | [_],_=>rfl
 | _::t::l,k=>by simp [Ck,Cf (t::l) (k+1)]
theorem Gp (l:List Be) (n:Nat):(No l n).length=l.length:=by cases l<;>rfl
theorem Kg:∀(l:List (Nat->List Be)) (k:Nat),l≠[]->∀x∈l.head?,(x k).length<=(Cq k l).length
 | [],_,h,_,_=>absurd rfl h
 | [x],k,_,y,hy=>by simp at hy;subst hy;simp [Cq]
 | x::z::l,k,_,y,hy=>by simp at hy;subst hy;simp [Cq,Gp]
def Gk:Nat->List (Nat->List Be)->Nat
 | k,[]=>k
 | k,[_]=>k
 | k,x::y::l=>Gk (k+(x k).length) (y::l)
theorem Sq:∀(l:List (Nat->List Be)) (k:Nat),k<=Gk k l
 | [],_=>Nat.le_refl _
 | [_],_=>Nat.le_refl _
 | x::y::l,k=>Nat.le_trans (by omega) (Sq (y::l) (k+(x k).length))
theorem Ts:∀(ds:List (Nat->List Be)) (k:Nat) (x:Nat->List Be),ds≠[]->(∀y∈ds,∀j,∃(a:Be) (l:List Be),y j=a::l)->
  ∃(a:Be),(Cq k ds)[Gk k ds-k]?=some a/\
   (Cq k ds++x (k+(Cq k ds).length)).set (Gk k ds-k) { a with next:=k+(Cq k ds).length+1 }=Cq k (ds++[x])/\
   Gk k (ds++[x])=k+(Cq k ds).length
 | [],_,_,h,_=>absurd rfl h
 | [y],k,x,_,hy=>by
  obtain⟨a,l,h⟩:=hy y (by simp) k;refine⟨a,by simp [Cq,Gk,h],?_,by simp [Cq,Gk]⟩;simp [Cq,Gk,h,No]
 | y::z::ds,k,x,_,hy=>by
  obtain⟨a,h1,h2,h3⟩:=Ts (z::ds) (k+(y k).length) x (by simp) (fun u hu=>hy u (by simp [hu]));have b:=Sq (z::ds) (k+(y k).length);have e1:Gk (k+(y k).length) (z::ds)-k=(No (y k) (k+(y k).length+1)).length+(Gk (k+(y k).length) (z::ds)-(k+(y k).length)):=(by rw [Gp];omega);have e2:k+(Cq k (y::z::ds)).length=k+(y k).length+(Cq (k+(y k).length) (z::ds)).length:=by
   simp only [Cq,Ye,Gp];omega
  refine⟨a,?_,?_,?_⟩
  ·simp only [Cq,Gk];rw [e1,Yg (by omega),Nat.add_sub_cancel_left];exact h1
  ·rw [e2];simp only [Cq,Gk,List.cons_append] at h2 ⊢;rw [e1,List.append_assoc,List.set_append_right _ _ (by omega),Nat.add_sub_cancel_left];rw [h2]
  ·rw [e2];simp only [Gk,List.cons_append] at h3 ⊢;exact h3
theorem Hc:∀(v:Bz) (k:Nat),∃(a:Be) (l:List Be),Df v k=a::l/\a.next=0
 | .sc _ _,_=>⟨_,_,by rw [Df],rfl⟩
 | .arr _,_=>⟨_,_,by rw [Df],rfl⟩
 | .tbl _,_=>⟨_,_,by rw [Df],rfl⟩
theorem Zi:∀(a b:List Bz),Eb (a++b)=Eb a++Eb b
 | [],b=>by simp [Eb]
 | v::a,b=>by simp [Eb,Zi a b]
theorem Zj:∀(a b:List (List Bs×Bz)),Dx (a++b)=Dx a++Dx b
 | [],b=>by simp [Dx]
 | (ks,v)::a,b=>by simp [Dx,Zj a b]
theorem Qi:∀(l:List Bz),∀y∈Eb l,∀j,∃(a:Be) (t:List Be),y j=a::t
 | [],y,hy=>by simp [Eb] at hy
 | v::l,y,hy=>by
  simp only [Eb,List.mem_cons] at hy;rcases hy with rfl|hy
  ·exact fun j=>let ⟨a,t,h,_⟩:=Hc v j;⟨a,t,h⟩
  ·exact Qi l y hy
theorem Qj:∀(l:List (List Bs×Bz)),∀y∈Dx l,∀j,∃(a:Be) (t:List Be),y j=a::t
 | [],y,hy=>by simp [Dx] at hy
 | (ks,v)::l,y,hy=>by
  simp only [Dx,List.mem_cons] at hy;rcases hy with rfl|hy
  ·exact fun j=>⟨_,_,rfl⟩
  ·exact Qj l y hy
end
section
theorem Lu (b:Bs) (a n:Nat):pk (b.drop a) n=pk b (a+n):=by
 simp [pk,List.getD,List.getElem?_drop]
theorem Hr {b:Bs} {a n k:Nat}:Da (b.drop a) n k↔Da b (a+n) k:=by
 constructor
 ·intro h i hi;have:=h i hi;rw [Lu] at this;rw [Nat.add_assoc];exact this
 ·intro h i hi;have:=h i hi;rw [Lu,<-Nat.add_assoc];exact this
theorem cI.drop {b:Bs} {a n g:Nat} (h:cI b (a+n) g):cI (b.drop a) n g:=by
 have e:∀k,pk (b.drop a) (n+k)=pk b (a+n+k):=fun k=>by rw [Lu,Nat.add_assoc]
 cases h with
 | plain h1 h2 h3 h4 h5 h6=>exact .plain (Hr.2 h1) (by rw [e];exact h2) (Hr.2 (by rw [<-Nat.add_assoc];exact h3)) (by rw [e];exact h4) (Hr.2 (by rw [<-Nat.add_assoc];exact h5)) (by rw [e];exact h6)
 | frac f h1 h2 h3 h4 h5 h6 h7 h8=>exact .frac f (Hr.2 h1) (by rw [e];exact h2) (Hr.2 (by rw [<-Nat.add_assoc];exact h3)) (by rw [e];exact h4) (Hr.2 (by rw [<-Nat.add_assoc];exact h5)) (by rw [e];exact h6) (by rw [List.drop_drop,<-Nat.add_assoc];exact h7) h8
theorem kA {c:UInt8} (h:Dj c=true):c≠0:=by
 rintro rfl;simp [Dj] at h
theorem Ym {q:UInt8} (hq:q≠0):∀{n:Nat} {b:Bs},(∀i,i<n->pk b i=q)->pk b n≠q->Cb q b=n
 | 0,[],_,_=>rfl
 | 0,c::l,_,h=>by
  rw [Cb,if_neg (by simpa [pk] using h)]
 | n+1,[],h,_=>by
  have:=h 0 (by omega);simp [pk] at this;exact absurd this.symm hq
 | n+1,c::l,h,h2=>by
  have h0:=h 0 (by omega);simp [pk] at h0;rw [Cb,if_pos h0,Ym hq (n:=n) (fun i hi=>by have:=h (i+1) (by omega);simpa [pk] using this) (by simpa [pk] using h2)]
theorem Ov {q:UInt8} {b:Bs} (h:b.head?≠some q):Cb q b=0:=by
 cases b with
 | nil=>rfl
 | cons c l=>rw [Cb,if_neg (by simpa using h)]
theorem Fv.q1 {b out r:Bs} (h3:∀t,b≠39::39::t) (h:Fv b out r):Fv (39::b) (39::out) r:=by
 by_cases hh:b.head?=some 39
 ·obtain⟨t,rfl⟩:∃t,b=39::t:=by
   cases b with
   | nil=>simp at hh
   | cons c l=>simp at hh;exact⟨l,by rw [hh]⟩
  have ht:Cb 39 t=0:=Ov (by
   intro h;cases t with
   | nil=>simp at h
   | cons c l=>simp at h;exact h3 l (by rw [h]))
  have hq:Cb 39 (39::t)=1:=(by rw [Cb,if_pos rfl,ht]);cases h with
  | close n h1 h2 h3=>omega
  | quote n h1 h2 h3 h4=>
   have:n=1:=(by omega);subst this;exact Fv.quote (b:=39::39::t) 2 (by rw [Cb,if_pos rfl,hq]) (by omega) (by omega) h4
  | sign n h1=>exact absurd rfl h1
 ·exact Fv.quote (b:=39::b) 1 (by rw [Cb,if_pos rfl,Ov hh]) (by omega) (by omega) h
theorem Eu.q1 {b out r:Bs} (h3:∀t,b≠34::34::t) (h:Eu b out r):Eu (34::b) (34::out) r:=by
 by_cases hh:b.head?=some 34
 ·obtain⟨t,rfl⟩:∃t,b=34::t:=by
   cases b with
   | nil=>simp at hh
   | cons c l=>simp at hh;exact⟨l,by rw [hh]⟩
  have ht:Cb 34 t=0:=Ov (by
   intro h;cases t with
   | nil=>simp at h
   | cons c l=>simp at h;exact h3 l (by rw [h]))
  have hq:Cb 34 (34::t)=1:=(by rw [Cb,if_pos rfl,ht]);cases h with
  | close n h1 h2 h3=>omega
  | quote n h1 h2 h3 h4=>
   have:n=1:=(by omega);subst this;exact Eu.quote (b:=34::34::t) 2 (by rw [Cb,if_pos rfl,hq]) (by omega) (by omega) h4
  | sign n h1=>exact absurd rfl h1
 ·exact Eu.quote (b:=34::b) 1 (by rw [Cb,if_pos rfl,Ov hh]) (by omega) (by omega) h
theorem Ed:∀(b:Bs),Bd (Bd b)=Bd b
 | []=>rfl
 | c::l=>by
  by_cases h:Ji c=true
  ·simp only [Bd,h,if_true];exact Ed l
  ·simp [Bd,h]
def FolW (r:Bs):Prop:=r=[]∨∃c t,r=c::t/\(c.toNat=9∨c.toNat=10∨c.toNat=13∨c.toNat=32∨c.toNat=35∨c.toNat=44∨c.toNat=93∨c.toNat=125)
theorem Ic.weak {r:Bs} (h:Ic r):FolW r:=by
 cases r with
 | nil=>exact .inl rfl
 | cons x l=>
  refine .inr ⟨x,l,rfl,?_⟩;by_cases hw:Ji x=true
  ·simp only [Ji,decide_eq_true_eq] at hw;omega
  ·unfold Ic at h;rw [Bd,if_neg hw] at h;rcases h with h|⟨c,t,h,hc⟩
   ·cases h
   ·simp only [List.cons.injEq] at h;rw [h.1];omega
theorem Ic.of_cons {c:UInt8} {t:Bs} (h:c.toNat=10∨c.toNat=13∨c.toNat=35∨c.toNat=44∨c.toNat=93∨c.toNat=125):Ic (c::t):=by
 refine .inr ⟨c,t,?_,h⟩;rw [Bd,if_neg (by simp only [Ji,decide_eq_true_eq];omega)]
theorem Ic.of_skip {b:Bs} (h:Ic (Bd b)):Ic b:=by
 unfold Ic at *;rwa [Ed] at h
theorem Ic.of_eol {r b:Bs} (h:eX (Bd r) b):Ic r:=by
 cases hs:Bd r with
 | nil=>exact .inl hs
 | cons c t=>
  rw [hs] at h;refine .inr ⟨c,t,hs,?_⟩;cases h with
  | nl h=>cases h<;>decide
  | cm h=>decide
theorem Ic.of_head {r t:Bs} {c:UInt8} (h:Bd r=c::t) (hc:c.toNat=10∨c.toNat=13∨c.toNat=35∨c.toNat=44∨c.toNat=93∨c.toNat=125):Ic r:=.inr ⟨c,t,h,hc⟩
theorem Ic.quote {r:Bs} (h:Ic r) {q:UInt8} (hq:q=34∨q=39):r.head?≠some q:=by
 rcases h.weak with rfl|⟨c,t,rfl,h3⟩
 ·simp
 ·rintro h2;simp only [List.head?_cons,Yb] at h2;subst h2;rcases hq with rfl|rfl<;>revert h3<;>decide
theorem Ic.blank {c:UInt8} {t:Bs} (h:Ic (32::c::t)):Dj c=false:=by
 unfold Ic at h;rw [Bd,if_pos (by decide)] at h;by_cases hw:Ji c=true
 ·simp only [Ji,decide_eq_true_eq] at hw;simp only [Dj,decide_eq_false_iff_not];omega
 ·rw [Bd,if_neg hw] at h;rcases h with h|⟨c',t',h,hc⟩
  ·cases h
  ·simp only [List.cons.injEq] at h;rw [h.1];simp only [Dj,decide_eq_false_iff_not];omega
theorem Qx {b:Bs} {n:Nat} (h:pk b n≠0):n<b.length:=by
 apply Classical.byContradiction;intro hh;exact h (by simp [pk,List.getD,List.getElem?_eq_none (show b.length<=n by omega)])
theorem Da.lt {b:Bs} {n k:Nat} (h:Da b n k) (hk:0<k):n+k<=b.length:=by
 have:=Qx (kA (h (k-1) (by omega)));omega
theorem Wj (base:Nat):∀(l:Bs),Fc base l<=l.length
 | []=>Nat.le_refl _
 | c::l=>by
  rw [Fc];split
  ·have:=Wj base l;simp only [Ya];omega
  ·exact Nat.zero_le _
theorem Sd.len {base:Nat} {b:Bs} {n:Nat} (h:Sd base b n):0<n/\n<=b.length:=by
 induction h with
 | @one b k h1 h2 h3=>exact⟨h2,by rw [<-h1];exact Wj base b⟩
 | @more b b' k n h1 h2 h3 h4 ih=>
  have h5:=congrArg List.length h3;rw [Yh,Ya] at h5;exact⟨by omega,by omega⟩
theorem cI.len {b:Bs} {n g:Nat} (h:cI b n g):8<=g/\n+g<=b.length:=by
 cases h with
 | plain h1 h2 h3 h4 h5 h6=>exact⟨Nat.le_refl _,by have:=h5.lt (by omega);omega⟩
 | frac f h1 h2 h3 h4 h5 h6 h7 h8=>
  have:=Wj 10 (b.drop (n+9));rw [Yh,h7] at this;exact⟨by omega,by omega⟩
theorem Lp.len {b:Bs} {k n:Nat} (h:Lp b k n):0<n/\n<=b.length:=by
 cases h with
 | date h1 h2 h3 h4=>exact⟨by omega,by have:=h4.lt (by omega);omega⟩
 | dateTime h1 h2 h3 h4 h5 h6=>have:=h6.len;exact⟨by omega,by omega⟩
 | offZ h1 h2 h3 h4 h5 h6 h7=>
  have:=h6.len;have:=Qx (b:=b) (n:=11+_) (by rw [h7];decide);exact⟨by omega,by omega⟩
 | offN h1 h2 h3 h4 h5 h6 h7 h8 h9 a=>have:=a.lt (by omega);exact⟨by omega,by omega⟩
 | time h1 h2 h3=>have:=h3.len;exact⟨by omega,by omega⟩
 | radix h1 h2 h3=>subst h1;have:=h3.len;exact⟨by omega,by simp only [Ya];omega⟩
 | inf h=>
  have:=congrArg List.length h;simp only [Yh,Ya] at this;exact⟨by omega,by omega⟩
 | nan h=>
  have:=congrArg List.length h;simp only [Yh,Ya] at this;exact⟨by omega,by omega⟩
 | @dec k f e kind h1 h2 h3 h4 h5 h6 h7 h8=>
  have g1:=h4.len;rw [Yh] at g1;refine⟨by omega,?_⟩;have g2:Di b+k+f<=b.length:=by
   rcases h6 with ⟨_,rfl⟩|⟨g,_,hg,rfl⟩
   ·omega
   ·have:=hg.len;rw [Yh] at this;omega
  rcases h7 with ⟨_,_,rfl⟩|⟨m,g,_,_,hg,rfl⟩
  ·omega
  ·have:=hg.len;rw [Yh] at this;omega
end
section
theorem Cw:∀(b:Bs),(Bd b).length<=b.length
 | []=>Nat.le_refl _
 | c::l=>by
  unfold Bd;split
  ·have:=Cw l;simp only [Ya];omega
  ·exact Nat.le_refl _
theorem Fv.le:∀{b o r:Bs},Fv b o r->r.length<=b.length:=by
 intro b o r h
 induction h with
 | close n h1 h2 h3=>rw [Yh];omega
 | quote n h1 h2 h3 h4 ih=>rw [Yh] at ih;omega
 | lf h ih=>simp only [Ya];omega
 | crlf h ih=>simp only [Ya];omega
 | sign n h1 h2 h3 h4 ih=>rw [Yh] at ih;omega
theorem Qr.le {b r:Bs} (h:Qr b r):r.length<=b.length:=by
 induction h with
 | @stop b h1 h2=>exact Cw b
 | @lf b r r' h1 h2 ih=>
  have:=Cw b;rw [h1] at this;simp only [Ya] at this;omega
 | @crlf b r r' h1 h2 ih=>
  have:=Cw b;rw [h1] at this;simp only [Ya] at this;omega
theorem Gn.lt:∀{b o r:Bs},Gn b o r->r.length<b.length:=by
 intro b o r h
 induction h with
 | close r=>simp
 | @sign b out r n h1 h2 h3 h4 ih=>
  rw [Yh] at ih;omega
theorem Vc.lt' {b u b':Bs} (h:Vc b u b'):b'.length<b.length:=by
 cases h with
 | ch=>simp
 | u h1=>simp;omega
 | U h1=>simp;omega
theorem Fn.lt:∀{b o r:Bs},Fn b o r->r.length<b.length:=by
 intro b o r h
 induction h with
 | close r=>simp
 | @esc b u b' out r h1 h2 ih=>
  have:=h1.lt';simp only [Ya];omega
 | @sign b out r n h1 a h2 h3 h4 ih=>
  rw [Yh] at ih;omega
theorem KP.lt {b k r:Bs} (h:KP b k r):r.length<b.length:=by
 cases h with
 | bare h1 h2 h3=>have:=List.length_pos_iff.2 h1;simp;omega
 | lit h=>have:=h.lt;simp only [Ya];omega
 | bas h=>have:=h.lt;simp only [Ya];omega
theorem Eu.le:∀{b o r:Bs},Eu b o r->r.length<=b.length:=by
 intro b o r h
 induction h with
 | close n h1 h2 h3=>rw [Yh];omega
 | quote n h1 h2 h3 h4 ih=>rw [Yh] at ih;omega
 | lf h ih=>simp only [Ya];omega
 | crlf h ih=>simp only [Ya];omega
 | @cont b b' b'' out r h1 h2 h3 ih=>
  have h4:=Cw b;have h5:=h2.le;rcases h1 with h1|h1;all_goals
   rw [h1] at h4;simp only [Ya] at h4 ⊢;omega
 | esc h1 h2 h3 h4 ih=>have:=h3.lt';simp only [Ya];omega
 | sign n h1 a h2 h3 h4 ih=>rw [Yh] at ih;omega
theorem Xy (b:Bs):(Hz b).length<=b.length:=by
 unfold Hz;split<;>simp;omega
theorem Ks.len:∀{b r:Bs} {ks:List Bs},Ks b ks r->ks.length+r.length<=b.length/\ks≠[]:=by
 intro b r ks h
 induction h with
 | @one b k r h1 h2=>
  have:=h1.lt;have:=Cw b;have:=Cw r;exact⟨by simp only [List.length_singleton];omega,by simp⟩
 | @dot b k r r' r'' ks h1 h2 h3 ih=>
  have:=h1.lt;have h4:=Cw b;have h5:=Cw r;rw [h2] at h5;simp only [Ya] at h5 ⊢;exact⟨by have:=ih.1;omega,by simp⟩
theorem Cm.le:∀{b r:Bs},Cm b r->r.length<=b.length:=by
 intro b r h
 induction h with
 | eof=>exact Nat.le_refl _
 | lf=>exact Nat.le_refl _
 | crlf=>exact Nat.le_refl _
 | @sign b r n h1 h2 h3 ih=>rw [Yh] at ih;omega
theorem Ix (k:Nat) (x:Nat->List Be) (l:List (Nat->List Be)):(Cq k (x::l)).length=(x k).length+(Cq (k+(x k).length) l).length:=by
 cases l with
 | nil=>simp [Cq]
 | cons y l=>simp [Cq,Gp]
theorem Fi (ks:List Bs) (x:Nat->List Be) (k:Nat):(He ks x k).length=1+ks.length+(x (k+1+ks.length)).length:=by
 simp only [He,Ya,Ye,Cf,Gp];omega
theorem gE {c b:Bs} (h:Cm (35::c) b):b.length<(35::c).length:=by
 cases h with
 | sign n h1 h2 h3=>
  have:=h3.le;rw [Yh] at this;simp only [Ya] at *;omega
theorem VV.len {d:Nat} {b r:Bs} {v:Bz} (h:VV d b v r):∀k,(Df v k).length+3*r.length<=3*b.length:=by
 refine VV.rec (motive_1:=fun d b v r _=>∀k,(Df v k).length+3*r.length<=3*b.length) (motive_2:=fun d a b vs r _=>∀k,(Cq k (Eb vs)).length+3*r.length<=3*b.length)
  (motive_3:=fun d a b es r _=>∀k,(Cq k (Dx es)).length+3*r.length<=3*b.length) ?_ ?_ ?_ ?_ ?_ ?_ ?_ ?_ ?_ ?_ ?_ ?_ ?_ ?_ ?_ ?_ ?_ ?_ h
 ·intro d b out r h1 h2 h3 k;have:=h2.lt;simp only [Df,Ya,List.length_nil];omega
 ·intro d b out r h1 h2 h3 k;have:=h2.lt;simp only [Df,Ya,List.length_nil];omega
 ·intro d b out r h1 h2 k;have:=h2.le;have:=Xy b;simp only [Df,Ya,List.length_nil];omega
 ·intro d b out r h1 h2 k;have:=h2.le;have:=Xy b;simp only [Df,Ya,List.length_nil];omega
 ·intro d r h1 k;simp only [Df,Ya,List.length_nil];omega
 ·intro d r h1 k;simp only [Df,Ya,List.length_nil];omega
 ·intro d b kind n h1 h2 h3 k;have:=h2.len;simp only [Df,Ya,List.length_nil,Yh];omega
 ·intro d b r vs h1 h2 ih k;have:=ih (k+1);simp only [Df,Ya];omega
 ·intro d b r vs h1 h2 ih k;have:=ih (k+1);simp only [Df,Ya];omega
 ·intro d a b r h1 k;have:=Cw b;rw [h1] at this;simp only [Eb,Cq,List.length_nil,Ya] at *;omega
 ·intro d a b b' r vs h1 h2 ih k;have h3:=ih k;have:=Cw b;rw [h1] at this;simp only [Ya] at *;omega
 ·intro d a b b' r vs h1 h2 ih k;have h3:=ih k;have:=Cw b;rw [h1] at this;simp only [Ya] at *;omega
 ·intro d a b c b' r vs h1 h2 h4 ih k;have h3:=ih k;have:=Cw b;have h5:=h2.le;rw [h1] at this;omega
 ·intro d b b' r vs h1 h2 ih k;have h3:=ih k;have:=Cw b;rw [h1] at this;simp only [Ya] at *;omega
 ·intro d b b1 b2 r c v vs h1 h2 h3 h4 ih1 ih2 k;have h5:=ih1 k;have h6:=ih2 (k+(Df v k).length);have:=Cw b;rw [h1] at this;rw [Eb,Ix];omega
 ·intro d a b r h1 k;have:=Cw b;rw [h1] at this;simp only [Dx,Cq,List.length_nil,Ya] at *;omega
 ·intro d b b' r vs h1 h2 ih k;have h3:=ih k;have:=Cw b;rw [h1] at this;simp only [Ya] at *;omega
 ·intro d b b1 b2 r ks v vs h1 h2 h3 ih1 ih2 k;have h4:=h1.len.1;have h5:=ih1 (k+1+ks.length);have h6:=ih2 (k+(He ks (Df v) k).length);have h7:=Cw b1;rw [Dx,Ix,Fi];rw [Fi] at h6;simp only [Ya] at h4;omega
theorem VV.lt {d:Nat} {b r:Bs} {v:Bz} (h:VV d b v r):r.length<b.length:=by
 have h1:=h.len 0;obtain⟨a,l,h2,_⟩:=Hc v 0;rw [h2] at h1;simp only [Ya] at h1;omega
theorem Lp.seven {r:Bs} (h:Ic r):Lp (55::r) 1 1:=by
 have hc:Dj (pk (55::r) 1)=false/\pk (55::r) 1≠46/\pk (55::r) 1≠101/\pk (55::r) 1≠69/\pk (55::r) 1≠95/\Fc 10 r=0/\r.head?≠some 95:=by
  rcases h.weak with rfl|⟨c,t,rfl,h0⟩
  ·decide
  ·have e:pk (55::c::t) 1=c:=rfl;rw [e];have ne:∀k:UInt8,c=k->c.toNat=k.toNat:=fun k h=>(by rw [h]);have hd:Fc 10 (c::t)=0:=by
    rw [Fc,if_neg];unfold Fb;rw [if_neg (by omega),if_neg (by omega),if_neg (by omega)];omega
   refine⟨?_,?_,?_,?_,?_,hd,?_⟩
   ·simp only [Dj,decide_eq_false_iff_not];omega
   ·rintro rfl;revert h0;decide
   ·rintro rfl;revert h0;decide
   ·rintro rfl;revert h0;decide
   ·rintro rfl;revert h0;decide
   ·intro h2;simp only [List.head?_cons,Yb] at h2;subst h2;revert h0;decide
 obtain⟨h1,h2,h3,h4,h5,h6,h7⟩:=hc;refine Lp.dec (k:=1) (f:=0) (e:=0) (fun hd=>?_) (fun hd=>?_) (fun hd=>?_) ?_ (fun _=>rfl) (.inl ⟨h2,rfl⟩) (.inl ⟨h3,h4,rfl⟩) rfl
 ·have:=hd.1 1 (by omega);rw [Yi,h1] at this;cases this
 ·have:=hd.1 1 (by omega);rw [Yi,h1] at this;cases this
 ·exact absurd hd.1 (by simp [pk])
 ·exact Sd.one (by rw [show Di (55::r)=0 from rfl,List.drop_zero,Fc,h6];rfl) (by omega) h7
theorem VV.seven {d:Nat} {r:Bs} (hd:d<=60) (h:Ic r):VV d (55::r) (.sc 1 [55]) r:=.num hd (Lp.seven h) h
end
section
def KT (ns:List Be):List Bs->Nat->Prop
 | [],h=>h=0
 | s::l,h=>∃i a,h=i+1/\ns[i]?=some a/\a.kind=2/\a.data=some s/\KT ns l a.next
mutual
def NT (ns:List Be):Bz->Nat->Prop
 | .sc kind text,i=>∃a,ns[i]?=some a/\a.kind=Db kind/\a.data=some text
 | .arr vs,i=>∃a,ns[i]?=some a/\a.kind=6/\NTs ns vs a.child
 | .tbl es,i=>∃a,ns[i]?=some a/\a.kind=7/\NEs ns es a.child
def NTs (ns:List Be):List Bz->Nat->Prop
 | [],h=>h=0
 | v::vs,h=>∃i a,h=i+1/\ns[i]?=some a/\NT ns v i/\NTs ns vs a.next
def NEs (ns:List Be):List (List Bs×Bz)->Nat->Prop
 | [],h=>h=0
 | (ks,v)::es,h=>∃i a c b,h=i+1/\ns[i]?=some a/\a.kind=5/\a.child=c+1/\ns[c]?=some b/\NT ns v c/\KT ns ks b.next/\NEs ns es a.next
end
def XT (ns:List Be):Ex->Prop
 | .kv ks v=>∃a c b,ns[0]?=some a/\a.kind=5/\a.child=c+1/\ns[c]?=some b/\NT ns v c/\KT ns ks b.next
 | .tab ks=>∃a,ns[0]?=some a/\a.kind=3/\KT ns ks a.child
 | .atab ks=>∃a,ns[0]?=some a/\a.kind=4/\KT ns ks a.child
def Zr (ns:List Be) (k:Nat) (l:List Be):Prop:=∀(j:Nat) (a:Be),l[j]?=some a->ns[k+j]?=some a
theorem Zr.head {ns k a l} (h:Zr ns k (a::l)):ns[k]?=some a:=h 0 a rfl
theorem Zr.tail {ns k a l} (h:Zr ns k (a::l)):Zr ns (k+1) l:=fun j b hb=>by
 have:=h (j+1) b (by simpa using hb);rwa [show k+1+j=k+(j+1) by omega]
theorem Zr.left {ns k l l'} (h:Zr ns k (l++l')):Zr ns k l:=fun j b hb=>h j b (by
 rw [Yf (Yc.1 hb).1];exact hb)
theorem Zr.right {ns k l l'} (h:Zr ns k (l++l')):Zr ns (k+l.length) l':=fun j b hb=>by
 have:=h (l.length+j) b (by rw [Yg (by omega),Nat.add_sub_cancel_left];exact hb);rwa [show k+l.length+j=k+(l.length+j) by omega]
theorem Zr.self (l:List Be):Zr l 0 l:=fun j a h=>by rw [Yi];exact h
theorem Zt (ns:List Be):∀(l:List Bs) (k:Nat),l≠[]->Zr ns k (Ck k l)->KT ns l (k+1)
 | [],_,h,_=>absurd rfl h
 | [s],k,_,h=>⟨k,_,rfl,h.head,rfl,rfl,rfl⟩
 | s::t::l,k,_,h=>⟨k,_,rfl,h.head,rfl,rfl,Zt ns (t::l) (k+1) (by simp) h.tail⟩
theorem jN (v:Bz) (k:Nat):No (Df v k) 0=Df v k:=by
 obtain⟨a,l,h,h0⟩:=Hc v k;rw [h];cases a;simp only at h0;simp [No,h0]
mutual
def Pn:Bz->Prop
 | .sc _ _=>True
 | .arr vs=>Ud vs
 | .tbl es=>Nn es
def Ud:List Bz->Prop
 | []=>True
 | v::vs=>Pn v/\Ud vs
def Nn:List (List Bs×Bz)->Prop
 | []=>True
 | (ks,v)::es=>ks≠[]/\Pn v/\Nn es
end
theorem Zk (ks:List Bs) (x:Nat->List Be) (k n:Nat):No (He ks x k) n=⟨5,none,n,k+ks.length+2⟩::(Ck (k+1) ks++No (x (k+1+ks.length)) (k+2)):=rfl
mutual
theorem eW (ns:List Be):∀(v:Bz) (k n:Nat),Pn v->Zr ns k (No (Df v k) n)->NT ns v k/\∃a,ns[k]?=some a/\a.next=n
 | .sc kind text,k,n,_,h=>by
  simp only [Df,No] at h;exact⟨⟨_,h.head,rfl,rfl⟩,⟨_,h.head,rfl⟩⟩
 | .arr vs,k,n,hk,h=>by
  simp only [Df,No] at h;exact⟨⟨_,h.head,rfl,NTs_of ns vs (k+1) (by simpa [Pn] using hk) h.tail⟩,⟨_,h.head,rfl⟩⟩
 | .tbl es,k,n,hk,h=>by
  simp only [Df,No] at h;exact⟨⟨_,h.head,rfl,NEs_of ns es (k+1) (by simpa [Pn] using hk) h.tail⟩,⟨_,h.head,rfl⟩⟩
theorem NTs_of (ns:List Be):∀(vs:List Bz) (k:Nat),Ud vs->Zr ns k (Cq k (Eb vs))->NTs ns vs (if vs.isEmpty then 0 else k+1)
 | [],_,_,_=>rfl
 | [v],k,hk,h=>by
  simp only [Eb,Cq] at h;rw [<-jN] at h;obtain⟨h1,a,h2,h3⟩:=eW ns v k 0 hk.1 h;exact⟨k,a,rfl,h2,h1,h3⟩
 | v::u::vs,k,hk,h=>by
  simp only [Eb,Cq] at h;obtain⟨h1,a,h2,h3⟩:=eW ns v k _ hk.1 h.left;have h4:=h.right;rw [Gp] at h4;have h5:=NTs_of ns (u::vs) (k+(Df v k).length) hk.2 (by simpa only [Eb] using h4);exact⟨k,a,rfl,h2,h1,by rw [h3];exact h5⟩
theorem NEs_of (ns:List Be):∀(es:List (List Bs×Bz)) (k:Nat),Nn es->Zr ns k (Cq k (Dx es))->NEs ns es (if es.isEmpty then 0 else k+1)
 | [],_,_,_=>rfl
 | [(ks,v)],k,hk,h=>by
  simp only [Dx,Cq,He] at h;have h4:=h.tail.right;rw [Cf] at h4;obtain⟨h1,a,h2,h3⟩:=eW ns v (k+1+ks.length) _ hk.2.1 h4;have h5:=Zt ns ks (k+1) hk.1 h.tail.left;exact⟨k,_,k+1+ks.length,a,rfl,h.head,rfl,by simp only;omega,h2,h1,by rw [h3];exact h5,rfl⟩
 | (ks,v)::e::es,k,hk,h=>by
  have e1:Dx ((ks,v)::e::es)=He ks (Df v)::Dx (e::es):=rfl;have e2:Cq k (He ks (Df v)::Dx (e::es))=No (He ks (Df v) k) (k+(He ks (Df v) k).length+1)++Cq (k+(He ks (Df v) k).length) (Dx (e::es)):=rfl;rw [e1,e2] at h;have h6:=h.right;rw [Gp] at h6;have h7:=NEs_of ns (e::es) _ hk.2.2 h6;have h8:=h.left;rw [Zk] at h8;have h4:=h8.tail.right;rw [Cf] at h4;obtain⟨h1,a,h2,h3⟩:=eW ns v (k+1+ks.length) _ hk.2.1 h4;have h5:=Zt ns ks (k+1) hk.1 h8.tail.left;exact⟨k,_,k+1+ks.length,a,rfl,h8.head,rfl,by simp only;omega,h2,h1,by rw [h3];exact h5,h7⟩
end
def Wn (N:Nat) (l:List Be):Prop:=∀a∈l,a.kind≠0/\a.kind<=100/\a.next<=N/\a.child<=N
theorem Wn.mono {N N' l} (h:Wn N l) (hN:N<=N'):Wn N' l:=fun a ha=>let ⟨h1,h2,h3,h4⟩:=h a ha;⟨h1,h2,by omega,by omega⟩
theorem Wn.app {N l l'} (h:Wn N l) (h':Wn N l'):Wn N (l++l'):=fun a ha=>(List.mem_append.1 ha).elim (h a) (h' a)
theorem Wn.cons {N a l} (h1:a.kind≠0) (h2:a.kind<=100) (h3:a.next<=N) (h4:a.child<=N) (h:Wn N l):Wn N (a::l):=fun b hb=>by
 rcases List.mem_cons.1 hb with rfl|hb
 ·exact⟨h1,h2,h3,h4⟩
 ·exact h b hb
theorem Wn.setN {N l n} (h:Wn N l) (hn:n<=N):Wn N (No l n):=by
 cases l with
 | nil=>exact h
 | cons a l=>
  obtain⟨h1,h2,h3,h4⟩:=h a (by simp);exact Wn.cons h1 h2 hn h4 (fun b hb=>h b (by simp [hb]))
theorem Wn.nil (N:Nat):Wn N []:=fun a ha=>by simp at ha
theorem Iw:∀(l:List Bs) (k N:Nat),k+l.length<=N->Wn N (Ck k l)
 | [],_,_,_=>Wn.nil _
 | [s],k,N,_=>Wn.cons (by simp) (by simp) O O (Wn.nil _)
 | s::t::l,k,N,h=>Wn.cons (by simp) (by simp) (by simp at h ⊢;omega) O (Iw (t::l) (k+1) N (by simp at h ⊢;omega))
theorem Ny (k:Nat):Db k≠0/\Db k<=100:=by
 unfold Db;split<;>decide
mutual
theorem Rj:∀(v:Bz) (k:Nat),Wn (k+(Df v k).length) (Df v k)
 | .sc kind text,k=>by
  rw [Df];exact Wn.cons (Ny kind).1 (Ny kind).2 O O (Wn.nil _)
 | .arr vs,k=>by
  rw [Df];refine Wn.cons (by simp) (by simp) O ?_ ((encIs_wn vs (k+1)).mono (by simp only [Ya];omega));simp only [Ya];cases vs with
  | nil=>simp
  | cons v vs=>
   simp only [List.isEmpty_cons,Bool.false_eq_true,if_false,Eb];have:=Kg (Df v::Eb vs) (k+1) (by simp) (Df v) (by simp);obtain⟨a,l,h,_⟩:=Hc v (k+1);rw [h] at this;simp only [Ya] at this;omega
 | .tbl es,k=>by
  rw [Df];refine Wn.cons (by simp) (by simp) O ?_ ((encEs_wn es (k+1)).mono (by simp only [Ya];omega));simp only [Ya];cases es with
  | nil=>simp
  | cons e es=>
   obtain⟨ks,v⟩:=e;simp only [List.isEmpty_cons,Bool.false_eq_true,if_false,Dx];have:=Kg (He ks (Df v)::Dx es) (k+1) (by simp) (He ks (Df v)) (by simp);rw [Fi] at this;omega
theorem encIs_wn:∀(vs:List Bz) (k:Nat),Wn (k+(Cq k (Eb vs)).length) (Cq k (Eb vs))
 | [],_=>Wn.nil _
 | [v],k=>by
  simp only [Eb,Cq];exact Rj v k
 | v::u::vs,k=>by
  have h1:=Rj v k;have h2:=encIs_wn (u::vs) (k+(Df v k).length);have h3:=Ix k (Df v) (Eb (u::vs));simp only [Eb] at h2 h3 ⊢;have h4:=Kg (Df u::Eb vs) (k+(Df v k).length) (by simp) (Df u) (by simp);obtain⟨a,l,h,_⟩:=Hc u (k+(Df v k).length);rw [h] at h4;simp only [Ya] at h4;rw [h3];simp only [Cq];exact ((h1.mono (by omega)).setN (by omega)).app (h2.mono (by omega))
theorem encEs_wn:∀(es:List (List Bs×Bz)) (k:Nat),Wn (k+(Cq k (Dx es)).length) (Cq k (Dx es))
 | [],_=>Wn.nil _
 | [(ks,v)],k=>by
  simp only [Dx,Cq];have h1:=Rj v (k+1+ks.length);have h2:=Fi ks (Df v) k;rw [h2];obtain⟨a,l,h,_⟩:=Hc v (k+1+ks.length);have h3:0<(Df v (k+1+ks.length)).length:=(by rw [h];simp);unfold He;exact Wn.cons (by simp) (by simp) O (by simp only;omega) ((Iw ks (k+1) _ (by omega)).app ((h1.mono (by omega)).setN (by omega)))
 | (ks,v)::e::es,k=>by
  have h1:=Rj v (k+1+ks.length);have h2:=Fi ks (Df v) k;have h4:=encEs_wn (e::es) (k+(He ks (Df v) k).length);have h5:=Ix k (He ks (Df v)) (Dx (e::es));obtain⟨ks',u⟩:=e;simp only [Dx] at h4 h5 ⊢;have h6:=Kg (He ks' (Df u)::Dx es) (k+(He ks (Df v) k).length) (by simp) (He ks' (Df u)) (by simp);rw [Fi] at h6;have h7:No (He ks (Df v) k) (k+(He ks (Df v) k).length+1)=_:=Zk ks (Df v) k (k+(He ks (Df v) k).length+1);rw [h5];simp only [Cq];rw [h7];generalize (He ks (Df v) k).length=m at *;refine Wn.app ?_ (h4.mono (by omega));obtain⟨a,l,h,_⟩:=Hc v (k+1+ks.length);have h3:0<(Df v (k+1+ks.length)).length:=(by rw [h];simp);exact Wn.cons (by simp) (by simp) (by simp only;omega) (by simp only;omega) ((Iw ks (k+1) _ (by omega)).app ((h1.mono (by omega)).setN (by omega)))
end
theorem VV.keys {d:Nat} {b r:Bs} {v:Bz} (h:VV d b v r):Pn v:=by
 refine VV.rec (motive_1:=fun _ _ v _ _=>Pn v) (motive_2:=fun _ _ _ vs _ _=>Ud vs) (motive_3:=fun _ _ _ es _ _=>Nn es) ?_ ?_ ?_ ?_ ?_ ?_ ?_ ?_ ?_ ?_ ?_ ?_ ?_ ?_ ?_ ?_ ?_ ?_ h;all_goals intros
 all_goals first
  | trivial
  | (simp only [Pn];assumption)
  | assumption
  | exact⟨by assumption,by assumption⟩
  | (refine⟨?_,by assumption,by assumption⟩;rename_i hk _ _ _ _;exact hk.len.2)
def KsX:Ex->Prop
 | .kv ks v=>ks≠[]/\Pn v
 | .tab ks=>ks≠[]
 | .atab ks=>ks≠[]
theorem EX.keys {b r:Bs} {x:Ex} (h:EX b x r):KsX x:=by
 cases h with
 | tab _ h=>exact h.len.2
 | atab h=>exact h.len.2
 | kv h1 h2=>exact⟨h1.len.2,h2.keys⟩
end
end Go.Proofs.YtaccphdkapmdhaaGreat
