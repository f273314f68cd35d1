/- The tracker does as a plain function on lists says. No condition. -/
import Derived.Test.YtaccphdkapmdhaaGreatR11
namespace Go.Proofs.YtaccphdkapmdhaaGreat
set_option maxRecDepth 100000
set_option maxHeartbeats 64000000
set_option linter.all false
section
attribute [local semireducible] WL WC X WD WX
theorem Tf {B t e s n m c:Nat} {v v':Value} {xs:List Value} {ad:Addr} {w w':World} (ty:TypeId) (news:List Value)
  (ht:Fx t=some (e,s)) (d:w.ownsRow B e s v n xs) (hl:news.length=m*s) (a:∀j u,news[j]?=some u->w.cell? (ad.add j)=some u) (h1:∀u∈news,Bp u=true)
  (hm:n+m<=1099511627776) (hB:B<=w.heap.size) (hr:(Builtin.append_ #[t,t] ty #[v,.slice (some ad) m c]).run PP w=.ok v' w'):Fm B [e] w w':=by
 obtain⟨i,z,hu,hi,hz,r,x,ae,h0⟩:=Ga ht;have l:∀u∈news,u.oneCell'=true:=fun u hu=>by
  have:=h1 u hu;cases u<;>first|rfl|(simp [Bp] at this)
 have p:(n+m)*i.bytes<=140737488355328:=by
  have:=Nat.mul_le_mul hm x;omega
 subst r;have Ea:∀o:Obj,Fm B [e] w (w.drew.alloc o):=fun o=>((Br w.drew o).fm (B:=B) (T:=[e]) (show B<=w.drew.heap.size from hB)).of_drew;rcases d.2 with ⟨rfl,rfl⟩|⟨g,cap,cur,rfl,y,hg,af,ag,aa,ab⟩
 ·by_cases ac:m=0
  ·subst ac;have hn:news=[]:=List.eq_nil_of_length_eq_zero (by simpa using hl);subst hn;have b:(Builtin.append_ #[t,t] ty #[.slice none 0 0,.slice (some ad) 0 c]).run PP w=.ok (.slice none 0 0) w:=by
    simp [Builtin.append_,run_underlying hu,sizeOf,typeInfo,hi,Builtin.lenOf,Builtin.firstCells,loadCells,loadCellsFrom]
   rw [b] at hr;cases hr;exact Fm.refl _ _ _
  ·have b:=run_append_nil (P:=PP) w t ty e i z hu hi hz ad m c news hl a (by omega) (by omega) (by simp only [Yi] at p;omega);rw [b] at hr;cases hr;exact Ea _
 ·by_cases f:n+m<=cap
  ·have q:n*i.size+news.length<=cur.size:=(by rw [hl,aa,<-Nat.add_mul];exact Nat.mul_le_mul_right _ f);have b:=run_append_room (P:=PP) w t ty e i hu hi g n cap cur hg ad m c news hl a l f q;rw [b] at hr;cases hr;have hS:St w g (.cells (cur.toList.take (n*i.size)++news++cur.toList.drop (n*i.size+news.length)).toArray e (0,0)) (w.setRow g (cur.toList.take (n*i.size)++news++cur.toList.drop (n*i.size+news.length)).toArray):=⟨rfl,rfl,rfl,by simp,setRow_heap w g cur _ e (0,0) hg,fun k hk=>setRow_other w g k _ hk⟩;exact hS.fm hg y (by simp [Ce]) rfl
  ·have h:∀j u,xs[j]?=some u->w.cell? ((⟨g,0,none⟩:Addr).add j)=some u:=d.cells (g:=g) rfl;have b:=run_append_grow (P:=PP) w t ty e i z hu hi hz ⟨g,0,none⟩ n cap xs d.1 h ad m c news hl a (by omega) (by omega) (growslice_fits (by omega) p);rw [b] at hr;cases hr;exact Ea _
section steps
variable {all:List Oper} {Q:Exit->Act->World->Prop} {N:Nat} {L L':Env} {o:Oper} {rest:List Oper} {w:World} {S:World->Prop}
theorem nQ {B t e s n m c:Nat} {v:Value} {xs:List Value} {ad:Addr} (news:List Value) (h:nR L o.op=some (t,v,.slice (some ad) m c))
  (ht:Fx t=some (e,s)) (d:w.ownsRow B e s v n xs) (hl:news.length=m*s) (b:∀j u,news[j]?=some u->w.cell? (ad.add j)=some u) (h1:∀u∈news,Bp u=true)
  (hm:n+m<=1099511627776) (hB:B<=w.heap.size):
  ∃v' w',(∀a,Fr N L a->(execOp a.eval o).run PP w=.ok (.value v') w')/\w'.ownsRow B e s v' (n+m) (xs++news)/\Fm B [e] w w'/\(v'=.slice none 0 0↔v=.slice none 0 0/\m=0):=by
 obtain⟨i,z,hu,hi,hz,g,k,l,h0⟩:=Ga ht;have f:∀u∈news,u.oneCell'=true:=fun u hu=>by
  have:=h1 u hu;cases u<;>first|rfl|(simp [Bp] at this)
 have p:(n+m)*i.bytes<=140737488355328:=by
  have:=Nat.mul_le_mul hm k;omega
 obtain⟨v',w',hr,h2,h3,h4⟩:=run_append_own (P:=PP) w B t o.type e i z s i.bytes hu hi hz g rfl l h0 v n xs d ad m c news hl b f (by simp only [maxLen];omega) p hB;exact⟨v',w',fun a hf=>by rw [Gi hf h];simp [hr],h2,Tf o.type news ht d hl b h1 hm hB hr,h4⟩
theorem Md {B t e s n m c:Nat} {v:Value} {xs:List Value} {ad:Addr} (news:List Value) (hg:Ez all L o=some true) (h:nR L o.op=some (t,v,.slice (some ad) m c))
  (ht:Fx t=some (e,s)) (b:w.ownsRow B e s v n xs) (hl:news.length=m*s) (a:∀j u,news[j]?=some u->w.cell? (ad.add j)=some u) (h1:∀u∈news,Bp u=true)
  (hm:n+m<=1099511627776) (hB:B<=w.heap.size)
  (k:∀v' w',w'.ownsRow B e s v' (n+m) (xs++news)->Fm B [e] w w'->(v'=.slice none 0 0↔v=.slice none 0 0/\m=0)->∃L',Cu N o v' L=some L'/\WL all Q N L' rest w'):WL all Q N L (o::rest) w:=by
 obtain⟨v',w',hr,h2,h3,h4⟩:=nQ (N:=N) news h ht b hl a h1 hm hB;obtain⟨L',hd,hk⟩:=k v' w' h2 h3 h4;exact Ca hg hr hd hk
theorem gM {B t e s n m c:Nat} {v:Value} {xs:List Value} {ad:Addr} (news:List Value) (hs:aC all (o::rest)=true) (hg:Ez all L o=some true) (h:nR L o.op=some (t,v,.slice (some ad) m c))
  (ht:Fx t=some (e,s)) (b:w.ownsRow B e s v n xs) (hl:news.length=m*s) (a:∀j u,news[j]?=some u->w.cell? (ad.add j)=some u) (h1:∀u∈news,Bp u=true)
  (hm:n+m<=1099511627776) (hB:B<=w.heap.size)
  (k:∀v' w',w'.ownsRow B e s v' (n+m) (xs++news)->Fm B [e] w w'->(v'=.slice none 0 0↔v=.slice none 0 0/\m=0)->S w'/\∃L',Cu N o v' L=some L'/\WX all Q N S L' rest w'):WX all Q N S L (o::rest) w:=by
 obtain⟨v',w',hr,h2,h3,h4⟩:=nQ (N:=N) news h ht b hl a h1 hm hB;obtain⟨hS,L',hd,hk⟩:=k v' w' h2 h3 h4;exact iU hs hg hr hS hd hk
end steps
end
section
theorem Ki:PP.underlying 23=some (.slice 5):=by kernel_rfl
theorem Xk:PP.underlying 5=some (.int .u8):=by kernel_rfl
abbrev Bm (l:Bs):Value:=.string ⟨l.toArray⟩
theorem So:∀(l:Bs),(l.map fun c=>(c.toNat:Int)).map (fun n=>UInt8.ofNat n.toNat)=l
 | []=>rfl
 | c::l=>by
  have:=So l;simp only [List.map_cons,Int.toNat_natCast,UInt8.ofNat_toNat];rw [this]
theorem RB.str {w:World} {v:Value} {l:Bs} (h:RB w v l):(convert 23 9 v).run PP w=.ok (Bm l) w:=by
 obtain⟨ad,cap,rfl,h2⟩:=h;by_cases hl:l=[]
 ·subst hl;cases ad with
  | none=>
   have:=run_convert_bytes_nil (P:=PP) w 23 5 Ki Xk 0 cap 9 Ek;exact this
  | some a=>
   rw [run_convert_bytes_string w 23 9 5 _ _ cap Ki Xk Ek];exact run_bytesToString (P:=PP) w a 0 cap [] (by simp [loadCells,loadCellsFrom])
 ·obtain⟨b,o,dc,fz,rfl,hb,hc⟩:=h2 hl;have:=run_convert_bytes_arg (P:=PP) w 23 5 Ki Xk b o l.length cap (l.map fun c=>(c.toNat:Int)) (by simp) (fun i hi=>by
   have h3:l[i]?=some l[i]:=Yd hi;have:=hc i _ h3;rw [Ar hb this];simp [List.getD,h3]) 9 Ek
  rw [this];unfold strOfNums;rw [So]
section
attribute [local semireducible] WL WC X WD WX
variable {all:List Oper} {Q:Exit->Act->World->Prop} {N:Nat} {L L':Env} {o:Oper} {rest:List Oper} {w:World}
def cbA (L:Env) (op:Op):Option Value:=
 match op with
 | .convert src dst x=>cond (Nat.beq src 23) (cond (Nat.beq dst 9) (ev L x) none) none
 | _=>none
theorem Th {v:Value} (l:Bs) (hg:Ez all L o=some true) (h:cbA L o.op=some v) (hr:RB w v l) (hd:Cu N o (Bm l) L=some L') (k:WL all Q N L' rest w):WL all Q N L (o::rest) w:=by
 refine Ca hg (fun a hf=>?_) hd k;obtain⟨dst,op,ty,Gh,after,guard⟩:=o;simp only at h;unfold cbA at h;split at h
 ·rename_i src ds x;cases h1:Nat.beq src 23 with
  | false=>simp [h1] at h
  | true=>
   cases h2:Nat.beq ds 9 with
   | false=>simp [h1,h2] at h
   | true=>
    simp only [h1,h2,cond_true] at h;have e1:src=23:=(by simpa using h1);have e2:ds=9:=(by simpa using h2);subst e1 e2;simp [execOp,hf.eval h,hr.str]
 ·cases h
end
attribute [local irreducible] binOp IntKind.wrap Sem.run
theorem Ms {a b:Bs}:((⟨a.toArray⟩:ByteArray)=⟨b.toArray⟩)↔a=b:=by
 constructor
 ·intro h;have:=congrArg (fun s:ByteArray=>s.data.toList) h;simpa using this
 ·rintro rfl;rfl
theorem kJ (v u:Value) (a b:Bs) (w:World) (hv:RB w v a) (hu:RB w u b):Calls PP 108 #[v,u] w fun e w'=>e=.returned (.bool (dc (a=b)))/\w'=w:=by
 refine Bf (L:=[(0,v),(1,u)]) Tryz.func108 Z Z Z ⟨Z,Z,V⟩ ?_;repeat first|refine Aa Z ?_|apply Ab|apply Ac|refine Th a Z Z hv Z ?_
 repeat first|refine Aa Z ?_|apply Ab|refine Th b Z Z hu Z ?_|apply Ai
 refine Ak Z Z ⟨?_,rfl⟩;refine congrArg Ending.returned (congrArg Value.bool ?_);by_cases h:a=b
 ·rw [Fj h,Fj (Ms.2 h)]
 ·rw [Ew h,Ew (fun e=>h (Ms.1 e))]
theorem bdErr (s:ByteArray) (w:World):(Instr.build 155 ⟨[(0,.string s)]⟩).run PP w=.ok (.agg ⟨[.string s]⟩) w:=by kernel_rfl
def IsErr (v:Value):Prop:=∃p,v=.iface 153 p
theorem Ka (s:ByteArray) (w:World):Calls PP 52 #[.string s] w fun e w'=>∃v,e=.returned v/\IsErr v/\Up w.heap.size w w':=by
 refine Bf (L:=[(0,.string s)]) Tryz.func52 Z Z Z ⟨Z,V⟩ ?_;repeat first|refine Aa Z ?_|apply Ab|apply Ac
 refine Cx Z Z (bdErr _) Z ?_;refine Gl Z Z Z (fun w1 hA=>?_);repeat first|refine Aa Z ?_|apply Ab|apply Ai
 exact Ak Z Z ⟨_,rfl,⟨_,rfl⟩,hA.up Y⟩
structure Mb (w:World) (e:Cs) (xs:List Value) (k:Nat):Prop where
 parent:xs[k]?=some (.int .i32 e.parent)
 kind:xs[k+1]?=some (.int .u8 e.kind)
 expl:xs[k+2]?=some (.bool e.expl)
 name:∃d,xs[k+3]?=some d/\RB w d e.name
def EL (w:World) (es:List Cs) (xs:List Value):Prop:=∀(i:Nat) (e:Cs),es[i]?=some e->Mb w e xs (i*4)
theorem EL.fm {B T w w' es xs} (h:EL w es xs) (hf:Fm B T w w') (hT:5∉T):EL w' es xs:=fun i e he=>by
 obtain⟨h1,h2,h3,d,h4,h5⟩:=h i e he;exact⟨h1,h2,h3,d,h4,h5.fm hf hT⟩
def Buf (w:World) (tb cn:Nat) (rb mb:Value):Prop:=
 (cn=0/\rb=.slice none 0 0/\mb=.slice none 0 0)∨
 ∃g1 g2 n1 n2 c1 c2,rb=.slice (F g1) n1 cn/\mb=.slice (F g2) n2 cn/\tb<g1/\tb<g2/\w.heap[g1]?=some (.cells c1 4 (0,0))/\w.heap[g2]?=some (.cells c2 21 (0,0))/\c1.size=cn/\c2.size=cn
theorem Buf.fm {B T w w' tb cn rb mb} (h:Buf w tb cn rb mb) (hf:Fm B T w w') (h4:4∉T) (a:21∉T):Buf w' tb cn rb mb:=by
 rcases h with h|⟨g1,g2,n1,n2,c1,c2,h1,h2,h3,b,h5,h6,h7⟩
 ·exact .inl h
 ·exact .inr ⟨g1,g2,n1,n2,c1,c2,h1,h2,h3,b,hf.keep _ _ h5 h4,hf.keep _ _ h6 a,h7⟩
def TS (w:World) (tb:Nat) (t:Ju):Prop:=
 ∃ev xs rb mb cn,w.heap[tb]?=some (.cells ⟨[ev,.int .i32 (t.cur:Int),rb,mb]⟩ 59 (0,0))/\w.ownsRow (tb+1) 145 4 ev t.ents.length xs/\EL w t.ents xs/\Buf w tb cn rb mb
theorem Vh {w w':World} {B e s n:Nat} {v:Value} {xs:List Value} {C:Nat} {T:List Nat} (h:w.ownsRow B e s v n xs) (hf:Fm C T w w') (ht:e∉T):w'.ownsRow B e s v n xs:=by
 refine⟨h.1,?_⟩;rcases h.2 with hn|⟨g,cap,cur,rfl,hb,a,rest⟩
 ·exact .inl hn
 ·exact .inr ⟨g,cap,cur,rfl,hb,hf.keep _ _ a ht,rest⟩
theorem TS.fm {B T w w' tb t} (h:TS w tb t) (hf:Fm B T w w') (h5:5∉T) (b:59∉T) (a:145∉T) (h4:4∉T) (c:21∉T):TS w' tb t:=by
 obtain⟨ev,xs,rb,mb,cn,h1,h2,h3,h6⟩:=h;exact⟨ev,xs,rb,mb,cn,hf.keep _ _ h1 b,Vh h2 hf a,h3.fm hf h5,h6.fm hf h4 c⟩
theorem TS.sm {w w' tb t} (h:TS w tb t) (hs:Sm w w'):TS w' tb t:=h.fm (B:=0) (T:=[]) hs.fm (by simp) (by simp) (by simp) (by simp) (by simp)
theorem TS.up {w w' tb t} (h:TS w tb t) (hs:Up w.heap.size w w'):TS w' tb t:=h.fm (B:=0) (T:=[]) (hs.fm Y O) (by simp) (by simp) (by simp) (by simp) (by simp)
theorem TS.lt {w tb t} (h:TS w tb t):tb<w.heap.size:=by
 obtain⟨ev,xs,rb,mb,cn,h1,_⟩:=h;exact Ah h1
theorem TS.open {w tb t} (h:TS w tb t) (h0:0<t.ents.length):
  ∃g cap cur rb mb cn,w.heap[tb]?=some (.cells ⟨[.slice (F g) t.ents.length cap,.int .i32 (t.cur:Int),rb,mb]⟩ 59 (0,0))/\tb<g/\w.heap[g]?=some (.cells cur 145 (0,0))/\
   t.ents.length<=cap/\cap<=maxLen/\cur.size=cap*4/\EL w t.ents cur.toList/\Buf w tb cn rb mb:=by
 obtain⟨ev,xs,rb,mb,cn,h1,h2,h3,h4⟩:=h;rcases h2.2 with ⟨_,hn⟩|⟨g,cap,cur,rfl,hb,hg,hc,hm,hs,ht⟩
 ·omega
 ·refine⟨g,cap,cur,rb,mb,cn,h1,hb,hg,hc,hm,hs,fun i e he=>?_,h4⟩;have e1:cur.toList=xs++cur.toList.drop (t.ents.length*4):=(by rw [<-ht,List.take_append_drop]);rw [e1];obtain⟨q1,q2,q3,d,q4,q5⟩:=h3 i e he;have key:∀(j:Nat) (v:Value),xs[j]?=some v->(xs++cur.toList.drop (t.ents.length*4))[j]?=some v:=fun j v hj=>by
   rw [Yf (Yc.1 hj).1];exact hj
  exact⟨key _ _ q1,key _ _ q2,key _ _ q3,d,key _ _ q4,q5⟩
def Fo:Option Nat->Int
 | some i=>(i:Int)
 | none=>-1
theorem Wa (tb p:Nat) (v:Value) (k:Bs) (t:Ju) (w:World) (hT:TS w tb t) (hv:RB w v k) (hp:p<t.ents.length) (hm:t.ents.length<=1000000000):
  Calls PP 85 #[.pointer (F tb),.int .i32 (p:Int),v] w fun e w'=>e=.returned (.int .i32 (Fo (Du t.ents p k)))/\w'=w:=by
 obtain⟨g,cap,cur,rb,mb,cn,hb,hg,f,l,n,o,hN,hB⟩:=hT.open (by omega);refine Bf (L:=[(0,.pointer (F tb)),(1,.int .i32 (p:Int)),(2,v)]) Tryz.func85 Z Z Z ⟨Z,Z,Z,V⟩ ?_;repeat first|refine Aa Z ?_|apply Ab|apply Ac|apply Ad|apply Ag|refine Ay Z Z (by omega) Z ?_|refine Ff Z Z (Ei (by omega)) Z ?_
 refine Bg (σ:=Nat) (I:=fun i w'=>w'=w/\i<=t.ents.length/\Dv p k (t.ents.drop i) i=Du t.ents p k) (m:=fun i=>t.ents.length-i) (Lf:=fun i=>[(0,.pointer (F tb)),(1,.int .i32 (p:Int)),(2,v),(7,.int .i64 (i:Int))])
  (p+1) ⟨rfl,by omega,rfl⟩ ⟨Z,Z,Z,Z,V⟩ ?_
 rintro i w1 ⟨rfl,hi,a⟩;by_cases h:i<t.ents.length
 ·obtain⟨e,he⟩:∃e,t.ents[i]?=some e:=⟨_,Yd h⟩;have j:t.ents.drop i=e::t.ents.drop (i+1):=by
   rw [Yc] at he;obtain⟨_,rfl⟩:=he;exact List.drop_eq_getElem_cons h
  rw [j] at a;simp only [Dv] at a;obtain⟨q1,q2,q3,d,q4,q5⟩:=hN i e he;have c0:w1.cell? ⟨g,i*4,none⟩=some (.int .i32 e.parent):=Ar f (by simpa using q1);have c1:w1.cell? ⟨g,i*4+1,none⟩=some (.int .u8 e.kind):=Ar f (by simpa using q2);have c3:w1.cell? ⟨g,i*4+3,none⟩=some d:=Ar f (by simpa using q4);(repeat first|refine Aa Z ?_|apply Ab|apply Ac|refine Ao Z (by first|omega|decide) ?_|refine Av (b:=tb) (i:=0) Z Z hb Z Z ?_|refine Ax (i:=i) Z Z Z (by omega) (by rw [Yi];rfl) ?_|refine Aw Z Z c0 Z ?_|apply Ad|apply Ag|apply An|apply Af);by_cases h1:e.parent=(p:Int)
  ·(repeat first|refine Aa Z ?_|refine Aw Z Z c1 Z ?_|refine Au Z ?_|refine Bc Z Z (by first|omega|decide) ?_);by_cases h2:e.kind=5
   ·have c:e.is p k=false:=(by simp [Cs.is,h2]);rw [c] at a;(repeat first|refine Aa Z ?_|apply Ab|refine Bb Z (by first|with_reducible rfl|exact Bool.not_true) ?_|refine Au Z ?_|apply Am|apply Aq|apply An|apply Bj|apply Af|refine Ay Z Z (by omega) Z ?_|refine Az Z Z (by first|omega|decide) ?_);exact Ap (i+1) ⟨rfl,by omega,a⟩ (by omega) ⟨Z,Z,Z,Z,V⟩
   ·(repeat first|refine Aw Z Z c3 Z ?_|refine Au Z ?_|refine Bc Z Z (by first|omega|decide) ?_);refine Ae Z Z Z (kJ d v e.name k w1 q5 hv) ?_;rintro _ w2 ⟨rfl,rfl⟩;by_cases h3:e.name=k
    ·have c:e.is p k=true:=(by simp [Cs.is,h1,h2,h3]);rw [c] at a;rw [Fj h3];refine T2 Z Z ?_;(repeat first|refine Aa Z ?_|apply Ab|apply Ac|refine Bn Z (by first|with_reducible rfl|exact Bool.not_false) ?_|refine Au Z ?_|apply Bl|apply Bv|apply Ai|refine Ff Z Z (Gu (by omega)) Z ?_);refine Ak Z Z ⟨?_,rfl⟩;rw [<-a];rfl
    ·have c:e.is p k=false:=(by simp [Cs.is,h3]);rw [c] at a;rw [Ew h3];refine T2 Z Z ?_;(repeat first|refine Aa Z ?_|apply Ab|refine Bb Z (by first|with_reducible rfl|exact Bool.not_true) ?_|refine Au Z ?_|apply Am|apply Aq|apply An|apply Bj|apply Af|refine Ay Z Z (by omega) Z ?_);exact Ap (i+1) ⟨rfl,by omega,a⟩ (by omega) ⟨Z,Z,Z,Z,V⟩
  ·have c:e.is p k=false:=(by simp [Cs.is,h1]);rw [c] at a;(repeat first|refine Aa Z ?_|apply Ab|refine Bb Z (by first|with_reducible rfl|exact Bool.not_true) ?_|refine Au Z ?_|apply Am|apply Aq|apply An|apply Bj|apply Af|refine Ay Z Z (by omega) Z ?_|refine Az Z Z (by first|omega|decide) ?_);exact Ap (i+1) ⟨rfl,by omega,a⟩ (by omega) ⟨Z,Z,Z,Z,V⟩
 ·have q:i=t.ents.length:=(by omega);rw [List.drop_eq_nil_of_le (by omega)] at a;simp only [Dv] at a;(repeat first|refine Aa Z ?_|apply Ab|apply Ac|refine Aj Z (by first|omega|decide) ?_|refine Av (b:=tb) (i:=0) Z Z hb Z Z ?_|apply Ad|apply An|apply Cn|apply Ci|apply Ba|apply Ai);refine Ak Z Z ⟨?_,rfl⟩;rw [<-a];rfl
theorem bdEnt (p k:Int) (x:Bool) (d:Option Addr) (n c:Nat) (w:World):(Instr.build 145 ⟨[(0,.int .i32 p),(1,.int .u8 k),(2,.bool x),(3,.slice d n c)]⟩).run PP w=.ok (.agg ⟨[.int .i32 p,.int .u8 k,.bool x,.slice d n c]⟩) w:=by kernel_rfl
theorem bdEnt2 (p k:Int) (w:World):(Instr.build 145 ⟨[(0,.int .i32 p),(1,.int .u8 k)]⟩).run PP w=.ok (.agg ⟨[.int .i32 p,.int .u8 k,.bool false,.slice none 0 0]⟩) w:=by kernel_rfl
theorem bsEnt (a b c d:Value) (w:World):(Instr.buildSlice 55 1 ⟨[(0,.agg ⟨[a,b,c,d]⟩)]⟩).run PP w=.ok (.slice (F w.heap.size) 1 1) (w.alloc (.cells ⟨[a,b,c,d]⟩ 145 (0,0))):=by kernel_rfl
theorem EL.snoc {w es xs e ys} (h:EL w es xs) (hl:xs.length=es.length*4) (hn:Mb w e ys 0):EL w (es++[e]) (xs++ys):=by
 intro i m hm;by_cases hi:i<es.length
 ·rw [Yf hi] at hm;obtain⟨q1,q2,q3,d,q4,q5⟩:=h i m hm;have key:∀(j:Nat) (v:Value),xs[j]?=some v->(xs++ys)[j]?=some v:=fun j v hj=>by
   rw [Yf (Yc.1 hj).1];exact hj
  exact⟨key _ _ q1,key _ _ q2,key _ _ q3,d,key _ _ q4,q5⟩
 ·have a:i=es.length:=by
   have:=(Yc.1 hm).1;simp at this;omega
  subst a;rw [Yg Y,Nat.sub_self] at hm;simp only [List.getElem?_cons_zero,Yb] at hm;subst hm;have key:∀(j:Nat) (v:Value),ys[0+j]?=some v->(xs++ys)[es.length*4+j]?=some v:=fun j v hj=>by
   rw [Yi] at hj;rw [Yg (by omega),hl,Nat.add_sub_cancel_left];exact hj
  obtain⟨q1,q2,q3,d,q4,q5⟩:=hn;exact⟨key 0 _ q1,key 1 _ q2,key 2 _ q3,d,key 3 _ q4,q5⟩
theorem TS.grow {w0 w w':World} {tb:Nat} {t:Ju} {c:Nat} {e:Cs} {ev' rb mb:Value} {xs ys:List Value} {cn:Nat} {l:List Value} (hO:w.ownsRow (tb+1) 145 4 ev' (t.ents.length+1) (xs++ys)) (hE:EL w0 t.ents xs) (a:xs.length=t.ents.length*4) (hn:Mb w0 e ys 0)
  (hB:Buf w tb cn rb mb) (hu:Fm 0 [59,145] w0 w) (b:w.heap[tb]?=some (.cells ⟨l⟩ 59 (0,0))) (hS:St w tb (.cells ⟨[ev',.int .i32 (c:Int),rb,mb]⟩ 59 (0,0)) w'):TS w' tb ⟨t.ents++[e],c⟩:=by
 have hf:Fm 0 [59] w w':=hS.fm b O (by simp [Ce]) rfl;refine⟨ev',xs++ys,rb,mb,cn,hS.at_,?_,?_,hB.fm hf (by simp) (by simp)⟩
 ·simp only [Ye,List.length_singleton];exact Vh hO hf (by simp)
 ·exact ((hE.snoc a hn).fm hu (by simp)).fm hf (by simp)
theorem Ir (tb p kd:Nat) (x:Bool) (v:Value) (k:Bs) (t:Ju) (w:World) (hT:TS w tb t) (hv:RB w v k) (hk:kd<=5) (hp:p<=1000000000) (hm:t.ents.length<=1000000000):
  Calls PP 86 #[.pointer (F tb),.int .i32 (p:Int),v,.int .u8 (kd:Int),.bool x] w fun e w'=>e=.returned (.int .i32 (t.ents.length:Int))/\TS w' tb ⟨t.ents++[⟨p,kd,x,k⟩],t.cur⟩/\Fm tb [59,145] w w':=by
 obtain⟨ev,xs,rb,mb,cn,h1,h2,h3,h4⟩:=hT;obtain⟨ad,cap,rfl⟩:∃ad cap,ev=.slice ad t.ents.length cap:=by
  rcases h2.2 with ⟨rfl,hn⟩|⟨g,cap,cur,rfl,_⟩
  ·exact⟨none,0,by rw [hn]⟩
  ·exact⟨_,_,rfl⟩
 have z:=Ah h1;have r:=hv;obtain⟨dad,dcap,rfl,-⟩:=hv;refine Bf (L:=[(0,.pointer (F tb)),(1,.int .i32 (p:Int)),(2,.slice dad k.length dcap),(3,.int .u8 (kd:Int)),(4,.bool x)]) Tryz.func86 Z Z Z ⟨Z,Z,Z,Z,Z,V⟩ ?_;repeat first|refine Aa Z ?_|apply Ab|apply Ac|refine Av (b:=tb) (i:=0) Z Z h1 Z Z ?_|refine Ff Z Z (Gu (by omega)) Z ?_
 refine Cx Z Z (bdEnt _ _ _ _ _ _) Z ?_;refine Ec Z Z (bsEnt _ _ _ _) Z (fun w1 hA=>?_);have s:=hA.keep h1;have y:w1.ownsRow (tb+1) 145 4 (.slice ad t.ents.length cap) t.ents.length xs:=Bi h2 (fun k o _ h=>hA.keep h);have a:Fm tb [59,145] w w1:=hA.fm (by omega);refine Md (m:=1) [.int .i32 (p:Int),.int .u8 (kd:Int),.bool x,.slice dad k.length dcap] Z Z (rfl:Fx 55=some (145,4)) y Z (fun j u hu=>?_) (fun u hu=>?_) (by omega) (by rw [hA.size];omega) (fun v' w2 f l _=>?_)
 ·rw [Dw];exact Ar hA.at_ (by simpa using hu)
 ·simp only [List.mem_cons,List.not_mem_nil,or_false] at hu;rcases hu with rfl|rfl|rfl|rfl<;>rfl
 have c:w2.heap[tb]?=some (.cells ⟨[.slice ad t.ents.length cap,.int .i32 (t.cur:Int),rb,mb]⟩ 59 (0,0)):=l.keep _ _ s (by simp [Ce]);have n:Bp v'=true:=by
  rcases f.2 with ⟨rfl,_⟩|⟨g,cap,cur,rfl,_⟩<;>rfl
 have d:Fm tb [59,145] w1 w2:=l.mono (by omega) (by simp);refine⟨_,rfl,?_⟩;repeat (refine Aa Z ?_)
 refine Bk Z Z n c Z Z (fun w3 q=>?_);repeat first|refine Aa Z ?_|apply Ab|apply Ac|apply Ai
 refine Ak Z Z ⟨rfl,?_,(a.trans d).trans (q.fm c Y (by simp [Ce]) rfl)⟩;exact TS.grow (w0:=w) f h3 h2.1 ⟨rfl,rfl,rfl,_,rfl,r⟩ (h4.fm (a.trans d) (by simp) (by simp)) ((a.trans d).mono O (fun _ h=>h)) c q
end
end Go.Proofs.YtaccphdkapmdhaaGreat
