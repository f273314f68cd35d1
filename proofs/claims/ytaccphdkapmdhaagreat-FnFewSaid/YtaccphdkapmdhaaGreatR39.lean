/- The reference's reader takes nothing that the grammar does not. No condition. -/
import Derived.Test.YtaccphdkapmdhaaGreatR34
import Derived.Test.YtaccphdkapmdhaaGreatR31
namespace Go.Proofs.YtaccphdkapmdhaaGreat
set_option maxRecDepth 100000
set_option maxHeartbeats 64000000
set_option linter.all false
section
attribute [local irreducible] binOp IntKind.wrap Sem.run
def RT (B:Nat) (w:World) (v:Value) (l:Bs):Prop:=∃ad cap,v=.slice ad l.length cap/\l.length<=cap/\(l≠[]->∃b o dc e fz,ad=some ⟨b,o,none⟩/\w.heap[b]?=some (.cells dc e fz)/\BA dc o l/\b<B)
theorem RT.old {B T w w' v l} (h:RT B w v l) (hf:Fm B T w w'):RT B w' v l:=by
 obtain⟨ad,cap,h1,h0,h2⟩:=h;refine⟨ad,cap,h1,h0,fun hl=>?_⟩;obtain⟨b,o,dc,e,fz,h3,h4,h5,h6⟩:=h2 hl;exact⟨b,o,dc,e,fz,h3,(hf.old b h6).trans h4,h5,h6⟩
def PB (w:World) (pp:Nat) (b:Bs) (at' st:Nat):Prop:=∃v,w.heap[pp]?=some (.cells ⟨[v,.int .i64 (at':Int),.int .i64 (st:Int)]⟩ 120 (0,0))/\RT pp w v b
theorem PB.sm {w w' pp b a st} (h:PB w pp b a st) (hs:Sm w w'):PB w' pp b a st:=by
 obtain⟨v,h1,h2⟩:=h;exact⟨v,hs.at h1,h2.old (hs.fm (T:=[]))⟩
theorem PB.up {w w' pp b a st} (h:PB w pp b a st) (hu:Up w.heap.size w w'):PB w' pp b a st:=by
 obtain⟨v,h1,h2⟩:=h;have hl:=Ah h1;exact⟨v,hu.at hl h1,h2.old (hu.fm (T:=[]) Y (Nat.le_of_lt hl))⟩
theorem PB.lt {w pp b a st} (h:PB w pp b a st):pp<w.heap.size:=by
 obtain⟨v,h1,h2⟩:=h;exact Ah h1
theorem Cj (pp:Nat) (b:Bs) (a st n:Nat) (w:World) (hS:PB w pp b a st) (ha:a<=1000000000) (hn:n<=1000000000) (hb:b.length<=1000000000):
  Calls PP 60 #[pt pp,.int .i64 (n:Int)] w fun e w'=>e=.returned (u8 (pk b (a+n)))/\Sm w w':=by
 obtain⟨v,h1,ad,cap,rfl,l,hc⟩:=hS;refine Bf (L:=[(0,pt pp),(1,.int .i64 (n:Int))]) Tryz.func60 Z Z Z ⟨Z,Z,V⟩ ?_;have k1:∀w':World,w'.heap=w.heap->w'.cell? ⟨pp,1,none⟩=some (.int .i64 (a:Int)):=fun w' hw=>Ar (by rw [hw];exact h1) rfl;have k0:∀w':World,w'.heap=w.heap->w'.cell? ⟨pp,0,none⟩=some (.slice ad b.length cap):=fun w' hw=>Ar (by rw [hw];exact h1) rfl;have hd:w.drew.heap=w.heap:=rfl;repeat first|refine Aa Z ?_|apply Ab|apply Ac|apply Ad
 refine Cp (fun w'=>w'.heap=w.heap) ?_;repeat first|refine Cg (by kernel_rfl) (by first|trivial|assumption) Z ?_|refine Cl (by kernel_rfl) hd Z Z k0 Z ?_|refine Cl (by kernel_rfl) hd Z Z k1 Z ?_|refine Kv (by kernel_rfl) (by first|trivial|assumption) Z Z (by omega) Z ?_
 refine Co ?_;by_cases d:a+n<b.length
 ·have h:b≠[]:=(by rintro rfl;simp at d);obtain⟨bb,o,dc,_,fz,rfl,j,k,_⟩:=hc h;have g:b[a+n]?=some b[a+n]:=Yd d;have f:pk b (a+n)=b[a+n]:=(by simp [pk,List.getD,g]);have k5:∀w':World,w'.heap=w.heap->w'.cell? ⟨bb,o+(a+n),none⟩=some (u8 b[a+n]):=fun w' hw=>Ar (by rw [hw];exact j) (k (a+n) _ g);have c:w.drew.drew.heap=w.heap:=rfl;(repeat first|refine Ao Z (by first|omega|decide) ?_|apply Ad|apply An);refine Cp (fun w'=>w'.heap=w.heap) ?_;(repeat first|refine Cg (by kernel_rfl) (by first|trivial|assumption) Z ?_|refine Cl (by kernel_rfl) c Z Z k0 Z ?_|refine Cl (by kernel_rfl) c Z Z k1 Z ?_|refine Il (i:=a+n) (by kernel_rfl) c Z Z (by omega) d (by rw [Nat.mul_one];rfl) ?_|refine Cl (by kernel_rfl) c Z Z k5 Z ?_|refine Kv (by kernel_rfl) (by first|trivial|assumption) Z Z (by omega) Z ?_);refine Co ?_;(repeat first|apply An|apply Bl|apply Ai);exact Ak Z Z ⟨by rw [f];rfl,(Sm.refl _).drew.drew⟩
 ·have f:pk b (a+n)=0:=(by simp [pk,List.getD,List.getElem?_eq_none (show b.length<=a+n by omega)]);(repeat first|refine Aa Z ?_|apply Ab|apply Ac|refine Aj Z (by first|omega|decide) ?_|apply An|apply Af|apply Ai);exact Ak Z Z ⟨by rw [f];rfl,(Sm.refl _).drew⟩
theorem Dg (pp:Nat) (b:Bs) (a st:Nat) (w:World) (hS:PB w pp b a st):
  Calls PP 63 #[pt pp] w fun e w'=>e=.returned (.tuple #[])/\PB w' pp b b.length (if st=0 then 1 else st)/\Fm pp [120] w w':=by
 obtain⟨v,h1,hv⟩:=hS;have d:=hv;obtain⟨ad,cap,rfl,g,hc⟩:=hv;refine Bf (L:=[(0,pt pp)]) Tryz.func63 Z Z Z ⟨Z,V⟩ ?_;by_cases h0:st=0
 ·subst h0;(repeat first|refine Aa Z ?_|apply Ab|apply Ac|refine Ao Z (by first|omega|decide) ?_|refine Av Z Z h1 Z Z ?_|apply Ad|apply Am);refine Bk Z Z Z h1 Z Z (fun w2 f=>?_);have h2:=f.at_;(repeat first|refine Aa Z ?_|apply Ab|refine Av Z Z h2 Z Z ?_|apply Am);refine Bk Z Z Z h2 Z Z (fun w3 c=>?_);have hF:Fm pp [120] w w3:=(f.fm h1 Y (by simp [Ce]) rfl).trans (c.fm h2 Y (by simp [Ce]) rfl);(repeat (apply Aq));exact Kt Z Z ⟨rfl,⟨_,c.at_,d.old hF⟩,hF⟩
 ·(repeat first|refine Aa Z ?_|apply Ab|apply Ac|refine Aj Z (by first|omega|decide) ?_|refine Av Z Z h1 Z Z ?_|apply Ad|apply Am|apply An|apply Af);refine Bk Z Z Z h1 Z Z (fun w3 c=>?_);have hF:Fm pp [120] w w3:=c.fm h1 Y (by simp [Ce]) rfl;(repeat (apply Aq));rw [if_neg h0];exact Kt Z Z ⟨rfl,⟨_,c.at_,d.old hF⟩,hF⟩
end
section
def RX (w:World) (v:Value) (l:Bs):Prop:=∃ad cap,v=.slice ad l.length cap/\(l≠[]->∃b o dc e fz,ad=some ⟨b,o,none⟩/\w.heap[b]?=some (.cells dc e fz)/\BA dc o l)
theorem RX.str {w:World} {v:Value} {l:Bs} (h:RX w v l):(convert 23 9 v).run PP w=.ok (Bm l) w:=by
 obtain⟨ad,cap,rfl,h2⟩:=h;by_cases hl:l=[]
 ·subst hl;cases ad with
  | none=>exact run_convert_bytes_nil (P:=PP) w 23 5 Ki Xk 0 cap 9 Ek
  | some a=>
   rw [run_convert_bytes_string w 23 9 5 _ _ cap Ki Xk Ek];exact run_bytesToString (P:=PP) w a 0 cap [] (by simp [loadCells,loadCellsFrom])
 ·obtain⟨b,o,dc,e,fz,rfl,hb,hc⟩:=h2 hl;have:=run_convert_bytes_arg (P:=PP) w 23 5 Ki Xk b o l.length cap (l.map fun c=>(c.toNat:Int)) (by simp) (fun i hi=>by
   have h3:l[i]?=some l[i]:=Yd hi;have:=hc i _ h3;rw [Ar hb this];simp [List.getD,h3]) 9 Ek
  rw [this];unfold strOfNums;rw [So]
section
attribute [local semireducible] WL WC X WD WX
variable {all:List Oper} {Q:Exit->Act->World->Prop} {N:Nat} {L L':Env} {o:Oper} {rest:List Oper} {w:World} {S:World->Prop}
theorem iN {v:Value} {l:Bs} {a:Act} (hf:Fr N L a) (h:cbA L o.op=some v) (hr:RX w v l):(execOp a.eval o).run PP w=.ok (.value (Bm l)) w:=by
 obtain⟨dst,op,ty,Gh,after,guard⟩:=o;simp only at h;unfold cbA at h;split at h
 ·rename_i src ds x;cases h1:Nat.beq src 23 with
  | false=>simp [h1] at h
  | true=>
   cases h2:Nat.beq ds 9 with
   | false=>simp [h1,h2] at h
   | true=>
    simp only [h1,h2,cond_true] at h;have e1:src=23:=(by simpa using h1);have e2:ds=9:=(by simpa using h2);subst e1 e2;simp [execOp,hf.eval h,hr.str]
 ·cases h
theorem Tg {v:Value} (l:Bs) (hg:Ez all L o=some true) (h:cbA L o.op=some v) (hr:RX w v l) (hd:Cu N o (Bm l) L=some L') (k:WL all Q N L' rest w):WL all Q N L (o::rest) w:=
 Ca hg (fun a hf=>iN hf h hr) hd k
theorem cE [De Q] {v:Value} (l:Bs) (hs:Jd all (o::rest)=true) (hS:S w) (hg:Ez all L o=some true) (h:cbA L o.op=some v) (hr:∀w',S w'->RX w' v l) (hd:Cu N o (Bm l) L=some L') (k:WX all Q N S L' rest w):WX all Q N S L (o::rest) w:=
 Uh hs hS hg (fun w' a _ hf=>iN hf h (hr w' a)) hd k
end
attribute [local irreducible] binOp IntKind.wrap Sem.run
def Ht (b:Bs) (a:Nat) (s:Bs):Prop:=(b.drop a).take s.length=s
instance (b:Bs) (a:Nat) (s:Bs):Decidable (Ht b a s):=inferInstanceAs (Decidable (_=_))
theorem Ht.le {b:Bs} {a:Nat} {s:Bs} (h:Ht b a s) (h0:s≠[]):a+s.length<=b.length:=by
 have:=congrArg List.length h;rw [List.length_take,Yh] at this;have:=List.length_pos_iff.2 h0;omega
theorem Gv (pp:Nat) (b:Bs) (a st:Nat) (w:World) (hS:PB w pp b a st):
  Calls PP 91 #[pt pp] w fun e w'=>e=.returned (.tuple #[])/\PB w' pp b b.length 2/\Fm pp [120] w w':=by
 obtain⟨v,h1,hv⟩:=hS;have f:=hv;obtain⟨ad,cap,rfl,g,hc⟩:=hv;refine Bf (L:=[(0,pt pp)]) Tryz.func91 Z Z Z ⟨Z,V⟩ ?_;repeat first|refine Aa Z ?_|apply Ac
 refine Bk Z Z Z h1 Z Z (fun w2 c=>?_);have h2:=c.at_;repeat first|refine Aa Z ?_|apply Ab|refine Av Z Z h2 Z Z ?_|apply Am
 refine Bk Z Z Z h2 Z Z (fun w3 d=>?_);have hF:Fm pp [120] w w3:=(c.fm h1 Y (by simp [Ce]) rfl).trans (d.fm h2 Y (by simp [Ce]) rfl);repeat (apply Aq)
 exact Kt Z Z ⟨rfl,⟨_,d.at_,f.old hF⟩,hF⟩
theorem Gs (pp:Nat) (b s:Bs) (a st:Nat) (w:World) (hS:PB w pp b a st) (ha:a<=1000000000) (h0:s≠[]) (hs:s.length<=1000) (hb:b.length<=1000000000):
  Calls PP 62 #[pt pp,Bm s] w fun e w'=>e=.returned (.bool (dc (Ht b a s)))/\Sm w w':=by
 obtain⟨v,h1,ad,cap,rfl,l,hc⟩:=hS;have m:0<s.length:=List.length_pos_iff.2 h0;refine Bf (L:=[(0,pt pp),(1,Bm s)]) Tryz.func62 Z Z Z ⟨Z,Z,V⟩ ?_;have k1:∀w':World,w'.heap=w.heap->w'.cell? ⟨pp,1,none⟩=some (.int .i64 (a:Int)):=fun w' hw=>Ar (by rw [hw];exact h1) rfl;have k0:∀w':World,w'.heap=w.heap->w'.cell? ⟨pp,0,none⟩=some (.slice ad b.length cap):=fun w' hw=>Ar (by rw [hw];exact h1) rfl;have hd:w.drew.heap=w.heap:=rfl;have n:((⟨s.toArray⟩:ByteArray).size:Int)=(s.length:Int):=by simp [ByteArray.size]
 repeat first|refine Aa Z ?_|apply Ab|apply Ac|apply Ad
 refine Cp (fun w'=>w'.heap=w.heap) ?_;by_cases c:a+s.length<=b.length
 ·have d:b≠[]:=(by rintro rfl;simp only [List.length_nil] at c;omega);obtain⟨bb,o,dcs,e,fz,rfl,f,g,_⟩:=hc d;have i:((b.drop a).take s.length).length=s.length:=(by rw [List.length_take,Yh];omega);(repeat first|refine Cg (by kernel_rfl) (by first|trivial|assumption) Z ?_|refine Cl (by kernel_rfl) hd Z Z k0 Z ?_|refine Cl (by kernel_rfl) hd Z Z k1 Z ?_|refine Kv (by kernel_rfl) (by first|trivial|assumption) Z Z (by omega) Z ?_|refine Xc Z Z (by omega) ?_);refine Dr s.length a (by kernel_rfl) hd Z Z (Sf.mk bb o cap) Z (by simp only [Option.getD];omega) (by omega) (fun ad'=>rfl) (fun ad' j=>?_);refine cE ((b.drop a).take s.length) (by kernel_rfl) hd Z Z (fun w' k=>⟨ad',cap-a,by rw [i],fun _=>⟨bb,o+a,dcs,e,fz,j.addr (by omega),by rw [k];exact f,(g.drop a).take _⟩⟩) Z ?_;(repeat (refine Cg (by kernel_rfl) (by first|trivial|assumption) Z ?_));refine Co ?_;(repeat first|apply An|apply Ai);refine Ak Z Z ⟨?_,(Sm.refl _).drew⟩;refine congrArg Ending.returned (congrArg Value.bool ?_);by_cases hp:Ht b a s
  ·rw [Fj hp];exact Fj (Ms.2 hp)
  ·rw [Ew hp];exact Ew (fun h=>hp (Ms.1 h))
 ·have hp:¬Ht b a s:=fun h=>c (h.le h0);(repeat first|refine Cg (by kernel_rfl) (by first|trivial|assumption) Z ?_|refine Cl (by kernel_rfl) hd Z Z k0 Z ?_|refine Cl (by kernel_rfl) hd Z Z k1 Z ?_|refine Kv (by kernel_rfl) (by first|trivial|assumption) Z Z (by omega) Z ?_|refine Ua Z Z (by omega) ?_);refine Co ?_;(repeat first|apply An|apply Ai);exact Ak Z Z ⟨by rw [Ew hp];rfl,(Sm.refl _).drew⟩
theorem Fd {b:Bs} {a:Nat} (h:pk b a≠0):a<b.length/\b.drop a=pk b a::b.drop (a+1):=by
 by_cases c:a<b.length
 ·refine⟨c,?_⟩;have hc:b[a]?=some b[a]:=Yd c;have d:pk b a=b[a]:=(by simp [pk,List.getD,hc]);rw [d];exact (List.drop_eq_getElem?_toList_append).trans (by rw [hc];rfl)
 ·exact absurd (by simp [pk,List.getD,List.getElem?_eq_none (show b.length<=a by omega)]) h
theorem pk_nws {b:Bs} {a:Nat} (h:Ji (pk b a)=false):Bd (b.drop a)=b.drop a:=by
 by_cases h0:pk b a=0
 ·by_cases c:a<b.length
  ·have hc:b[a]?=some b[a]:=Yd c;have hd:b.drop a=b[a]::b.drop (a+1):=(List.drop_eq_getElem?_toList_append).trans (by rw [hc];rfl);have d:pk b a=b[a]:=(by simp [pk,List.getD,hc]);rw [hd,Bd,if_neg (by rw [<-d,h];simp)]
  ·rw [List.drop_of_length_le (by omega)];rfl
 ·rw [(Fd h0).2,Bd,if_neg (by rw [h];simp)]
theorem Zo (k:Nat) (hk:k<=1000) (pp:Nat) (b:Bs) (a st:Nat) (w:World) (hS:PB w pp b a st) (ha:a<=b.length+k) (hb:b.length<=100000000):
  Calls PP 59 #[pt pp] w fun e w'=>∃a',e=.returned (.tuple #[])/\PB w' pp b a' st/\Fm pp [120] w w'/\b.drop a'=Bd (b.drop a)/\a<=a'/\(a<=b.length->a'<=b.length)/\a'<=b.length+k:=by
 refine Bf (L:=[(0,pt pp)]) Tryz.func59 Z Z Z ⟨Z,V⟩ ?_;repeat (apply Ag)
 refine Bg (σ:=Nat) (I:=fun a' w'=>PB w' pp b a' st/\Fm pp [120] w w'/\Bd (b.drop a')=Bd (b.drop a)/\a<=a'/\(a<=b.length->a'<=b.length)/\a'<=b.length+k) (m:=fun a'=>b.length+k-a') (Lf:=fun _=>[(0,pt pp)])
  a ⟨hS,Fm.refl _ _ _,rfl,Nat.le_refl _,fun h=>h,ha⟩ ⟨Z,V⟩ ?_
 clear hS;rintro a1 w1 ⟨hS,hF,j,h1,h2,h3⟩;repeat first|refine Aa Z ?_|apply Ac|apply Ad
 refine Ae Z Z Z (Cj pp b a1 st 0 w1 hS (by omega) (by omega) (by omega)) ?_;rintro e w2 ⟨he,f⟩;have g:=hS.sm f;rw [Nat.add_zero] at he;subst he;refine T2 Z Z ?_;obtain⟨c,hc⟩:∃c,c=pk b a1:=⟨_,rfl⟩;have step:Ji c=true->∀w' w'',PB w' pp b a1 st->Fm pp [120] w w'->(∀(v:Value),w'.heap[pp]?=some (.cells ⟨[v,.int .i64 (a1:Int),.int .i64 (st:Int)]⟩ 120 (0,0))->St w' pp (.cells ⟨[v,.int .i64 ((a1:Int)+1),.int .i64 (st:Int)]⟩ 120 (0,0)) w'')->
   (PB w'' pp b (a1+1) st/\Fm pp [120] w w''/\Bd (b.drop (a1+1))=Bd (b.drop a)/\a<=a1+1/\(a<=b.length->a1+1<=b.length)/\a1+1<=b.length+k)/\a1<b.length:=fun h w' w'' hp hf o=>by
  obtain⟨v2,q1,q2⟩:=hp;have d:=o v2 q1;have l:Fm pp [120] w' w'':=d.fm q1 Y (by simp [Ce]) rfl;obtain⟨p1,p2⟩:=Fd (b:=b) (a:=a1) (by rintro h0;rw [hc,h0] at h;simp [Ji] at h);exact⟨⟨⟨v2,d.at_,q2.old l⟩,hf.trans l,by rw [<-j,p2,Bd,if_pos (by rw [<-hc];exact h)],by omega,fun _=>by omega,by omega⟩,p1⟩
 rw [<-hc];obtain⟨v2,q1,q2⟩:=id g;by_cases n:c.toNat=32
 ·(repeat first|refine Aa Z ?_|apply Ab|refine Bn Z (by first|with_reducible rfl|exact Bool.not_false) ?_|refine Av Z Z q1 Z Z ?_|refine Au Z ?_|apply Am|apply Ag|apply An|apply Af|refine Ay Z Z (by omega) Z ?_|refine Bc Z Z (by first|omega|decide) ?_);refine Bk Z Z Z q1 Z Z (fun w3 d=>?_);obtain⟨hI,p⟩:=step (by simp [Ji,n]) w2 w3 g (hF.trans f.fm) (fun v hv=>by rw [q1] at hv;cases hv;exact d);(repeat first|apply Aq|apply Bj);exact Ap (a1+1) hI (by omega) ⟨Z,V⟩
 ·(repeat first|refine Aa Z ?_|refine Au Z ?_|refine Az Z Z (by first|omega|decide) ?_);refine Ae Z Z Z (Cj pp b a1 st 0 w2 g (by omega) (by omega) (by omega)) ?_;rintro e w3 ⟨he,i⟩;have d:=g.sm i;rw [Nat.add_zero,<-hc] at he;subst he;refine T2 Z Z ?_;obtain⟨v3,r1,r2⟩:=id d;by_cases h9:c.toNat=9
  ·(repeat first|refine Aa Z ?_|apply Ab|refine Ao Z (by first|omega|decide) ?_|refine Av Z Z r1 Z Z ?_|refine Au Z ?_|apply Am|apply Ag|apply An|apply Af|refine Ay Z Z (by omega) Z ?_);refine Bk Z Z Z r1 Z Z (fun w4 q=>?_);obtain⟨hI,p⟩:=step (by simp [Ji,h9]) w3 w4 d ((hF.trans f.fm).trans i.fm) (fun v hv=>by rw [r1] at hv;cases hv;exact q);(repeat first|apply Aq|apply Bj);exact Ap (a1+1) hI (by omega) ⟨Z,V⟩
  ·have hn:Bd (b.drop a1)=b.drop a1:=pk_nws (by rw [<-hc];simp [Ji,n,h9]);(repeat first|apply Ab|refine Aj Z (by first|omega|decide) ?_|refine Au Z ?_|apply Cn|apply Ci|apply Ba);exact Kt Z Z ⟨a1,rfl,d,(hF.trans f.fm).trans i.fm,by rw [<-j,hn],h1,h2,h3⟩
theorem Fk (pp:Nat) (b:Bs) (a st:Nat) (w:World) (hS:PB w pp b a st) (ha:a<=b.length+10) (hb:b.length<=100000000):
  Calls PP 59 #[pt pp] w fun e w'=>∃a',e=.returned (.tuple #[])/\PB w' pp b a' st/\Fm pp [120] w w'/\b.drop a'=Bd (b.drop a)/\a<=a'/\(a<=b.length->a'<=b.length)/\a'<=b.length+10:=Zo 10 (by omega) pp b a st w hS ha hb
end
section
attribute [local irreducible] binOp IntKind.wrap Sem.run
theorem Ht.cons {b:Bs} {a:Nat} {s:Bs} (h:Ht b a s):b.drop a=s++b.drop (a+s.length):=by
 have h1:=List.take_append_drop s.length (b.drop a);rw [show (b.drop a).take s.length=s from h,List.drop_drop] at h1;exact h1.symm
theorem PB.st {w w':World} {pp:Nat} {b:Bs} {a st n:Nat} {v:Value} (h1:w.heap[pp]?=some (.cells ⟨[v,.int .i64 (a:Int),.int .i64 (st:Int)]⟩ 120 (0,0))) (h2:RT pp w v b)
  (hS:St w pp (.cells ⟨[v,.int .i64 (n:Int),.int .i64 (st:Int)]⟩ 120 (0,0)) w'):PB w' pp b n st/\Fm pp [120] w w':=by
 have hF:Fm pp [120] w w':=hS.fm h1 Y (by simp [Ce]) rfl;exact⟨⟨v,hS.at_,h2.old hF⟩,hF⟩
theorem Ld (pp:Nat) (b:Bs) (a st:Nat) (w:World) (hS:PB w pp b a st) (ha:a<=b.length+10) (hb:b.length<=100000000):
  Calls PP 66 #[pt pp] w fun e w'=>∃ok a',e=.returned (.bool ok)/\PB w' pp b a' st/\Fm pp [120] w w'/\
   ((ok=true/\a<a'/\a'<=b.length/\(b.drop a=10::b.drop a'∨b.drop a=13::10::b.drop a'))∨(ok=false/\a'=a/\(∀r,b.drop a≠10::r)/\∀r,b.drop a≠13::10::r)):=by
 refine Bf (L:=[(0,pt pp)]) Tryz.func66 Z Z Z ⟨Z,V⟩ ?_;repeat first|refine Aa Z ?_|apply Ab|apply Ac|apply Ad|apply Ag
 refine Ae Z Z Z (Gs pp b [10] a st w hS (by omega) (by simp) (by simp) (by omega)) ?_;rintro e w2 ⟨rfl,c⟩;refine T2 Z Z ?_;have f:=hS.sm c;obtain⟨v2,q1,q2⟩:=id f;by_cases hp:Ht b a [10]
 ·have g:=hp.le (by simp);simp only [List.length_singleton] at g;(repeat first|refine Aa Z ?_|apply Ab|refine Ao Z (by first|omega|decide) ?_|refine Av Z Z q1 Z Z ?_|apply Am|refine Ay Z Z (by omega) Z ?_);refine Bk Z Z Z q1 Z Z (fun w3 d=>?_);obtain⟨hP,hF⟩:=PB.st (n:=a+1) q1 q2 d;(repeat first|refine Aa Z ?_|apply Ab|apply Ac|apply Aq|apply An|apply Bj|apply Ai);exact Ak Z Z ⟨true,a+1,rfl,hP,c.fm.trans hF,.inl ⟨rfl,by omega,by omega,.inl hp.cons⟩⟩
 ·(repeat first|refine Aa Z ?_|apply Ab|apply Ac|refine Aj Z (by first|omega|decide) ?_);refine Ae Z Z Z (Gs pp b [13,10] a st w2 f (by omega) (by simp) (by simp) (by omega)) ?_;rintro e w3 ⟨rfl,i⟩;refine T2 Z Z ?_;have d:=f.sm i;obtain⟨v3,r1,r2⟩:=id d;by_cases j:Ht b a [13,10]
  ·have g:=j.le (by simp);simp only [Ya,List.length_nil] at g;(repeat first|refine Aa Z ?_|apply Ab|refine Ao Z (by first|omega|decide) ?_|refine Av Z Z r1 Z Z ?_|apply Am|refine Ay Z Z (by omega) Z ?_);refine Bk Z Z Z r1 Z Z (fun w4 k=>?_);obtain⟨hP,hF⟩:=PB.st (n:=a+2) r1 r2 k;(repeat first|refine Aa Z ?_|apply Ab|apply Ac|apply Aq|apply An|apply Bj|apply Ai);exact Ak Z Z ⟨true,a+2,rfl,hP,(c.fm.trans i.fm).trans hF,.inl ⟨rfl,by omega,by omega,.inr j.cons⟩⟩
  ·(repeat first|refine Aa Z ?_|apply Ab|apply Ac|refine Aj Z (by first|omega|decide) ?_|apply Bl|apply Bv|apply Ai);refine Ak Z Z ⟨false,a,rfl,d,c.fm.trans i.fm,.inr ⟨rfl,rfl,fun r h=>hp ?_,fun r h=>j ?_⟩⟩
   ·unfold Ht;rw [h];rfl
   ·unfold Ht;rw [h];rfl
end
section
theorem jM {c:Nat} (h:Jh c) (a:128<=c) (t:Bs):Dm (Ey c++t)=(Ey c).length:=by
 obtain⟨hm,hs⟩:=h;have of:∀n:Nat,n<256->(UInt8.ofNat n).toNat=n:=fun n hn=>by rw [UInt8.toNat_ofNat'];omega
 unfold Ey;rw [if_neg (by omega)];split
 ·have e0:=of (0xC0+c/64) (by omega);have e1:=of (0x80+c%64) (by omega);simp only [List.cons_append,List.nil_append,Dm,Gj,Ku,e0,e1,Ya,List.length_nil];rw [if_neg (by simp only [decide_eq_true_eq];omega),if_neg (by omega),if_pos (by omega),if_pos (by omega)]
 ·split
  ·have e0:=of (0xE0+c/4096) (by omega);have e1:=of (0x80+c/64%64) (by omega);have e2:=of (0x80+c%64) (by omega);simp only [List.cons_append,List.nil_append,Dm,Gj,Ku,e0,e1,e2,Ya,List.length_nil];rw [if_neg (by simp only [decide_eq_true_eq];omega),if_neg (by omega),if_neg (by omega),if_pos (by omega),if_pos (by omega)]
  ·have e0:=of (0xF0+c/262144) (by omega);have e1:=of (0x80+c/4096%64) (by omega);have e2:=of (0x80+c/64%64) (by omega);have e3:=of (0x80+c%64) (by omega);simp only [List.cons_append,List.nil_append,Dm,Gj,Ku,e0,e1,e2,e3,Ya,List.length_nil];rw [if_neg (by simp only [decide_eq_true_eq];omega),if_neg (by omega),if_neg (by omega),if_neg (by omega),if_pos (by omega),if_pos (by omega)]
theorem eA (r:Int):∃c,Jh c/\Utf8.encode r=⟨(Ey c).toArray⟩:=by
 refine⟨if Utf8.valid r then r.toNat else 0xFFFD,?_,?_⟩
 ·split
  ·rename_i h;simp only [Utf8.valid,Bool.and_eq_true,Bool.or_eq_true,decide_eq_true_eq] at h;unfold Jh;omega
  ·unfold Jh;omega
 ·unfold Utf8.encode Ey;rw [show (Utf8.runeError:Nat)=0xFFFD from rfl];generalize (if Utf8.valid r then r.toNat else 0xFFFD)=c;dsimp only;by_cases h1:c<0x80
  ·rw [if_pos h1,if_pos h1]
  ·rw [if_neg h1,if_neg h1];by_cases h2:c<0x800
   ·rw [if_pos h2,if_pos h2]
   ·rw [if_neg h2,if_neg h2];by_cases h3:c<0x10000
    ·rw [if_pos h3,if_pos h3]
    ·rw [if_neg h3,if_neg h3]
end
section
section
attribute [local semireducible] WL WC X WD WX
variable {all:List Oper} {Q:Exit->Act->World->Prop} {N:Nat} {L L':Env} {o:Oper} {rest:List Oper} {w:World} {S:World->Prop}
theorem mnA_run {a b:Nat} {ac:Act} (m:Nat) (hf:Fr N L ac) (h:mnA L o.op=some ((a:Int),(b:Int))) (hm:m=min a b) (w:World):(execOp ac.eval o).run PP w=.ok (.value (.int .i64 (m:Int))) w:=by
 obtain⟨dst,op,ty,Gh,after,guard⟩:=o;simp only at h;unfold mnA at h;split at h
 ·rename_i x y t;split at h
  ·rename_i a' b' hx hy;simp only [Yb,Prod.mk.injEq] at h;obtain⟨rfl,rfl⟩:=h;have e:(if b<a then (b:Int) else (a:Int))=(m:Int):=by
    rw [hm];split<;>omega
   simp [execOp,resolve,invoke,builtin,hf.eval hx,hf.eval hy,Builtin.min_,Builtin.min2,e]
  ·cases h
 ·cases h
theorem WX.mn [De Q] {a b:Nat} (m:Nat) (hs:Jd all (o::rest)=true) (hS:S w) (hg:Ez all L o=some true) (h:mnA L o.op=some ((a:Int),(b:Int))) (hm:m=min a b) (hd:Cu N o (.int .i64 (m:Int)) L=some L') (k:WX all Q N S L' rest w):WX all Q N S L (o::rest) w:=
 Uh hs hS hg (fun w' _ _ hf=>mnA_run m hf h hm w') hd k
theorem mI {w:World} {r Gh:Nat} {s:ByteArray} (ty:TypeId) (hr:w.heap[r]?=some (.stringIter s Gh)) (hp:Gh<s.size):
  (Instr.next (.pointer (F r)) true ty).run PP w=.ok (.tuple #[.bool true,.int .i64 Gh,.int .i32 ((Utf8.decode s Gh).1:Int)]) (World.put w r (.stringIter s (Gh+(Utf8.decode s Gh).2))):=by
 simp only [Instr.next,getObj,setObj,Sem.run_bind,Sem.run,hr,Result.andThen,hp,if_true];simp [goInt,Sem.run,hr,World.put]
theorem WL.nxg {r Gh:Nat} {s:ByteArray} (hg:Ez all L o=some true) (h:nxA L o.op=some r) (hr:w.heap[r]?=some (.stringIter s Gh)) (hp:Gh<s.size)
  (hd:Cu N o (.tuple ⟨[.bool true,.int .i64 (Gh:Int),.int .i32 ((Utf8.decode s Gh).1:Int)]⟩) L=some L') (k:∀w',St w r (.stringIter s (Gh+(Utf8.decode s Gh).2)) w'->WL all Q N L' rest w'):WL all Q N L (o::rest) w:=
 Ca hg (fun a hf=>by rw [aE hf h];simp [mI o.type hr hp]) hd (k _ (fD hr))
def shA (L:Env) (op:Op):Option (ByteArray×Int):=
 match op with
 | .slice t x none (some y) none=>cond (Nat.beq t 9) (match ev L x,ev L y with
  | some (.string s),some (.int .i64 j)=>some (s,j)
  | _,_=>none) none
 | _=>none
theorem WL.sh9 {s:ByteArray} {j:Int} (n:Nat) (hg:Ez all L o=some true) (h:shA L o.op=some (s,j)) (hj:j=(n:Int)) (hn:n<=s.size) (hd:Cu N o (.string (s.extract 0 n)) L=some L') (k:WL all Q N L' rest w):WL all Q N L (o::rest) w:=by
 refine Ca hg (fun a hf=>?_) hd k;subst hj;obtain⟨dst,op,ty,Gh,after,guard⟩:=o;simp only at h;unfold shA at h;split at h
 ·rename_i t x y;cases ht:Nat.beq t 9 with
  | false=>simp [ht] at h
  | true=>
   have:t=9:=(by simpa using ht);subst this;simp only [ht,cond_true] at h;split at h
   ·rename_i s' j' hx hy;simp only [Yb,Prod.mk.injEq] at h;obtain⟨rfl,rfl⟩:=h;simp [execOp,hf.eval hx,hf.eval hy,Instr.sliceAt,Instr.slice,run_underlying Ek,Instr.sliceBounds,Instr.sliceBound,asIntOf,hn]
   ·cases h
 ·cases h
end
attribute [local irreducible] binOp IntKind.wrap Sem.run
theorem aY (l:Bs) (n:Nat):(⟨l.toArray⟩:ByteArray).extract 0 n=⟨(l.take n).toArray⟩:=by
 apply ByteArray.ext;simp [ByteArray.data_extract]
theorem Zv (c:Nat):1<=(Ey c).length/\(Ey c).length<=4:=by
 unfold Ey;split
 ·simp
 ·split
  ·simp
  ·split<;>simp
theorem Tb (r:Int) (w:World):(convert 21 9 (.int .i32 r)).run PP w=.ok (.string (Utf8.encode r)) w:=by
 have hs:(PP.underlying 21).isSome=true:=by kernel_rfl
 exact run_convert_int_string w 21 9 .i32 r hs Ek
theorem Sh (pp:Nat) (b:Bs) (a st:Nat) (w:World) (hS:PB w pp b a st) (ha:a<b.length) (hb:b.length<=100000000):
  Calls PP 97 #[pt pp] w fun e w'=>∃(n:Nat) (ok:Bool),e=.returned (.tuple #[.int .i64 (n:Int),.bool ok])/\Up w.heap.size w w'/\(ok=true->Dm (b.drop a)=n/\0<n/\a+n<=b.length)/\n<=4:=by
 refine Bf (L:=[(0,pt pp)]) Tryz.func97 Z Z Z ⟨Z,V⟩ ?_;repeat first|refine Aa Z ?_|apply Ab|apply Ac
 refine Ae Z Z Z (Cj pp b a st 0 w hS (by omega) (by omega) (by omega)) ?_;rintro e w2 ⟨he,d⟩;have y:=hS.sm d;have hc:b[a]?=some b[a]:=Yd ha;have z:pk b a=b[a]:=by simp [pk,List.getD,hc]
 have g:b.drop a=b[a]::b.drop (a+1):=(List.drop_eq_getElem?_toList_append).trans (by rw [hc];rfl);rw [Nat.add_zero,z] at he;subst he;refine T2 Z Z ?_;generalize b[a]=c at *;by_cases hp:Gj c=true
 ·have p:Dm (b.drop a)=1:=(by rw [g,Dm,if_pos hp]);simp only [Gj,decide_eq_true_eq] at hp;by_cases h9:c.toNat=9
  ·(repeat first|refine Aa Z ?_|apply Ab|apply Ac|refine Bn Z (by first|with_reducible rfl|exact Bool.not_false) ?_|refine Au Z ?_|apply Ad|apply Ag|apply Bl|apply Bv|apply Ai|refine Bc Z Z (by first|omega|decide) ?_);exact Ak Z Z ⟨1,true,rfl,d.up,fun _=>⟨p,by omega,by omega⟩,by omega⟩
  ·(repeat first|refine Aa Z ?_|apply Ab|apply Ac|refine Ao Z (by first|omega|decide) ?_|refine Au Z ?_|apply Ad|apply Ag|apply Bl|apply Bv|apply Ai|refine Bc Z Z (by first|omega|decide) ?_|refine Az Z Z (by first|omega|decide) ?_);exact Ak Z Z ⟨1,true,rfl,d.up,fun _=>⟨p,by omega,by omega⟩,by omega⟩
 ·have an:=hp;simp only [Gj,decide_eq_true_eq] at hp;by_cases q:c.toNat<128
  ·by_cases ao:c.toNat<32
   ·(repeat first|refine Aa Z ?_|apply Ab|apply Ac|refine Bb Z (by first|with_reducible rfl|exact Bool.not_true) ?_|refine Ao Z (by first|omega|decide) ?_|refine Au Z ?_|apply Ad|apply Ag|apply Bl|apply Bv|apply Ai|refine Az Z Z (by first|omega|decide) ?_);exact Ak Z Z ⟨1,false,rfl,d.up,(fun h=>by cases h),by omega⟩
   ·(repeat first|refine Aa Z ?_|apply Ab|apply Ac|refine Ao Z (by first|omega|decide) ?_|refine Aj Z (by first|omega|decide) ?_|refine Au Z ?_|apply Ad|apply Ag|apply Bl|apply Bv|apply Ai|refine Bc Z Z (by first|omega|decide) ?_|refine Az Z Z (by first|omega|decide) ?_);exact Ak Z Z ⟨1,false,rfl,d.up,(fun h=>by cases h),by omega⟩
  ·(repeat first|refine Aa Z ?_|apply Ab|apply Ac|refine Aj Z (by first|omega|decide) ?_|refine Au Z ?_|apply Ad|apply Ag|apply An|apply Bj|apply Af|refine Bc Z Z (by first|omega|decide) ?_|refine Az Z Z (by first|omega|decide) ?_);obtain⟨v2,q1,ad,cap,rfl,ap,aa⟩:=id y;have ab:b≠[]:=(by rintro rfl;simp at ha);obtain⟨bb,o,dcs,et,fz,rfl,ac,ae,_⟩:=aa ab;obtain⟨M,hM⟩:∃M,M=min b.length (a+4):=⟨_,rfl⟩;have aq:a<M:=(by omega);have ar:M<=b.length:=(by omega);have au:M<=a+4:=(by omega);have hd:w2.drew.heap=w2.heap:=rfl;have k1:∀w':World,w'.heap=w2.heap->w'.cell? ⟨pp,1,none⟩=some (.int .i64 (a:Int)):=fun w' hw=>Ar (by rw [hw];exact q1) rfl;have k0:∀w':World,w'.heap=w2.heap->w'.cell? ⟨pp,0,none⟩=some (.slice (some ⟨bb,o,none⟩) b.length cap):=fun w' hw=>Ar (by rw [hw];exact q1) rfl;have s:((b.drop a).take (M-a)).length=M-a:=(by rw [List.length_take,Yh];omega);refine Cp (fun w'=>w'.heap=w2.heap) ?_;(repeat first|refine Cg (by kernel_rfl) (by first|trivial|assumption) Z ?_|refine Cl (by kernel_rfl) hd Z Z k0 Z ?_|refine Cl (by kernel_rfl) hd Z Z k1 Z ?_|refine WX.mn (a:=b.length) (b:=a+4) M (by kernel_rfl) hd Z Z hM Z ?_|refine Kv (by kernel_rfl) (by first|trivial|assumption) Z Z (by omega) Z ?_);refine Dr (M-a) a (by kernel_rfl) hd Z Z (Sf.mk bb o cap) Z (by simp only [Option.getD];omega) (by omega) (fun ad'=>rfl) (fun ad' af=>?_);refine cE ((b.drop a).take (M-a)) (by kernel_rfl) hd Z Z (fun w' ag=>⟨ad',cap-a,by rw [s],fun _=>⟨bb,o+a,dcs,et,fz,af.addr (by omega),by rw [ag];exact ac,(ae.drop a).take _⟩⟩) Z ?_;(repeat (refine Cg (by kernel_rfl) (by first|trivial|assumption) Z ?_));refine Co ?_;(repeat first|refine Aa Z ?_|apply Ac|apply Ad|apply An);refine eO Z Z Z (fun w5 hA=>?_);have t:=hA.at_;have ah:Up w.heap.size w w5:=d.up.trans ((Sm.refl w2).drew.up.trans (hA.up (by show w.heap.size<=w2.heap.size;exact (d.up (B:=0)).size)));have u:(b.drop a).take (M-a)=c::(b.drop (a+1)).take (M-a-1):=by
    rw [g,show M-a=(M-a-1)+1 by omega,List.take_succ_cons];rfl
   obtain⟨ls,i⟩:∃ls,ls=(b.drop a).take (M-a):=⟨_,rfl⟩;rw [<-i] at s u;rw [<-i] at t ⊢;generalize ai:w2.drew.heap.size=bi at *;have aj:w.heap.size<=bi:=(by rw [<-ai];exact (d.up (B:=0)).size);clear hA;(repeat first|apply Ab|apply Ag);refine Bg (σ:=Unit) (I:=fun _ w'=>w'=w5) (m:=fun _=>0) (Lf:=fun _=>[(0,pt pp),(5,Bm ls),(47,pt bi)]) () Z ⟨Z,Z,Z,V⟩ ?_;rintro _ w6 rfl;apply Ad;apply Am;refine WL.nxg Z Z t (by show 0<ls.toArray.size;simp;omega) Z (fun w7 ak=>?_);have j:=ah.trans (ak.up aj);obtain⟨r,hr⟩:∃r:Nat,r=(Utf8.decode ⟨ls.toArray⟩ 0).1:=⟨_,rfl⟩;rw [<-hr];obtain⟨c',al,v⟩:=eA (r:Int);obtain⟨av,am⟩:=Zv c';have x:∀w':World,(convert 21 9 (.int .i32 (r:Int))).run PP w'=.ok (Bm (Ey c')) w':=fun w'=>(by rw [Tb,v]);(repeat first|refine Aa Z ?_|apply Ab|apply Ac|refine Bn Z (by first|with_reducible rfl|exact Bool.not_false) ?_|refine Nh Z Z (x _) Z ?_|apply Ad|apply Ag|apply An|apply Af);have e1:(⟨ls.toArray⟩:ByteArray).size=ls.length:=(by simp [ByteArray.size]);have e2:(⟨(Ey c').toArray⟩:ByteArray).size=(Ey c').length:=(by simp [ByteArray.size]);by_cases aw:ls.length<(Ey c').length
   ·(repeat first|refine Aa Z ?_|apply Ab|apply Ac|refine Bn Z (by first|with_reducible rfl|exact Bool.not_false) ?_|refine Au Z ?_|apply Bl|apply Bv|apply Ai|refine Bc Z Z (by first|omega|decide) ?_);exact Ak Z Z ⟨1,false,rfl,j,(fun h=>by cases h),by omega⟩
   ·(repeat first|apply Ab|refine WL.sh9 (⟨(Ey c').toArray⟩:ByteArray).size Z Z Z (by rw [e1,e2];omega) Z ?_|refine Nh Z Z (x _) Z ?_|refine Au Z ?_|refine Az Z Z (by first|omega|decide) ?_);have hx:(⟨ls.toArray⟩:ByteArray).extract 0 (⟨(Ey c').toArray⟩:ByteArray).size=⟨(ls.take (Ey c').length).toArray⟩:=(by rw [e2];exact aY _ _);rw [hx];by_cases k:ls.take (Ey c').length=Ey c'
    ·rw [k];refine Aj Z (fun h=>h rfl) ?_;(repeat first|refine Aa Z ?_|apply Ab|apply Ac|apply An|apply Bl|apply Bv|apply Af|apply Ai);have f:b.drop a=Ey c'++(b.drop a).drop (Ey c').length:=by
      have h1:=List.take_append_drop (Ey c').length (b.drop a);have h2:(b.drop a).take (Ey c').length=Ey c':=by
       have h3:=k;rw [i,List.take_take,Nat.min_eq_left (by omega)] at h3;exact h3
      rw [h2] at h1;exact h1.symm
     have l:128<=c':=by
      rcases Nat.lt_or_ge c' 128 with h|h
      ·exfalso;have hu:Ey c'=[UInt8.ofNat c']:=(by unfold Ey;rw [if_pos h]);rw [hu,g] at f;simp only [List.cons_append,List.cons.injEq] at f;rw [f.1,UInt8.toNat_ofNat'] at q;omega
      ·exact h
     refine Ak Z Z ⟨(Ey c').length,true,?_,j,(fun _=>⟨?_,by omega,by omega⟩),am⟩
     ·rw [<-e2];rfl
     ·have h3:=jM al l ((b.drop a).drop (Ey c').length);rw [<-f] at h3;exact h3
    ·refine Ao Z (fun h=>k (Ms.1 h)) ?_;(repeat first|refine Aa Z ?_|apply Ab|apply Ac|apply Bl|apply Bv|apply Ai);exact Ak Z Z ⟨1,false,rfl,j,(fun h=>by cases h),by omega⟩
end
section
attribute [local irreducible] binOp IntKind.wrap Sem.run
theorem Rl (pp:Nat) (b:Bs) (a st:Nat) (w:World) (hS:PB w pp b a st) (ha:a<=b.length+10) (hb:b.length<=100000000):
  Calls PP 65 #[pt pp] w fun e w'=>∃a' st',e=.returned (.tuple #[])/\PB w' pp b a' st'/\Fm pp [120,1001] w w'/\a<=a'/\a'<=b.length+10/\
   ((st'=st/\((pk b a≠35/\a'=a)∨(pk b a=35/\a'<=b.length/\Cm (b.drop a) (b.drop a'))))∨(st'≠0/\a'=b.length)):=by
 refine Bf (L:=[(0,pt pp)]) Tryz.func65 Z Z Z ⟨Z,V⟩ ?_;repeat first|refine Aa Z ?_|apply Ac|apply Ad
 refine Ae Z Z Z (Cj pp b a st 0 w hS (by omega) (by omega) (by omega)) ?_;rintro e w2 ⟨he,k⟩;have l:=hS.sm k;rw [Nat.add_zero] at he;subst he;refine T2 Z Z ?_;by_cases d:pk b a=35
 ·rw [d];have am:=Fd (b:=b) (a:=a) (by rw [d];decide);(repeat first|refine Aa Z ?_|apply Ab|refine Aj Z (by first|omega|decide) ?_|apply Ag|apply An|apply Af);refine Bg (σ:=Nat) (I:=fun a1 w'=>PB w' pp b a1 st/\Fm pp [120,1001] w w'/\a<=a1/\a1<=b.length/\(∀r,Cm (b.drop a1) r->Cm (b.drop a) r)) (m:=fun a1=>b.length-a1) (Lf:=fun _=>[(0,pt pp)])
   a ⟨l,k.fm,Nat.le_refl _,by omega,fun _ h=>h⟩ ⟨Z,V⟩ ?_
  clear l;rintro a1 w3 ⟨af,u,h1,h2,f⟩;obtain⟨v3,q1,v⟩:=id af;obtain⟨ad,cap,rfl,an,ao⟩:=id v;have hd:w3.drew.heap=w3.heap:=rfl;have k1:∀w':World,w'.heap=w3.heap->w'.cell? ⟨pp,1,none⟩=some (.int .i64 (a1:Int)):=fun w' hw=>Ar (by rw [hw];exact q1) rfl;have k0:∀w':World,w'.heap=w3.heap->w'.cell? ⟨pp,0,none⟩=some (.slice ad b.length cap):=fun w' hw=>Ar (by rw [hw];exact q1) rfl;have c:PB w3.drew pp b a1 st:=⟨_,q1,v.old (Fm.refl pp [] w3).drew⟩;(repeat (apply Ad));refine Cp (fun w'=>w'.heap=w3.heap) ?_;by_cases ag:a1<b.length
  ·(repeat first|refine Cg (by kernel_rfl) (by first|trivial|assumption) Z ?_|refine Cl (by kernel_rfl) hd Z Z k0 Z ?_|refine Cl (by kernel_rfl) hd Z Z k1 Z ?_|refine Xc Z Z (by omega) ?_);have ah:Fm pp [120,1001] w w3.drew:=u.drew;refine Pf (by kernel_rfl) Z Z Z (Gs pp b [10] a1 st w3.drew c (by omega) (by simp) (by simp) (by omega)) ?_;rintro e w4 ⟨rfl,g⟩;refine⟨_,_,rfl,rfl,g.heap,?_⟩;have x:w4.heap=w3.heap:=g.heap;have o:=c.sm g;have y:Fm pp [120,1001] w w4:=ah.trans g.fm;by_cases hp:Ht b a1 [10]
   ·rw [Fj hp];(repeat (refine Cg (by kernel_rfl) (by first|trivial|assumption) Z ?_));refine Co ?_;(repeat first|refine Bb Z (by first|with_reducible rfl|exact Bool.not_true) ?_|apply An|apply Cn|apply Ci|apply Ba);have hc:=hp.cons;exact Kt Z Z ⟨a1,st,rfl,o,y,h1,by omega,.inl ⟨rfl,.inr ⟨rfl,h2,f _ (by rw [hc];exact Cm.lf _)⟩⟩⟩
   ·rw [Ew hp];(repeat (refine Cg (by kernel_rfl) (by first|trivial|assumption) Z ?_));refine Pf (by kernel_rfl) Z Z Z (Gs pp b [13,10] a1 st w4 o (by omega) (by simp) (by simp) (by omega)) ?_;rintro e w5 ⟨rfl,i⟩;refine⟨_,_,rfl,rfl,i.heap.trans x,?_⟩;have ap:w5.heap=w3.heap:=i.heap.trans x;have j:=o.sm i;have z:Fm pp [120,1001] w w5:=y.trans i.fm;by_cases p:Ht b a1 [13,10]
    ·rw [Fj p];(repeat (refine Cg (by kernel_rfl) (by first|trivial|assumption) Z ?_));refine Co ?_;(repeat first|refine Bb Z (by first|with_reducible rfl|exact Bool.not_true) ?_|apply An|apply Cn|apply Ci|apply Ba);have hc:=p.cons;exact Kt Z Z ⟨a1,st,rfl,j,z,h1,by omega,.inl ⟨rfl,.inr ⟨rfl,h2,f _ (by rw [hc];exact Cm.crlf _)⟩⟩⟩
    ·rw [Ew p];(repeat (refine Cg (by kernel_rfl) (by first|trivial|assumption) Z ?_));refine Co ?_;(repeat first|refine Aa Z ?_|apply Ac|refine Bn Z (by first|with_reducible rfl|exact Bool.not_false) ?_|apply Ag|apply An|apply Af);refine Ae Z Z Z (Sh pp b a1 st w5 j ag hb) ?_;rintro e w6 ⟨n,ok,rfl,aa,ai,aq⟩;refine T2 Z Z ?_;have ab:=j.up aa;have ac:Fm pp [120,1001] w w6:=z.trans (aa.fm Y (Nat.le_of_lt j.lt));cases ok with
     | false=>
      (repeat first|refine Aa Z ?_|apply Ab|apply Ac|refine Bn Z (by first|with_reducible rfl|exact Bool.not_false) ?_|apply Ad);refine Ae Z Z Z (Dg pp b a1 st w6 ab) ?_;rintro e w7 ⟨rfl,q,s⟩;refine T2 Z Z ?_;(repeat first|apply Ab|apply Bl|apply Bv|apply Ai);exact Ak Z Z ⟨b.length,_,rfl,q,ac.trans (s.mono Y (fun t ht=>by simp only [List.mem_singleton] at ht;simp [ht])),by omega,by omega,.inr ⟨by split<;>omega,rfl⟩⟩
     | true=>
      obtain⟨aj,ak,ar⟩:=ai rfl;obtain⟨v6,r1,r2⟩:=id ab;(repeat first|refine Aa Z ?_|apply Ab|apply Ac|refine Bb Z (by first|with_reducible rfl|exact Bool.not_true) ?_|refine Av Z Z r1 Z Z ?_|apply Ad|apply Am|apply An|apply Af|refine Ay Z Z (by omega) Z ?_);refine Bk Z Z Z r1 Z Z (fun w7 q=>?_);obtain⟨hP,s⟩:=PB.st (n:=a1+n) r1 r2 q;(repeat first|apply Aq|apply Bj);exact Ap (a1+n) ⟨hP,ac.trans (s.mono Y (fun t ht=>by simp only [List.mem_singleton] at ht;simp [ht])),by omega,by omega,fun r hr=>f r (Cm.sign n aj ak (by rw [List.drop_drop];exact hr))⟩ (by omega) ⟨Z,V⟩
  ·(repeat first|refine Cg (by kernel_rfl) (by first|trivial|assumption) Z ?_|refine Cl (by kernel_rfl) hd Z Z k0 Z ?_|refine Cl (by kernel_rfl) hd Z Z k1 Z ?_|refine Ua Z Z (by omega) ?_);refine Co ?_;(repeat first|refine Bb Z (by first|with_reducible rfl|exact Bool.not_true) ?_|apply An|apply Cn|apply Ci|apply Ba);have ae:b.drop a1=[]:=List.drop_of_length_le (by omega);exact Kt Z Z ⟨a1,st,rfl,c,u.drew,h1,by omega,.inl ⟨rfl,.inr ⟨rfl,h2,f _ (by rw [ae];exact Cm.eof)⟩⟩⟩
 ·have al:¬(pk b a).toNat=35:=fun h=>d (by
   have:UInt8.ofNat (pk b a).toNat=UInt8.ofNat 35:=(by rw [h]);simpa using this)
  (repeat first|refine Aa Z ?_|apply Ab|refine Ao Z (by first|omega|decide) ?_|apply Bl|apply Ai);exact Ak Z Z ⟨a,st,rfl,l,k.fm,Nat.le_refl _,ha,.inl ⟨rfl,.inl ⟨d,rfl⟩⟩⟩
inductive Sp:Bs->Bs->Prop
 | stop {b r:Bs}:Bd b=r->r.head?≠some 35->(∀t,r≠10::t)->(∀t,r≠13::10::t)->Sp b r
 | lf {b b' r:Bs}:Bd b=10::b'->Sp b' r->Sp b r
 | crlf {b b' r:Bs}:Bd b=13::10::b'->Sp b' r->Sp b r
 | cm {b c b' r:Bs}:Bd b=35::c->Cm (35::c) b'->Sp b' r->Sp b r
theorem Nw:∀(l:Bs) {c:UInt8} {t:Bs},Bd l=c::t->Ji c=false
 | [],_,_,h=>by cases h
 | x::l,c,t,h=>by
  rw [Bd] at h;split at h
  ·exact Nw l h
  ·rename_i hx;simp only [List.cons.injEq] at h;rw [<-h.1];simpa using hx
theorem Mt {l:Bs} (h:∀c t,l=c::t->Ji c=false):Bd l=l:=by
 cases l with
 | nil=>rfl
 | cons c t=>rw [Bd,if_neg (by rw [h c t rfl];simp)]
theorem Cm.end_ {b r:Bs} (h:Cm b r):r=[]∨(∃t,r=10::t)∨∃t,r=13::10::t:=by
 induction h with
 | eof=>exact .inl rfl
 | lf r=>exact .inr (.inl ⟨_,rfl⟩)
 | crlf r=>exact .inr (.inr ⟨_,rfl⟩)
 | sign n _ _ _ ih=>exact ih
theorem Vf (pp:Nat) (b:Bs) (a st:Nat) (w:World) (hS:PB w pp b a st) (ha:a<=b.length+10) (hb:b.length<=100000000):
  Calls PP 110 #[pt pp] w fun e w'=>∃a' st',e=.returned (.tuple #[])/\PB w' pp b a' st'/\Fm pp [120,1001] w w'/\a<=a'/\a'<=b.length+10/\(st'=0->st=0/\Sp (b.drop a) (b.drop a'))/\(st≠0->st'≠0)/\(a<=b.length->a'<=b.length)/\(st=0->st'≠0->b.length<=a'):=by
 have up:∀{w1 w2:World},Fm pp [120] w1 w2->Fm pp [120,1001] w1 w2:=fun h=>h.mono Y (fun t ht=>by simp only [List.mem_singleton] at ht;simp [ht]);refine Bf (L:=[(0,pt pp)]) Tryz.func110 Z Z Z ⟨Z,V⟩ ?_;repeat (apply Ag)
 refine Bg (σ:=Nat×Nat) (I:=fun s w'=>PB w' pp b s.1 s.2/\Fm pp [120,1001] w w'/\a<=s.1/\s.1<=b.length+10/\(s.2=0->st=0/\∀r,Sp (b.drop s.1) r->Sp (b.drop a) r)/\(st≠0->s.2≠0)/\(a<=b.length->s.1<=b.length)/\(st=0->s.2≠0->b.length<=s.1)) (m:=fun s=>b.length+10-s.1) (Lf:=fun _=>[(0,pt pp)])
  (a,st) ⟨hS,Fm.refl _ _ _,Nat.le_refl _,ha,fun h=>⟨h,fun _ h=>h⟩,fun h=>h,fun h=>h,fun h h'=>absurd h h'⟩ ⟨Z,V⟩ ?_
 clear hS;rintro⟨a1,s1⟩ w1 ⟨hS,hF,h1,h2,h3,h4,h5,h6⟩;dsimp only at hS h1 h2 h3 h4 h5 h6 ⊢;repeat first|refine Aa Z ?_|apply Ac|apply Ag
 refine Ae Z Z Z (Fk pp b a1 s1 w1 hS h2 hb) ?_;rintro e w2 ⟨a2,rfl,p,u,g,g1,g2,g3⟩;refine T2 Z Z ?_;repeat first|refine Aa Z ?_|apply Ab|apply Ac
 refine Ae Z Z Z (Rl pp b a2 s1 w2 p g3 hb) ?_;rintro e w3 ⟨a3,s3,rfl,v,x,k1,k2,d⟩;refine T2 Z Z ?_;repeat first|refine Aa Z ?_|apply Ab|apply Ac
 refine Ae Z Z Z (Ld pp b a3 s3 w3 v k2 hb) ?_;rintro e w4 ⟨ok,a4,rfl,j,y,z⟩;refine T2 Z Z ?_;have k:=((hF.trans (up u)).trans x).trans (up y);have n:st≠0->s3≠0:=fun h=>by
  rcases d with ⟨q1,_⟩|⟨q1,_⟩
  ·rw [q1];exact h4 h
  ·exact q1
 have aa:a<=b.length->a3<=b.length:=fun h=>by
  have:=g2 (h5 h);rcases d with ⟨_,⟨_,q⟩|⟨_,q,_⟩⟩|⟨_,q⟩<;>omega
 have o:st=0->s3≠0->b.length<=a3:=fun h h'=>by
  rcases d with ⟨q,_⟩|⟨_,q⟩
  ·have:=h6 h (by rw [<-q];exact h');omega
  ·omega
 have good:s3=0->st=0/\∀r,Sp (b.drop a3) r->Sp (b.drop a) r:=fun h0=>by
  rcases d with ⟨q1,q2⟩|⟨q1,_⟩
  ·obtain⟨p1,p2⟩:=h3 (by rw [<-q1];exact h0);refine⟨p1,fun r hr=>p2 r ?_⟩;rcases q2 with ⟨_,rfl⟩|⟨c35,_,hc⟩
   ·
    have f:Bd (b.drop a3)=Bd (b.drop a1):=by
     rw [g];exact Mt (fun c t ab=>by
      exact Nw _ ab)
    cases hr with
    | stop e1 e2 e3 e4=>exact Sp.stop (by rw [<-f];exact e1) e2 e3 e4
    | lf e1 e2=>exact Sp.lf (by rw [<-f];exact e1) e2
    | crlf e1 e2=>exact Sp.crlf (by rw [<-f];exact e1) e2
    | cm e1 e2 e3=>exact Sp.cm (by rw [<-f];exact e1) e2 e3
   ·have i:=(Fd (b:=b) (a:=a2) (by rw [c35];decide)).2;rw [c35] at i;exact Sp.cm (by rw [<-g,i]) (by rw [<-i];exact hc) hr
  ·exact absurd h0 q1
 rcases z with ⟨rfl,l1,l2,l3⟩|⟨rfl,rfl,l3,l4⟩
 ·(repeat first|refine Aa Z ?_|apply Ab|refine Bb Z (by first|with_reducible rfl|exact Bool.not_true) ?_|apply Bj|apply Af);refine Ap (a4,s3) ⟨j,k,by dsimp only;omega,by dsimp only;omega,fun h0=>?_,n,fun h=>by dsimp only;omega,fun h h'=>by have:=o h h';dsimp only;omega⟩ (by dsimp only;omega) ⟨Z,V⟩;obtain⟨p1,p2⟩:=good h0;refine⟨p1,fun r hr=>p2 r ?_⟩;rcases l3 with l3|l3
  ·exact Sp.lf (by rw [l3];exact Mt (fun c t h=>by simp only [List.cons.injEq] at h;rw [<-h.1];rfl)) hr
  ·exact Sp.crlf (by rw [l3];exact Mt (fun c t h=>by simp only [List.cons.injEq] at h;rw [<-h.1];rfl)) hr
 ·(repeat first|refine Aa Z ?_|apply Ab|refine Bn Z (by first|with_reducible rfl|exact Bool.not_false) ?_|apply Bl|apply Bv|apply Ai);refine Ak Z Z ⟨a4,s3,rfl,j,k,by omega,k2,fun h0=>?_,n,aa,o⟩;obtain⟨p1,p2⟩:=good h0;refine⟨p1,p2 _ ?_⟩;rcases d with ⟨_,q2⟩|⟨q1,_⟩
  ·rcases q2 with ⟨ac,rfl⟩|⟨_,_,hc⟩
   ·refine Sp.stop ?_ ?_ l3 l4
    ·rw [g];exact Mt (fun c t h=>Nw _ h)
    ·intro h;refine ac ?_;cases hd:b.drop a4 with
     | nil=>rw [hd] at h;cases h
     | cons c t=>
      rw [hd] at h;simp only [List.head?_cons,Yb] at h;have h5:b[a4]?=some c:=by
       have:=congrArg (fun l=>l[0]?) hd;simpa using this
      simp [pk,List.getD,h5,h]
   ·rcases hc.end_ with h|⟨t,h⟩|⟨t,h⟩
    ·rw [h];exact Sp.stop Z (by simp) (by simp) (by simp)
    ·exact absurd h (l3 t)
    ·exact absurd h (l4 t)
  ·exact absurd h0 q1
theorem digs_pk (base:Nat) (a:base<=16) (b:Bs) (p:Nat):Fc base (b.drop p)=if Fb (pk b p)<base then Fc base (b.drop (p+1))+1 else 0:=by
 by_cases h0:pk b p=0
 ·have hz:Fb (pk b p)=99:=(by rw [h0];rfl);rw [hz,if_neg (by omega)];by_cases c:p<b.length
  ·have hc:b[p]?=some b[p]:=Yd c;have hd:b.drop p=b[p]::b.drop (p+1):=(List.drop_eq_getElem?_toList_append).trans (by rw [hc];rfl);have d:pk b p=b[p]:=(by simp [pk,List.getD,hc]);rw [hd,Fc,<-d,hz,if_neg (by omega)]
  ·rw [List.drop_of_length_le (by omega)];rfl
 ·have h1:=(Fd h0).2;rw [h1,Fc]
theorem Ok (pp:Nat) (b:Bs) (a st n base:Nat) (w:World) (hS:PB w pp b a st) (ha:a<=200000000) (hn:n<=200000000) (hb:b.length<=100000000) (i:base<=16) (l:0<base):
  Calls PP 126 #[pt pp,.int .i64 (n:Int),.int .i64 (base:Int)] w fun e w'=>e=.returned (.int .i64 (Fc base (b.drop (a+n)):Nat))/\Sm w w':=by
 refine Bf (L:=[(0,pt pp),(1,.int .i64 (n:Int)),(2,.int .i64 (base:Int))]) Tryz.func126 Z Z Z ⟨Z,Z,Z,V⟩ ?_;repeat first|refine Aa Z ?_|apply Ab|apply Ac|apply Ag
 refine Bg (σ:=Nat) (I:=fun k w'=>Sm w w'/\Fc base (b.drop (a+n))=k+Fc base (b.drop (a+n+k))/\(k=0∨a+n+k<=b.length)) (m:=fun k=>b.length-(a+n+k)) (Lf:=fun k=>[(0,pt pp),(1,.int .i64 (n:Int)),(2,.int .i64 (base:Int)),(7,.int .i64 (k:Int))])
  0 ⟨Sm.refl _,by simp,.inl rfl⟩ ⟨Z,Z,Z,Z,V⟩ ?_
 rintro k w1 ⟨j,hk,r⟩;have o:=hS.sm j;have s:k<=100000000:=by omega
 repeat first|refine Aa Z ?_|apply Ab|apply Ac|apply Ad|apply Ag|refine Ay Z Z (by omega) Z ?_
 refine Ae Z Z Z (Cj pp b a st (n+k) w1 o (by omega) (by omega) (by omega)) ?_;rintro e w2 ⟨he,p⟩;rw [show a+(n+k)=a+n+k by omega] at he;subst he;refine T2 Z Z ?_;have d:=j.trans p;have g:=digs_pk base i b (a+n+k);have q:Fb (pk b (a+n+k))<base->a+n+k<b.length:=fun h=>(Fd (b:=b) (a:=a+n+k) (by rintro h0;rw [h0] at h;have:Fb 0=99:=rfl;omega)).1;generalize pk b (a+n+k)=c at *;have fin:∀(v:Nat),Fb c=v->(v<base->Fc base (b.drop (a+n))=(k+1)+Fc base (b.drop (a+n+(k+1)))/\a+n+(k+1)<=b.length/\b.length-(a+n+(k+1))<b.length-(a+n+k))/\(¬v<base->Fc base (b.drop (a+n))=k):=fun v hv=>by
  refine⟨fun h=>?_,fun h=>?_⟩
  ·have:=q (by omega);rw [if_pos (by omega)] at g;exact⟨by rw [hk,g,show a+n+(k+1)=a+n+k+1 by omega];omega,by omega,by omega⟩
  ·rw [if_neg (by omega)] at g;rw [hk,g];omega
 by_cases r1:48<=c.toNat/\c.toNat<=57
 ·have hv:Fb c=c.toNat-48:=(by unfold Fb;rw [if_pos r1]);obtain⟨r1a,r1b⟩:=r1;obtain⟨g1,g2⟩:=fin _ hv;by_cases f:c.toNat-48<base
  ·obtain⟨p1,p2,p3⟩:=g1 f;(repeat first|refine Aa Z ?_|apply Ab|apply Ac|refine Ao Z (by first|omega|decide) ?_|refine Aj Z (by first|omega|decide) ?_|refine Oo Z Z (by omega) Z ?_|refine Au Z ?_|apply Ad|apply Am|apply Ag|apply Aq|apply An|apply Bj|apply Af|refine Ay Z Z (by omega) Z ?_|refine Bc Z Z (by first|omega|decide) ?_|refine Ff Z Z (Ei (by omega)) Z ?_);exact Ap (k+1) ⟨d,p1,.inr p2⟩ p3 ⟨Z,Z,Z,Z,V⟩
  ·have p1:=g2 f;(repeat first|refine Aa Z ?_|apply Ab|apply Ac|refine Ao Z (by first|omega|decide) ?_|refine Oo Z Z (by omega) Z ?_|refine Au Z ?_|apply Ad|apply Am|apply Ag|apply Aq|apply An|apply Bl|apply Bj|apply Bv|apply Ai|refine Bc Z Z (by first|omega|decide) ?_|refine Ff Z Z (Ei (by omega)) Z ?_);exact Ak Z Z ⟨by rw [p1];rfl,d⟩
 ·by_cases r2:97<=c.toNat/\c.toNat<=102
  ·have hv:Fb c=c.toNat-87:=(by unfold Fb;rw [if_neg r1,if_pos r2]);obtain⟨r2a,r2b⟩:=r2;obtain⟨g1,g2⟩:=fin _ hv;by_cases f:c.toNat-87<base
   ·obtain⟨p1,p2,p3⟩:=g1 f;(repeat first|refine Aa Z ?_|apply Ab|apply Ac|refine Ao Z (by first|omega|decide) ?_|refine Aj Z (by first|omega|decide) ?_|refine Oo Z Z (by omega) Z ?_|refine Au Z ?_|apply Ad|apply Am|apply Ag|apply Aq|apply An|apply Bj|apply Af|refine Ay Z Z (by omega) Z ?_|refine Bc Z Z (by first|omega|decide) ?_|refine Ff Z Z (Ei (by omega)) Z ?_);exact Ap (k+1) ⟨d,p1,.inr p2⟩ p3 ⟨Z,Z,Z,Z,V⟩
   ·have p1:=g2 f;(repeat first|refine Aa Z ?_|apply Ab|apply Ac|refine Ao Z (by first|omega|decide) ?_|refine Aj Z (by first|omega|decide) ?_|refine Oo Z Z (by omega) Z ?_|refine Au Z ?_|apply Ad|apply Am|apply Ag|apply Aq|apply An|apply Bl|apply Bj|apply Bv|apply Ai|refine Ay Z Z (by omega) Z ?_|refine Bc Z Z (by first|omega|decide) ?_|refine Ff Z Z (Ei (by omega)) Z ?_);exact Ak Z Z ⟨by rw [p1];rfl,d⟩
  ·by_cases r3:65<=c.toNat/\c.toNat<=70
   ·have hv:Fb c=c.toNat-55:=(by unfold Fb;rw [if_neg r1,if_neg r2,if_pos r3]);obtain⟨r3a,r3b⟩:=r3;by_cases r9:57<c.toNat
    ·skip;obtain⟨g1,g2⟩:=fin _ hv;by_cases f:c.toNat-55<base
     ·obtain⟨p1,p2,p3⟩:=g1 f;(repeat first|refine Aa Z ?_|apply Ab|apply Ac|refine Bb Z (by first|with_reducible rfl|exact Bool.not_true) ?_|refine Ao Z (by first|omega|decide) ?_|refine Aj Z (by first|omega|decide) ?_|refine Oo Z Z (by omega) Z ?_|refine Au Z ?_|apply Ad|apply Am|apply Ag|apply Aq|apply An|apply Bj|apply Af|refine Ay Z Z (by omega) Z ?_|refine Bc Z Z (by first|omega|decide) ?_|refine Az Z Z (by first|omega|decide) ?_|refine Ff Z Z (Ei (by omega)) Z ?_);exact Ap (k+1) ⟨d,p1,.inr p2⟩ p3 ⟨Z,Z,Z,Z,V⟩
     ·have p1:=g2 f;(repeat first|refine Aa Z ?_|apply Ab|apply Ac|refine Bb Z (by first|with_reducible rfl|exact Bool.not_true) ?_|refine Ao Z (by first|omega|decide) ?_|refine Aj Z (by first|omega|decide) ?_|refine Oo Z Z (by omega) Z ?_|refine Au Z ?_|apply Ad|apply Am|apply Ag|apply Aq|apply An|apply Bl|apply Bj|apply Bv|apply Ai|refine Ay Z Z (by omega) Z ?_|refine Bc Z Z (by first|omega|decide) ?_|refine Az Z Z (by first|omega|decide) ?_|refine Ff Z Z (Ei (by omega)) Z ?_);exact Ak Z Z ⟨by rw [p1];rfl,d⟩
    ·omega
   ·have hv:Fb c=99:=(by unfold Fb;rw [if_neg r1,if_neg r2,if_neg r3]);obtain⟨g1,g2⟩:=fin _ hv;have p1:=g2 (by omega);rcases (by omega:c.toNat<48∨(57<c.toNat/\c.toNat<65)∨(70<c.toNat/\c.toNat<97)∨102<c.toNat) with h|⟨h,h'⟩|⟨h,h'⟩|h
    ·(repeat first|refine Aa Z ?_|apply Ab|apply Ac|refine Bb Z (by first|with_reducible rfl|exact Bool.not_true) ?_|refine Ao Z (by first|omega|decide) ?_|refine Au Z ?_|apply Ad|apply Ag|apply An|apply Bl|apply Bj|apply Bv|apply Af|apply Ai|refine Az Z Z (by first|omega|decide) ?_);exact Ak Z Z ⟨by rw [p1];rfl,d⟩
    ·(repeat first|refine Aa Z ?_|apply Ab|apply Ac|refine Bb Z (by first|with_reducible rfl|exact Bool.not_true) ?_|refine Ao Z (by first|omega|decide) ?_|refine Aj Z (by first|omega|decide) ?_|refine Au Z ?_|apply Ad|apply Ag|apply An|apply Bl|apply Bj|apply Bv|apply Af|apply Ai|refine Bc Z Z (by first|omega|decide) ?_|refine Az Z Z (by first|omega|decide) ?_);exact Ak Z Z ⟨by rw [p1];rfl,d⟩
    ·(repeat first|refine Aa Z ?_|apply Ab|apply Ac|refine Bb Z (by first|with_reducible rfl|exact Bool.not_true) ?_|refine Ao Z (by first|omega|decide) ?_|refine Aj Z (by first|omega|decide) ?_|refine Au Z ?_|apply Ad|apply Ag|apply An|apply Bl|apply Bj|apply Bv|apply Af|apply Ai|refine Bc Z Z (by first|omega|decide) ?_|refine Az Z Z (by first|omega|decide) ?_);exact Ak Z Z ⟨by rw [p1];rfl,d⟩
    ·(repeat first|refine Aa Z ?_|apply Ab|apply Ac|refine Ao Z (by first|omega|decide) ?_|refine Aj Z (by first|omega|decide) ?_|refine Au Z ?_|apply Ad|apply Ag|apply An|apply Bl|apply Bj|apply Bv|apply Af|apply Ai|refine Bc Z Z (by first|omega|decide) ?_);exact Ak Z Z ⟨by rw [p1];rfl,d⟩
end
end Go.Proofs.YtaccphdkapmdhaaGreat
