/- Read, Meanings and Check answer as the grammar and the tracker say. No condition. -/
import Derived.Test.YtaccphdkapmdhaaGreatR23
import Derived.Test.YtaccphdkapmdhaaGreatR24
namespace Go.Proofs.YtaccphdkapmdhaaGreat
set_option maxRecDepth 100000
set_option maxHeartbeats 64000000
set_option linter.all false
section
section
attribute [local semireducible] WL WC X WD
variable {all:List Oper} {Q:Exit->Act->World->Prop} {N:Nat} {L L':Env} {o:Oper} {rest:List Oper} {w:World}
theorem fT (d:Nat) {t e:TypeId} (hu:PP.underlying t=some (.slice e)) (a:Option Addr) (n c n' c':Nat) (w:World):(Op.equalIn (d+1) t (.slice a n c) (.slice none n' c')).run PP w=.ok a.isNone w:=by
 cases a<;>simp only [Op.equalIn,Sem.run_bind,run_underlying hu,Result.andThen_ok,Sem.run_pure,Option.isNone]
def snA (L:Env) (op:Op):Option (Nat×Option Addr):=
 match op with
 | .binOp .eql t x y _=>match ev L x,ev L y with
  | some (.slice a _ _),some (.slice none _ _)=>some (t,a)
  | _,_=>none
 | _=>none
theorem iV {t:Nat} {a:Option Addr} (hg:Ez all L o=some true) (h:snA L o.op=some (t,a)) (ht:Vr t=true) (hd:Cu N o (.bool a.isNone) L=some L') (k:WL all Q N L' rest w):WL all Q N L (o::rest) w:=by
 refine Ca hg (fun ac hf=>?_) hd k;obtain⟨dst,op,ty,Gh,after,guard⟩:=o;simp only at h;unfold snA at h;split at h
 ·rename_i t' x y t2;split at h
  ·rename_i a' n c n' c' hx hy;simp only [Yb,Prod.mk.injEq] at h;obtain⟨rfl,rfl⟩:=h;obtain⟨e,he⟩:=aJ t' ht;have h1:(Op.equal t' (.slice a' n c) (.slice none n' c')).run PP w=.ok a'.isNone w:=by
    exact Iy (fT 9999 he a' n c n' c' w)
   have h2:(binOp .eql t' (.slice a' n c) (.slice none n' c')).run PP w=.ok (.bool a'.isNone) w:=by
    show ((do pure (.bool (<-Op.equal t' (.slice a' n c) (.slice none n' c')))):Sem Value).run PP w=_;simp only [Sem.run_bind,h1,Result.andThen_ok,Sem.run_pure]
   have h3:(eqGuard .eql t' x y (.slice a' n c) (.slice none n' c')).run PP w=.ok () w:=(by unfold eqGuard;rfl);simp only [execOp,hf.eval hx,hf.eval hy,Sem.run_bind,h3,h2,Result.andThen_ok,Sem.run_pure]
  ·cases h
 ·cases h
end
theorem bs0 (w:World):(Instr.buildSlice 23 0 ⟨[]⟩).run PP w=.ok (.slice (F w.heap.size) 0 0) (w.alloc (.cells #[] 5 (0,0))):=by kernel_rfl
attribute [local irreducible] binOp IntKind.wrap Sem.run
theorem Ob.suf {B:Nat} {w:World} {v:Value} {l:Bs} (h:Ob B w v l) (h0:l≠[]) (hl:l.length<=100000000):
  ∃bd C dc,v=.slice (F bd) l.length C/\B<=bd/\w.heap[bd]?=some (.cells dc 5 (0,0))/\Es bd C l.length dc v l:=by
 rcases h.2 with ⟨rfl,hn⟩|⟨g,cap,cur,rfl,hb,hg,hc,hm,hs,ht⟩
 ·exact absurd (List.eq_nil_of_length_eq_zero hn) h0
 ·refine⟨g,cap,cur,rfl,hb,hg,⟨⟨some ⟨g,0,none⟩,?_,?_⟩,Nat.le_refl _,hc,by omega,by simp only [maxLen] at hm;omega,?_⟩⟩
  ·rw [Nat.sub_self,Nat.sub_zero]
  ·rw [Nat.sub_self,Nat.sub_zero];exact Sf.mk _ _ _
  ·rw [Nat.sub_self];intro i c hi;rw [Yi];have h1:(cur.toList.take (l.length*1))[i]?=some (u8 c):=(by rw [ht,List.getElem?_map,hi];rfl);rw [List.getElem?_take] at h1;split at h1
   ·simpa using h1
   ·cases h1
def Nj (B:Nat) (l:Bs) (w':World) (v':Value):Prop:=
 (l=[]/\∃ad c,v'=.slice ad 0 c)∨(l≠[]/\∃bd C dc,v'=.slice (F bd) l.length C/\B<=bd/\w'.heap[bd]?=some (.cells dc 5 (0,0))/\Es bd C l.length dc v' l)
theorem clone_any (v:Value) (l:Bs) (w:World) (hv:RB w v l) (hm:l.length<=100000000):
  Calls PP 20 #[v] w fun e w'=>∃v',e=.returned v'/\Nj w.heap.size l w' v'/\Fm w.heap.size [5] w w':=by
 obtain⟨ad,cap,rfl,hc⟩:=hv;refine Bf (L:=[(0,.slice ad l.length cap)]) Tryz.func20 Z Z Z ⟨Z,V⟩ ?_;cases ad with
 | none=>
  have hl:l=[]:=by
   apply Classical.byContradiction;intro h;obtain⟨_,_,_,_,h2,_⟩:=hc h;cases h2
  subst hl;(repeat first|refine Aa Z ?_|apply Ab|apply Ac|refine Bn Z (by first|with_reducible rfl|exact Bool.not_false) ?_|refine iV Z Z Z Z ?_|apply Ad|apply Bl|apply Ai);exact Ak Z Z ⟨_,rfl,.inl ⟨rfl,_,_,rfl⟩,Fm.refl _ _ _⟩
 | some a=>
  (repeat first|refine Aa Z ?_|apply Ab|apply Ac|refine Bb Z (by first|with_reducible rfl|exact Bool.not_true) ?_|refine iV Z Z Z Z ?_|apply Ad|apply An|apply Af);refine Ec Z Z bs0 Z (fun w1 hA=>?_);have hO:Ob w.heap.size w1 (.slice (F w.heap.size) 0 0) []:=Ob.lit hA Z Z Y (by omega);(repeat (refine Aa Z ?_));refine Md (l.map u8) Z Z (rfl:Fx 23=some (5,1)) hO (by simp) (fun j u hu=>?_) (fun u hu=>?_) (by simp;omega) (by rw [hA.size];omega) (fun v' w2 d f _=>?_)
  ·rw [List.getElem?_map] at hu;cases hx:l[j]? with
   | none=>simp [hx] at hu
   | some x=>
    simp only [hx,Option.map_some,Yb] at hu;subst hu;have hl:l≠[]:=(by rintro rfl;simp at hx);obtain⟨b,o,dc,fz,h1,h2,h3⟩:=hc hl;cases h1;rw [Ij];exact Ar (hA.keep h2) (h3 j x hx)
  ·obtain⟨x,_,rfl⟩:=List.mem_map.1 hu;rfl
  ·refine⟨_,rfl,?_⟩;(repeat first|refine Aa Z ?_|apply Ab|apply Ai);refine Ak Z Z ⟨_,rfl,?_,(hA.fm Y).trans f⟩;have c:Ob w.heap.size w2 v' l:=by
    unfold Ob;simpa using d
   by_cases hl:l=[]
   ·subst hl;obtain⟨ad',c',h1,_⟩:=c.slice;exact .inl ⟨rfl,ad',c',h1⟩
   ·exact .inr ⟨hl,c.suf hl hm⟩
theorem Mu (pp:Nat) (ad:Option Addr) (n c:Nat) (a0 a1:Value) (w:World) (h:w.heap[pp]?=some (.cells ⟨[.bool false,a0,a1,.slice none 0 0,.nilIface,.int .i64 0]⟩ 52 (0,0))):
  Calls PP 19 #[.pointer (F pp),.slice ad n c] w fun e w'=>e=.returned (.tuple #[])/\PS w' pp (.slice ad n c) (.slice ad n c) 0 []/\Fm pp [52] w w':=by
 have k:=Ah h;refine Bf (L:=[(0,.pointer (F pp)),(1,.slice ad n c)]) Tryz.func19 Z Z Z ⟨Z,Z,V⟩ ?_;repeat first|refine Aa Z ?_|apply Ac
 refine Bk Z Z Z h Z Z (fun w1 a=>?_);have h1:=a.at_;repeat first|refine Aa Z ?_|apply Ab|apply Ac
 refine Bk Z Z Z h1 Z Z (fun w2 d=>?_);have h2:=d.at_;repeat first|refine Aa Z ?_|apply Ab|apply Ac|refine Av (b:=pp) (i:=3) Z Z h2 Z Z ?_|refine Ub 0 Z Z Z O Z ?_
 refine Bk Z Z Z h2 Z Z (fun w3 f=>?_);have h3:=f.at_;repeat first|refine Aa Z ?_|apply Ab|apply Ac
 refine Bk Z Z Z h3 Z Z (fun w4 g=>?_);have h4:=g.at_;repeat first|refine Aa Z ?_|apply Ab|apply Am
 refine Bk Z Z Z h4 Z Z (fun w5 j=>?_);repeat (apply Aq)
 refine Kt Z Z ⟨rfl,⟨.slice none 0 0,[],j.at_,World.ownsRow_nil w5 _ _ _,fun i n h=>by simp at h⟩,?_⟩;exact ((((a.fm h Y (by simp [Ce]) rfl).trans (d.fm h1 Y (by simp [Ce]) rfl)).trans (f.fm h2 Y (by simp [Ce]) rfl)).trans (g.fm h3 Y (by simp [Ce]) rfl)).trans (j.fm h4 Y (by simp [Ce]) rfl)
theorem jL (ad:Option Addr) (c:Nat) (w:World):Calls PP 39 #[.slice ad 0 c] w fun e w'=>e=.returned (.slice ad 0 c)/\w'=w:=by
 refine Bf (L:=[(0,.slice ad 0 c)]) Tryz.func39 Z Z Z ⟨Z,V⟩ ?_;repeat first|refine Aa Z ?_|apply Ab|apply Ac|apply Ad|apply Ag
 refine Bg (σ:=Unit) (I:=fun s w'=>w'=w) (m:=fun s=>0) (Lf:=fun s=>[(0,.slice ad 0 c)]) () Z ⟨Z,V⟩ ?_;rintro _ w1 rfl;repeat first|refine Aa Z ?_|apply Ab|apply Ac|refine Bb Z (by first|with_reducible rfl|exact Bool.not_true) ?_|refine Au Z ?_|apply Ad|apply An|apply Cn|apply Ci|apply Ba|apply Ai|refine Az Z Z (by first|omega|decide) ?_
 exact Ak Z Z ⟨rfl,rfl⟩
theorem jR (pp:Nat) (ad:Option Addr) (c:Nat) (data:Value) (w:World) (hP:PS w pp data (.slice ad 0 c) 0 []):
  Calls PP 21 #[.pointer (F pp)] w fun e w'=>e=.returned (.bool false)/\(∃left',PS w' pp data left' 0 [])/\Fm pp [52,104] w w':=by
 obtain⟨nv,xs,q1,q2,q3⟩:=hP;refine Bf (L:=[(0,.pointer (F pp))]) Tryz.func21 Z Z Z ⟨Z,V⟩ ?_;obtain⟨ad2,cap,d⟩:∃ad cap,nv=.slice ad 0 cap:=by
  rcases q2.2 with ⟨rfl,hn⟩|⟨g,cap,cur,rfl,_⟩
  ·exact⟨none,0,rfl⟩
  ·exact⟨_,_,rfl⟩
 subst d;repeat first|refine Aa Z ?_|apply Ab|apply Ac|refine Bb Z (by first|with_reducible rfl|exact Bool.not_true) ?_|refine Av (b:=pp) (v:=.nilIface) Z Z q1 Z Z ?_|apply Ad|apply An|apply Af
 refine Av (b:=pp) (v:=.slice ad2 0 cap) Z Z q1 Z Z ?_;refine Ub 0 Z Z Z O Z ?_;repeat (refine Aa Z ?_)
 refine Bk Z Z Z q1 Z Z (fun w1 a=>?_);have h1:=a.at_;have f:Fm pp [52,104] w w1:=a.fm q1 Y (by simp [Ce]) rfl;have q2a:w1.ownsRow (pp+1) 104 7 (.slice ad2 0 cap) 0 xs:=Bi q2 (fun k o hk h=>a.keep h (by have:=(q2.lt k hk).1;omega));repeat first|apply Ab|apply Ag
 refine Bg (σ:=Unit) (I:=fun s w'=>w'=w1) (m:=fun s=>0) (Lf:=fun s=>[(0,.pointer (F pp))]) () Z ⟨Z,V⟩ ?_;rintro _ w2 rfl;repeat first|refine Aa Z ?_|apply Ac|refine Av (b:=pp) (i:=2) Z Z h1 Z Z ?_|apply Ag
 refine Ae Z Z Z (jL ad c w2) ?_;rintro e w3 ⟨rfl,rfl⟩;refine T2 Z Z ?_;repeat first|refine Aa Z ?_|apply Ab|apply Ac|refine Ao Z (by first|omega|decide) ?_|apply Ad
 refine Bk Z Z Z h1 Z Z (fun w4 j=>?_);obtain⟨l,p⟩:=PS.leftSet (ns:=[]) h1 q2a (fun i n h=>by simp at h) j;repeat first|refine Aa Z ?_|apply Ab|apply Ac|apply Bl|apply Bv|apply Ai
 exact Ak Z Z ⟨rfl,⟨_,l⟩,f.trans p⟩
end
section
attribute [local irreducible] binOp IntKind.wrap Sem.run
def Qq (E pp:Nat) (es:List Ex) (ns:List Be) (w:World):Prop:=
 (es=[]/\ns=[]/\∃ad c data,PS w pp data (.slice ad 0 c) 0 [])∨
 (∃bd C dc ad0 left b,Es bd C E dc left b/\Lr b es/\w.heap[bd]?=some (.cells dc 5 (0,0))/\PS w pp (.slice ad0 E C) left 0 ns)
theorem Qq.fm {E pp es ns B T w w'} (h:Qq E pp es ns w) (hf:Fm B T w w') (h5:5∉T) (d:52∉T) (a:104∉T):Qq E pp es ns w':=by
 rcases h with ⟨h1,h2,ad,c,data,h3⟩|⟨bd,C,dc,ad0,left,b,h1,h2,h3,h4⟩
 ·exact .inl ⟨h1,h2,ad,c,data,h3.fm hf h5 d a⟩
 ·exact .inr ⟨bd,C,dc,ad0,left,b,h1,h2,hf.keep _ _ h3 h5,h4.fm hf h5 d a⟩
theorem Qq.ps {E pp es ns w} (h:Qq E pp es ns w):∃data left,PS w pp data left 0 ns:=by
 rcases h with ⟨h1,rfl,ad,c,data,h3⟩|⟨bd,C,dc,ad0,left,b,h1,h2,h3,h4⟩
 ·exact⟨_,_,h3⟩
 ·exact⟨_,_,h4⟩
theorem Qq.ks {E pp es ns w} (h:Qq E pp es ns w):∀x∈es,KsX x:=by
 rcases h with ⟨rfl,_⟩|⟨bd,C,dc,ad0,left,b,h1,h2,_⟩
 ·intro x hx;simp at hx
 ·exact h2.ks
theorem Qu {E pp:Nat} {es:List Ex} {ns:List Be} {w:World} (hE:E<=100000000) (h:Qq E pp es ns w):
  Calls PP 21 #[.pointer (F pp)] w fun e w'=>Fm pp [52,104] w w'/\
   ((es=[]/\e=.returned (.bool false)/\∃data left,PS w' pp data left 0 [])∨(∃x es',es=x::es'/\e=.returned (.bool true)/\Qq E pp es' (Kl x) w'/\(Kl x).length<=300000000)):=by
 rcases h with ⟨rfl,rfl,ad,c,data,h3⟩|⟨bd,C,dc,ad0,left,b,h1,h2,h3,h4⟩
 ·refine (jR pp ad c data w h3).mono ?_;rintro e w' ⟨rfl,⟨left',hP⟩,hF⟩;exact⟨hF,.inl ⟨rfl,rfl,_,_,hP⟩⟩
 ·refine (mJ pp ad0 left ns b es w h1 hE h2 h3 h4).mono ?_;rintro e w' ⟨hN,hF⟩;refine⟨hF,?_⟩;rcases hN with ⟨rfl,rfl,left',hP⟩|⟨x,es',left',b',rfl,rfl,hS,hD,hP⟩
  ·exact .inl ⟨rfl,rfl,_,_,hP⟩
  ·refine .inr ⟨x,es',rfl,rfl,.inr ⟨bd,C,dc,ad0,left',b',hS,hD,hF.keep _ _ h3 (by simp [Ce]),hP⟩,?_⟩;have:=h2.enc x es' rfl;have:=h1.le;omega
theorem Ot {B:Nat} {l:Bs} {es:List Ex} {w w':World} {pp:Nat} {v:Value} (hc:Nj B l w v) (hd:Lr l es) (hf:Fm pp [52] w w') (hP:PS w' pp v v 0 []):Qq l.length pp es [] w':=by
 rcases hc with ⟨rfl,ad,c,rfl⟩|⟨_,bd,C,dc,rfl,_,h3,h4⟩
 ·exact .inl ⟨hd.nil,rfl,_,_,_,hP⟩
 ·exact .inr ⟨bd,C,dc,_,_,l,h4,hd,hf.keep _ _ h3 (by simp [Ce]),hP⟩
theorem Nj.slice {B:Nat} {l:Bs} {w:World} {v:Value} (h:Nj B l w v):∃ad n c,v=.slice ad n c:=by
 rcases h with ⟨_,ad,c,rfl⟩|⟨_,bd,C,dc,rfl,_⟩
 ·exact⟨_,_,_,rfl⟩
 ·exact⟨_,_,_,rfl⟩
theorem Nj.fm {B B' T} {l:Bs} {w w':World} {v:Value} (h:Nj B l w v) (hf:Fm B' T w w') (h5:5∉T):Nj B l w' v:=by
 rcases h with ⟨h1,ad,c,h2⟩|⟨h1,bd,C,dc,h2,h3,h4,a⟩
 ·exact .inl ⟨h1,ad,c,h2⟩
 ·exact .inr ⟨h1,bd,C,dc,h2,h3,hf.keep _ _ h4 h5,a⟩
theorem TS.new {w:World} {tb:Nat} (h:w.heap[tb]?=some (.cells ⟨[.slice none 0 0,.int .i32 0,.slice none 0 0,.slice none 0 0]⟩ 59 (0,0))):TS w tb ⟨[],0⟩:=
 ⟨.slice none 0 0,[],_,_,0,h,World.ownsRow_nil w _ _ _,fun i e he=>by simp at he,.inl ⟨rfl,rfl,rfl⟩⟩
theorem bR {t:Ju} (h:gO t) (x:Ex):gO (Xt t x).1/\(Xt t x).1.begun.ents.length<=t.begun.ents.length+cX x:=by
 obtain⟨h1,h2⟩:=ckX_ok (eL h).1 x;refine⟨.inr h1,?_⟩;have:(Xt t x).1.begun=(Xt t x).1:=eM h1;rw [this];exact h2
theorem Ww (t:Ju):t.ents.length<=t.begun.ents.length:=by
 unfold Ju.begun;split
 ·rename_i h;cases hx:t.ents with
  | nil=>simp
  | cons=>rw [hx] at h;simp at h
 ·exact Nat.le_refl _
def jE (first:Int) (t:Ju) (es:List Ex) (n:Nat) (all:Option Nat):Prop:=(first=-1/\Eo t es n=all)∨∃k:Nat,first=(k:Int)/\all=some k
theorem Fm.upB {B B' T w w'} (h:Fm B T w w') (hB:B'<=B):Up B' w w':=h.up.mono hB
theorem meanings_any (v:Value) (l:Bs) (es:List Ex) (w:World) (hv:RB w v l) (hd:Lr l es) (hm:l.length<=100000000):
  Calls PP 10 #[v] w fun e w'=>e=.returned (.int .i64 (Fo (Et es)))/\Up w.heap.size w w':=by
 have ba:=hd.len;have bb:=Se es hd.ks;refine Bf (L:=[(0,v)]) Tryz.func10 Z Z Z ⟨Z,V⟩ ?_;repeat first|refine Aa Z ?_|apply Ab|apply Ac
 refine Dk Z Z Z (fun w1 a=>?_);generalize af:w.heap.size=pp at *;have av:RB w1 v l:=hv.fm (a.fm (B:=0) (T:=[]) O) (by simp);repeat first|refine Aa Z ?_|apply Ab|apply Ac
 refine Ae Z Z Z (clone_any v l w1 av hm) ?_;rintro e w2 ⟨v2,rfl,d,j⟩;refine T2 Z Z ?_;have o:=a.at_;rw [af] at o;have ag:=j.keep _ _ o (by simp [Ce]);have ay:w1.heap.size=pp+1:=by rw [a.size,af]
 have ah:Up pp w w2:=(a.up (by omega)).trans (j.upB (by omega));clear j o a;obtain⟨ad2,n2,c2,ai⟩:=d.slice;rw [ai] at d;subst ai;skip;refine Ae Z Z Z (Mu pp ad2 n2 c2 _ _ w2 ag) ?_;rintro e w3 ⟨rfl,aj,q⟩;refine T2 Z Z ?_;have ak:=Ot d hd q aj;have f:=ah.trans (q.upB Y);clear d ag ah q aj;repeat first|apply Ab|apply Ac
 refine Dk Z Z Z (fun w4 i=>?_);have al:=TS.new i.at_;have am:Fm pp [52] w3 w4:=i.fm (by have:=f.size;omega);have an:=ak.fm (i.fm (B:=0) (T:=[]) O) (by simp) (by simp) (by simp);have ao:=f.trans (am.upB Y);have az:pp<=w3.heap.size:=by have:=f.size;omega
 generalize bc:w3.heap.size=tb at *;clear ak f am i;repeat first|refine Aa Z ?_|apply Ab|apply Ac|apply Ad|apply Ag
 refine Bg (σ:=List Ex×Ju×Int×Nat) (I:=fun s w'=>(∃ns,Qq l.length pp s.1 ns w')/\TS w' tb s.2.1/\gO s.2.1/\Up pp w w'/\s.2.1.begun.ents.length+wX s.1<=1+3*l.length/\jE s.2.2.1 s.2.1 s.1 s.2.2.2 (Et es)/\s.2.2.2+s.1.length=es.length)
  (m:=fun s=>s.1.length) (Lf:=fun s=>[(3,.pointer (F pp)),(4,.pointer (F tb)),(5,.int .i64 s.2.2.1),(6,.int .i64 (s.2.2.2:Int))])
  (es,⟨[],0⟩,-1,0) ⟨⟨_,an⟩,al,.inl rfl,ao,by simp only [Ju.begun];simp;omega,.inl ⟨rfl,rfl⟩,by simp⟩ ⟨Z,Z,Z,Z,V⟩ ?_
 clear an al ao;rintro⟨rest,t,first,n⟩ w5 ⟨⟨ns,hX⟩,hT,hp,hU,hb,c,hn⟩;dsimp only at hX hT hp hb c hn ⊢;repeat first|apply Ac|apply Ad
 refine Ae Z Z Z (Qu hm hX) ?_;rintro e w6 ⟨r,h6⟩;have aw:=hX.ks;rcases h6 with ⟨rfl,rfl,data,left,y⟩|⟨x,rest',rfl,rfl,ap,bd⟩
 ·refine T2 Z Z ?_;(repeat first|apply Ab|apply Ac|refine Bb Z (by first|with_reducible rfl|exact Bool.not_true) ?_|apply Ad|apply An|apply Cn|apply Ci|apply Ba);refine Ae Z Z Z (Pa pp data left 0 [] w6 y) ?_;rintro e w7 ⟨rfl,rfl⟩;refine T2 Z Z ?_;(repeat first|refine Aa Z ?_|apply Ab|apply Ac|refine Bb Z (by first|with_reducible rfl|exact Bool.not_true) ?_|apply An|apply Af|apply Ai);refine Ak Z Z ⟨?_,hU.trans (r.upB Y)⟩;rcases c with ⟨rfl,h⟩|⟨k,rfl,h⟩
  ·rw [<-h];rfl
  ·rw [h];rfl
 ·refine T2 Z Z ?_;obtain⟨data,left,y⟩:=ap.ps;obtain⟨g,hg,aq⟩:=y.ar (Kk x) (by omega);have z:=aw x (by simp);have ax:=hT.fm r (by simp) (by simp) (by simp) (by simp) (by simp);simp only [wX] at hb;have be:=Ww t;(repeat first|apply Ab|apply Ac|refine Bn Z (by first|with_reducible rfl|exact Bool.not_false) ?_|apply Ad|apply Ag|apply An|apply Af);refine Ae Z Z Z (Jm pp g _ w6 aq (Kk x)) ?_;rintro e w7 ⟨rfl,rfl⟩;refine T2 Z Z ?_;skip;refine Ae Z Z Z (Tc tb pp g x _ t w7 ax aq (Uv x z) (Uu x z) z hp (by omega)) ?_;rintro e w8 ⟨b,u,rfl,hu,aa,au⟩;refine T2 Z Z ?_;obtain⟨ab,bf⟩:=bR hp x;have ac:=ap.fm au (by simp) (by simp) (by simp);have ad:=(hU.trans (r.upB Y)).trans (au.upB (by omega));simp only [Ya] at hn;rcases hu with ⟨ae,rfl⟩|⟨ae,p,rfl⟩
  ·(repeat first|refine Aa Z ?_|apply Ab|apply Ac|refine Bb Z (by first|with_reducible rfl|exact Bool.not_true) ?_|refine Au Z ?_|apply Am|apply Aq|apply An|apply Bj|apply Af|refine Ay Z Z (by omega) Z ?_);refine Ap (rest',(Xt t x).1,first,n+1) ⟨⟨_,ac⟩,aa,ab,ad,by dsimp only;omega,?_,by dsimp only;omega⟩ (by simp) ⟨Z,Z,Z,Z,V⟩;rcases c with ⟨h1,h2⟩|h
   ·refine .inl ⟨h1,?_⟩;rw [<-h2];simp only [Eo,ae,if_true]
   ·exact .inr h
  ·by_cases bg:first<0
   ·(repeat first|refine Aa Z ?_|apply Ab|apply Ac|refine Ao Z (by first|omega|decide) ?_|refine Au Z ?_|apply Am|apply Aq|apply Bj|refine Ay Z Z (by omega) Z ?_);refine Ap (rest',(Xt t x).1,(n:Int),n+1) ⟨⟨_,ac⟩,aa,ab,ad,by dsimp only;omega,?_,by dsimp only;omega⟩ (by simp) ⟨Z,Z,Z,Z,V⟩;rcases c with ⟨h1,h2⟩|⟨k,rfl,h⟩
    ·refine .inr ⟨n,rfl,?_⟩;rw [<-h2];simp only [Eo,ae,Bool.false_eq_true,if_false]
    ·omega
   ·(repeat first|refine Aa Z ?_|apply Ab|apply Ac|refine Aj Z (by first|omega|decide) ?_|refine Au Z ?_|apply Am|apply Aq|apply An|apply Bj|apply Af|refine Ay Z Z (by omega) Z ?_);refine Ap (rest',(Xt t x).1,first,n+1) ⟨⟨_,ac⟩,aa,ab,ad,by dsimp only;omega,?_,by dsimp only;omega⟩ (by simp) ⟨Z,Z,Z,Z,V⟩;rcases c with ⟨h1,h2⟩|h
    ·omega
    ·exact .inr h
theorem cJ (B:Nat) (v:Value) (l:Bs) (es:List Ex) (w:World) (hc:Nj B l w v) (hd:Lr l es) (hm:l.length<=100000000):
  Calls PP 37 #[v] w fun e w'=>∃a u,e=.returned (.tuple #[a,u])/\jF (Et es).isNone u/\Up w.heap.size w w':=by
 have av:=hd.len;have aw:=Se es hd.ks;obtain⟨ad2,n2,c2,rfl⟩:=hc.slice;refine Bf (L:=[(0,.slice ad2 n2 c2)]) Tryz.func37 Z Z Z ⟨Z,V⟩ ?_;repeat first|refine Aa Z ?_|apply Ab|apply Ac
 refine Dk Z Z Z (fun w1 d=>?_);generalize y:w.heap.size=pp at *;have z:=hc.fm (d.fm (B:=0) (T:=[]) O) (by simp);have i:=d.at_;rw [y] at i;have aa:Up pp w w1:=d.up (by omega);have aq:w1.heap.size=pp+1:=by rw [d.size,y]
 clear hc d;repeat first|refine Aa Z ?_|apply Ab|apply Ac
 refine Ae Z Z Z (Mu pp ad2 n2 c2 _ _ w1 i) ?_;rintro e w3 ⟨rfl,ab,j⟩;refine T2 Z Z ?_;have ac:=Ot z hd j ab;have f:=aa.trans (j.upB Y);clear z i aa j ab;repeat first|apply Ab|apply Ac
 refine Dk Z Z Z (fun w4 h=>?_);have ad:=TS.new h.at_;have ae:Fm pp [52] w3 w4:=h.fm (by have:=f.size;omega);have af:=ac.fm (h.fm (B:=0) (T:=[]) O) (by simp) (by simp) (by simp);have ag:=f.trans (ae.upB Y);have au:pp<=w3.heap.size:=by have:=f.size;omega
 generalize ax:w3.heap.size=tb at *;clear ac f ae h;repeat first|refine Aa Z ?_|apply Ab|apply Ac|apply Ad|apply Ag
 refine Bg (σ:=List Ex×Ju×Nat) (I:=fun s w'=>(∃ns,Qq l.length pp s.1 ns w')/\TS w' tb s.2.1/\gO s.2.1/\Up pp w w'/\s.2.1.begun.ents.length+wX s.1<=1+3*l.length/\Eo s.2.1 s.1 s.2.2=Et es/\s.2.2+s.1.length=es.length)
  (m:=fun s=>s.1.length) (Lf:=fun s=>[(4,.pointer (F pp)),(5,.pointer (F tb)),(6,.int .i64 (s.2.2:Int))])
  (es,⟨[],0⟩,0) ⟨⟨_,af⟩,ad,.inl rfl,ag,by simp only [Ju.begun];simp;omega,rfl,by simp⟩ ⟨Z,Z,Z,V⟩ ?_
 clear af ad ag;rintro⟨rest,t,n⟩ w5 ⟨⟨ns,hX⟩,hT,hp,hU,hb,c,hn⟩;dsimp only at hX hT hp hb c hn ⊢;repeat first|apply Ac|apply Ad
 refine Ae Z Z Z (Qu hm hX) ?_;rintro e w6 ⟨k,h6⟩;have al:=hX.ks;rcases h6 with ⟨rfl,rfl,data,left,o⟩|⟨x,rest',rfl,rfl,ah,ay⟩
 ·refine T2 Z Z ?_;(repeat first|refine Aa Z ?_|apply Ab|apply Ac|refine Bb Z (by first|with_reducible rfl|exact Bool.not_true) ?_|apply An|apply Cn|apply Ci|apply Ba);refine Ae Z Z Z (Pa pp data left 0 [] w6 o) ?_;rintro e w7 ⟨rfl,rfl⟩;refine T2 Z Z ?_;(repeat first|refine Aa Z ?_|apply Ab|apply Ai);refine Ak Z Z ⟨_,_,rfl,.inl ⟨?_,rfl⟩,hU.trans (k.upB Y)⟩;rw [<-c];rfl
 ·refine T2 Z Z ?_;obtain⟨data,left,o⟩:=ah.ps;obtain⟨g,hg,ai⟩:=o.ar (Kk x) (by omega);have q:=al x (by simp);have am:=hT.fm k (by simp) (by simp) (by simp) (by simp) (by simp);simp only [wX] at hb;have az:=Ww t;(repeat first|apply Ab|apply Ac|refine Bn Z (by first|with_reducible rfl|exact Bool.not_false) ?_|apply Ad|apply Ag|apply An|apply Af);refine Ae Z Z Z (Jm pp g _ w6 ai (Kk x)) ?_;rintro e w7 ⟨rfl,rfl⟩;refine T2 Z Z ?_;skip;refine Ae Z Z Z (Tc tb pp g x _ t w7 am ai (Uv x q) (Uu x q) q hp (by omega)) ?_;rintro e w8 ⟨b,u,rfl,hu,an,aj⟩;refine T2 Z Z ?_;obtain⟨ao,ba⟩:=bR hp x;have ap:=ah.fm aj (by simp) (by simp) (by simp);have ak:=(hU.trans (k.upB Y)).trans (aj.upB (by omega));simp only [Ya] at hn;rcases hu with ⟨r,rfl⟩|⟨r,p,rfl⟩
  ·simp only [Eo,r,if_true] at c;(repeat first|refine Aa Z ?_|apply Ab|apply Ac|refine Bb Z (by first|with_reducible rfl|exact Bool.not_true) ?_|apply Am|apply Aq|apply An|apply Bj|apply Af|refine Ay Z Z (by omega) Z ?_);exact Ap (rest',(Xt t x).1,n+1) ⟨⟨_,ap⟩,an,ao,ak,by dsimp only;omega,c,by dsimp only;omega⟩ (by simp) ⟨Z,Z,Z,V⟩
  ·simp only [Eo,r,Bool.false_eq_true,if_false] at c;(repeat first|refine Aa Z ?_|apply Ab|apply Ac|refine Bn Z (by first|with_reducible rfl|exact Bool.not_false) ?_|apply Bl|apply Bv|apply Ai);refine Ak Z Z ⟨_,_,rfl,.inr ⟨?_,_,rfl⟩,ak⟩;rw [<-c];rfl
end
end Go.Proofs.YtaccphdkapmdhaaGreat
