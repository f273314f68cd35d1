/- Names that are made longer mean the same (plain). No condition. -/
import Derived.Test.YtaccphdkapmdhaaGreatR2
namespace Go.Proofs.YtaccphdkapmdhaaGreat
set_option maxRecDepth 100000
set_option maxHeartbeats 64000000
set_option linter.all false
section
def Nq (s:Bs) (ks:List Bs):List Bs:=ks.map fun k=>k++s
mutual
def Ow (s:Bs):Bz->Bz
 | .sc k t=>.sc k t
 | .arr vs=>.arr (Pj s vs)
 | .tbl es=>.tbl (Pk s es)
def Pj (s:Bs):List Bz->List Bz
 | []=>[]
 | v::vs=>Ow s v::Pj s vs
def Pk (s:Bs):List (List Bs×Bz)->List (List Bs×Bz)
 | []=>[]
 | (ks,v)::es=>(Nq s ks,Ow s v)::Pk s es
end
def Xo (s:Bs):Ex->Ex
 | .kv ks v=>.kv (Nq s ks) (Ow s v)
 | .tab ks=>.tab (Nq s ks)
 | .atab ks=>.atab (Nq s ks)
def Cs.lg (s:Bs) (e:Cs):Cs:=if e.kind=5 then e else { e with name:=e.name++s }
theorem Cs.lg_kind (s:Bs) (e:Cs):(e.lg s).kind=e.kind:=by unfold Cs.lg;split<;>rfl
theorem Cs.lg_parent (s:Bs) (e:Cs):(e.lg s).parent=e.parent:=by unfold Cs.lg;split<;>rfl
theorem Cs.lg_expl (s:Bs) (e:Cs):(e.lg s).expl=e.expl:=by unfold Cs.lg;split<;>rfl
theorem Cs.lg_mk (s:Bs) (p:Int) (k:Nat) (x:Bool) (nm:Bs) (h:k≠5):(Cs.mk p k x nm).lg s=⟨p,k,x,nm++s⟩:=by unfold Cs.lg;rw [if_neg h]
theorem Cs.lg_five (s:Bs) (p:Int) (x:Bool) (nm:Bs):(Cs.mk p 5 x nm).lg s=⟨p,5,x,nm⟩:=by unfold Cs.lg;rw [if_pos rfl]
theorem Cs.lg_is (s:Bs) (e:Cs) (p:Nat) (nm:Bs):(e.lg s).is p (nm++s)=e.is p nm:=by
 unfold Cs.is Cs.lg;by_cases h:e.kind=5
 ·simp [h]
 ·simp [h]
def rn (s:Bs):List Cs->List Cs
 | []=>[]
 | r::l=>r::l.map (Cs.lg s)
def Lk:Cs:=⟨-1,3,false,[]⟩
def Rt (es:List Cs):Prop:=∃l,es=Lk::l
theorem Sj (s:Bs):∀es:List Cs,(rn s es).length=es.length
 | []=>rfl
 | _::l=>by simp [rn]
theorem Rt.snoc {es:List Cs} (h:Rt es) (e:Cs):Rt (es++[e]):=by
 obtain⟨l,rfl⟩:=h;exact⟨l++[e],rfl⟩
theorem Ou {s:Bs} {es:List Cs} (h:Rt es) (e:Cs):rn s (es++[e])=rn s es++[e.lg s]:=by
 obtain⟨l,rfl⟩:=h;simp [rn]
theorem Tu (s:Bs) (p:Nat) (nm:Bs):∀(l:List Cs) (i:Nat),Dv p (nm++s) (l.map (Cs.lg s)) i=Dv p nm l i
 | [],_=>rfl
 | e::l,i=>by simp only [List.map_cons,Dv,Cs.lg_is,Tu s p nm l]
theorem Of (s:Bs) (es:List Cs) (p:Nat) (nm:Bs):Du (rn s es) p (nm++s)=Du es p nm:=by
 unfold Du;cases es with
 | nil=>simp [rn,Dv]
 | cons r l=>
  simp only [rn,List.drop_succ_cons];rw [<-List.map_drop,Tu]
theorem lX (s:Bs):∀(es:List Cs) (i:Nat),0<i->(rn s es)[i]?=(es[i]?).map (Cs.lg s)
 | [],i,_=>by simp [rn]
 | r::l,i+1,_=>by simp [rn]
theorem Vt (s:Bs) (es:List Cs) (i:Nat):Iv (rn s es) i=Iv es i:=by
 unfold Iv;cases i with
 | zero=>cases es<;>simp [rn]
 | succ i=>
  rw [lX s es (i+1) (by omega)];cases es[i+1]? with
  | none=>rfl
  | some e=>simp [Cs.lg_kind]
def Lgf (s:Bs) (f g:List Cs->Nat->List Cs×Bool):Prop:=∀es p,Rt es->Rt (f es p).1/\g (rn s es) p=(rn s (f es p).1,(f es p).2)
theorem bS {s:Bs} {f g:List Cs->Nat->List Cs×Bool} (hf:Lgf s f g):∀(ks:List Bs) (es:List Cs) (p:Nat),Rt es->Rt (Ky f ks es p).1/\Ky g (Nq s ks) (rn s es) p=(rn s (Ky f ks es p).1,(Ky f ks es p).2)
 | [],es,p,h=>⟨h,rfl⟩
 | [k],es,p,h=>by
  simp only [Nq,List.map_cons,List.map_nil,Ky,Of];cases Du es p k with
  | some i=>exact⟨h,rfl⟩
  | none=>
   dsimp only;have h1:=hf (es++[⟨p,1,false,k⟩]) es.length (h.snoc _);rw [Ou h,Cs.lg_mk _ _ _ _ _ (by omega)] at h1;rw [Sj];exact h1
 | k::k2::ks,es,p,h=>by
  simp only [Nq,List.map_cons,Ky,Of,Vt];cases Du es p k with
  | none=>
   dsimp only;have h1:=bS hf (k2::ks) (es++[⟨p,2,false,k⟩]) es.length (h.snoc _);rw [Ou h,Cs.lg_mk _ _ _ _ _ (by omega)] at h1;rw [Sj];exact h1
  | some i=>
   dsimp only;split
   ·exact bS hf (k2::ks) es i h
   ·exact⟨h,rfl⟩
theorem lgV_sc (s:Bs) (v:Bz):(Ow s v).isSc=v.isSc:=by cases v<;>rfl
mutual
theorem gH (s:Bs):∀(v:Bz),Lgf s (Hy v) (Hy (Ow s v))
 | .sc _ _=>fun es p h=>⟨by simpa only [Hy] using h,by simp only [Ow,Hy]⟩
 | .arr vs=>fun es p h=>by
  simp only [Ow,Hy];exact ckIs_lg s vs es p h
 | .tbl ts=>fun es p h=>by
  simp only [Ow,Hy];exact ckEs_lg s ts es p h
theorem ckIs_lg (s:Bs):∀(vs:List Bz) (es:List Cs) (id:Nat),Rt es->Rt (Fg vs es id).1/\Fg (Pj s vs) (rn s es) id=(rn s (Fg vs es id).1,(Fg vs es id).2)
 | [],es,id,h=>⟨by simpa only [Fg] using h,by simp only [Pj,Fg]⟩
 | v::vs,es,id,h=>by
  simp only [Pj,Fg,lgV_sc];by_cases hv:v.isSc=true
  ·simp only [hv,if_true];exact ckIs_lg s vs es id h
  ·simp only [hv,if_false,Bool.false_eq_true];obtain⟨h1,h2⟩:=gH s v (es++[⟨id,5,false,[]⟩]) es.length (h.snoc _);rw [Ou h,Cs.lg_five] at h2;rw [Sj,h2];generalize Hy v (es++[⟨id,5,false,[]⟩]) es.length=r at h1;obtain⟨es',b⟩:=r;cases b with
   | true=>exact ckIs_lg s vs es' id h1
   | false=>exact⟨h1,rfl⟩
theorem ckEs_lg (s:Bs):∀(ts:List (List Bs×Bz)) (es:List Cs) (id:Nat),Rt es->Rt (Hu ts es id).1/\Hu (Pk s ts) (rn s es) id=(rn s (Hu ts es id).1,(Hu ts es id).2)
 | [],es,id,h=>⟨by simpa only [Hu] using h,by simp only [Pk,Hu]⟩
 | (ks,v)::ts,es,id,h=>by
  simp only [Pk,Hu];obtain⟨h1,h2⟩:=bS (s:=s) (f:=Hy v) (g:=Hy (Ow s v)) (gH s v) ks es id h;rw [h2];generalize Ky (Hy v) ks es id=r at h1;obtain⟨es',b⟩:=r;cases b with
  | true=>exact ckEs_lg s ts es' id h1
  | false=>exact⟨h1,rfl⟩
end
def lgO (s:Bs):Option (Nat×Bs)->Option (Nat×Bs)
 | none=>none
 | some (p,k)=>some (p,k++s)
theorem bV (s:Bs):∀(ks:List Bs) (es:List Cs) (p:Nat),Rt es->Rt (Ib ks es p).1/\Ib (Nq s ks) (rn s es) p=(rn s (Ib ks es p).1,lgO s (Ib ks es p).2)
 | [],es,p,h=>⟨h,rfl⟩
 | [k],es,p,h=>⟨h,rfl⟩
 | k::k2::ks,es,p,h=>by
  simp only [Nq,List.map_cons,Ib,Of,Vt];cases Du es p k with
  | none=>
   dsimp only;have h1:=bV s (k2::ks) (es++[⟨p,3,false,k⟩]) es.length (h.snoc _);rw [Ou h,Cs.lg_mk _ _ _ _ _ (by omega)] at h1;rw [Sj];exact h1
  | some i=>
   dsimp only;split
   ·exact bV s (k2::ks) es i h
   ·exact⟨h,rfl⟩
theorem kW (s:Bs) (id:Nat) (o:List Cs) (rm:List Nat) (gn:List Bool) (e:Cs):
  ∃o' rm' gn',Fq id ⟨Lk::o,rm,gn⟩ e=⟨Lk::o',rm',gn'⟩/\Fq id ⟨Lk::o.map (Cs.lg s),rm,gn⟩ (e.lg s)=⟨Lk::o'.map (Cs.lg s),rm',gn'⟩:=by
 unfold Fq;rw [Cs.lg_parent,Cs.lg_kind];split
 ·exact⟨o,_,_,rfl,rfl⟩
 ·refine⟨o++[if (Lk::o).length=gn.length then e else { e with parent:=(rm.getD e.parent.toNat 0:Nat) }],rm++[(Lk::o).length],gn++[false],rfl,?_⟩;simp only [Ya,List.length_map,List.cons_append,List.map_append,List.map_cons,List.map_nil];split
  ·rfl
  ·congr 4;unfold Cs.lg;dsimp only;split<;>rfl
theorem Wp (s:Bs) (id:Nat):∀(l:List Cs) (o:List Cs) (rm:List Nat) (gn:List Bool),
  ∃o' rm' gn',l.foldl (Fq id) ⟨Lk::o,rm,gn⟩=⟨Lk::o',rm',gn'⟩/\(l.map (Cs.lg s)).foldl (Fq id) ⟨Lk::o.map (Cs.lg s),rm,gn⟩=⟨Lk::o'.map (Cs.lg s),rm',gn'⟩
 | [],o,rm,gn=>⟨o,rm,gn,rfl,rfl⟩
 | e::l,o,rm,gn=>by
  obtain⟨o1,rm1,gn1,h1,h2⟩:=kW s id o rm gn e;simp only [List.map_cons,List.foldl_cons,h1,h2];exact Wp s id l o1 rm1 gn1
theorem eI (id:Nat):Fq id ⟨[],[],[]⟩ Lk=⟨[Lk],[0],[false]⟩:=by
 unfold Fq;rw [if_neg (fun h=>absurd h.1 (by decide))];rfl
theorem clrE_lg (s:Bs) (id:Nat) {es:List Cs} (h:Rt es):Rt (Lq id es)/\Lq id (rn s es)=rn s (Lq id es):=by
 obtain⟨l,rfl⟩:=h;obtain⟨o',rm',gn',h1,h2⟩:=Wp s id l [] [0] [false];unfold Lq;simp only [rn,List.foldl_cons,eI];rw [show (⟨[Lk],[0],[false]⟩:lJ)=⟨Lk::[],[0],[false]⟩ from rfl,h1];simp only [List.map_nil] at h2;rw [h2];exact⟨⟨o',rfl⟩,rfl⟩
theorem Rt.set {es:List Cs} (h:Rt es) {i:Nat} (hi:0<i) (e:Cs):Rt (es.set i e):=by
 obtain⟨l,rfl⟩:=h;obtain⟨j,rfl⟩:∃j,i=j+1:=⟨i-1,by omega⟩;exact⟨l.set j e,rfl⟩
theorem rn_set {s:Bs} {es:List Cs} {i:Nat} (hi:0<i) (e:Cs):rn s (es.set i e)=(rn s es).set i (e.lg s):=by
 obtain⟨j,rfl⟩:∃j,i=j+1:=⟨i-1,by omega⟩;cases es with
 | nil=>rfl
 | cons r l=>simp [rn,List.map_set]
def Ju.lg (s:Bs) (t:Ju):Ju:=⟨rn s t.ents,t.cur⟩
theorem ckX_lg (s:Bs) (t:Ju) (h:Rt t.ents) (x:Ex):Rt (Ql t x).1.ents/\Ql (t.lg s) (Xo s x)=((Ql t x).1.lg s,(Ql t x).2):=by
 cases x with
 | kv ks v=>
  obtain⟨h1,h2⟩:=bS (s:=s) (f:=Hy v) (g:=Hy (Ow s v)) (gH s v) ks t.ents t.cur h;simp only [Xo,Ql,Ju.lg,h2];exact⟨h1,trivial⟩
 | tab ks=>
  obtain⟨h1,h2⟩:=bV s ks t.ents 0 h;simp only [Xo,Ql,Ju.lg,h2];generalize Ib ks t.ents 0=r at h1;obtain⟨es,o⟩:=r;cases o with
  | none=>exact⟨h1,rfl⟩
  | some pk=>
   obtain⟨p,k⟩:=pk;simp only [lgO,Of];cases hf:Du es p k with
   | none=>
    dsimp only;refine⟨h1.snoc _,?_⟩;rw [Ou h1,Cs.lg_mk _ _ _ _ _ (by omega),Sj]
   | some i=>
    have hi:0<i:=(by have:=(Jz hf).1;omega);dsimp only;rw [lX s es i hi];cases es[i]? with
    | none=>exact⟨h1,rfl⟩
    | some e=>
     simp only [Option.map_some,Cs.lg_kind,Cs.lg_expl];split
     ·refine⟨h1.set hi _,?_⟩;rw [rn_set hi];congr 3;unfold Cs.lg;dsimp only;split<;>rfl
     ·exact⟨h1,rfl⟩
 | atab ks=>
  obtain⟨h1,h2⟩:=bV s ks t.ents 0 h;simp only [Xo,Ql,Ju.lg,h2];generalize Ib ks t.ents 0=r at h1;obtain⟨es,o⟩:=r;cases o with
  | none=>exact⟨h1,rfl⟩
  | some pk=>
   obtain⟨p,k⟩:=pk;simp only [lgO,Of];cases hf:Du es p k with
   | none=>
    dsimp only;refine⟨h1.snoc _,?_⟩;rw [Ou h1,Cs.lg_mk _ _ _ _ _ (by omega),Sj]
   | some i=>
    dsimp only;rw [Vt];split
    ·obtain⟨h3,h4⟩:=clrE_lg s i h1;exact⟨h3,by rw [h4]⟩
    ·exact⟨h1,rfl⟩
theorem nN (s:Bs) (t:Ju) (h:t.ents=[]∨Rt t.ents):Rt t.begun.ents/\(t.lg s).begun=t.begun.lg s:=by
 obtain⟨es,cur⟩:=t;rcases h with h|⟨l,h⟩
 ·cases h;exact⟨⟨[],rfl⟩,rfl⟩
 ·cases h;exact⟨⟨l,rfl⟩,rfl⟩
theorem Tt (s:Bs):∀(l:List Ex) (t:Ju) (n:Nat),(t.ents=[]∨Rt t.ents)->Eo (t.lg s) (l.map (Xo s)) n=Eo t l n
 | [],_,_,_=>rfl
 | x::l,t,n,h=>by
  obtain⟨h1,h2⟩:=nN s t h;obtain⟨h3,h4⟩:=ckX_lg s t.begun h1 x;have e:Xt (t.lg s) (Xo s x)=((Xt t x).1.lg s,(Xt t x).2):=by
   unfold Xt;rw [h2,h4]
  simp only [List.map_cons,Eo,e];rw [Tt s l (Xt t x).1 _ (.inr h3)]
theorem mN (s:Bs) (l:List Ex):Et (l.map (Xo s))=Et l:=Tt s l ⟨[],0⟩ 0 (.inl rfl)
end
end Go.Proofs.YtaccphdkapmdhaaGreat
