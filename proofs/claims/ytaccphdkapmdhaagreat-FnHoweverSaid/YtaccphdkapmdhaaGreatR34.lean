/- Maps as the reference lays them. No condition. -/
import Derived.Test.YtaccphdkapmdhaaGreatR26
namespace Go.Proofs.YtaccphdkapmdhaaGreat
set_option maxRecDepth 100000
set_option maxHeartbeats 64000000
set_option linter.all false
section
abbrev pt (b:Nat):Value:=.pointer (F b)
def MP (w:World) (m:Nat) (l:List (Bs×Nat)):Prop:=∃es clock,w.heap[m]?=some (.map es clock)/\es.toList.map (fun e=>(e.key,e.val))=l.map fun x=>(Bm x.1,pt x.2)
def Yq:List (Bs×Nat)->Bs->Option Nat
 | [],_=>none
 | (a,b)::l,k=>if k=a then some b else Yq l k
def hH:Option Nat->Value
 | some b=>pt b
 | none=>.pointer none
theorem hZ (k:Bs) (b:Nat):∀(l:List (Bs×Nat)) (k':Bs),Yq l k=none->Yq (l++[(k,b)]) k'=if k'=k then some b else Yq l k'
 | [],k',_=>by simp [Yq]
 | (a,c)::l,k',h=>by
  simp only [Yq,List.cons_append] at h ⊢;split at h
  ·cases h
  ·rename_i d;rw [hZ k b l k' h];by_cases h1:k'=k
   ·subst h1;rw [if_neg d,if_pos rfl];simp
   ·simp [h1]
theorem Vz (k:Bs):∀(es:List MapEntry) (l:List (Bs×Nat)) (i:Nat),es.map (fun e=>(e.key,e.val))=l.map (fun x=>(Bm x.1,pt x.2))->
  ∃r,Instr.findNow .string (Bm k) es i=some r/\r.map (·.2)=(Yq l k).map pt
 | [],[],_,_=>⟨none,rfl,rfl⟩
 | [],_::_,_,h=>by simp at h
 | _::_,[],_,h=>by simp at h
 | ⟨key,val,born⟩::es,(a,b)::l,i,h=>by
  simp only [List.map_cons,List.cons.injEq,Prod.mk.injEq] at h;obtain⟨⟨rfl,rfl⟩,h2⟩:=h;obtain⟨r,h3,h4⟩:=Vz k es l (i+1) h2;by_cases c:k=a
  ·subst c;refine⟨some (i,pt b),?_,by simp [Yq]⟩;simp only [Instr.findNow,Instr.sameNow];rw [(MapKept.bytes_beq _ _).2 rfl]
  ·refine⟨r,?_,by simp only [Yq,if_neg c];exact h4⟩;simp only [Instr.findNow,Instr.sameNow];have:((⟨k.toArray⟩:ByteArray)==⟨a.toArray⟩)=false:=by
    cases hb:((⟨k.toArray⟩:ByteArray)==⟨a.toArray⟩) with
    | false=>rfl
    | true=>exact absurd (Ms.1 ((MapKept.bytes_beq _ _).1 hb)) c
   rw [this];exact h3
theorem u78:PP.underlying 78=some (.map 9 73):=by kernel_rfl
theorem z73 (w:World):(zeroValue 73).run PP w=.ok (.pointer none) w:=by kernel_rfl
theorem mU {w:World} {m:Nat} {l:List (Bs×Nat)} (k:Bs) (h:MP w m l):(Instr.lookup 78 (.map (some m)) (Bm k) true).run PP w=.ok (.tuple #[hH (Yq l k),.bool (Yq l k).isSome]) w:=by
 obtain⟨es,clock,h1,h2⟩:=h;obtain⟨r,h3,h4⟩:=Vz k es.toList l 0 h2;have hc:(Instr.checkKey es.isEmpty 10000 9 (Bm k)).run PP w=.ok () w:=MapKept.run_checkKey (k:=Bm k) Ek (by simp [MapKept.IsKey]) _ 9999;simp only [Instr.lookup,Sem.run_bind,run_underlying u78,Result.andThen_ok,MapKept.run_getObj_map h1,Sem.run_pure,hc,MapKept.run_findKey Ek h3];cases r with
 | none=>
  cases hl:Yq l k with
  | none=>simp [z73,hH]
  | some b=>rw [hl] at h4;cases h4
 | some x=>
  cases hl:Yq l k with
  | none=>rw [hl] at h4;cases h4
  | some b=>
   rw [hl] at h4;simp only [Option.map_some,Yb] at h4;obtain⟨i,v⟩:=x;simp only at h4;subst h4;simp [hH]
theorem upd_run {w:World} {m:Nat} {l:List (Bs×Nat)} (k:Bs) (b:Nat) (h:MP w m l) (hk:Yq l k=none):
  ∃o w',(Instr.mapUpdate 78 (.map (some m)) (Bm k) (pt b)).run PP w=.ok () w'/\St w m o w'/\MP w' m (l++[(k,b)])/\Ce o=1000:=by
 obtain⟨es,clock,h1,h2⟩:=h;obtain⟨r,h3,h4⟩:=Vz k es.toList l 0 h2;rw [hk] at h4;cases r with
 | some x=>cases h4
 | none=>
  have hc:(Instr.checkKey false 10000 9 (Bm k)).run PP w=.ok () w:=MapKept.run_checkKey (k:=Bm k) Ek (by simp [MapKept.IsKey]) _ 9999;have a:=fD (o:=.map (es.push ⟨Bm k,pt b,clock⟩) (clock+1)) h1;refine⟨_,_,?_,a,⟨_,_,a.at_,?_⟩,rfl⟩
  ·simp only [Instr.mapUpdate,Sem.run_bind,run_underlying u78,Result.andThen_ok,MapKept.run_getObj_map h1,hc,MapKept.run_findKey Ek h3,MapKept.run_setObj_map _ h1];rfl
  ·simp [h2]
section
attribute [local semireducible] WL WC X WD WX
variable {all:List Oper} {Q:Exit->Act->World->Prop} {N:Nat} {L L':Env} {o:Oper} {rest:List Oper} {w:World}
def lkA (L:Env) (op:Op):Option (Value×Value):=
 match op with
 | .lookup t x i true=>cond (Nat.beq t 78) (match ev L x,ev L i with
  | some m,some k=>some (m,k)
  | _,_=>none) none
 | _=>none
theorem eR {m:Nat} {k:Bs} (l:List (Bs×Nat)) (hg:Ez all L o=some true) (h:lkA L o.op=some (.map (some m),Bm k)) (hm:MP w m l)
  (hd:Cu N o (.tuple ⟨[hH (Yq l k),.bool (Yq l k).isSome]⟩) L=some L') (kk:WL all Q N L' rest w):WL all Q N L (o::rest) w:=by
 refine Ca hg (fun a hf=>?_) hd kk;obtain⟨dst,op,ty,Gh,after,guard⟩:=o;simp only at h;unfold lkA at h;split at h
 ·rename_i t x i;cases ht:Nat.beq t 78 with
  | false=>simp [ht] at h
  | true=>
   have:t=78:=(by simpa using ht);subst this;simp only [ht,cond_true] at h;split at h
   ·rename_i vm vk hx hi;simp only [Yb,Prod.mk.injEq] at h;obtain⟨rfl,rfl⟩:=h;simp [execOp,hf.eval hx,hf.eval hi,mU k hm]
   ·cases h
 ·cases h
def muA (L:Env) (op:Op):Option (Value×Value×Value):=
 match op with
 | .mapUpdate t x i v=>cond (Nat.beq t 78) (match ev L x,ev L i,ev L v with
  | some m,some k,some u=>some (m,k,u)
  | _,_,_=>none) none
 | _=>none
theorem Xe {m b:Nat} {k:Bs} (l:List (Bs×Nat)) (hg:Ez all L o=some true) (h:muA L o.op=some (.map (some m),Bm k,pt b)) (hm:MP w m l) (hk:Yq l k=none)
  (hd:Cu N o undef L=some L') (kk:∀w' ob,St w m ob w'->MP w' m (l++[(k,b)])->Ce ob=1000->WL all Q N L' rest w'):WL all Q N L (o::rest) w:=by
 obtain⟨ob,w',hr,hs,hp,ht⟩:=upd_run k b hm hk;refine Qn hg (fun a hf=>?_) hd (kk w' ob hs hp ht);obtain⟨dst,op,ty,Gh,after,guard⟩:=o;simp only at h;unfold muA at h;split at h
 ·rename_i t x i v;cases ht:Nat.beq t 78 with
  | false=>simp [ht] at h
  | true=>
   have:t=78:=(by simpa using ht);subst this;simp only [ht,cond_true] at h;split at h
   ·rename_i vm vk vv hx hi hv;simp only [Yb,Prod.mk.injEq] at h;obtain⟨rfl,rfl,rfl⟩:=h;simp [execOp,hf.eval hx,hf.eval hi,hf.eval hv,hr]
   ·cases h
 ·cases h
def mmA (op:Op):Bool:=
 match op with
 | .makeMap _ none=>true
 | _=>false
theorem WL.mm (hg:Ez all L o=some true) (h:mmA o.op=true) (hd:Cu N o (.map (some w.heap.size)) L=some L')
  (kk:∀w',Al w (.map #[] 0) w'->WL all Q N L' rest w'):WL all Q N L (o::rest) w:=by
 refine Ca hg (fun a hf=>?_) hd (kk _ (Br w _));obtain⟨dst,op,ty,Gh,after,guard⟩:=o;simp only at h;unfold mmA at h;split at h
 ·simp [execOp,Instr.makeMap]
 ·cases h
end
theorem MP.new {w w':World} (h:Al w (.map #[] 0) w'):MP w' w.heap.size []:=⟨_,_,h.at_,rfl⟩
theorem MP.keep {w w':World} {m:Nat} {l:List (Bs×Nat)} (h:MP w m l) (hk:∀o,w.heap[m]?=some o->w'.heap[m]?=some o):MP w' m l:=by
 obtain⟨es,c,h1,h2⟩:=h;exact⟨es,c,hk _ h1,h2⟩
theorem MP.lt {w:World} {m:Nat} {l:List (Bs×Nat)} (h:MP w m l):m<w.heap.size:=by
 obtain⟨es,c,h1,h2⟩:=h;exact Ah h1
end
end Go.Proofs.YtaccphdkapmdhaaGreat
