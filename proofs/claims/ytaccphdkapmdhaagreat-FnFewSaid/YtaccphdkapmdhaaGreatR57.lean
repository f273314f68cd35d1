/- What comes in is opened; what a row is made of. No condition. -/
import Derived.Test.YtaccphdkapmdhaaGreatR31
import Derived.Test.YtaccphdkapmdhaaGreatRows
namespace Go.Proofs.YtaccphdkapmdhaaGreat
set_option maxRecDepth 100000
set_option maxHeartbeats 64000000
set_option linter.all false
section
open Go.ChangeShapes Go.WideShapes Go.ChangeAt Go.RowKit
theorem Ul:ownKnob Tryz.prog.godebug=none:=by kernel_rfl
theorem mW:laidOutB Tryz.prog=true:=by kernel_rfl
theorem u22:Tryz.prog.underlying 22=some (.slice 29):=by kernel_rfl
theorem u29:Tryz.prog.underlying 29=some (.int .u32):=by kernel_rfl
theorem c29:Tryz.prog.cellsOf 29=1:=by kernel_rfl
theorem u23:Tryz.prog.underlying 23=some (.slice 5):=by kernel_rfl
theorem u5:Tryz.prog.underlying 5=some (.int .u8):=by kernel_rfl
theorem c5:Tryz.prog.cellsOf 5=1:=by kernel_rfl
theorem u4:Tryz.prog.underlying 4=some .bool:=by kernel_rfl
theorem r22:Tryz.prog.readableRec 22=true:=by kernel_rfl
theorem r23:Tryz.prog.readableRec 23=true:=by kernel_rfl
theorem t22:22<Tryz.prog.types.size:=of_decide_eq_true (by kernel_rfl)
theorem t23:23<Tryz.prog.types.size:=of_decide_eq_true (by kernel_rfl)
theorem Up.below {W w':World} (h:Up W.heap.size W w'):Below W.heap.size W w':=⟨h.os,h.tape,h.output,h.size,h.old⟩
theorem Qm {W:World} {a:Addr} {k:IntKind} {zs:List Int} (h:∀i,i<zs.length->W.cell? (a.add i)=some (.int k (zs.getD i 0))) (h0:0<zs.length):
  ∃b o dc e fz,a=⟨b,o,none⟩/\W.heap[b]?=some (.cells dc e fz)/\∀i,i<zs.length->dc[o+i]?=some (.int k (zs.getD i 0)):=by
 obtain⟨b,o,spot⟩:=a;have hs:spot=none:=by simpa [Addr.add] using World.cell?_spot (h 0 h0)
 subst hs;have h1:=h 0 h0;rw [add_plain] at h1;unfold World.cell? at h1;dsimp only at h1;split at h1
 ·rename_i dc e fz hb;refine⟨b,o,dc,e,fz,rfl,hb,fun i hi=>?_⟩;have h2:=h i hi;rw [add_plain] at h2;unfold World.cell? at h2;simp only [hb] at h2;simpa using h2
 ·cases h1
section
variable {H:Type} {enc:TypeId×Value->H}
theorem aA {W:World} {base:Nat} {v:Value} {d:DataW H} {p:List MemPlace} (k:Value.okWide Tryz.prog W .any base 22 v) (h:DataW.Trod enc Tryz.prog W 0 (fun _=>true) true 22 v d p):
  ∃l:List Nat,US W v l/\∀n∈l,n<UU:=by
 obtain⟨a1,len,cap,rfl⟩:=okWide_slice u22 k;obtain⟨fuel,hf⟩:=h;rcases open_ints u22 u29 c29 hf with ⟨c,hx⟩|⟨a,len',cap',zs,c,_,hl,hm,hz,hx,j,m⟩
 ·simp [Value.cells] at c;obtain⟨rfl,rfl,rfl⟩:=c;exact⟨[],⟨none,0,rfl,Nat.le_refl _,fun h=>absurd rfl h⟩,by simp⟩
 ·simp [Value.cells] at c;obtain⟨rfl,rfl,rfl⟩:=c;simp only [if_true] at hz;have hw:∀n∈zs,0<=n/\n<4294967296:=fun n hn=>by
   have:=m n hn;simp [Lit.wf,IntKind.min,IntKind.max,IntKind.signed,IntKind.bits] at this;omega
  have g:((zs.take len).map Int.toNat).length=len:=(by rw [List.length_map,List.length_take];omega);refine⟨(zs.take len).map Int.toNat,⟨some a,cap,by rw [g],by rw [g];exact hl,fun q=>?_⟩,?_⟩
  ·have s:0<len:=by
    rcases Nat.eq_zero_or_pos len with h|h
    ·subst h;simp at q
    ·exact h
   obtain⟨b,o,dc,e,fz,rfl,hb,hc⟩:=Qm j (by omega);refine⟨b,o,dc,e,fz,rfl,hb,fun i n hi=>?_⟩;rw [List.getElem?_map,List.getElem?_take] at hi;split at hi
   ·rename_i t;have f:i<zs.length:=(by omega);rw [Yd f] at hi;simp only [Option.map_some,Yb] at hi;subst hi;have:=hw _ (List.getElem_mem f);rw [hc i f];have e1:zs.getD i 0=zs[i]:=(by simp [List.getD,f]);rw [e1];congr 2;omega
   ·cases hi
  ·intro n hn;obtain⟨z,r,rfl⟩:=List.mem_map.1 hn;have:=hw z (List.mem_of_mem_take r);show z.toNat<4294967296;omega
theorem aB {W:World} {base:Nat} {v:Value} {d:DataW H} {p:List MemPlace} (j:Value.okWide Tryz.prog W .any base 23 v) (h:DataW.Trod enc Tryz.prog W 0 (fun _=>true) true 23 v d p):
  ∃l:Bs,RF W.heap.size W v l:=by
 obtain⟨a1,len,cap,rfl⟩:=okWide_slice u23 j;obtain⟨fuel,hf⟩:=h;rcases open_ints u23 u5 c5 hf with ⟨c,hx⟩|⟨a,len',cap',zs,c,_,hl,hm,hz,hx,g,m⟩
 ·simp [Value.cells] at c;obtain⟨rfl,rfl,rfl⟩:=c;exact⟨[],⟨none,0,rfl,fun h=>absurd rfl h⟩⟩
 ·simp [Value.cells] at c;obtain⟨rfl,rfl,rfl⟩:=c;simp only [if_true] at hz;have hw:∀n∈zs,0<=n/\n<256:=fun n hn=>by
   have:=m n hn;simp [Lit.wf,IntKind.min,IntKind.max,IntKind.signed,IntKind.bits] at this;omega
  have k:((zs.take len).map fun n=>UInt8.ofNat n.toNat).length=len:=(by rw [List.length_map,List.length_take];omega);refine⟨(zs.take len).map fun n=>UInt8.ofNat n.toNat,⟨some a,cap,by rw [k],fun q=>?_⟩⟩;have r:0<len:=by
   rcases Nat.eq_zero_or_pos len with h|h
   ·subst h;simp at q
   ·exact h
  obtain⟨b,o,dc,e,fz,rfl,hb,hc⟩:=Qm g (by omega);refine⟨b,o,dc,e,fz,rfl,hb,fun i n hi=>?_,Ah hb⟩;rw [List.getElem?_map,List.getElem?_take] at hi;split at hi
  ·rename_i s;have f:i<zs.length:=(by omega);rw [Yd f] at hi;simp only [Option.map_some,Yb] at hi;subst hi;have:=hw _ (List.getElem_mem f);rw [hc i f];have e1:zs.getD i 0=zs[i]:=(by simp [List.getD,f]);rw [e1];congr 2;simp only [UInt8.toNat_ofNat'];omega
  ·cases hi
variable {P:Program}
theorem Kf {f:Func} {s:ChangeSpec} {apart fresh a Jq:Bool} {W W':World} {args:Array Value} {v:Value} {ds gs:List (DataW H)} {before pa pv:List MemPlace}
  (hW:DataW.Whole enc P f.params.toList s.vars apart W args.toList ds gs before) (hb:Below W.heap.size W W')
  (e:∀(b:Nat) (sp:Nat->Bool) (hd:Bool),DataW.TrodAll enc P W' b sp hd f.resultTypes.toList (v.resultList f.resultTypes.size) (s.fn H (ds++gs)).results [])
  (c:∀sp:Nat->Bool,(∀p∈before,sp p.block=true)->DataW.TrodAll enc P W' 0 sp true f.params.toList args.toList (s.fn H (ds++gs)).args pa)
  (d:∀sp:Nat->Bool,(∀p∈before,sp p.block=true)->DataW.TrodVars enc P W' sp s.vars (s.fn H (ds++gs)).vars pv)
  (h:before=pa++pv)
  (l:∀(j:Nat) (t:TypeId) (r:Value),f.resultTypes[j]?=some t->(v.resultList f.resultTypes.size)[j]?=some r->Value.okWide P W' .any 0 t r):
  s.post enc P f apart fresh a Jq W args v W':=by
 have i:=hW.lt;have g:∀p∈before,(fun b=>decide (b<W.heap.size)) p.block=true:=fun p hp=>by simpa using i p hp
 refine⟨ds,gs,before,[],pa,pv,hW,e _ _ _,c _ g,d _ g,hb.frame _,fun _=>?_⟩;obtain⟨_,_,_,_,_,hz,hn⟩:=hW;refine⟨l,_,_,([]++pa)++pv,⟨[]++pa,pv,trodAll_append (c _ (fun _ _=>rfl)) (e _ _ _),d _ (fun _ _=>rfl),rfl,?_,?_⟩,?_⟩
 ·intro b off hp;have k:MemPlace.cell b off∈before:=(by rw [h];simpa using hp);rw [hb.frozen (p:=⟨b,off,none⟩) (i _ k)];exact hz b off k
 ·intro ha;have:=hn ha;rw [h] at this;simpa using this
 ·intro p hp _;rw [h];simpa using hp
theorem Jq {t:Nat} (hr:Tryz.prog.readableRec t=true) (ht:t<Tryz.prog.types.size) {W W':World} {v:Value} {d:DataW H} {ps:List MemPlace} (h:DataW.Trod enc Tryz.prog W 0 (fun _=>true) true t v d ps)
  (hb:Below W.heap.size W W') (a:∀x∈ps,x.block<W.heap.size) {sp:Nat->Bool} (b:∀p∈ps,sp p.block=true):DataW.Trod enc Tryz.prog W' 0 sp true t v d ps:=
 WideElems.Trod_stays mW hr ht h (fun x hx=>hb.same (a x hx)) b
end
end
end Go.Proofs.YtaccphdkapmdhaaGreat
