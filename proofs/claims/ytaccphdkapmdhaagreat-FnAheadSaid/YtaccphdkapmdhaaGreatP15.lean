/- Heads of tables and expressions, as the tracker checks them. The check of an expression. How long documents and what they are parsed into are. A text is copied; a parser is begun. No condition. -/
import Derived.Test.YtaccphdkapmdhaaGreatP14
namespace Go.Proofs.YtaccphdkapmdhaaGreat
attribute [local irreducible] binOp IntKind.wrap Sem.run

/-- Behind the walk of a table's head. -/
def tabF (cur : Nat) (r : List Ent × Option (Nat × Bs)) : Trk × Bool := match r.2 with
  | none => (⟨r.1, cur⟩, false)
  | some q => match findE r.1 q.1 q.2 with
    | none => (⟨r.1 ++ [⟨q.1, 3, true, q.2⟩], r.1.length⟩, true)
    | some i => match r.1[i]? with
      | some e => if e.kind = 3 ∧ e.expl = false then (⟨r.1.set i { e with expl := true }, i⟩, true) else (⟨r.1, cur⟩, false)
      | none => (⟨r.1, cur⟩, false)
def atabF (cur : Nat) (r : List Ent × Option (Nat × Bs)) : Trk × Bool := match r.2 with
  | none => (⟨r.1, cur⟩, false)
  | some q => match findE r.1 q.1 q.2 with
    | none => (⟨r.1 ++ [⟨q.1, 4, true, q.2⟩], r.1.length⟩, true)
    | some i => if kindE r.1 i = 4 then (⟨clrE i r.1, i⟩, true) else (⟨r.1, cur⟩, false)

theorem ckX_tab (t : Trk) (ks : List Bs) : ckX t (.tab ks) = tabF t.cur (ckH ks t.ents 0) := by
  simp only [ckX, tabF]
  rcases ckH ks t.ents 0 with ⟨es, _ | ⟨p, k⟩⟩
  · rfl
  · dsimp only
    cases findE es p k with
    | none => rfl
    | some i =>
      dsimp only
      cases es[i]? <;> rfl
theorem ckX_atab (t : Trk) (ks : List Bs) : ckX t (.atab ks) = atabF t.cur (ckH ks t.ents 0) := by
  simp only [ckX, atabF]
  rcases ckH ks t.ents 0 with ⟨es, _ | ⟨p, k⟩⟩
  · rfl
  · dsimp only
    cases findE es p k with
    | none => rfl
    | some i => rfl

/-- Another table is open. -/
theorem TS.setCur {w w' : World} {tb c : Nat} {t : Trk} {ev rb mb : Value} {xs : List Value} {cn : Nat} {l : List Value} (h1 : w.heap[tb]? = some (.cells ⟨l⟩ 59 (0, 0))) (h2 : w.ownsRow (tb + 1) 145 4 ev t.ents.length xs) (h3 : EL w t.ents xs) (h4 : Buf w tb cn rb mb)
    (hS : St w tb (.cells ⟨[ev, .int .i32 (c : Int), rb, mb]⟩ 59 (0, 0)) w') : TS w' tb ⟨t.ents, c⟩ := by
  have hf : Fm 0 [59] w w' := hS.fm h1 (Nat.zero_le _) (by simp [tag]) rfl
  exact ⟨ev, xs, rb, mb, cn, hS.at_, row_keep h2 hf (by simp), h3.fm hf (by simp), h4.fm hf (by simp) (by simp)⟩

/-- An entry is told by its own head. -/
theorem TS.setExpl {w w' : World} {tb g cap cn j : Nat} {t : Trk} {cur : Array Value} {rb mb : Value} {e : Ent} (h1 : w.heap[tb]? = some (.cells ⟨[.slice (some ⟨g, 0, none⟩) t.ents.length cap, .int .i32 (t.cur : Int), rb, mb]⟩ 59 (0, 0))) (hg : tb < g) (hgb : w.heap[g]? = some (.cells cur 145 (0, 0)))
    (hc1 : t.ents.length ≤ cap) (hc2 : cap ≤ maxLen) (hcs : cur.size = cap * 4) (hN : EL w t.ents cur.toList) (hB : Buf w tb cn rb mb) (hj : t.ents[j]? = some e)
    (hS : St w g (.cells (cur.setIfInBounds (j * 4 + 2) (.bool true)) 145 (0, 0)) w') : TS w' tb ⟨t.ents.set j { e with expl := true }, t.cur⟩ := by
  have hf : Fm 0 [145] w w' := hS.fm hgb (Nat.zero_le _) (by simp [tag]) rfl
  have hjl := (List.getElem?_eq_some_iff.1 hj).1
  refine ⟨.slice (some ⟨g, 0, none⟩) t.ents.length cap, (cur.setIfInBounds (j * 4 + 2) (.bool true)).toList.take (t.ents.length * 4), rb, mb, cn, hS.keep h1 (by omega), ⟨?_, .inr ⟨g, cap, _, ?_, by omega, hS.at_, by rw [List.length_set]; exact hc1, hc2, by rw [Array.size_setIfInBounds]; exact hcs, by rw [List.length_set]⟩⟩, ?_, hB.fm hf (by simp) (by simp)⟩
  · rw [List.length_take, Array.length_toList, Array.size_setIfInBounds, List.length_set]
    omega
  · rw [List.length_set]
  · intro i a ha
    rw [take_set]
    have key : ∀ (k : Nat) (v : Value), k < 4 → i < t.ents.length → (i ≠ j ∨ k ≠ 2) → cur.toList[i * 4 + k]? = some v → ((cur.toList.take (t.ents.length * 4)).set (j * 4 + 2) (.bool true))[i * 4 + k]? = some v := fun k v hk hil hne hv => by
      rw [List.getElem?_set_ne (by omega), List.getElem?_take, if_pos (by omega)]; exact hv
    have hil := (List.getElem?_eq_some_iff.1 ha).1
    rw [List.length_set] at hil
    by_cases hij : i = j
    · subst hij
      rw [List.getElem?_set_self hjl] at ha
      simp only [Option.some.injEq] at ha
      subst ha
      obtain ⟨q1, q2, q3, d, q4, q5⟩ := (hN i e hj).fm hf (by simp)
      refine ⟨key 0 _ (by omega) hil (.inr (by omega)) q1, key 1 _ (by omega) hil (.inr (by omega)) q2, ?_, d, key 3 _ (by omega) hil (.inr (by omega)) q4, q5⟩
      rw [List.getElem?_set_self]
      rw [List.length_take, Array.length_toList]
      omega
    · rw [List.getElem?_set_ne (Ne.symm hij)] at ha
      obtain ⟨q1, q2, q3, d, q4, q5⟩ := (hN i a ha).fm hf (by simp)
      exact ⟨key 0 _ (by omega) hil (.inl hij) q1, key 1 _ (by omega) hil (.inl hij) q2, key 2 _ (by omega) hil (.inl hij) q3, d, key 3 _ (by omega) hil (.inl hij) q4, q5⟩

/-- What the check of a head or an expression shows. -/
def Told (tb : Nat) (r : Trk × Bool) (w : World) (e : Ending) (w' : World) : Prop := ∃ b u, e = .returned (.tuple #[.bool b, u]) ∧ ErrIs r.2 u ∧ TS w' tb r.1 ∧ Fm tb [59, 145, 4, 21] w w'


set_option maxRecDepth 100000 in
set_option maxHeartbeats 32000000 in
theorem ckTab_any (ks : List Bs) (tb pp g i : Nat) (ns : List ANode) (t : Trk) (a : ANode) (w : World) (hT : TS w tb t) (hA : AR w pp g ns) (hw : Wf ns)
    (ha : ns[i]? = some a) (hk : a.kind = 3) (hK : KT ns ks a.child) (hks : ks ≠ []) (hO : Ord t.ents) (hp : 0 < t.ents.length) (hm : t.ents.length + ks.length ≤ 1000000000) :
    Calls PP 50 #[.pointer (some ⟨tb, 0, none⟩), .pointer (some ⟨g, i * 7, none⟩)] w (Told tb (tabF t.cur (ckH ks t.ents 0)) w) := by
  have hlt := hT.lt
  have hsm := hA.small
  have hke : keyAt ns a = a.child := by simp [keyAt, hk]
  have hchl := (hw i a ha).2.2.2
  refine enter (L := [(0, .pointer (some ⟨tb, 0, none⟩)), (1, .pointer (some ⟨g, i * 7, none⟩))]) Tryz.func50 rfl rfl rfl ⟨rfl, rfl, trivial⟩ ?_
  repeat (first | refine WL.pp rfl ?_ | refine WL.ns ?_ | refine WC.sr ?_)
  refine WL.call rfl rfl rfl (key81_any pp g i ns a w hA hw ha (.inr (by omega))) ?_
  rintro e w1 ⟨rfl, hU1⟩
  rw [hke]
  refine ⟨_, _, rfl, rfl, ?_⟩
  refine WL.al rfl rfl rfl (fun w2 hA2 => ?_)
  refine WL.sg rfl rfl rfl (by simp [oneV, hptr]) hA2.at_ (by simp) rfl (fun w3 hS3 => ?_)
  generalize hit : w1.heap.size = it at *
  have hsz : w.heap.size ≤ it := by have := hU1.size; omega
  have hF3 : Fm tb [59, 145, 4, 21] w w3 := ((hU1.fm (Nat.le_refl _) (by omega)).trans (hA2.fm (by omega))).stN hS3 hsz (by omega)
  have hI3 : ItAt w3 it g ns a.child := .inl hS3.at_
  have hT3 : TS w3 tb t := hT.fm (B := 0) (T := []) (((hU1.fm (Nat.le_refl _) (Nat.zero_le _)).trans (hA2.fm (Nat.zero_le _))).stN hS3 hsz (Nat.zero_le _)) (by simp) (by simp) (by simp) (by simp) (by simp)
  have hA3 : AR w3 pp g ns := hA.fm hF3 (by simp) (by simp) (by simp)
  clear hS3 hA2 hU1
  repeat (first | refine WL.ns ?_ | refine WC.seq ?_ | refine WC.block ?_)
  refine WC.loop (σ := Nat × List Bs × Nat × List Ent) (I := fun s w' => ItAt w' it g ns s.1 ∧ KT ns s.2.1 s.1 ∧ s.2.1 ≠ [] ∧ TS w' tb ⟨s.2.2.2, t.cur⟩ ∧ AR w' pp g ns ∧ Fm tb [59, 145, 4, 21] w w' ∧ Ord s.2.2.2 ∧ s.2.2.1 < s.2.2.2.length ∧ s.2.2.2.length + s.2.1.length ≤ 1000000000 ∧ ckH s.2.1 s.2.2.2 s.2.2.1 = ckH ks t.ents 0)
    (m := fun s => s.2.1.length) (Lf := fun s => [(0, .pointer (some ⟨tb, 0, none⟩)), (1, .pointer (some ⟨g, i * 7, none⟩)), (6, .int .i32 (s.2.2.1 : Int)), (7, .pointer (some ⟨it, 0, none⟩))])
    (a.child, ks, 0, t.ents) ⟨hI3, hK, hks, hT3, hA3, hF3, hO, hp, hm, rfl⟩ ⟨rfl, rfl, rfl, rfl, trivial⟩ ?_
  clear hI3 hK hks hT3 hA3 hF3 hO hp hm hT
  rintro ⟨h, kc, q, es⟩ w4 ⟨hI, hK, hne, hT, hA, hF, hO, hq, hm, hres⟩
  dsimp only at hI hK hne hT hO hq hm hres ⊢
  rw [← hres]
  cases kc with
  | nil => exact absurd rfl hne
  | cons k rest =>
    obtain ⟨j, m, rfl, hj, hjk, hjd, hKr⟩ := hK
    have hjl := (List.getElem?_eq_some_iff.1 hj).1
    have hjn := (hw j m hj).2.2.1
    repeat (first | refine WC.sr ?_ | refine WC.seq ?_)
    refine WL.call rfl rfl rfl (iterStep pp g (j + 1) it ns w4 hA hw (by omega) hI) ?_
    rintro e w5 ⟨rfl, wm, hSm, ⟨om, htm, hom⟩, hS5⟩
    rw [dc_of (show j + 1 ≠ 0 by omega)]
    refine ⟨_, _, rfl, rfl, ?_⟩
    have hF45 := step_fm hSm hom htm hS5 rfl
    have hF5 : Fm tb [59, 145, 4, 21] w w5 := hF.step hSm hS5 hsz (by omega)
    have hT5 := hT.fm hF45 (by simp) (by simp) (by simp) (by simp) (by simp)
    have hA5 := hA.fm hF45 (by simp) (by simp) (by simp)
    have hit5 := hS5.at_
    rw [hptr_succ] at hit5
    have hI5 : ItAt w5 it g ns m.next := .inr ⟨j, m, hj, rfl, hS5.at_⟩
    clear hF45 hS5 hI hT hA hF hom hSm
    repeat (first | refine WL.ns ?_ | refine WC.sr ?_ | refine WC.bT rfl (by first | with_reducible rfl | exact Bool.not_false) ?_ | refine WC.block ?_ | refine X.sn ?_ | refine WC.skip ?_)
    refine WL.call rfl rfl rfl (iterNode_any _ _ it w5 hit5) ?_
    rintro e w6 ⟨rfl, rfl⟩
    refine ⟨_, _, rfl, rfl, ?_⟩
    obtain ⟨cur, hgc, hNL⟩ := hA5.cells
    obtain ⟨d, hd1, hd2, hd3⟩ := (hNL j m hj).data
    have hdk := hd3 k hjd
    have c3 : w6.cell? ⟨g, j * 7 + 3, none⟩ = some d := cell_of hgc (by simpa using hd1)
    repeat (first | refine WL.pp rfl ?_ | refine WL.ns ?_ | refine WC.sr ?_ | refine WL.ld rfl rfl c3 rfl ?_ | refine WC.seq ?_)
    refine WL.call rfl rfl rfl (isLast_any pp g j it _ ns m w6 hA5 hj hit5) ?_
    rintro e w7 ⟨rfl, rfl⟩
    refine ⟨_, _, rfl, rfl, ?_⟩
    have hfind := find_any tb q d k ⟨es, t.cur⟩ w7 hT5 hdk hq (by simp only [List.length_cons] at hm; simp only; omega)
    cases rest with
    | nil =>
      have hm0 : m.next = 0 := hKr
      simp only [List.length_singleton] at hm
      repeat (first | refine WL.pp rfl ?_ | refine WL.ns ?_ | refine WC.sr ?_ | refine WC.dT rfl (by first | omega | decide) ?_)
      refine WL.call rfl rfl rfl hfind ?_
      rintro e w8 ⟨rfl, rfl⟩
      refine ⟨_, _, rfl, rfl, ?_⟩
      cases hf : findE es q k with
      | some x =>
        have hxl := findE_lt hf
        obtain ⟨ex, hex⟩ : ∃ ex, es[x]? = some ex := ⟨_, List.getElem?_eq_getElem hxl⟩
        obtain ⟨ge, cape, cure, rbe, mbe, cne, he1, he2, he3, he4, he5, he6, he7, he8⟩ := hT5.open (by simp only; omega)
        simp only at he1 he4 he7
        have ck : w8.cell? ⟨ge, x * 4 + 1, none⟩ = some (.int .u8 ex.kind) := cell_of he3 (by simpa using (he7 x ex hex).kind)
        have cx : w8.cell? ⟨ge, x * 4 + 2, none⟩ = some (.bool ex.expl) := cell_of he3 (by simpa using (he7 x ex hex).expl)
        have hek := (hO x ex hex).2.2
        have err : ∀ (s : ByteArray), Calls PP 52 #[.string s] w8 fun e w' => ∃ u, e = .returned u ∧ (∀ b : Bool, Told tb (⟨es, t.cur⟩, false) w (.returned (.tuple #[.bool b, u])) w') := fun s => (errNew_any s w8).mono (by
          rintro e w9 ⟨u, rfl, hu, hU9⟩
          exact ⟨u, rfl, fun b => ⟨b, u, rfl, .inr ⟨rfl, hu⟩, hT5.up hU9, hF5.trans (hU9.fm (Nat.le_refl _) (by have := hT5.lt; omega))⟩⟩)
        simp only [foundV]
        repeat (first | refine WL.pp rfl ?_ | refine WL.ns ?_ | refine WC.sr ?_ | refine WC.dF rfl (by first | omega | decide) ?_ | refine WL.ldB (b := tb) (i := 0) rfl rfl he1 rfl rfl ?_ | refine WL.ix (i := x) rfl rfl rfl hxl (by rw [Nat.zero_add]; rfl) ?_ | refine WL.ld rfl rfl ck rfl ?_ | refine WC.seq ?_ | refine WC.block ?_ | refine X.sn ?_ | refine WC.skip ?_)
        by_cases h3 : ex.kind = 3
        · cases hxx : ex.expl with
          | true =>
            have e1 : tabF t.cur (ckH [k] es q) = (⟨es, t.cur⟩, false) := by simp [ckH, tabF, hf, hex, hxx]
            rw [e1]
            rw [hxx] at cx
            repeat (first | refine WL.pp rfl ?_ | refine WL.ns ?_ | refine WC.sr ?_ | refine WC.bT rfl (by first | with_reducible rfl | exact Bool.not_false) ?_ | refine WC.dT rfl (by first | omega | decide) ?_ | refine WL.ld rfl rfl cx rfl ?_ | refine WC.seq ?_)
            refine WL.call rfl rfl rfl (err _) ?_
            rintro e w9 ⟨u, rfl, hu⟩
            refine ⟨_, _, rfl, rfl, ?_⟩
            repeat (first | refine WL.pp rfl ?_ | refine WL.ns ?_ | refine X.sr ?_ | refine X.br ?_ | refine WC.ret ?_)
            exact X.ret_ rfl rfl (hu _)
          | false =>
            have e1 : tabF t.cur (ckH [k] es q) = (⟨es.set x { ex with expl := true }, x⟩, true) := by simp [ckH, tabF, hf, hex, hxx, h3]
            rw [e1]
            rw [hxx] at cx
            have hcx : x * 4 + 2 < cure.size := by rw [he6]; omega
            repeat (first | refine WL.pp rfl ?_ | refine WL.ns ?_ | refine WC.sr ?_ | refine WC.bF rfl (by first | with_reducible rfl | exact Bool.not_true) ?_ | refine WC.dT rfl (by first | omega | decide) ?_ | refine WL.ld rfl rfl cx rfl ?_ | refine WC.seq ?_ | refine X.sn ?_ | refine WC.skip ?_)
            refine WL.stB rfl rfl rfl he3 (Array.getElem?_eq_getElem hcx) rfl (fun w9 hS9 => ?_)
            have hT9 := TS.setExpl (t := ⟨es, t.cur⟩) he1 he2 he3 he4 he5 he6 he7 he8 hex hS9
            have hF9 : Fm tb [59, 145, 4, 21] w w9 := hF5.trans (hS9.fm he3 (by omega) (by simp [tag]) rfl)
            obtain ⟨ev, xs, rb, mb, cn, z1, z2, z3, z4⟩ := hT9
            repeat (first | refine WL.pp rfl ?_ | refine WL.ns ?_ | refine WC.sr ?_)
            refine WL.stB rfl rfl rfl z1 rfl rfl (fun w10 hS10 => ?_)
            repeat (first | refine WL.pp rfl ?_ | refine WL.ns ?_ | refine WC.sr ?_ | refine X.sr ?_ | refine X.br ?_ | refine WC.ret ?_)
            exact X.ret_ rfl rfl ⟨_, _, rfl, .inl ⟨rfl, rfl⟩, TS.setCur z1 z2 z3 z4 hS10, hF9.trans (hS10.fm z1 (Nat.le_refl _) (by simp [tag]) rfl)⟩
        · have e1 : tabF t.cur (ckH [k] es q) = (⟨es, t.cur⟩, false) := by simp [ckH, tabF, hf, hex, h3]
          rw [e1]
          by_cases h2 : ex.kind = 2
          · repeat (first | refine WL.pp rfl ?_ | refine WL.ns ?_ | refine WC.sr ?_ | refine WC.dT rfl (by first | omega | decide) ?_ | refine WC.dF rfl (by first | omega | decide) ?_)
            refine WL.call rfl rfl rfl (err _) ?_
            rintro e w9 ⟨u, rfl, hu⟩
            refine ⟨_, _, rfl, rfl, ?_⟩
            repeat (first | refine WL.pp rfl ?_ | refine WL.ns ?_ | refine X.sr ?_ | refine X.br ?_ | refine WC.ret ?_)
            exact X.ret_ rfl rfl (hu _)
          · by_cases h4 : ex.kind = 4
            · repeat (first | refine WL.pp rfl ?_ | refine WL.ns ?_ | refine WC.sr ?_ | refine WC.dT rfl (by first | omega | decide) ?_ | refine WC.dF rfl (by first | omega | decide) ?_)
              refine WL.call rfl rfl rfl (err _) ?_
              rintro e w9 ⟨u, rfl, hu⟩
              refine ⟨_, _, rfl, rfl, ?_⟩
              repeat (first | refine WL.pp rfl ?_ | refine WL.ns ?_ | refine X.sr ?_ | refine X.br ?_ | refine WC.ret ?_)
              exact X.ret_ rfl rfl (hu _)
            · repeat (first | refine WL.pp rfl ?_ | refine WL.ns ?_ | refine WC.sr ?_ | refine WC.dF rfl (by first | omega | decide) ?_)
              refine WL.call rfl rfl rfl (err _) ?_
              rintro e w9 ⟨u, rfl, hu⟩
              refine ⟨_, _, rfl, rfl, ?_⟩
              repeat (first | refine WL.pp rfl ?_ | refine WL.ns ?_ | refine X.sr ?_ | refine X.br ?_ | refine WC.ret ?_)
              exact X.ret_ rfl rfl (hu _)
      | none =>
        have e1 : tabF t.cur (ckH [k] es q) = (⟨es ++ [⟨q, 3, true, k⟩], es.length⟩, true) := by simp [ckH, tabF, hf]
        rw [e1]
        simp only [foundV]
        repeat (first | refine WL.pp rfl ?_ | refine WL.ns ?_ | refine WC.sr ?_ | refine WC.dT rfl (by first | omega | decide) ?_ | refine WC.seq ?_)
        refine WL.call rfl rfl rfl (create_any tb q 3 true d k ⟨es, t.cur⟩ w8 hT5 hdk (by omega) (by omega) (by simp only; omega)) ?_
        rintro e w9 ⟨rfl, hT9, hF9⟩
        refine ⟨_, _, rfl, rfl, ?_⟩
        have hF9 : Fm tb [59, 145, 4, 21] w8 w9 := hF9.mono (Nat.le_refl _) (by simp)
        obtain ⟨ev, xs, rb, mb, cn, z1, z2, z3, z4⟩ := hT9
        repeat (first | refine WL.pp rfl ?_ | refine WL.ns ?_ | refine WC.sr ?_)
        refine WL.stB rfl rfl rfl z1 rfl rfl (fun w10 hS10 => ?_)
        repeat (first | refine WL.pp rfl ?_ | refine WL.ns ?_ | refine WC.sr ?_ | refine X.sr ?_ | refine X.br ?_ | refine WC.ret ?_)
        exact X.ret_ rfl rfl ⟨_, _, rfl, .inl ⟨rfl, rfl⟩, TS.setCur z1 z2 z3 z4 hS10, (hF5.trans hF9).trans (hS10.fm z1 (Nat.le_refl _) (by simp [tag]) rfl)⟩
    | cons k2 rest =>
      have hm0 : m.next ≠ 0 := by
        obtain ⟨_, _, h, _⟩ := hKr
        omega
      simp only [List.length_cons] at hm
      repeat (first | refine WL.pp rfl ?_ | refine WL.ns ?_ | refine WC.sr ?_ | refine WC.dF rfl (by first | omega | decide) ?_ | refine X.sn ?_ | refine WC.skip ?_)
      refine WL.call rfl rfl rfl hfind ?_
      rintro e w8 ⟨rfl, rfl⟩
      refine ⟨_, _, rfl, rfl, ?_⟩
      cases hf : findE es q k with
      | none =>
        have e1 : ckH (k :: k2 :: rest) es q = ckH (k2 :: rest) (es ++ [⟨q, 3, false, k⟩]) es.length := by simp [ckH, hf]
        simp only [foundV]
        repeat (first | refine WL.pp rfl ?_ | refine WL.ns ?_ | refine WC.sr ?_ | refine WC.dT rfl (by first | omega | decide) ?_ | refine WC.seq ?_ | refine WC.reg ?_)
        refine WL.call rfl rfl rfl (create_any tb q 3 false d k ⟨es, t.cur⟩ w8 hT5 hdk (by omega) (by omega) (by simp only; omega)) ?_
        rintro e w9 ⟨rfl, hT9, hF9⟩
        refine ⟨_, _, rfl, rfl, ?_⟩
        simp only at hT9
        repeat (first | refine WL.pp rfl ?_ | refine WL.ns ?_ | refine WC.reg ?_ | refine WL.nil ?_ | refine X.bn ?_)
        have hG := Grow.snoc hO (k := 3) (x := false) (nm := k) hq (by omega) (by omega)
        exact X.again (m.next, k2 :: rest, es.length, es ++ [⟨q, 3, false, k⟩]) ⟨hI5.fm hF9 (by simp), hKr, by simp, hT9, hA5.fm hF9 (by simp) (by simp) (by simp), hF5.trans (hF9.mono (Nat.le_refl _) (by simp)), hG.1, by simp, by simp; omega, by rw [← e1, hres]⟩ (by simp) ⟨rfl, rfl, rfl, rfl, trivial⟩
      | some x =>
        have hxl := findE_lt hf
        obtain ⟨ex, hex⟩ : ∃ ex, es[x]? = some ex := ⟨_, List.getElem?_eq_getElem hxl⟩
        have hkx := kindE_some hex
        obtain ⟨ge, cape, cure, rbe, mbe, cne, he1, he2, he3, he4, he5, he6, he7, he8⟩ := hT5.open (by simp only; omega)
        simp only at he1 he4 he7
        have ck : w8.cell? ⟨ge, x * 4 + 1, none⟩ = some (.int .u8 ex.kind) := cell_of he3 (by simpa using (he7 x ex hex).kind)
        simp only [foundV]
        repeat (first | refine WL.pp rfl ?_ | refine WL.ns ?_ | refine WC.sr ?_ | refine WC.dF rfl (by first | omega | decide) ?_ | refine WL.ldB (b := tb) (i := 0) rfl rfl he1 rfl rfl ?_ | refine WL.ix (i := x) rfl rfl rfl hxl (by rw [Nat.zero_add]; rfl) ?_ | refine WL.ld rfl rfl ck rfl ?_ | refine WC.seq ?_ | refine WC.block ?_)
        have again : kindE es x = 2 ∨ kindE es x = 3 ∨ kindE es x = 4 → ckH (k2 :: rest) es x = ckH (k :: k2 :: rest) es q := fun hh => by
          simp only [ckH, hf]
          rw [if_pos hh]
        rw [hkx] at again
        by_cases h3 : ex.kind = 3
        · repeat (first | refine WL.pp rfl ?_ | refine WC.dT rfl (by first | omega | decide) ?_ | refine WC.reg ?_ | refine WL.nil ?_ | refine X.sn ?_ | refine X.bn ?_ | refine WC.skip ?_)
          exact X.again (m.next, k2 :: rest, x, es) ⟨hI5, hKr, by simp, hT5, hA5, hF5, hO, hxl, by simp only [List.length_cons]; omega, again (by omega)⟩ (by simp) ⟨rfl, rfl, rfl, rfl, trivial⟩
        · by_cases h4 : ex.kind = 4
          · repeat (first | refine WL.pp rfl ?_ | refine WL.ns ?_ | refine WC.sr ?_ | refine WC.dT rfl (by first | omega | decide) ?_ | refine WC.dF rfl (by first | omega | decide) ?_ | refine WC.reg ?_ | refine WL.nil ?_ | refine X.sn ?_ | refine X.bn ?_ | refine WC.skip ?_)
            exact X.again (m.next, k2 :: rest, x, es) ⟨hI5, hKr, by simp, hT5, hA5, hF5, hO, hxl, by simp only [List.length_cons]; omega, again (by omega)⟩ (by simp) ⟨rfl, rfl, rfl, rfl, trivial⟩
          · by_cases h2 : ex.kind = 2
            · repeat (first | refine WL.pp rfl ?_ | refine WL.ns ?_ | refine WC.sr ?_ | refine WC.dT rfl (by first | omega | decide) ?_ | refine WC.dF rfl (by first | omega | decide) ?_ | refine WC.reg ?_ | refine WL.nil ?_ | refine X.sn ?_ | refine X.bn ?_ | refine WC.skip ?_)
              exact X.again (m.next, k2 :: rest, x, es) ⟨hI5, hKr, by simp, hT5, hA5, hF5, hO, hxl, by simp only [List.length_cons]; omega, again (by omega)⟩ (by simp) ⟨rfl, rfl, rfl, rfl, trivial⟩
            · have e1 : tabF t.cur (ckH (k :: k2 :: rest) es q) = (⟨es, t.cur⟩, false) := by simp [ckH, tabF, hf, hkx, h2, h3, h4]
              rw [e1]
              repeat (first | refine WL.pp rfl ?_ | refine WL.ns ?_ | refine WC.sr ?_ | refine WC.dF rfl (by first | omega | decide) ?_ | refine WC.reg ?_)
              refine WL.call rfl rfl rfl (errNew_any _ w8) ?_
              rintro e w9 ⟨u, rfl, hu, hU9⟩
              refine ⟨_, _, rfl, rfl, ?_⟩
              repeat (first | refine WL.pp rfl ?_ | refine WL.ns ?_ | refine X.sr ?_ | refine X.br ?_ | refine WC.ret ?_)
              exact X.ret_ rfl rfl ⟨_, _, rfl, .inr ⟨rfl, hu⟩, hT5.up hU9, hF5.trans (hU9.fm (Nat.le_refl _) (by have := hT5.lt; omega))⟩

set_option maxRecDepth 100000 in
set_option maxHeartbeats 32000000 in
theorem ckATab_any (ks : List Bs) (tb pp g i : Nat) (ns : List ANode) (t : Trk) (a : ANode) (w : World) (hT : TS w tb t) (hA : AR w pp g ns) (hw : Wf ns)
    (ha : ns[i]? = some a) (hk : a.kind = 4) (hK : KT ns ks a.child) (hks : ks ≠ []) (hO : Ord t.ents) (hp : 0 < t.ents.length) (hm : t.ents.length + ks.length ≤ 1000000000) :
    Calls PP 51 #[.pointer (some ⟨tb, 0, none⟩), .pointer (some ⟨g, i * 7, none⟩)] w (Told tb (atabF t.cur (ckH ks t.ents 0)) w) := by
  have hlt := hT.lt
  have hsm := hA.small
  have hke : keyAt ns a = a.child := by simp [keyAt, hk]
  have hchl := (hw i a ha).2.2.2
  refine enter (L := [(0, .pointer (some ⟨tb, 0, none⟩)), (1, .pointer (some ⟨g, i * 7, none⟩))]) Tryz.func51 rfl rfl rfl ⟨rfl, rfl, trivial⟩ ?_
  repeat (first | refine WL.pp rfl ?_ | refine WL.ns ?_ | refine WC.sr ?_)
  refine WL.call rfl rfl rfl (key81_any pp g i ns a w hA hw ha (.inr (by omega))) ?_
  rintro e w1 ⟨rfl, hU1⟩
  rw [hke]
  refine ⟨_, _, rfl, rfl, ?_⟩
  refine WL.al rfl rfl rfl (fun w2 hA2 => ?_)
  refine WL.sg rfl rfl rfl (by simp [oneV, hptr]) hA2.at_ (by simp) rfl (fun w3 hS3 => ?_)
  generalize hit : w1.heap.size = it at *
  have hsz : w.heap.size ≤ it := by have := hU1.size; omega
  have hF3 : Fm tb [59, 145, 4, 21] w w3 := ((hU1.fm (Nat.le_refl _) (by omega)).trans (hA2.fm (by omega))).stN hS3 hsz (by omega)
  have hI3 : ItAt w3 it g ns a.child := .inl hS3.at_
  have hT3 : TS w3 tb t := hT.fm (B := 0) (T := []) (((hU1.fm (Nat.le_refl _) (Nat.zero_le _)).trans (hA2.fm (Nat.zero_le _))).stN hS3 hsz (Nat.zero_le _)) (by simp) (by simp) (by simp) (by simp) (by simp)
  have hA3 : AR w3 pp g ns := hA.fm hF3 (by simp) (by simp) (by simp)
  clear hS3 hA2 hU1
  repeat (first | refine WL.ns ?_ | refine WC.seq ?_ | refine WC.block ?_)
  refine WC.loop (σ := Nat × List Bs × Nat × List Ent) (I := fun s w' => ItAt w' it g ns s.1 ∧ KT ns s.2.1 s.1 ∧ s.2.1 ≠ [] ∧ TS w' tb ⟨s.2.2.2, t.cur⟩ ∧ AR w' pp g ns ∧ Fm tb [59, 145, 4, 21] w w' ∧ Ord s.2.2.2 ∧ s.2.2.1 < s.2.2.2.length ∧ s.2.2.2.length + s.2.1.length ≤ 1000000000 ∧ ckH s.2.1 s.2.2.2 s.2.2.1 = ckH ks t.ents 0)
    (m := fun s => s.2.1.length) (Lf := fun s => [(0, .pointer (some ⟨tb, 0, none⟩)), (1, .pointer (some ⟨g, i * 7, none⟩)), (6, .int .i32 (s.2.2.1 : Int)), (7, .pointer (some ⟨it, 0, none⟩))])
    (a.child, ks, 0, t.ents) ⟨hI3, hK, hks, hT3, hA3, hF3, hO, hp, hm, rfl⟩ ⟨rfl, rfl, rfl, rfl, trivial⟩ ?_
  clear hI3 hK hks hT3 hA3 hF3 hO hp hm hT
  rintro ⟨h, kc, q, es⟩ w4 ⟨hI, hK, hne, hT, hA, hF, hO, hq, hm, hres⟩
  dsimp only at hI hK hne hT hO hq hm hres ⊢
  rw [← hres]
  cases kc with
  | nil => exact absurd rfl hne
  | cons k rest =>
    obtain ⟨j, m, rfl, hj, hjk, hjd, hKr⟩ := hK
    have hjl := (List.getElem?_eq_some_iff.1 hj).1
    have hjn := (hw j m hj).2.2.1
    repeat (first | refine WC.sr ?_ | refine WC.seq ?_)
    refine WL.call rfl rfl rfl (iterStep pp g (j + 1) it ns w4 hA hw (by omega) hI) ?_
    rintro e w5 ⟨rfl, wm, hSm, ⟨om, htm, hom⟩, hS5⟩
    rw [dc_of (show j + 1 ≠ 0 by omega)]
    refine ⟨_, _, rfl, rfl, ?_⟩
    have hF45 := step_fm hSm hom htm hS5 rfl
    have hF5 : Fm tb [59, 145, 4, 21] w w5 := hF.step hSm hS5 hsz (by omega)
    have hT5 := hT.fm hF45 (by simp) (by simp) (by simp) (by simp) (by simp)
    have hA5 := hA.fm hF45 (by simp) (by simp) (by simp)
    have hit5 := hS5.at_
    rw [hptr_succ] at hit5
    have hI5 : ItAt w5 it g ns m.next := .inr ⟨j, m, hj, rfl, hS5.at_⟩
    clear hF45 hS5 hI hT hA hF hom hSm
    repeat (first | refine WL.ns ?_ | refine WC.sr ?_ | refine WC.bT rfl (by first | with_reducible rfl | exact Bool.not_false) ?_ | refine WC.block ?_ | refine X.sn ?_ | refine WC.skip ?_)
    refine WL.call rfl rfl rfl (iterNode_any _ _ it w5 hit5) ?_
    rintro e w6 ⟨rfl, rfl⟩
    refine ⟨_, _, rfl, rfl, ?_⟩
    obtain ⟨cur, hgc, hNL⟩ := hA5.cells
    obtain ⟨d, hd1, hd2, hd3⟩ := (hNL j m hj).data
    have hdk := hd3 k hjd
    have c3 : w6.cell? ⟨g, j * 7 + 3, none⟩ = some d := cell_of hgc (by simpa using hd1)
    repeat (first | refine WL.pp rfl ?_ | refine WL.ns ?_ | refine WC.sr ?_ | refine WL.ld rfl rfl c3 rfl ?_ | refine WC.seq ?_)
    refine WL.call rfl rfl rfl (isLast_any pp g j it _ ns m w6 hA5 hj hit5) ?_
    rintro e w7 ⟨rfl, rfl⟩
    refine ⟨_, _, rfl, rfl, ?_⟩
    have hfind := find_any tb q d k ⟨es, t.cur⟩ w7 hT5 hdk hq (by simp only [List.length_cons] at hm; simp only; omega)
    cases rest with
    | nil =>
      have hm0 : m.next = 0 := hKr
      simp only [List.length_singleton] at hm
      repeat (first | refine WL.pp rfl ?_ | refine WL.ns ?_ | refine WC.sr ?_ | refine WC.dT rfl (by first | omega | decide) ?_)
      refine WL.call rfl rfl rfl hfind ?_
      rintro e w8 ⟨rfl, rfl⟩
      refine ⟨_, _, rfl, rfl, ?_⟩
      cases hf : findE es q k with
      | some x =>
        have hxl := findE_lt hf
        obtain ⟨ex, hex⟩ : ∃ ex, es[x]? = some ex := ⟨_, List.getElem?_eq_getElem hxl⟩
        have hkx := kindE_some hex
        obtain ⟨ge, cape, cure, rbe, mbe, cne, he1, he2, he3, he4, he5, he6, he7, he8⟩ := hT5.open (by simp only; omega)
        simp only at he1 he4 he7
        have ck : w8.cell? ⟨ge, x * 4 + 1, none⟩ = some (.int .u8 ex.kind) := cell_of he3 (by simpa using (he7 x ex hex).kind)
        simp only [foundV]
        repeat (first | refine WL.pp rfl ?_ | refine WL.ns ?_ | refine WC.sr ?_ | refine WC.dF rfl (by first | omega | decide) ?_ | refine WL.ldB (b := tb) (i := 0) rfl rfl he1 rfl rfl ?_ | refine WL.ix (i := x) rfl rfl rfl hxl (by rw [Nat.zero_add]; rfl) ?_ | refine WL.ld rfl rfl ck rfl ?_ | refine WC.seq ?_ | refine X.sn ?_ | refine WC.skip ?_)
        by_cases h4 : ex.kind = 4
        · have e1 : atabF t.cur (ckH [k] es q) = (⟨clrE x es, x⟩, true) := by simp [ckH, atabF, hf, hkx, h4]
          rw [e1]
          repeat (first | refine WL.pp rfl ?_ | refine WC.sr ?_ | refine WC.dF rfl (by first | omega | decide) ?_ | refine X.sn ?_ | refine WC.skip ?_)
          refine WL.call rfl rfl rfl (clear_any tb x ⟨es, t.cur⟩ w8 hT5 hO hxl (by simp only; omega)) ?_
          rintro e w9 ⟨rfl, hT9, hF9⟩
          refine ⟨_, _, rfl, rfl, ?_⟩
          obtain ⟨ev, xs, rb, mb, cn, z1, z2, z3, z4⟩ := hT9
          repeat (first | refine WL.pp rfl ?_ | refine WL.ns ?_ | refine WC.sr ?_)
          refine WL.stB rfl rfl rfl z1 rfl rfl (fun w10 hS10 => ?_)
          repeat (first | refine WL.pp rfl ?_ | refine WL.ns ?_ | refine WC.sr ?_ | refine X.sr ?_ | refine X.br ?_ | refine WC.ret ?_)
          exact X.ret_ rfl rfl ⟨_, _, rfl, .inl ⟨rfl, rfl⟩, TS.setCur z1 z2 z3 z4 hS10, (hF5.trans hF9).trans (hS10.fm z1 (Nat.le_refl _) (by simp [tag]) rfl)⟩
        · have e1 : atabF t.cur (ckH [k] es q) = (⟨es, t.cur⟩, false) := by simp [ckH, atabF, hf, hkx, h4]
          rw [e1]
          repeat (first | refine WC.sr ?_ | refine WC.dT rfl (by first | omega | decide) ?_)
          refine WL.call rfl rfl rfl (errNew_any _ w8) ?_
          rintro e w9 ⟨u, rfl, hu, hU9⟩
          refine ⟨_, _, rfl, rfl, ?_⟩
          repeat (first | refine WL.pp rfl ?_ | refine WL.ns ?_ | refine X.sr ?_ | refine X.br ?_ | refine WC.ret ?_)
          exact X.ret_ rfl rfl ⟨_, _, rfl, .inr ⟨rfl, hu⟩, hT5.up hU9, hF5.trans (hU9.fm (Nat.le_refl _) (by have := hT5.lt; omega))⟩
      | none =>
        have e1 : atabF t.cur (ckH [k] es q) = (⟨es ++ [⟨q, 4, true, k⟩], es.length⟩, true) := by simp [ckH, atabF, hf]
        rw [e1]
        simp only [foundV]
        repeat (first | refine WL.pp rfl ?_ | refine WL.ns ?_ | refine WC.sr ?_ | refine WC.dT rfl (by first | omega | decide) ?_ | refine WC.seq ?_)
        refine WL.call rfl rfl rfl (create_any tb q 4 true d k ⟨es, t.cur⟩ w8 hT5 hdk (by omega) (by omega) (by simp only; omega)) ?_
        rintro e w9 ⟨rfl, hT9, hF9⟩
        refine ⟨_, _, rfl, rfl, ?_⟩
        have hF9 : Fm tb [59, 145, 4, 21] w8 w9 := hF9.mono (Nat.le_refl _) (by simp)
        obtain ⟨ev, xs, rb, mb, cn, z1, z2, z3, z4⟩ := hT9
        repeat (first | refine WL.pp rfl ?_ | refine WL.ns ?_ | refine WC.sr ?_)
        refine WL.stB rfl rfl rfl z1 rfl rfl (fun w10 hS10 => ?_)
        repeat (first | refine WL.pp rfl ?_ | refine WL.ns ?_ | refine WC.sr ?_ | refine X.sr ?_ | refine X.br ?_ | refine WC.ret ?_)
        exact X.ret_ rfl rfl ⟨_, _, rfl, .inl ⟨rfl, rfl⟩, TS.setCur z1 z2 z3 z4 hS10, (hF5.trans hF9).trans (hS10.fm z1 (Nat.le_refl _) (by simp [tag]) rfl)⟩
    | cons k2 rest =>
      have hm0 : m.next ≠ 0 := by
        obtain ⟨_, _, h, _⟩ := hKr
        omega
      simp only [List.length_cons] at hm
      repeat (first | refine WL.pp rfl ?_ | refine WL.ns ?_ | refine WC.sr ?_ | refine WC.dF rfl (by first | omega | decide) ?_ | refine X.sn ?_ | refine WC.skip ?_)
      refine WL.call rfl rfl rfl hfind ?_
      rintro e w8 ⟨rfl, rfl⟩
      refine ⟨_, _, rfl, rfl, ?_⟩
      cases hf : findE es q k with
      | none =>
        have e1 : ckH (k :: k2 :: rest) es q = ckH (k2 :: rest) (es ++ [⟨q, 3, false, k⟩]) es.length := by simp [ckH, hf]
        simp only [foundV]
        repeat (first | refine WL.pp rfl ?_ | refine WL.ns ?_ | refine WC.sr ?_ | refine WC.dT rfl (by first | omega | decide) ?_ | refine WC.seq ?_ | refine WC.reg ?_)
        refine WL.call rfl rfl rfl (create_any tb q 3 false d k ⟨es, t.cur⟩ w8 hT5 hdk (by omega) (by omega) (by simp only; omega)) ?_
        rintro e w9 ⟨rfl, hT9, hF9⟩
        refine ⟨_, _, rfl, rfl, ?_⟩
        simp only at hT9
        repeat (first | refine WL.pp rfl ?_ | refine WL.ns ?_ | refine WC.reg ?_ | refine WL.nil ?_ | refine X.bn ?_)
        have hG := Grow.snoc hO (k := 3) (x := false) (nm := k) hq (by omega) (by omega)
        exact X.again (m.next, k2 :: rest, es.length, es ++ [⟨q, 3, false, k⟩]) ⟨hI5.fm hF9 (by simp), hKr, by simp, hT9, hA5.fm hF9 (by simp) (by simp) (by simp), hF5.trans (hF9.mono (Nat.le_refl _) (by simp)), hG.1, by simp, by simp; omega, by rw [← e1, hres]⟩ (by simp) ⟨rfl, rfl, rfl, rfl, trivial⟩
      | some x =>
        have hxl := findE_lt hf
        obtain ⟨ex, hex⟩ : ∃ ex, es[x]? = some ex := ⟨_, List.getElem?_eq_getElem hxl⟩
        have hkx := kindE_some hex
        obtain ⟨ge, cape, cure, rbe, mbe, cne, he1, he2, he3, he4, he5, he6, he7, he8⟩ := hT5.open (by simp only; omega)
        simp only at he1 he4 he7
        have ck : w8.cell? ⟨ge, x * 4 + 1, none⟩ = some (.int .u8 ex.kind) := cell_of he3 (by simpa using (he7 x ex hex).kind)
        simp only [foundV]
        repeat (first | refine WL.pp rfl ?_ | refine WL.ns ?_ | refine WC.sr ?_ | refine WC.dF rfl (by first | omega | decide) ?_ | refine WL.ldB (b := tb) (i := 0) rfl rfl he1 rfl rfl ?_ | refine WL.ix (i := x) rfl rfl rfl hxl (by rw [Nat.zero_add]; rfl) ?_ | refine WL.ld rfl rfl ck rfl ?_ | refine WC.seq ?_ | refine WC.block ?_)
        have again : kindE es x = 2 ∨ kindE es x = 3 ∨ kindE es x = 4 → ckH (k2 :: rest) es x = ckH (k :: k2 :: rest) es q := fun hh => by
          simp only [ckH, hf]
          rw [if_pos hh]
        rw [hkx] at again
        by_cases h3 : ex.kind = 3
        · repeat (first | refine WL.pp rfl ?_ | refine WC.dT rfl (by first | omega | decide) ?_ | refine WC.reg ?_ | refine WL.nil ?_ | refine X.sn ?_ | refine X.bn ?_ | refine WC.skip ?_)
          exact X.again (m.next, k2 :: rest, x, es) ⟨hI5, hKr, by simp, hT5, hA5, hF5, hO, hxl, by simp only [List.length_cons]; omega, again (by omega)⟩ (by simp) ⟨rfl, rfl, rfl, rfl, trivial⟩
        · by_cases h4 : ex.kind = 4
          · repeat (first | refine WL.pp rfl ?_ | refine WL.ns ?_ | refine WC.sr ?_ | refine WC.dT rfl (by first | omega | decide) ?_ | refine WC.dF rfl (by first | omega | decide) ?_ | refine WC.reg ?_ | refine WL.nil ?_ | refine X.sn ?_ | refine X.bn ?_ | refine WC.skip ?_)
            exact X.again (m.next, k2 :: rest, x, es) ⟨hI5, hKr, by simp, hT5, hA5, hF5, hO, hxl, by simp only [List.length_cons]; omega, again (by omega)⟩ (by simp) ⟨rfl, rfl, rfl, rfl, trivial⟩
          · by_cases h2 : ex.kind = 2
            · repeat (first | refine WL.pp rfl ?_ | refine WL.ns ?_ | refine WC.sr ?_ | refine WC.dT rfl (by first | omega | decide) ?_ | refine WC.dF rfl (by first | omega | decide) ?_ | refine WC.reg ?_ | refine WL.nil ?_ | refine X.sn ?_ | refine X.bn ?_ | refine WC.skip ?_)
              exact X.again (m.next, k2 :: rest, x, es) ⟨hI5, hKr, by simp, hT5, hA5, hF5, hO, hxl, by simp only [List.length_cons]; omega, again (by omega)⟩ (by simp) ⟨rfl, rfl, rfl, rfl, trivial⟩
            · have e1 : atabF t.cur (ckH (k :: k2 :: rest) es q) = (⟨es, t.cur⟩, false) := by simp [ckH, atabF, hf, hkx, h2, h3, h4]
              rw [e1]
              repeat (first | refine WL.pp rfl ?_ | refine WL.ns ?_ | refine WC.sr ?_ | refine WC.dF rfl (by first | omega | decide) ?_ | refine WC.reg ?_)
              refine WL.call rfl rfl rfl (errNew_any _ w8) ?_
              rintro e w9 ⟨u, rfl, hu, hU9⟩
              refine ⟨_, _, rfl, rfl, ?_⟩
              repeat (first | refine WL.pp rfl ?_ | refine WL.ns ?_ | refine X.sr ?_ | refine X.br ?_ | refine WC.ret ?_)
              exact X.ret_ rfl rfl ⟨_, _, rfl, .inr ⟨rfl, hu⟩, hT5.up hU9, hF5.trans (hU9.fm (Nat.le_refl _) (by have := hT5.lt; omega))⟩
end Go.Proofs.YtaccphdkapmdhaaGreat

namespace Go.Proofs.YtaccphdkapmdhaaGreat
attribute [local irreducible] binOp IntKind.wrap Sem.run

theorem encX_wf (x : Ex) (hx : KsX x) : Wf (encX x) := by
  have key : Wn (encX x).length (encX x) := by
    cases x with
    | kv ks v =>
      have h1 := encV_wn v (0 + 1 + ks.length)
      have h2 := encE_length ks (encV v) 0
      obtain ⟨a, l, h, _⟩ := encV_cons v (0 + 1 + ks.length)
      have h3 : 0 < (encV v (0 + 1 + ks.length)).length := by rw [h]; simp
      simp only [encX]
      rw [h2]
      unfold encE
      exact Wn.cons (by simp) (by simp) (Nat.zero_le _) (by simp only; omega) ((keyNodes_wn ks (0 + 1) _ (by omega)).app ((h1.mono (by omega)).setN (by omega)))
    | tab ks =>
      simp only [encX]
      cases ks with
      | nil => exact absurd rfl hx
      | cons k ks => exact Wn.cons (by simp) (by simp) (Nat.zero_le _) (by simp [keyNodes_length]) (keyNodes_wn _ 1 _ (by simp [keyNodes_length]; omega))
    | atab ks =>
      simp only [encX]
      cases ks with
      | nil => exact absurd rfl hx
      | cons k ks => exact Wn.cons (by simp) (by simp) (Nat.zero_le _) (by simp [keyNodes_length]) (keyNodes_wn _ 1 _ (by simp [keyNodes_length]; omega))
  intro i n hn
  exact key n (List.mem_of_getElem? hn)

theorem encX_xt (x : Ex) (hx : KsX x) : XT (encX x) x := by
  cases x with
  | kv ks v =>
    have h := Sub.self (encX (.kv ks v))
    have e : encX (.kv ks v) = ⟨5, none, 0, 0 + ks.length + 2⟩ :: (keyNodes (0 + 1) ks ++ setN (encV v (0 + 1 + ks.length)) (0 + 2)) := rfl
    rw [e] at h ⊢
    have h4 := h.tail.right
    rw [keyNodes_length] at h4
    obtain ⟨h1, a, h2, h3⟩ := NT_of _ v _ _ hx.2 h4
    have h5 := KT_of _ ks _ hx.1 h.tail.left
    exact ⟨_, 0 + 1 + ks.length, a, h.head, rfl, by simp only; omega, h2, h1, by rw [h3]; exact h5⟩
  | tab ks =>
    have h := Sub.self (encX (.tab ks))
    exact ⟨_, h.head, rfl, KT_of _ ks 1 hx h.tail⟩
  | atab ks =>
    have h := Sub.self (encX (.atab ks))
    exact ⟨_, h.head, rfl, KT_of _ ks 1 hx h.tail⟩

theorem encX_pos (x : Ex) : 0 < (encX x).length := by
  cases x <;> simp [encX, encE]

set_option maxRecDepth 10000 in
set_option maxHeartbeats 8000000 in
theorem reset_any (tb c : Nat) (w : World) (hT : TS w tb ⟨[], c⟩) :
    Calls PP 48 #[.pointer (some ⟨tb, 0, none⟩)] w fun e w' => e = .returned (.tuple #[]) ∧ TS w' tb ⟨[⟨-1, 3, false, []⟩], 0⟩ ∧ Fm tb [59, 145] w w' := by
  obtain ⟨ev, xs, rb, mb, cn, h1, h2, h3, h4⟩ := hT
  simp only [List.length_nil] at h2
  obtain ⟨ad, cap, rfl⟩ : ∃ ad cap, ev = .slice ad 0 cap := by
    rcases h2.2 with ⟨rfl, hn⟩ | ⟨g, cap, cur, rfl, _⟩
    · exact ⟨none, 0, rfl⟩
    · exact ⟨_, _, rfl⟩
  have hlt := lt_of_heap h1
  refine enter (L := [(0, .pointer (some ⟨tb, 0, none⟩))]) Tryz.func48 rfl rfl rfl ⟨rfl, trivial⟩ ?_
  repeat (first | refine WL.pp rfl ?_ | refine WC.sr ?_ | refine WL.ldB (b := tb) (i := 0) rfl rfl h1 rfl rfl ?_ | refine WL.s0 0 rfl rfl rfl (Nat.zero_le _) rfl ?_)
  refine WL.bd rfl rfl (bdEnt2 _ _) rfl ?_
  refine WL.bs rfl rfl (bsEnt _ _ _ _) rfl (fun w1 hA => ?_)
  have h1a := hA.keep h1
  have h2a : w1.ownsRow (tb + 1) 145 4 (.slice ad 0 cap) 0 xs := own_same h2 (fun k o _ h => hA.keep h)
  have hF1 : Fm tb [59, 145] w w1 := hA.fm (by omega)
  refine WL.apf (m := 1) [.int .i32 (-1), .int .u8 3, .bool false, .slice none 0 0] rfl rfl (rfl : rowT 55 = some (145, 4)) h2a rfl (fun j u hu => ?_) (fun u hu => ?_) (by omega) (by rw [hA.size]; omega) (fun v' w2 hO2 hG2 _ => ?_)
  · rw [add_zero]
    exact cell_of hA.at_ (by simpa using hu)
  · simp only [List.mem_cons, List.not_mem_nil, or_false] at hu
    rcases hu with rfl | rfl | rfl | rfl <;> rfl
  have h1b := hG2.keep _ _ h1a (by simp [tag])
  have hone : oneV v' = true := by
    rcases hO2.2 with ⟨rfl, _⟩ | ⟨g, cap, cur, rfl, _⟩ <;> rfl
  have hF2 : Fm tb [59, 145] w1 w2 := hG2.mono (by omega) (by simp)
  refine ⟨_, rfl, ?_⟩
  repeat (refine WL.pp rfl ?_)
  refine WL.stB rfl rfl hone h1b rfl rfl (fun w3 hS3 => ?_)
  have hT3 : TS w3 tb ⟨[] ++ [⟨-1, 3, false, []⟩], c⟩ := TS.grow (w0 := w) (t := ⟨[], c⟩) hO2 h3 h2.1 ⟨rfl, rfl, rfl, _, rfl, ⟨none, 0, rfl, fun h => absurd rfl h⟩⟩ (h4.fm (hF1.trans hF2) (by simp) (by simp)) ((hF1.trans hF2).mono (Nat.zero_le _) (fun _ h => h)) h1b hS3
  have hF3 : Fm tb [59, 145] w w3 := (hF1.trans hF2).trans (hS3.fm h1b (Nat.le_refl _) (by simp [tag]) rfl)
  obtain ⟨ev, xs, rb, mb, cn, z1, z2, z3, z4⟩ := hT3
  repeat (first | refine WL.pp rfl ?_ | refine WL.ns ?_ | refine WC.reg ?_)
  refine WL.stB rfl rfl rfl z1 rfl rfl (fun w4 hS4 => ?_)
  repeat (refine WL.nil ?_)
  exact X.end_ rfl rfl ⟨rfl, TS.setCur (c := 0) z1 z2 z3 z4 hS4, hF3.trans (hS4.fm z1 (Nat.le_refl _) (by simp [tag]) rfl)⟩

set_option maxRecDepth 100000 in
set_option maxHeartbeats 16000000 in
theorem check_any (tb pp g : Nat) (x : Ex) (ns : List ANode) (t : Trk) (w : World) (hT : TS w tb t) (hA : AR w pp g ns) (hw : Wf ns) (hX : XT ns x) (hx : KsX x) (hp : TPre t) (hm : t.ents.length + 1 + cX x ≤ 1000000000) :
    Calls PP 22 #[.pointer (some ⟨tb, 0, none⟩), .pointer (some ⟨g, 0, none⟩)] w (Told tb (ckT t x) w) := by
  have hlt := hT.lt
  obtain ⟨hbo, hbl⟩ := begun_ok hp
  obtain ⟨ev, xs, rb, mb, cn, h1, h2, h3, h4⟩ := hT
  have hT : TS w tb t := ⟨ev, xs, rb, mb, cn, h1, h2, h3, h4⟩
  obtain ⟨ad, cap, rfl⟩ : ∃ ad cap, ev = .slice ad t.ents.length cap := by
    rcases h2.2 with ⟨rfl, hn⟩ | ⟨g, cap, cur, rfl, _⟩
    · exact ⟨none, 0, by rw [hn]⟩
    · exact ⟨_, _, rfl⟩
  refine enter (L := [(0, .pointer (some ⟨tb, 0, none⟩)), (1, .pointer (some ⟨g, 0, none⟩))]) Tryz.func22 rfl rfl rfl ⟨rfl, rfl, trivial⟩ ?_
  repeat (first | refine WL.pp rfl ?_ | refine WL.ns ?_ | refine WC.sr ?_ | refine WC.cut (x := .seq _ (.cond _ _ _)) (σ := Unit) (fun _ w' => TS w' tb t.begun ∧ Fm tb [59, 145, 4, 21] w w') (fun _ => [(0, .pointer (some ⟨tb, 0, none⟩)), (1, .pointer (some ⟨g, 0, none⟩))]) ?_ ?_)
  · rcases hp with rfl | hp
    · simp only [List.length_nil] at h1
      repeat (first | refine WL.pp rfl ?_ | refine WL.ns ?_ | refine WC.dT rfl (by first | omega | decide) ?_ | refine WL.ldB (b := tb) (i := 0) rfl rfl h1 rfl rfl ?_ | refine WC.reg ?_)
      refine WL.call rfl rfl rfl (reset_any tb 0 w hT) ?_
      rintro e w1 ⟨rfl, hT1, hF1⟩
      refine ⟨_, _, rfl, rfl, ?_⟩
      repeat (refine WL.nil ?_)
      exact X.cut () ⟨hT1, hF1.mono (Nat.le_refl _) (by simp)⟩ ⟨rfl, rfl, trivial⟩
    · have hpos : 0 < t.ents.length := by have := hp.2; omega
      have hb : t.begun = t := begun_of hp
      repeat (first | refine WL.pp rfl ?_ | refine WL.ns ?_ | refine WC.dF rfl (by first | omega | decide) ?_ | refine WL.ldB (b := tb) (i := 0) rfl rfl h1 rfl rfl ?_ | refine WC.skip ?_)
      rw [hb]
      exact X.cut () ⟨hT, Fm.refl _ _ _⟩ ⟨rfl, rfl, trivial⟩
  · rintro _ w1 ⟨hT1, hF1⟩
    have hA1 := hA.fm hF1 (by simp) (by simp) (by simp)
    obtain ⟨hOb, hcb⟩ := hbo
    obtain ⟨cur, hgc, hNL⟩ := hA1.cells
    simp only [ckT]
    cases x with
    | kv ks v =>
      obtain ⟨a, c, b, ha, hk, hch, hb, hn, hK⟩ := hX
      have c0 : w1.cell? ⟨g, 0, none⟩ = some (.int .i64 a.kind) := cell_of hgc (by simpa using (hNL 0 a ha).kind)
      obtain ⟨gg, cap2, cur2, rb2, mb2, cn2, z1, _⟩ := hT1.open (by omega)
      simp only [cX] at hm
      repeat (first | refine WL.pp rfl ?_ | refine WL.ns ?_ | refine WC.sr ?_ | refine WC.dT rfl (by first | omega | decide) ?_ | refine WL.ld rfl rfl c0 rfl ?_ | refine WL.ldB (b := tb) (i := 1) rfl rfl z1 rfl rfl ?_ | refine WC.block ?_)
      refine WL.call rfl rfl rfl (ckKV_any v (ckV_all v hx.2) ks tb pp g t.begun.cur 0 c ns t.begun a b w1 hT1 hA1 hw ha hk hch hb hn hK hx.1 hOb hcb (by omega)) ?_
      rintro e w2 ⟨u, rfl, hu, hT2, hF2⟩
      refine ⟨_, _, rfl, rfl, ?_⟩
      repeat (first | refine WL.pp rfl ?_ | refine WL.ns ?_ | refine X.br ?_ | refine WC.ret ?_)
      exact X.ret_ rfl rfl ⟨_, _, rfl, hu, hT2, hF1.trans (hF2.mono (Nat.le_refl _) (by simp))⟩
    | tab ks =>
      obtain ⟨a, ha, hk, hK⟩ := hX
      have c0 : w1.cell? ⟨g, 0, none⟩ = some (.int .i64 a.kind) := cell_of hgc (by simpa using (hNL 0 a ha).kind)
      simp only [cX] at hm
      rw [ckX_tab]
      repeat (first | refine WL.pp rfl ?_ | refine WL.ns ?_ | refine WC.sr ?_ | refine WC.dT rfl (by first | omega | decide) ?_ | refine WC.dF rfl (by first | omega | decide) ?_ | refine WL.ld rfl rfl c0 rfl ?_ | refine WC.block ?_)
      refine WL.call rfl rfl rfl (ckTab_any ks tb pp g 0 ns t.begun a w1 hT1 hA1 hw ha hk hK hx hOb (by omega) (by omega)) ?_
      rintro e w2 ⟨b, u, rfl, hu, hT2, hF2⟩
      refine ⟨_, _, rfl, rfl, ?_⟩
      repeat (first | refine WL.pp rfl ?_ | refine WL.ns ?_ | refine X.br ?_ | refine WC.ret ?_)
      exact X.ret_ rfl rfl ⟨_, _, rfl, hu, hT2, hF1.trans hF2⟩
    | atab ks =>
      obtain ⟨a, ha, hk, hK⟩ := hX
      have c0 : w1.cell? ⟨g, 0, none⟩ = some (.int .i64 a.kind) := cell_of hgc (by simpa using (hNL 0 a ha).kind)
      simp only [cX] at hm
      rw [ckX_atab]
      repeat (first | refine WL.pp rfl ?_ | refine WL.ns ?_ | refine WC.sr ?_ | refine WC.dT rfl (by first | omega | decide) ?_ | refine WC.dF rfl (by first | omega | decide) ?_ | refine WL.ld rfl rfl c0 rfl ?_ | refine WC.block ?_)
      refine WL.call rfl rfl rfl (ckATab_any ks tb pp g 0 ns t.begun a w1 hT1 hA1 hw ha hk hK hx hOb (by omega) (by omega)) ?_
      rintro e w2 ⟨b, u, rfl, hu, hT2, hF2⟩
      refine ⟨_, _, rfl, rfl, ?_⟩
      repeat (first | refine WL.pp rfl ?_ | refine WL.ns ?_ | refine X.br ?_ | refine WC.ret ?_)
      exact X.ret_ rfl rfl ⟨_, _, rfl, hu, hT2, hF1.trans hF2⟩
end Go.Proofs.YtaccphdkapmdhaaGreat

namespace Go.Proofs.YtaccphdkapmdhaaGreat

/-- All entries that may come. -/
def wX : List Ex → Nat
  | [] => 0
  | x :: l => cX x + wX l

theorem Nl.le {b r : Bs} (h : Nl b r) : r.length ≤ b.length := by
  cases h <;> simp
  omega
theorem Eol.le {b r : Bs} (h : Eol b r) : r.length ≤ b.length := by
  cases h with
  | nl h => exact h.le
  | cm h1 h2 => exact Nat.le_trans h2.le h1.le

theorem EX.len {b r : Bs} {x : Ex} (h : EX false b x r) : cX x + 3 * r.length ≤ 3 * b.length ∧ (encX x).length ≤ 3 * b.length := by
  cases h with
  | tab h1 h2 =>
    have := h2.len.1
    simp only [List.length_cons] at this ⊢
    simp only [cX, encX, List.length_cons, keyNodes_length]; omega
  | atab h2 =>
    have := h2.len.1
    simp only [List.length_cons] at this ⊢
    simp only [cX, encX, List.length_cons, keyNodes_length]; omega
  | @kv c b b1 r ks v h1 h2 =>
    have h3 := h1.len.1
    have h4 := h2.len rfl 0
    have h5 := h2.len rfl (0 + 1 + ks.length)
    have h6 := cV_le v 0
    have h7 := skipWs_le b1
    simp only [List.length_cons] at h3 ⊢
    simp only [cX, encX, encE_length]
    omega

theorem DOC.len {b : Bs} {es : List Ex} (h : DOC false b es) : wX es ≤ 3 * b.length := by
  induction h with
  | done _ => simp [wX]
  | @blank b b' es h1 h2 h3 ih =>
    have := h2.le
    have := skipWs_le b
    omega
  | @expr b c b1 b2 h e es h1 h2 h3 h4 ih =>
    have h5 := h2.len.1
    have h6 := h3.le
    have h7 := skipWs_le b
    have h8 := skipWs_le b1
    rw [h1] at h7
    simp only [wX]; omega

theorem DOC.ks {f : Bool} {b : Bs} {es : List Ex} (h : DOC f b es) : ∀ x ∈ es, KsX x := by
  induction h with
  | done _ => intro x hx; simp at hx
  | blank h1 h2 h3 ih => exact ih
  | expr h1 h2 h3 h4 ih =>
    intro x hx
    rcases List.mem_cons.1 hx with rfl | hx
    · exact h2.keys
    · exact ih x hx

theorem DOC.enc {b : Bs} {es : List Ex} (h : DOC false b es) : ∀ x es', es = x :: es' → (encX x).length ≤ 3 * b.length := by
  induction h with
  | done _ => intro x es' h; cases h
  | @blank b b' es h1 h2 h3 ih =>
    intro x es' h
    have := ih x es' h
    have := h2.le
    have := skipWs_le b
    omega
  | @expr b c b1 b2 h e es h1 h2 h3 h4 ih =>
    intro x es' hh
    simp only [List.cons.injEq] at hh
    obtain ⟨rfl, rfl⟩ := hh
    have h5 := h2.len.2
    have h7 := skipWs_le b
    rw [h1] at h7
    omega

theorem cX_pos {x : Ex} (h : KsX x) : 1 ≤ cX x := by
  cases x with
  | kv ks v =>
    have := List.length_pos_iff.2 h.1
    simp only [cX]; omega
  | tab ks => exact List.length_pos_iff.2 h
  | atab ks => exact List.length_pos_iff.2 h

theorem wX_len : ∀ (es : List Ex), (∀ x ∈ es, KsX x) → es.length ≤ wX es
  | [], _ => Nat.le_refl _
  | x :: es, h => by
    have h1 := cX_pos (h x (by simp))
    have h2 := wX_len es (fun y hy => h y (by simp [hy]))
    simp only [List.length_cons, wX]; omega

theorem DOC.nil {f : Bool} {es : List Ex} (h : DOC f [] es) : es = [] := by
  cases h with
  | done _ => rfl
  | blank h _ _ => exact absurd rfl h
  | expr h _ _ _ => simp [skipWs] at h
end Go.Proofs.YtaccphdkapmdhaaGreat

namespace Go.Proofs.YtaccphdkapmdhaaGreat

section
attribute [local semireducible] WL WC X WD
variable {all : List Oper} {Q : Exit → Act → World → Prop} {N : Nat} {L L' : Env} {o : Oper} {rest : List Oper} {w : World}

theorem equalIn_sn (d : Nat) {t e : TypeId} (hu : PP.underlying t = some (.slice e)) (a : Option Addr) (n c n' c' : Nat) (w : World) : (Op.equalIn (d + 1) t (.slice a n c) (.slice none n' c')).run PP w = .ok a.isNone w := by
  cases a <;> simp only [Op.equalIn, Sem.run_bind, run_underlying hu, Result.andThen_ok, Sem.run_pure, Option.isNone]

def snA (L : Env) (op : Op) : Option (Nat × Option Addr) :=
  match op with
  | .binOp .eql t x y _ => match ev L x, ev L y with
    | some (.slice a _ _), some (.slice none _ _) => some (t, a)
    | _, _ => none
  | _ => none

/-- A slice, compared with nil. -/
theorem WL.sn {t : Nat} {a : Option Addr} (hg : grd all L o = some true) (h : snA L o.op = some (t, a)) (ht : lenTy t = true) (hd : dstE N o (.bool a.isNone) L = some L') (k : WL all Q N L' rest w) : WL all Q N L (o :: rest) w := by
  refine WL.of_run hg (fun ac hf => ?_) hd k
  obtain ⟨dst, op, ty, pos, after, guard⟩ := o
  simp only at h
  unfold snA at h
  split at h
  · rename_i t' x y t2
    split at h
    · rename_i a' n c n' c' hx hy
      simp only [Option.some.injEq, Prod.mk.injEq] at h
      obtain ⟨rfl, rfl⟩ := h
      obtain ⟨e, he⟩ := lenTy_u t' ht
      have h1 : (Op.equal t' (.slice a' n c) (.slice none n' c')).run PP w = .ok a'.isNone w := by
        exact equal_of_in (equalIn_sn 9999 he a' n c n' c' w)
      have h2 : (binOp .eql t' (.slice a' n c) (.slice none n' c')).run PP w = .ok (.bool a'.isNone) w := by
        show ((do pure (.bool (← Op.equal t' (.slice a' n c) (.slice none n' c')))) : Sem Value).run PP w = _
        simp only [Sem.run_bind, h1, Result.andThen_ok, Sem.run_pure]
      have h3 : (eqGuard .eql t' x y (.slice a' n c) (.slice none n' c')).run PP w = .ok () w := by unfold eqGuard; rfl
      simp only [execOp, hf.eval hx, hf.eval hy, Sem.run_bind, h3, h2, Result.andThen_ok, Sem.run_pure]
    · cases h
  · cases h
end
theorem bs0 (w : World) : (Instr.buildSlice 23 0 ⟨[]⟩).run PP w = .ok (.slice (some ⟨w.heap.size, 0, none⟩) 0 0) (w.alloc (.cells #[] 5 (0, 0))) := by kernel_rfl
attribute [local irreducible] binOp IntKind.wrap Sem.run

theorem Ob.suf {B : Nat} {w : World} {v : Value} {l : Bs} (h : Ob B w v l) (h0 : l ≠ []) (hl : l.length ≤ 100000000) :
    ∃ bd C dc, v = .slice (some ⟨bd, 0, none⟩) l.length C ∧ B ≤ bd ∧ w.heap[bd]? = some (.cells dc 5 (0, 0)) ∧ Suf bd C l.length dc v l := by
  rcases h.2 with ⟨rfl, hn⟩ | ⟨g, cap, cur, rfl, hb, hg, hc, hm, hs, ht⟩
  · exact absurd (List.eq_nil_of_length_eq_zero hn) h0
  · refine ⟨g, cap, cur, rfl, hb, hg, ⟨⟨some ⟨g, 0, none⟩, ?_, ?_⟩, Nat.le_refl _, hc, by omega, by simp only [maxLen] at hm; omega, ?_⟩⟩
    · rw [Nat.sub_self, Nat.sub_zero]
    · rw [Nat.sub_self, Nat.sub_zero]; exact Sf.mk _ _ _
    · rw [Nat.sub_self]
      intro i c hi
      rw [Nat.zero_add]
      have h1 : (cur.toList.take (l.length * 1))[i]? = some (u8 c) := by rw [ht, List.getElem?_map, hi]; rfl
      rw [List.getElem?_take] at h1
      split at h1
      · simpa using h1
      · cases h1

/-- What a copy of a text is: nothing at all, or a row of its own. -/
def Copied (B : Nat) (l : Bs) (w' : World) (v' : Value) : Prop :=
  (l = [] ∧ ∃ ad c, v' = .slice ad 0 c) ∨ (l ≠ [] ∧ ∃ bd C dc, v' = .slice (some ⟨bd, 0, none⟩) l.length C ∧ B ≤ bd ∧ w'.heap[bd]? = some (.cells dc 5 (0, 0)) ∧ Suf bd C l.length dc v' l)

theorem RB.ob {B : Nat} {w : World} {v : Value} {l : Bs} (h : RB w v l) : ∃ ad cap, v = .slice ad l.length cap := by
  obtain ⟨ad, cap, h, _⟩ := h
  exact ⟨ad, cap, h⟩

set_option maxHeartbeats 4000000 in
theorem clone_any (v : Value) (l : Bs) (w : World) (hv : RB w v l) (hm : l.length ≤ 100000000) :
    Calls PP 20 #[v] w fun e w' => ∃ v', e = .returned v' ∧ Copied w.heap.size l w' v' ∧ Fm w.heap.size [5] w w' := by
  obtain ⟨ad, cap, rfl, hc⟩ := hv
  refine enter (L := [(0, .slice ad l.length cap)]) Tryz.func20 rfl rfl rfl ⟨rfl, trivial⟩ ?_
  cases ad with
  | none =>
    have hl : l = [] := by
      apply Classical.byContradiction
      intro h
      obtain ⟨_, _, _, _, h2, _⟩ := hc h
      cases h2
    subst hl
    repeat (first | refine WL.pp rfl ?_ | refine WL.ns ?_ | refine WC.sr ?_ | refine WC.bT rfl (by first | with_reducible rfl | exact Bool.not_false) ?_ | refine WL.sn rfl rfl rfl rfl ?_ | refine WC.seq ?_ | refine X.sr ?_ | refine WC.ret ?_)
    exact X.ret_ rfl rfl ⟨_, rfl, .inl ⟨rfl, _, _, rfl⟩, Fm.refl _ _ _⟩
  | some a =>
    repeat (first | refine WL.pp rfl ?_ | refine WL.ns ?_ | refine WC.sr ?_ | refine WC.bF rfl (by first | with_reducible rfl | exact Bool.not_true) ?_ | refine WL.sn rfl rfl rfl rfl ?_ | refine WC.seq ?_ | refine X.sn ?_ | refine WC.skip ?_)
    refine WL.bs rfl rfl bs0 rfl (fun w1 hA => ?_)
    have hO : Ob w.heap.size w1 (.slice (some ⟨w.heap.size, 0, none⟩) 0 0) [] := Ob.lit hA rfl rfl (Nat.le_refl _) (by omega)
    repeat (refine WL.pp rfl ?_)
    refine WL.apf (l.map u8) rfl rfl (rfl : rowT 23 = some (5, 1)) hO (by simp) (fun j u hu => ?_) (fun u hu => ?_) (by simp; omega) (by rw [hA.size]; omega) (fun v' w2 hO2 hF2 _ => ?_)
    · rw [List.getElem?_map] at hu
      cases hx : l[j]? with
      | none => simp [hx] at hu
      | some x =>
        simp only [hx, Option.map_some, Option.some.injEq] at hu
        subst hu
        have hl : l ≠ [] := by rintro rfl; simp at hx
        obtain ⟨b, o, dc, fz, h1, h2, h3⟩ := hc hl
        cases h1
        rw [addr_lit]
        exact cell_of (hA.keep h2) (h3 j x hx)
    · obtain ⟨x, _, rfl⟩ := List.mem_map.1 hu
      rfl
    · refine ⟨_, rfl, ?_⟩
      repeat (first | refine WL.pp rfl ?_ | refine WL.ns ?_ | refine WC.ret ?_)
      refine X.ret_ rfl rfl ⟨_, rfl, ?_, (hA.fm (Nat.le_refl _)).trans hF2⟩
      have hO3 : Ob w.heap.size w2 v' l := by
        unfold Ob
        simpa using hO2
      by_cases hl : l = []
      · subst hl
        obtain ⟨ad', c', h1, _⟩ := hO3.slice
        exact .inl ⟨rfl, ad', c', h1⟩
      · exact .inr ⟨hl, hO3.suf hl hm⟩

set_option maxHeartbeats 4000000 in
theorem resetP_any (pp : Nat) (ad : Option Addr) (n c : Nat) (a0 a1 : Value) (w : World) (h : w.heap[pp]? = some (.cells ⟨[.bool false, a0, a1, .slice none 0 0, .nilIface, .int .i64 0]⟩ 52 (0, 0))) :
    Calls PP 19 #[.pointer (some ⟨pp, 0, none⟩), .slice ad n c] w fun e w' => e = .returned (.tuple #[]) ∧ PS w' pp (.slice ad n c) (.slice ad n c) 0 [] ∧ Fm pp [52] w w' := by
  have hpp := lt_of_heap h
  refine enter (L := [(0, .pointer (some ⟨pp, 0, none⟩)), (1, .slice ad n c)]) Tryz.func19 rfl rfl rfl ⟨rfl, rfl, trivial⟩ ?_
  repeat (first | refine WL.pp rfl ?_ | refine WC.sr ?_)
  refine WL.stB rfl rfl rfl h rfl rfl (fun w1 hS1 => ?_)
  have h1 := hS1.at_
  repeat (first | refine WL.pp rfl ?_ | refine WL.ns ?_ | refine WC.sr ?_)
  refine WL.stB rfl rfl rfl h1 rfl rfl (fun w2 hS2 => ?_)
  have h2 := hS2.at_
  repeat (first | refine WL.pp rfl ?_ | refine WL.ns ?_ | refine WC.sr ?_ | refine WL.ldB (b := pp) (i := 3) rfl rfl h2 rfl rfl ?_ | refine WL.s0 0 rfl rfl rfl (Nat.zero_le _) rfl ?_)
  refine WL.stB rfl rfl rfl h2 rfl rfl (fun w3 hS3 => ?_)
  have h3 := hS3.at_
  repeat (first | refine WL.pp rfl ?_ | refine WL.ns ?_ | refine WC.sr ?_)
  refine WL.stB rfl rfl rfl h3 rfl rfl (fun w4 hS4 => ?_)
  have h4 := hS4.at_
  repeat (first | refine WL.pp rfl ?_ | refine WL.ns ?_ | refine WC.reg ?_)
  refine WL.stB rfl rfl rfl h4 rfl rfl (fun w5 hS5 => ?_)
  repeat (refine WL.nil ?_)
  refine X.end_ rfl rfl ⟨rfl, ⟨.slice none 0 0, [], hS5.at_, World.ownsRow_nil w5 _ _ _, fun i n h => by simp at h⟩, ?_⟩
  exact ((((hS1.fm h (Nat.le_refl _) (by simp [tag]) rfl).trans (hS2.fm h1 (Nat.le_refl _) (by simp [tag]) rfl)).trans (hS3.fm h2 (Nat.le_refl _) (by simp [tag]) rfl)).trans (hS4.fm h3 (Nat.le_refl _) (by simp [tag]) rfl)).trans (hS5.fm h4 (Nat.le_refl _) (by simp [tag]) rfl)

set_option maxHeartbeats 4000000 in
theorem skip0_any (ad : Option Addr) (c : Nat) (w : World) : Calls PP 39 #[.slice ad 0 c] w fun e w' => e = .returned (.slice ad 0 c) ∧ w' = w := by
  refine enter (L := [(0, .slice ad 0 c)]) Tryz.func39 rfl rfl rfl ⟨rfl, trivial⟩ ?_
  repeat (first | refine WL.pp rfl ?_ | refine WL.ns ?_ | refine WC.sr ?_ | refine WC.seq ?_ | refine WC.block ?_)
  refine WC.loop (σ := Unit) (I := fun s w' => w' = w) (m := fun s => 0) (Lf := fun s => [(0, .slice ad 0 c)]) () rfl ⟨rfl, trivial⟩ ?_
  rintro _ w1 rfl
  repeat (first | refine WL.pp rfl ?_ | refine WL.ns ?_ | refine WC.sr ?_ | refine WC.bF rfl (by first | with_reducible rfl | exact Bool.not_true) ?_ | refine WL.p rfl ?_ | refine WC.seq ?_ | refine X.sn ?_ | refine X.sx ?_ | refine X.bx ?_ | refine WC.exit ?_ | refine WC.ret ?_ | refine WL.gF rfl rfl (by first | omega | decide) ?_)
  exact X.ret_ rfl rfl ⟨rfl, rfl⟩

set_option maxRecDepth 100000 in
set_option maxHeartbeats 8000000 in
theorem next0_any (pp : Nat) (ad : Option Addr) (c : Nat) (data : Value) (w : World) (hP : PS w pp data (.slice ad 0 c) 0 []) :
    Calls PP 21 #[.pointer (some ⟨pp, 0, none⟩)] w fun e w' => e = .returned (.bool false) ∧ (∃ left', PS w' pp data left' 0 []) ∧ Fm pp [52, 104] w w' := by
  obtain ⟨nv, xs, q1, q2, q3⟩ := hP
  refine enter (L := [(0, .pointer (some ⟨pp, 0, none⟩))]) Tryz.func21 rfl rfl rfl ⟨rfl, trivial⟩ ?_
  obtain ⟨ad2, cap, hnv⟩ : ∃ ad cap, nv = .slice ad 0 cap := by
    rcases q2.2 with ⟨rfl, hn⟩ | ⟨g, cap, cur, rfl, _⟩
    · exact ⟨none, 0, rfl⟩
    · exact ⟨_, _, rfl⟩
  subst hnv
  repeat (first | refine WL.pp rfl ?_ | refine WL.ns ?_ | refine WC.sr ?_ | refine WC.bF rfl (by first | with_reducible rfl | exact Bool.not_true) ?_ | refine WL.ldB (b := pp) (v := .nilIface) rfl rfl q1 rfl rfl ?_ | refine WC.seq ?_ | refine X.sn ?_ | refine WC.skip ?_)
  refine WL.ldB (b := pp) (v := .slice ad2 0 cap) rfl rfl q1 rfl rfl ?_
  refine WL.s0 0 rfl rfl rfl (Nat.zero_le _) rfl ?_
  repeat (refine WL.pp rfl ?_)
  refine WL.stB rfl rfl rfl q1 rfl rfl (fun w1 hS1 => ?_)
  have h1 := hS1.at_
  have hF1 : Fm pp [52, 104] w w1 := hS1.fm q1 (Nat.le_refl _) (by simp [tag]) rfl
  have q2a : w1.ownsRow (pp + 1) 104 7 (.slice ad2 0 cap) 0 xs := own_same q2 (fun k o hk h => hS1.keep h (by have := (q2.lt k hk).1; omega))
  repeat (first | refine WL.ns ?_ | refine WC.block ?_)
  refine WC.loop (σ := Unit) (I := fun s w' => w' = w1) (m := fun s => 0) (Lf := fun s => [(0, .pointer (some ⟨pp, 0, none⟩))]) () rfl ⟨rfl, trivial⟩ ?_
  rintro _ w2 rfl
  repeat (first | refine WL.pp rfl ?_ | refine WC.sr ?_ | refine WL.ldB (b := pp) (i := 2) rfl rfl h1 rfl rfl ?_ | refine WC.block ?_)
  refine WL.call rfl rfl rfl (skip0_any ad c w2) ?_
  rintro e w3 ⟨rfl, rfl⟩
  refine ⟨_, _, rfl, rfl, ?_⟩
  repeat (first | refine WL.pp rfl ?_ | refine WL.ns ?_ | refine WC.sr ?_ | refine WC.dT rfl (by first | omega | decide) ?_ | refine WC.seq ?_)
  refine WL.stB rfl rfl rfl h1 rfl rfl (fun w4 hS4 => ?_)
  obtain ⟨hP4, hF4⟩ := PS.leftSet (ns := []) h1 q2a (fun i n h => by simp at h) hS4
  repeat (first | refine WL.pp rfl ?_ | refine WL.ns ?_ | refine WC.sr ?_ | refine X.sr ?_ | refine X.br ?_ | refine WC.ret ?_)
  exact X.ret_ rfl rfl ⟨rfl, ⟨_, hP4⟩, hF1.trans hF4⟩
end Go.Proofs.YtaccphdkapmdhaaGreat

