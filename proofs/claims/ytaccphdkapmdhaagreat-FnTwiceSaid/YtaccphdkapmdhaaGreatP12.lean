/- The check of an expression. How long documents and what they are parsed into are. A text is copied; a parser is begun. The first expression that is refused; whether a document is taken. Strings: sums, ranges, single bytes, literals of rows of strings; conversions; remainders. The writer: a choice, blanks. No condition. -/
import Derived.Test.YtaccphdkapmdhaaGreatP11
import Derived.Laws.RangeString
import Derived.Laws.Concat
import Derived.Laws.IdiomStrings
import Derived.Laws.Runes
import Derived.Test.YtaccphdkapmdhaaGreatP2
namespace Go.Proofs.YtaccphdkapmdhaaGreat
attribute [local irreducible] binOp IntKind.wrap Sem.run

theorem encX_wf (x : Ex) (hx : KsX x) : Wf (encX x) := by
  have key : Wn (encX x).length (encX x) := by
    cases x with
    | kv ks v =>
      have h1 := encV_wn v (0 + 1 + ks.length)
      have h2 := encE_length ks (encV v) 0
      obtain ⟨a, l, h, _⟩ := encV_cons v (0 + 1 + ks.length)
      have h3 : 0 < (encV v (0 + 1 + ks.length)).length := by rw [h]; simp
      simp only [encX]
      rw [h2]
      unfold encE
      exact Wn.cons (by simp) (by simp) (Nat.zero_le _) (by simp only; omega) ((keyNodes_wn ks (0 + 1) _ (by omega)).app ((h1.mono (by omega)).setN (by omega)))
    | tab ks =>
      simp only [encX]
      cases ks with
      | nil => exact absurd rfl hx
      | cons k ks => exact Wn.cons (by simp) (by simp) (Nat.zero_le _) (by simp [keyNodes_length]) (keyNodes_wn _ 1 _ (by simp [keyNodes_length]; omega))
    | atab ks =>
      simp only [encX]
      cases ks with
      | nil => exact absurd rfl hx
      | cons k ks => exact Wn.cons (by simp) (by simp) (Nat.zero_le _) (by simp [keyNodes_length]) (keyNodes_wn _ 1 _ (by simp [keyNodes_length]; omega))
  intro i n hn
  exact key n (List.mem_of_getElem? hn)

theorem encX_xt (x : Ex) (hx : KsX x) : XT (encX x) x := by
  cases x with
  | kv ks v =>
    have h := Sub.self (encX (.kv ks v))
    have e : encX (.kv ks v) = ⟨5, none, 0, 0 + ks.length + 2⟩ :: (keyNodes (0 + 1) ks ++ setN (encV v (0 + 1 + ks.length)) (0 + 2)) := rfl
    rw [e] at h ⊢
    have h4 := h.tail.right
    rw [keyNodes_length] at h4
    obtain ⟨h1, a, h2, h3⟩ := NT_of _ v _ _ hx.2 h4
    have h5 := KT_of _ ks _ hx.1 h.tail.left
    exact ⟨_, 0 + 1 + ks.length, a, h.head, rfl, by simp only; omega, h2, h1, by rw [h3]; exact h5⟩
  | tab ks =>
    have h := Sub.self (encX (.tab ks))
    exact ⟨_, h.head, rfl, KT_of _ ks 1 hx h.tail⟩
  | atab ks =>
    have h := Sub.self (encX (.atab ks))
    exact ⟨_, h.head, rfl, KT_of _ ks 1 hx h.tail⟩

theorem encX_pos (x : Ex) : 0 < (encX x).length := by
  cases x <;> simp [encX, encE]

set_option maxRecDepth 10000 in
set_option maxHeartbeats 8000000 in
theorem reset_any (tb c : Nat) (w : World) (hT : TS w tb ⟨[], c⟩) :
    Calls PP 48 #[.pointer (some ⟨tb, 0, none⟩)] w fun e w' => e = .returned (.tuple #[]) ∧ TS w' tb ⟨[⟨-1, 3, false, []⟩], 0⟩ ∧ Fm tb [59, 145] w w' := by
  obtain ⟨ev, xs, rb, mb, cn, h1, h2, h3, h4⟩ := hT
  simp only [List.length_nil] at h2
  obtain ⟨ad, cap, rfl⟩ : ∃ ad cap, ev = .slice ad 0 cap := by
    rcases h2.2 with ⟨rfl, hn⟩ | ⟨g, cap, cur, rfl, _⟩
    · exact ⟨none, 0, rfl⟩
    · exact ⟨_, _, rfl⟩
  have hlt := lt_of_heap h1
  refine enter (L := [(0, .pointer (some ⟨tb, 0, none⟩))]) Tryz.func48 rfl rfl rfl ⟨rfl, trivial⟩ ?_
  repeat (first | refine WL.pp rfl ?_ | refine WC.sr ?_ | refine WL.ldB (b := tb) (i := 0) rfl rfl h1 rfl rfl ?_ | refine WL.s0 0 rfl rfl rfl (Nat.zero_le _) rfl ?_)
  refine WL.bd rfl rfl (bdEnt2 _ _) rfl ?_
  refine WL.bs rfl rfl (bsEnt _ _ _ _) rfl (fun w1 hA => ?_)
  have h1a := hA.keep h1
  have h2a : w1.ownsRow (tb + 1) 145 4 (.slice ad 0 cap) 0 xs := own_same h2 (fun k o _ h => hA.keep h)
  have hF1 : Fm tb [59, 145] w w1 := hA.fm (by omega)
  refine WL.apf (m := 1) [.int .i32 (-1), .int .u8 3, .bool false, .slice none 0 0] rfl rfl (rfl : rowT 55 = some (145, 4)) h2a rfl (fun j u hu => ?_) (fun u hu => ?_) (by omega) (by rw [hA.size]; omega) (fun v' w2 hO2 hG2 _ => ?_)
  · rw [add_zero]
    exact cell_of hA.at_ (by simpa using hu)
  · simp only [List.mem_cons, List.not_mem_nil, or_false] at hu
    rcases hu with rfl | rfl | rfl | rfl <;> rfl
  have h1b := hG2.keep _ _ h1a (by simp [tag])
  have hone : oneV v' = true := by
    rcases hO2.2 with ⟨rfl, _⟩ | ⟨g, cap, cur, rfl, _⟩ <;> rfl
  have hF2 : Fm tb [59, 145] w1 w2 := hG2.mono (by omega) (by simp)
  refine ⟨_, rfl, ?_⟩
  repeat (refine WL.pp rfl ?_)
  refine WL.stB rfl rfl hone h1b rfl rfl (fun w3 hS3 => ?_)
  have hT3 : TS w3 tb ⟨[] ++ [⟨-1, 3, false, []⟩], c⟩ := TS.grow (w0 := w) (t := ⟨[], c⟩) hO2 h3 h2.1 ⟨rfl, rfl, rfl, _, rfl, ⟨none, 0, rfl, fun h => absurd rfl h⟩⟩ (h4.fm (hF1.trans hF2) (by simp) (by simp)) ((hF1.trans hF2).mono (Nat.zero_le _) (fun _ h => h)) h1b hS3
  have hF3 : Fm tb [59, 145] w w3 := (hF1.trans hF2).trans (hS3.fm h1b (Nat.le_refl _) (by simp [tag]) rfl)
  obtain ⟨ev, xs, rb, mb, cn, z1, z2, z3, z4⟩ := hT3
  repeat (first | refine WL.pp rfl ?_ | refine WL.ns ?_ | refine WC.reg ?_)
  refine WL.stB rfl rfl rfl z1 rfl rfl (fun w4 hS4 => ?_)
  repeat (refine WL.nil ?_)
  exact X.end_ rfl rfl ⟨rfl, TS.setCur (c := 0) z1 z2 z3 z4 hS4, hF3.trans (hS4.fm z1 (Nat.le_refl _) (by simp [tag]) rfl)⟩

set_option maxRecDepth 100000 in
set_option maxHeartbeats 16000000 in
theorem check_any (tb pp g : Nat) (x : Ex) (ns : List ANode) (t : Trk) (w : World) (hT : TS w tb t) (hA : AR w pp g ns) (hw : Wf ns) (hX : XT ns x) (hx : KsX x) (hp : TPre t) (hm : t.ents.length + 1 + cX x ≤ 1000000000) :
    Calls PP 22 #[.pointer (some ⟨tb, 0, none⟩), .pointer (some ⟨g, 0, none⟩)] w (Told tb (ckT t x) w) := by
  have hlt := hT.lt
  obtain ⟨hbo, hbl⟩ := begun_ok hp
  obtain ⟨ev, xs, rb, mb, cn, h1, h2, h3, h4⟩ := hT
  have hT : TS w tb t := ⟨ev, xs, rb, mb, cn, h1, h2, h3, h4⟩
  obtain ⟨ad, cap, rfl⟩ : ∃ ad cap, ev = .slice ad t.ents.length cap := by
    rcases h2.2 with ⟨rfl, hn⟩ | ⟨g, cap, cur, rfl, _⟩
    · exact ⟨none, 0, by rw [hn]⟩
    · exact ⟨_, _, rfl⟩
  refine enter (L := [(0, .pointer (some ⟨tb, 0, none⟩)), (1, .pointer (some ⟨g, 0, none⟩))]) Tryz.func22 rfl rfl rfl ⟨rfl, rfl, trivial⟩ ?_
  repeat (first | refine WL.pp rfl ?_ | refine WL.ns ?_ | refine WC.sr ?_ | refine WC.cut (x := .seq _ (.cond _ _ _)) (σ := Unit) (fun _ w' => TS w' tb t.begun ∧ Fm tb [59, 145, 4, 21] w w') (fun _ => [(0, .pointer (some ⟨tb, 0, none⟩)), (1, .pointer (some ⟨g, 0, none⟩))]) ?_ ?_)
  · rcases hp with rfl | hp
    · simp only [List.length_nil] at h1
      repeat (first | refine WL.pp rfl ?_ | refine WL.ns ?_ | refine WC.dT rfl (by first | omega | decide) ?_ | refine WL.ldB (b := tb) (i := 0) rfl rfl h1 rfl rfl ?_ | refine WC.reg ?_)
      refine WL.call rfl rfl rfl (reset_any tb 0 w hT) ?_
      rintro e w1 ⟨rfl, hT1, hF1⟩
      refine ⟨_, _, rfl, rfl, ?_⟩
      repeat (refine WL.nil ?_)
      exact X.cut () ⟨hT1, hF1.mono (Nat.le_refl _) (by simp)⟩ ⟨rfl, rfl, trivial⟩
    · have hpos : 0 < t.ents.length := by have := hp.2; omega
      have hb : t.begun = t := begun_of hp
      repeat (first | refine WL.pp rfl ?_ | refine WL.ns ?_ | refine WC.dF rfl (by first | omega | decide) ?_ | refine WL.ldB (b := tb) (i := 0) rfl rfl h1 rfl rfl ?_ | refine WC.skip ?_)
      rw [hb]
      exact X.cut () ⟨hT, Fm.refl _ _ _⟩ ⟨rfl, rfl, trivial⟩
  · rintro _ w1 ⟨hT1, hF1⟩
    have hA1 := hA.fm hF1 (by simp) (by simp) (by simp)
    obtain ⟨hOb, hcb⟩ := hbo
    obtain ⟨cur, hgc, hNL⟩ := hA1.cells
    simp only [ckT]
    cases x with
    | kv ks v =>
      obtain ⟨a, c, b, ha, hk, hch, hb, hn, hK⟩ := hX
      have c0 : w1.cell? ⟨g, 0, none⟩ = some (.int .i64 a.kind) := cell_of hgc (by simpa using (hNL 0 a ha).kind)
      obtain ⟨gg, cap2, cur2, rb2, mb2, cn2, z1, _⟩ := hT1.open (by omega)
      simp only [cX] at hm
      repeat (first | refine WL.pp rfl ?_ | refine WL.ns ?_ | refine WC.sr ?_ | refine WC.dT rfl (by first | omega | decide) ?_ | refine WL.ld rfl rfl c0 rfl ?_ | refine WL.ldB (b := tb) (i := 1) rfl rfl z1 rfl rfl ?_ | refine WC.block ?_)
      refine WL.call rfl rfl rfl (ckKV_any v (ckV_all v hx.2) ks tb pp g t.begun.cur 0 c ns t.begun a b w1 hT1 hA1 hw ha hk hch hb hn hK hx.1 hOb hcb (by omega)) ?_
      rintro e w2 ⟨u, rfl, hu, hT2, hF2⟩
      refine ⟨_, _, rfl, rfl, ?_⟩
      repeat (first | refine WL.pp rfl ?_ | refine WL.ns ?_ | refine X.br ?_ | refine WC.ret ?_)
      exact X.ret_ rfl rfl ⟨_, _, rfl, hu, hT2, hF1.trans (hF2.mono (Nat.le_refl _) (by simp))⟩
    | tab ks =>
      obtain ⟨a, ha, hk, hK⟩ := hX
      have c0 : w1.cell? ⟨g, 0, none⟩ = some (.int .i64 a.kind) := cell_of hgc (by simpa using (hNL 0 a ha).kind)
      simp only [cX] at hm
      rw [ckX_tab]
      repeat (first | refine WL.pp rfl ?_ | refine WL.ns ?_ | refine WC.sr ?_ | refine WC.dT rfl (by first | omega | decide) ?_ | refine WC.dF rfl (by first | omega | decide) ?_ | refine WL.ld rfl rfl c0 rfl ?_ | refine WC.block ?_)
      refine WL.call rfl rfl rfl (ckTab_any ks tb pp g 0 ns t.begun a w1 hT1 hA1 hw ha hk hK hx hOb (by omega) (by omega)) ?_
      rintro e w2 ⟨b, u, rfl, hu, hT2, hF2⟩
      refine ⟨_, _, rfl, rfl, ?_⟩
      repeat (first | refine WL.pp rfl ?_ | refine WL.ns ?_ | refine X.br ?_ | refine WC.ret ?_)
      exact X.ret_ rfl rfl ⟨_, _, rfl, hu, hT2, hF1.trans hF2⟩
    | atab ks =>
      obtain ⟨a, ha, hk, hK⟩ := hX
      have c0 : w1.cell? ⟨g, 0, none⟩ = some (.int .i64 a.kind) := cell_of hgc (by simpa using (hNL 0 a ha).kind)
      simp only [cX] at hm
      rw [ckX_atab]
      repeat (first | refine WL.pp rfl ?_ | refine WL.ns ?_ | refine WC.sr ?_ | refine WC.dT rfl (by first | omega | decide) ?_ | refine WC.dF rfl (by first | omega | decide) ?_ | refine WL.ld rfl rfl c0 rfl ?_ | refine WC.block ?_)
      refine WL.call rfl rfl rfl (ckATab_any ks tb pp g 0 ns t.begun a w1 hT1 hA1 hw ha hk hK hx hOb (by omega) (by omega)) ?_
      rintro e w2 ⟨b, u, rfl, hu, hT2, hF2⟩
      refine ⟨_, _, rfl, rfl, ?_⟩
      repeat (first | refine WL.pp rfl ?_ | refine WL.ns ?_ | refine X.br ?_ | refine WC.ret ?_)
      exact X.ret_ rfl rfl ⟨_, _, rfl, hu, hT2, hF1.trans hF2⟩
end Go.Proofs.YtaccphdkapmdhaaGreat

namespace Go.Proofs.YtaccphdkapmdhaaGreat

/-- All entries that may come. -/
def wX : List Ex → Nat
  | [] => 0
  | x :: l => cX x + wX l

theorem Nl.le {b r : Bs} (h : Nl b r) : r.length ≤ b.length := by
  cases h <;> simp
  omega
theorem Eol.le {b r : Bs} (h : Eol b r) : r.length ≤ b.length := by
  cases h with
  | nl h => exact h.le
  | cm h1 h2 => exact Nat.le_trans h2.le h1.le

theorem EX.len {b r : Bs} {x : Ex} (h : EX false b x r) : cX x + 3 * r.length ≤ 3 * b.length ∧ (encX x).length ≤ 3 * b.length := by
  cases h with
  | tab h1 h2 =>
    have := h2.len.1
    simp only [List.length_cons] at this ⊢
    simp only [cX, encX, List.length_cons, keyNodes_length]; omega
  | atab h2 =>
    have := h2.len.1
    simp only [List.length_cons] at this ⊢
    simp only [cX, encX, List.length_cons, keyNodes_length]; omega
  | @kv c b b1 r ks v h1 h2 =>
    have h3 := h1.len.1
    have h4 := h2.len rfl 0
    have h5 := h2.len rfl (0 + 1 + ks.length)
    have h6 := cV_le v 0
    have h7 := skipWs_le b1
    simp only [List.length_cons] at h3 ⊢
    simp only [cX, encX, encE_length]
    omega

theorem DOC.len {b : Bs} {es : List Ex} (h : DOC false b es) : wX es ≤ 3 * b.length := by
  induction h with
  | done _ => simp [wX]
  | @blank b b' es h1 h2 h3 ih =>
    have := h2.le
    have := skipWs_le b
    omega
  | @expr b c b1 b2 h e es h1 h2 h3 h4 ih =>
    have h5 := h2.len.1
    have h6 := h3.le
    have h7 := skipWs_le b
    have h8 := skipWs_le b1
    rw [h1] at h7
    simp only [wX]; omega

theorem DOC.ks {f : Bool} {b : Bs} {es : List Ex} (h : DOC f b es) : ∀ x ∈ es, KsX x := by
  induction h with
  | done _ => intro x hx; simp at hx
  | blank h1 h2 h3 ih => exact ih
  | expr h1 h2 h3 h4 ih =>
    intro x hx
    rcases List.mem_cons.1 hx with rfl | hx
    · exact h2.keys
    · exact ih x hx

theorem DOC.enc {b : Bs} {es : List Ex} (h : DOC false b es) : ∀ x es', es = x :: es' → (encX x).length ≤ 3 * b.length := by
  induction h with
  | done _ => intro x es' h; cases h
  | @blank b b' es h1 h2 h3 ih =>
    intro x es' h
    have := ih x es' h
    have := h2.le
    have := skipWs_le b
    omega
  | @expr b c b1 b2 h e es h1 h2 h3 h4 ih =>
    intro x es' hh
    simp only [List.cons.injEq] at hh
    obtain ⟨rfl, rfl⟩ := hh
    have h5 := h2.len.2
    have h7 := skipWs_le b
    rw [h1] at h7
    omega

theorem cX_pos {x : Ex} (h : KsX x) : 1 ≤ cX x := by
  cases x with
  | kv ks v =>
    have := List.length_pos_iff.2 h.1
    simp only [cX]; omega
  | tab ks => exact List.length_pos_iff.2 h
  | atab ks => exact List.length_pos_iff.2 h

theorem wX_len : ∀ (es : List Ex), (∀ x ∈ es, KsX x) → es.length ≤ wX es
  | [], _ => Nat.le_refl _
  | x :: es, h => by
    have h1 := cX_pos (h x (by simp))
    have h2 := wX_len es (fun y hy => h y (by simp [hy]))
    simp only [List.length_cons, wX]; omega

theorem DOC.nil {f : Bool} {es : List Ex} (h : DOC f [] es) : es = [] := by
  cases h with
  | done _ => rfl
  | blank h _ _ => exact absurd rfl h
  | expr h _ _ _ => simp [skipWs] at h
end Go.Proofs.YtaccphdkapmdhaaGreat

namespace Go.Proofs.YtaccphdkapmdhaaGreat

section
attribute [local semireducible] WL WC X WD
variable {all : List Oper} {Q : Exit → Act → World → Prop} {N : Nat} {L L' : Env} {o : Oper} {rest : List Oper} {w : World}

theorem equalIn_sn (d : Nat) {t e : TypeId} (hu : PP.underlying t = some (.slice e)) (a : Option Addr) (n c n' c' : Nat) (w : World) : (Op.equalIn (d + 1) t (.slice a n c) (.slice none n' c')).run PP w = .ok a.isNone w := by
  cases a <;> simp only [Op.equalIn, Sem.run_bind, run_underlying hu, Result.andThen_ok, Sem.run_pure, Option.isNone]

def snA (L : Env) (op : Op) : Option (Nat × Option Addr) :=
  match op with
  | .binOp .eql t x y _ => match ev L x, ev L y with
    | some (.slice a _ _), some (.slice none _ _) => some (t, a)
    | _, _ => none
  | _ => none

/-- A slice, compared with nil. -/
theorem WL.sn {t : Nat} {a : Option Addr} (hg : grd all L o = some true) (h : snA L o.op = some (t, a)) (ht : lenTy t = true) (hd : dstE N o (.bool a.isNone) L = some L') (k : WL all Q N L' rest w) : WL all Q N L (o :: rest) w := by
  refine WL.of_run hg (fun ac hf => ?_) hd k
  obtain ⟨dst, op, ty, pos, after, guard⟩ := o
  simp only at h
  unfold snA at h
  split at h
  · rename_i t' x y t2
    split at h
    · rename_i a' n c n' c' hx hy
      simp only [Option.some.injEq, Prod.mk.injEq] at h
      obtain ⟨rfl, rfl⟩ := h
      obtain ⟨e, he⟩ := lenTy_u t' ht
      have h1 : (Op.equal t' (.slice a' n c) (.slice none n' c')).run PP w = .ok a'.isNone w := by
        exact equal_of_in (equalIn_sn 9999 he a' n c n' c' w)
      have h2 : (binOp .eql t' (.slice a' n c) (.slice none n' c')).run PP w = .ok (.bool a'.isNone) w := by
        show ((do pure (.bool (← Op.equal t' (.slice a' n c) (.slice none n' c')))) : Sem Value).run PP w = _
        simp only [Sem.run_bind, h1, Result.andThen_ok, Sem.run_pure]
      have h3 : (eqGuard .eql t' x y (.slice a' n c) (.slice none n' c')).run PP w = .ok () w := by unfold eqGuard; rfl
      simp only [execOp, hf.eval hx, hf.eval hy, Sem.run_bind, h3, h2, Result.andThen_ok, Sem.run_pure]
    · cases h
  · cases h
end
theorem bs0 (w : World) : (Instr.buildSlice 23 0 ⟨[]⟩).run PP w = .ok (.slice (some ⟨w.heap.size, 0, none⟩) 0 0) (w.alloc (.cells #[] 5 (0, 0))) := by kernel_rfl
attribute [local irreducible] binOp IntKind.wrap Sem.run

theorem Ob.suf {B : Nat} {w : World} {v : Value} {l : Bs} (h : Ob B w v l) (h0 : l ≠ []) (hl : l.length ≤ 100000000) :
    ∃ bd C dc, v = .slice (some ⟨bd, 0, none⟩) l.length C ∧ B ≤ bd ∧ w.heap[bd]? = some (.cells dc 5 (0, 0)) ∧ Suf bd C l.length dc v l := by
  rcases h.2 with ⟨rfl, hn⟩ | ⟨g, cap, cur, rfl, hb, hg, hc, hm, hs, ht⟩
  · exact absurd (List.eq_nil_of_length_eq_zero hn) h0
  · refine ⟨g, cap, cur, rfl, hb, hg, ⟨⟨some ⟨g, 0, none⟩, ?_, ?_⟩, Nat.le_refl _, hc, by omega, by simp only [maxLen] at hm; omega, ?_⟩⟩
    · rw [Nat.sub_self, Nat.sub_zero]
    · rw [Nat.sub_self, Nat.sub_zero]; exact Sf.mk _ _ _
    · rw [Nat.sub_self]
      intro i c hi
      rw [Nat.zero_add]
      have h1 : (cur.toList.take (l.length * 1))[i]? = some (u8 c) := by rw [ht, List.getElem?_map, hi]; rfl
      rw [List.getElem?_take] at h1
      split at h1
      · simpa using h1
      · cases h1

/-- What a copy of a text is: nothing at all, or a row of its own. -/
def Copied (B : Nat) (l : Bs) (w' : World) (v' : Value) : Prop :=
  (l = [] ∧ ∃ ad c, v' = .slice ad 0 c) ∨ (l ≠ [] ∧ ∃ bd C dc, v' = .slice (some ⟨bd, 0, none⟩) l.length C ∧ B ≤ bd ∧ w'.heap[bd]? = some (.cells dc 5 (0, 0)) ∧ Suf bd C l.length dc v' l)

theorem RB.ob {B : Nat} {w : World} {v : Value} {l : Bs} (h : RB w v l) : ∃ ad cap, v = .slice ad l.length cap := by
  obtain ⟨ad, cap, h, _⟩ := h
  exact ⟨ad, cap, h⟩

set_option maxHeartbeats 4000000 in
theorem clone_any (v : Value) (l : Bs) (w : World) (hv : RB w v l) (hm : l.length ≤ 100000000) :
    Calls PP 20 #[v] w fun e w' => ∃ v', e = .returned v' ∧ Copied w.heap.size l w' v' ∧ Fm w.heap.size [5] w w' := by
  obtain ⟨ad, cap, rfl, hc⟩ := hv
  refine enter (L := [(0, .slice ad l.length cap)]) Tryz.func20 rfl rfl rfl ⟨rfl, trivial⟩ ?_
  cases ad with
  | none =>
    have hl : l = [] := by
      apply Classical.byContradiction
      intro h
      obtain ⟨_, _, _, _, h2, _⟩ := hc h
      cases h2
    subst hl
    repeat (first | refine WL.pp rfl ?_ | refine WL.ns ?_ | refine WC.sr ?_ | refine WC.bT rfl (by first | with_reducible rfl | exact Bool.not_false) ?_ | refine WL.sn rfl rfl rfl rfl ?_ | refine WC.seq ?_ | refine X.sr ?_ | refine WC.ret ?_)
    exact X.ret_ rfl rfl ⟨_, rfl, .inl ⟨rfl, _, _, rfl⟩, Fm.refl _ _ _⟩
  | some a =>
    repeat (first | refine WL.pp rfl ?_ | refine WL.ns ?_ | refine WC.sr ?_ | refine WC.bF rfl (by first | with_reducible rfl | exact Bool.not_true) ?_ | refine WL.sn rfl rfl rfl rfl ?_ | refine WC.seq ?_ | refine X.sn ?_ | refine WC.skip ?_)
    refine WL.bs rfl rfl bs0 rfl (fun w1 hA => ?_)
    have hO : Ob w.heap.size w1 (.slice (some ⟨w.heap.size, 0, none⟩) 0 0) [] := Ob.lit hA rfl rfl (Nat.le_refl _) (by omega)
    repeat (refine WL.pp rfl ?_)
    refine WL.apf (l.map u8) rfl rfl (rfl : rowT 23 = some (5, 1)) hO (by simp) (fun j u hu => ?_) (fun u hu => ?_) (by simp; omega) (by rw [hA.size]; omega) (fun v' w2 hO2 hF2 _ => ?_)
    · rw [List.getElem?_map] at hu
      cases hx : l[j]? with
      | none => simp [hx] at hu
      | some x =>
        simp only [hx, Option.map_some, Option.some.injEq] at hu
        subst hu
        have hl : l ≠ [] := by rintro rfl; simp at hx
        obtain ⟨b, o, dc, fz, h1, h2, h3⟩ := hc hl
        cases h1
        rw [addr_lit]
        exact cell_of (hA.keep h2) (h3 j x hx)
    · obtain ⟨x, _, rfl⟩ := List.mem_map.1 hu
      rfl
    · refine ⟨_, rfl, ?_⟩
      repeat (first | refine WL.pp rfl ?_ | refine WL.ns ?_ | refine WC.ret ?_)
      refine X.ret_ rfl rfl ⟨_, rfl, ?_, (hA.fm (Nat.le_refl _)).trans hF2⟩
      have hO3 : Ob w.heap.size w2 v' l := by
        unfold Ob
        simpa using hO2
      by_cases hl : l = []
      · subst hl
        obtain ⟨ad', c', h1, _⟩ := hO3.slice
        exact .inl ⟨rfl, ad', c', h1⟩
      · exact .inr ⟨hl, hO3.suf hl hm⟩

set_option maxHeartbeats 4000000 in
theorem resetP_any (pp : Nat) (ad : Option Addr) (n c : Nat) (a0 a1 : Value) (w : World) (h : w.heap[pp]? = some (.cells ⟨[.bool false, a0, a1, .slice none 0 0, .nilIface, .int .i64 0]⟩ 52 (0, 0))) :
    Calls PP 19 #[.pointer (some ⟨pp, 0, none⟩), .slice ad n c] w fun e w' => e = .returned (.tuple #[]) ∧ PS w' pp (.slice ad n c) (.slice ad n c) 0 [] ∧ Fm pp [52] w w' := by
  have hpp := lt_of_heap h
  refine enter (L := [(0, .pointer (some ⟨pp, 0, none⟩)), (1, .slice ad n c)]) Tryz.func19 rfl rfl rfl ⟨rfl, rfl, trivial⟩ ?_
  repeat (first | refine WL.pp rfl ?_ | refine WC.sr ?_)
  refine WL.stB rfl rfl rfl h rfl rfl (fun w1 hS1 => ?_)
  have h1 := hS1.at_
  repeat (first | refine WL.pp rfl ?_ | refine WL.ns ?_ | refine WC.sr ?_)
  refine WL.stB rfl rfl rfl h1 rfl rfl (fun w2 hS2 => ?_)
  have h2 := hS2.at_
  repeat (first | refine WL.pp rfl ?_ | refine WL.ns ?_ | refine WC.sr ?_ | refine WL.ldB (b := pp) (i := 3) rfl rfl h2 rfl rfl ?_ | refine WL.s0 0 rfl rfl rfl (Nat.zero_le _) rfl ?_)
  refine WL.stB rfl rfl rfl h2 rfl rfl (fun w3 hS3 => ?_)
  have h3 := hS3.at_
  repeat (first | refine WL.pp rfl ?_ | refine WL.ns ?_ | refine WC.sr ?_)
  refine WL.stB rfl rfl rfl h3 rfl rfl (fun w4 hS4 => ?_)
  have h4 := hS4.at_
  repeat (first | refine WL.pp rfl ?_ | refine WL.ns ?_ | refine WC.reg ?_)
  refine WL.stB rfl rfl rfl h4 rfl rfl (fun w5 hS5 => ?_)
  repeat (refine WL.nil ?_)
  refine X.end_ rfl rfl ⟨rfl, ⟨.slice none 0 0, [], hS5.at_, World.ownsRow_nil w5 _ _ _, fun i n h => by simp at h⟩, ?_⟩
  exact ((((hS1.fm h (Nat.le_refl _) (by simp [tag]) rfl).trans (hS2.fm h1 (Nat.le_refl _) (by simp [tag]) rfl)).trans (hS3.fm h2 (Nat.le_refl _) (by simp [tag]) rfl)).trans (hS4.fm h3 (Nat.le_refl _) (by simp [tag]) rfl)).trans (hS5.fm h4 (Nat.le_refl _) (by simp [tag]) rfl)

set_option maxHeartbeats 4000000 in
theorem skip0_any (ad : Option Addr) (c : Nat) (w : World) : Calls PP 39 #[.slice ad 0 c] w fun e w' => e = .returned (.slice ad 0 c) ∧ w' = w := by
  refine enter (L := [(0, .slice ad 0 c)]) Tryz.func39 rfl rfl rfl ⟨rfl, trivial⟩ ?_
  repeat (first | refine WL.pp rfl ?_ | refine WL.ns ?_ | refine WC.sr ?_ | refine WC.seq ?_ | refine WC.block ?_)
  refine WC.loop (σ := Unit) (I := fun s w' => w' = w) (m := fun s => 0) (Lf := fun s => [(0, .slice ad 0 c)]) () rfl ⟨rfl, trivial⟩ ?_
  rintro _ w1 rfl
  repeat (first | refine WL.pp rfl ?_ | refine WL.ns ?_ | refine WC.sr ?_ | refine WC.bF rfl (by first | with_reducible rfl | exact Bool.not_true) ?_ | refine WL.p rfl ?_ | refine WC.seq ?_ | refine X.sn ?_ | refine X.sx ?_ | refine X.bx ?_ | refine WC.exit ?_ | refine WC.ret ?_ | refine WL.gF rfl rfl (by first | omega | decide) ?_)
  exact X.ret_ rfl rfl ⟨rfl, rfl⟩

set_option maxRecDepth 100000 in
set_option maxHeartbeats 8000000 in
theorem next0_any (pp : Nat) (ad : Option Addr) (c : Nat) (data : Value) (w : World) (hP : PS w pp data (.slice ad 0 c) 0 []) :
    Calls PP 21 #[.pointer (some ⟨pp, 0, none⟩)] w fun e w' => e = .returned (.bool false) ∧ (∃ left', PS w' pp data left' 0 []) ∧ Fm pp [52, 104] w w' := by
  obtain ⟨nv, xs, q1, q2, q3⟩ := hP
  refine enter (L := [(0, .pointer (some ⟨pp, 0, none⟩))]) Tryz.func21 rfl rfl rfl ⟨rfl, trivial⟩ ?_
  obtain ⟨ad2, cap, hnv⟩ : ∃ ad cap, nv = .slice ad 0 cap := by
    rcases q2.2 with ⟨rfl, hn⟩ | ⟨g, cap, cur, rfl, _⟩
    · exact ⟨none, 0, rfl⟩
    · exact ⟨_, _, rfl⟩
  subst hnv
  repeat (first | refine WL.pp rfl ?_ | refine WL.ns ?_ | refine WC.sr ?_ | refine WC.bF rfl (by first | with_reducible rfl | exact Bool.not_true) ?_ | refine WL.ldB (b := pp) (v := .nilIface) rfl rfl q1 rfl rfl ?_ | refine WC.seq ?_ | refine X.sn ?_ | refine WC.skip ?_)
  refine WL.ldB (b := pp) (v := .slice ad2 0 cap) rfl rfl q1 rfl rfl ?_
  refine WL.s0 0 rfl rfl rfl (Nat.zero_le _) rfl ?_
  repeat (refine WL.pp rfl ?_)
  refine WL.stB rfl rfl rfl q1 rfl rfl (fun w1 hS1 => ?_)
  have h1 := hS1.at_
  have hF1 : Fm pp [52, 104] w w1 := hS1.fm q1 (Nat.le_refl _) (by simp [tag]) rfl
  have q2a : w1.ownsRow (pp + 1) 104 7 (.slice ad2 0 cap) 0 xs := own_same q2 (fun k o hk h => hS1.keep h (by have := (q2.lt k hk).1; omega))
  repeat (first | refine WL.ns ?_ | refine WC.block ?_)
  refine WC.loop (σ := Unit) (I := fun s w' => w' = w1) (m := fun s => 0) (Lf := fun s => [(0, .pointer (some ⟨pp, 0, none⟩))]) () rfl ⟨rfl, trivial⟩ ?_
  rintro _ w2 rfl
  repeat (first | refine WL.pp rfl ?_ | refine WC.sr ?_ | refine WL.ldB (b := pp) (i := 2) rfl rfl h1 rfl rfl ?_ | refine WC.block ?_)
  refine WL.call rfl rfl rfl (skip0_any ad c w2) ?_
  rintro e w3 ⟨rfl, rfl⟩
  refine ⟨_, _, rfl, rfl, ?_⟩
  repeat (first | refine WL.pp rfl ?_ | refine WL.ns ?_ | refine WC.sr ?_ | refine WC.dT rfl (by first | omega | decide) ?_ | refine WC.seq ?_)
  refine WL.stB rfl rfl rfl h1 rfl rfl (fun w4 hS4 => ?_)
  obtain ⟨hP4, hF4⟩ := PS.leftSet (ns := []) h1 q2a (fun i n h => by simp at h) hS4
  repeat (first | refine WL.pp rfl ?_ | refine WL.ns ?_ | refine WC.sr ?_ | refine X.sr ?_ | refine X.br ?_ | refine WC.ret ?_)
  exact X.ret_ rfl rfl ⟨rfl, ⟨_, hP4⟩, hF1.trans hF4⟩
end Go.Proofs.YtaccphdkapmdhaaGreat

namespace Go.Proofs.YtaccphdkapmdhaaGreat
attribute [local irreducible] binOp IntKind.wrap Sem.run

/-- A parser with these expressions ahead of it; its nodes are these. -/
def Text (E pp : Nat) (es : List Ex) (ns : List ANode) (w : World) : Prop :=
  (es = [] ∧ ns = [] ∧ ∃ ad c data, PS w pp data (.slice ad 0 c) 0 []) ∨
  (∃ bd C dc ad0 left b, Suf bd C E dc left b ∧ DOC false b es ∧ w.heap[bd]? = some (.cells dc 5 (0, 0)) ∧ PS w pp (.slice ad0 E C) left 0 ns)

theorem Text.fm {E pp es ns B T w w'} (h : Text E pp es ns w) (hf : Fm B T w w') (h5 : 5 ∉ T) (h52 : 52 ∉ T) (h104 : 104 ∉ T) : Text E pp es ns w' := by
  rcases h with ⟨h1, h2, ad, c, data, h3⟩ | ⟨bd, C, dc, ad0, left, b, h1, h2, h3, h4⟩
  · exact .inl ⟨h1, h2, ad, c, data, h3.fm hf h5 h52 h104⟩
  · exact .inr ⟨bd, C, dc, ad0, left, b, h1, h2, hf.keep _ _ h3 h5, h4.fm hf h5 h52 h104⟩

theorem Text.ps {E pp es ns w} (h : Text E pp es ns w) : ∃ data left, PS w pp data left 0 ns := by
  rcases h with ⟨h1, rfl, ad, c, data, h3⟩ | ⟨bd, C, dc, ad0, left, b, h1, h2, h3, h4⟩
  · exact ⟨_, _, h3⟩
  · exact ⟨_, _, h4⟩

theorem Text.ks {E pp es ns w} (h : Text E pp es ns w) : ∀ x ∈ es, KsX x := by
  rcases h with ⟨rfl, _⟩ | ⟨bd, C, dc, ad0, left, b, h1, h2, _⟩
  · intro x hx; simp at hx
  · exact h2.ks

/-- The next expression. -/
theorem textNext {E pp : Nat} {es : List Ex} {ns : List ANode} {w : World} (hE : E ≤ 100000000) (h : Text E pp es ns w) :
    Calls PP 21 #[.pointer (some ⟨pp, 0, none⟩)] w fun e w' => Fm pp [52, 104] w w' ∧
      ((es = [] ∧ e = .returned (.bool false) ∧ ∃ data left, PS w' pp data left 0 []) ∨ (∃ x es', es = x :: es' ∧ e = .returned (.bool true) ∧ Text E pp es' (encX x) w' ∧ (encX x).length ≤ 300000000)) := by
  rcases h with ⟨rfl, rfl, ad, c, data, h3⟩ | ⟨bd, C, dc, ad0, left, b, h1, h2, h3, h4⟩
  · refine (next0_any pp ad c data w h3).mono ?_
    rintro e w' ⟨rfl, ⟨left', hP⟩, hF⟩
    exact ⟨hF, .inl ⟨rfl, rfl, _, _, hP⟩⟩
  · refine (next_any pp ad0 left ns b es w h1 hE h2 h3 h4).mono ?_
    rintro e w' ⟨hN, hF⟩
    refine ⟨hF, ?_⟩
    rcases hN with ⟨rfl, rfl, left', hP⟩ | ⟨x, es', left', b', rfl, rfl, hS, hD, hP⟩
    · exact .inl ⟨rfl, rfl, _, _, hP⟩
    · refine .inr ⟨x, es', rfl, rfl, .inr ⟨bd, C, dc, ad0, left', b', hS, hD, hF.keep _ _ h3 (by simp [tag]), hP⟩, ?_⟩
      have := h2.enc x es' rfl
      have := h1.le
      omega

/-- A parser begun over a copy. -/
theorem textBegin {B : Nat} {l : Bs} {es : List Ex} {w w' : World} {pp : Nat} {v : Value} (hc : Copied B l w v) (hd : DOC false l es) (hf : Fm pp [52] w w') (hP : PS w' pp v v 0 []) : Text l.length pp es [] w' := by
  rcases hc with ⟨rfl, ad, c, rfl⟩ | ⟨_, bd, C, dc, rfl, _, h3, h4⟩
  · exact .inl ⟨hd.nil, rfl, _, _, _, hP⟩
  · exact .inr ⟨bd, C, dc, _, _, l, h4, hd, hf.keep _ _ h3 (by simp [tag]), hP⟩

theorem Copied.slice {B : Nat} {l : Bs} {w : World} {v : Value} (h : Copied B l w v) : ∃ ad n c, v = .slice ad n c := by
  rcases h with ⟨_, ad, c, rfl⟩ | ⟨_, bd, C, dc, rfl, _⟩
  · exact ⟨_, _, _, rfl⟩
  · exact ⟨_, _, _, rfl⟩

theorem Copied.fm {B B' T} {l : Bs} {w w' : World} {v : Value} (h : Copied B l w v) (hf : Fm B' T w w') (h5 : 5 ∉ T) : Copied B l w' v := by
  rcases h with ⟨h1, ad, c, h2⟩ | ⟨h1, bd, C, dc, h2, h3, h4, h5'⟩
  · exact .inl ⟨h1, ad, c, h2⟩
  · exact .inr ⟨h1, bd, C, dc, h2, h3, hf.keep _ _ h4 h5, h5'⟩

/-- A tracker that is new. -/
theorem TS.new {w : World} {tb : Nat} (h : w.heap[tb]? = some (.cells ⟨[.slice none 0 0, .int .i32 0, .slice none 0 0, .slice none 0 0]⟩ 59 (0, 0))) : TS w tb ⟨[], 0⟩ :=
  ⟨.slice none 0 0, [], _, _, 0, h, World.ownsRow_nil w _ _ _, fun i e he => by simp at he, .inl ⟨rfl, rfl, rfl⟩⟩

theorem ckT_pre {t : Trk} (h : TPre t) (x : Ex) : TPre (ckT t x).1 ∧ (ckT t x).1.begun.ents.length ≤ t.begun.ents.length + cX x := by
  obtain ⟨h1, h2⟩ := ckX_ok (begun_ok h).1 x
  refine ⟨.inr h1, ?_⟩
  have : (ckT t x).1.begun = (ckT t x).1 := begun_of h1
  rw [this]
  exact h2

theorem begun_ge (t : Trk) : t.ents.length ≤ t.begun.ents.length := by
  unfold Trk.begun
  split
  · rename_i h
    cases hx : t.ents with
    | nil => simp
    | cons => rw [hx] at h; simp at h
  · exact Nat.le_refl _

/-- The first one that is refused, as far as it is known. -/
def FirstIs (first : Int) (t : Trk) (es : List Ex) (n : Nat) (all : Option Nat) : Prop := (first = -1 ∧ firstBad t es n = all) ∨ ∃ k : Nat, first = (k : Int) ∧ all = some k

theorem Fm.upB {B B' T w w'} (h : Fm B T w w') (hB : B' ≤ B) : Up B' w w' := h.up.mono hB

set_option maxRecDepth 100000 in
set_option maxHeartbeats 16000000 in
theorem meanings_any (v : Value) (l : Bs) (es : List Ex) (w : World) (hv : RB w v l) (hd : DOC false l es) (hm : l.length ≤ 100000000) :
    Calls PP 10 #[v] w fun e w' => e = .returned (.int .i64 (foundV (meant es))) ∧ Up w.heap.size w w' := by
  have hwl := hd.len
  have hnl := wX_len es hd.ks
  refine enter (L := [(0, v)]) Tryz.func10 rfl rfl rfl ⟨rfl, trivial⟩ ?_
  repeat (first | refine WL.pp rfl ?_ | refine WL.ns ?_ | refine WC.sr ?_)
  refine WL.al rfl rfl rfl (fun w1 hA1 => ?_)
  generalize hpp : w.heap.size = pp at *
  have hv1 : RB w1 v l := hv.fm (hA1.fm (B := 0) (T := []) (Nat.zero_le _)) (by simp)
  repeat (first | refine WL.pp rfl ?_ | refine WL.ns ?_ | refine WC.sr ?_)
  refine WL.call rfl rfl rfl (clone_any v l w1 hv1 hm) ?_
  rintro e w2 ⟨v2, rfl, hc2, hF2⟩
  refine ⟨_, _, rfl, rfl, ?_⟩
  have hp1 := hA1.at_
  rw [hpp] at hp1
  have hp2 := hF2.keep _ _ hp1 (by simp [tag])
  have hsz1 : w1.heap.size = pp + 1 := by rw [hA1.size, hpp]
  have hU2 : Up pp w w2 := (hA1.up (by omega)).trans (hF2.upB (by omega))
  clear hF2 hp1 hA1
  obtain ⟨ad2, n2, c2, hv2⟩ := hc2.slice
  rw [hv2] at hc2
  subst hv2
  skip
  refine WL.call rfl rfl rfl (resetP_any pp ad2 n2 c2 _ _ w2 hp2) ?_
  rintro e w3 ⟨rfl, hP3, hF3⟩
  refine ⟨_, _, rfl, rfl, ?_⟩
  have hX3 := textBegin hc2 hd hF3 hP3
  have hU3 := hU2.trans (hF3.upB (Nat.le_refl _))
  clear hc2 hp2 hU2 hF3 hP3
  repeat (first | refine WL.ns ?_ | refine WC.sr ?_)
  refine WL.al rfl rfl rfl (fun w4 hA4 => ?_)
  have hT4 := TS.new hA4.at_
  have hF4 : Fm pp [52] w3 w4 := hA4.fm (by have := hU3.size; omega)
  have hX4 := hX3.fm (hA4.fm (B := 0) (T := []) (Nat.zero_le _)) (by simp) (by simp) (by simp)
  have hU4 := hU3.trans (hF4.upB (Nat.le_refl _))
  have hsz3 : pp ≤ w3.heap.size := by have := hU3.size; omega
  generalize htb : w3.heap.size = tb at *
  clear hX3 hU3 hF4 hA4
  repeat (first | refine WL.pp rfl ?_ | refine WL.ns ?_ | refine WC.sr ?_ | refine WC.seq ?_ | refine WC.block ?_)
  refine WC.loop (σ := List Ex × Trk × Int × Nat) (I := fun s w' => (∃ ns, Text l.length pp s.1 ns w') ∧ TS w' tb s.2.1 ∧ TPre s.2.1 ∧ Up pp w w' ∧ s.2.1.begun.ents.length + wX s.1 ≤ 1 + 3 * l.length ∧ FirstIs s.2.2.1 s.2.1 s.1 s.2.2.2 (meant es) ∧ s.2.2.2 + s.1.length = es.length)
    (m := fun s => s.1.length) (Lf := fun s => [(3, .pointer (some ⟨pp, 0, none⟩)), (4, .pointer (some ⟨tb, 0, none⟩)), (5, .int .i64 s.2.2.1), (6, .int .i64 (s.2.2.2 : Int))])
    (es, ⟨[], 0⟩, -1, 0) ⟨⟨_, hX4⟩, hT4, .inl rfl, hU4, by simp only [Trk.begun]; simp; omega, .inl ⟨rfl, rfl⟩, by simp⟩ ⟨rfl, rfl, rfl, rfl, trivial⟩ ?_
  clear hX4 hT4 hU4
  rintro ⟨rest, t, first, n⟩ w5 ⟨⟨ns, hX⟩, hT, hp, hU, hb, hfi, hn⟩
  dsimp only at hX hT hp hb hfi hn ⊢
  repeat (first | refine WC.sr ?_ | refine WC.seq ?_)
  refine WL.call rfl rfl rfl (textNext hm hX) ?_
  rintro e w6 ⟨hF6, h6⟩
  have hks := hX.ks
  rcases h6 with ⟨rfl, rfl, data, left, hP6⟩ | ⟨x, rest', rfl, rfl, hX6, hxl⟩
  · refine ⟨_, _, rfl, rfl, ?_⟩
    repeat (first | refine WL.ns ?_ | refine WC.sr ?_ | refine WC.bF rfl (by first | with_reducible rfl | exact Bool.not_true) ?_ | refine WC.seq ?_ | refine X.sn ?_ | refine X.sx ?_ | refine X.bx ?_ | refine WC.exit ?_)
    refine WL.call rfl rfl rfl (error_any pp data left 0 [] w6 hP6) ?_
    rintro e w7 ⟨rfl, rfl⟩
    refine ⟨_, _, rfl, rfl, ?_⟩
    repeat (first | refine WL.pp rfl ?_ | refine WL.ns ?_ | refine WC.sr ?_ | refine WC.bF rfl (by first | with_reducible rfl | exact Bool.not_true) ?_ | refine X.sn ?_ | refine WC.skip ?_ | refine WC.ret ?_)
    refine X.ret_ rfl rfl ⟨?_, hU.trans (hF6.upB (Nat.le_refl _))⟩
    rcases hfi with ⟨rfl, h⟩ | ⟨k, rfl, h⟩
    · rw [← h]; rfl
    · rw [h]; rfl
  · refine ⟨_, _, rfl, rfl, ?_⟩
    obtain ⟨data, left, hP6⟩ := hX6.ps
    obtain ⟨g, hg, hA6⟩ := hP6.ar (encX_pos x) (by omega)
    have hkx := hks x (by simp)
    have hT6 := hT.fm hF6 (by simp) (by simp) (by simp) (by simp) (by simp)
    simp only [wX] at hb
    have hbg := begun_ge t
    repeat (first | refine WL.ns ?_ | refine WC.sr ?_ | refine WC.bT rfl (by first | with_reducible rfl | exact Bool.not_false) ?_ | refine WC.seq ?_ | refine WC.block ?_ | refine X.sn ?_ | refine WC.skip ?_)
    refine WL.call rfl rfl rfl (expression_any pp g _ w6 hA6 (encX_pos x)) ?_
    rintro e w7 ⟨rfl, rfl⟩
    refine ⟨_, _, rfl, rfl, ?_⟩
    skip
    refine WL.call rfl rfl rfl (check_any tb pp g x _ t w7 hT6 hA6 (encX_wf x hkx) (encX_xt x hkx) hkx hp (by omega)) ?_
    rintro e w8 ⟨b, u, rfl, hu, hT8, hF8⟩
    refine ⟨_, _, rfl, rfl, ?_⟩
    obtain ⟨hp8, hb8⟩ := ckT_pre hp x
    have hX8 := hX6.fm hF8 (by simp) (by simp) (by simp)
    have hU8 := (hU.trans (hF6.upB (Nat.le_refl _))).trans (hF8.upB (by omega))
    simp only [List.length_cons] at hn
    rcases hu with ⟨hok, rfl⟩ | ⟨hok, p, rfl⟩
    · repeat (first | refine WL.pp rfl ?_ | refine WL.ns ?_ | refine WC.sr ?_ | refine WC.bF rfl (by first | with_reducible rfl | exact Bool.not_true) ?_ | refine WL.p rfl ?_ | refine WC.reg ?_ | refine WL.nil ?_ | refine X.sn ?_ | refine X.bn ?_ | refine WC.skip ?_ | refine WL.ad rfl rfl (by omega) rfl ?_)
      refine X.again (rest', (ckT t x).1, first, n + 1) ⟨⟨_, hX8⟩, hT8, hp8, hU8, by dsimp only; omega, ?_, by dsimp only; omega⟩ (by simp) ⟨rfl, rfl, rfl, rfl, trivial⟩
      rcases hfi with ⟨h1, h2⟩ | h
      · refine .inl ⟨h1, ?_⟩
        rw [← h2]
        simp only [firstBad, hok, if_true]
      · exact .inr h
    · by_cases hf0 : first < 0
      · repeat (first | refine WL.pp rfl ?_ | refine WL.ns ?_ | refine WC.sr ?_ | refine WC.dT rfl (by first | omega | decide) ?_ | refine WL.p rfl ?_ | refine WC.reg ?_ | refine WL.nil ?_ | refine X.bn ?_ | refine WL.ad rfl rfl (by omega) rfl ?_)
        refine X.again (rest', (ckT t x).1, (n : Int), n + 1) ⟨⟨_, hX8⟩, hT8, hp8, hU8, by dsimp only; omega, ?_, by dsimp only; omega⟩ (by simp) ⟨rfl, rfl, rfl, rfl, trivial⟩
        rcases hfi with ⟨h1, h2⟩ | ⟨k, rfl, h⟩
        · refine .inr ⟨n, rfl, ?_⟩
          rw [← h2]
          simp only [firstBad, hok, Bool.false_eq_true, if_false]
        · omega
      · repeat (first | refine WL.pp rfl ?_ | refine WL.ns ?_ | refine WC.sr ?_ | refine WC.dF rfl (by first | omega | decide) ?_ | refine WL.p rfl ?_ | refine WC.reg ?_ | refine WL.nil ?_ | refine X.sn ?_ | refine X.bn ?_ | refine WC.skip ?_ | refine WL.ad rfl rfl (by omega) rfl ?_)
        refine X.again (rest', (ckT t x).1, first, n + 1) ⟨⟨_, hX8⟩, hT8, hp8, hU8, by dsimp only; omega, ?_, by dsimp only; omega⟩ (by simp) ⟨rfl, rfl, rfl, rfl, trivial⟩
        rcases hfi with ⟨h1, h2⟩ | h
        · omega
        · exact .inr h

set_option maxRecDepth 100000 in
set_option maxHeartbeats 16000000 in
theorem zzCheck_any (B : Nat) (v : Value) (l : Bs) (es : List Ex) (w : World) (hc : Copied B l w v) (hd : DOC false l es) (hm : l.length ≤ 100000000) :
    Calls PP 37 #[v] w fun e w' => ∃ a u, e = .returned (.tuple #[a, u]) ∧ ErrIs (meant es).isNone u ∧ Up w.heap.size w w' := by
  have hwl := hd.len
  have hnl := wX_len es hd.ks
  obtain ⟨ad2, n2, c2, rfl⟩ := hc.slice
  refine enter (L := [(0, .slice ad2 n2 c2)]) Tryz.func37 rfl rfl rfl ⟨rfl, trivial⟩ ?_
  repeat (first | refine WL.pp rfl ?_ | refine WL.ns ?_ | refine WC.sr ?_)
  refine WL.al rfl rfl rfl (fun w1 hA1 => ?_)
  generalize hpp : w.heap.size = pp at *
  have hc1 := hc.fm (hA1.fm (B := 0) (T := []) (Nat.zero_le _)) (by simp)
  have hp1 := hA1.at_
  rw [hpp] at hp1
  have hU1 : Up pp w w1 := hA1.up (by omega)
  have hsz1 : w1.heap.size = pp + 1 := by rw [hA1.size, hpp]
  clear hc hA1
  repeat (first | refine WL.pp rfl ?_ | refine WL.ns ?_ | refine WC.sr ?_)
  refine WL.call rfl rfl rfl (resetP_any pp ad2 n2 c2 _ _ w1 hp1) ?_
  rintro e w3 ⟨rfl, hP3, hF3⟩
  refine ⟨_, _, rfl, rfl, ?_⟩
  have hX3 := textBegin hc1 hd hF3 hP3
  have hU3 := hU1.trans (hF3.upB (Nat.le_refl _))
  clear hc1 hp1 hU1 hF3 hP3
  repeat (first | refine WL.ns ?_ | refine WC.sr ?_)
  refine WL.al rfl rfl rfl (fun w4 hA4 => ?_)
  have hT4 := TS.new hA4.at_
  have hF4 : Fm pp [52] w3 w4 := hA4.fm (by have := hU3.size; omega)
  have hX4 := hX3.fm (hA4.fm (B := 0) (T := []) (Nat.zero_le _)) (by simp) (by simp) (by simp)
  have hU4 := hU3.trans (hF4.upB (Nat.le_refl _))
  have hsz3 : pp ≤ w3.heap.size := by have := hU3.size; omega
  generalize htb : w3.heap.size = tb at *
  clear hX3 hU3 hF4 hA4
  repeat (first | refine WL.pp rfl ?_ | refine WL.ns ?_ | refine WC.sr ?_ | refine WC.seq ?_ | refine WC.block ?_)
  refine WC.loop (σ := List Ex × Trk × Nat) (I := fun s w' => (∃ ns, Text l.length pp s.1 ns w') ∧ TS w' tb s.2.1 ∧ TPre s.2.1 ∧ Up pp w w' ∧ s.2.1.begun.ents.length + wX s.1 ≤ 1 + 3 * l.length ∧ firstBad s.2.1 s.1 s.2.2 = meant es ∧ s.2.2 + s.1.length = es.length)
    (m := fun s => s.1.length) (Lf := fun s => [(4, .pointer (some ⟨pp, 0, none⟩)), (5, .pointer (some ⟨tb, 0, none⟩)), (6, .int .i64 (s.2.2 : Int))])
    (es, ⟨[], 0⟩, 0) ⟨⟨_, hX4⟩, hT4, .inl rfl, hU4, by simp only [Trk.begun]; simp; omega, rfl, by simp⟩ ⟨rfl, rfl, rfl, trivial⟩ ?_
  clear hX4 hT4 hU4
  rintro ⟨rest, t, n⟩ w5 ⟨⟨ns, hX⟩, hT, hp, hU, hb, hfi, hn⟩
  dsimp only at hX hT hp hb hfi hn ⊢
  repeat (first | refine WC.sr ?_ | refine WC.seq ?_)
  refine WL.call rfl rfl rfl (textNext hm hX) ?_
  rintro e w6 ⟨hF6, h6⟩
  have hks := hX.ks
  rcases h6 with ⟨rfl, rfl, data, left, hP6⟩ | ⟨x, rest', rfl, rfl, hX6, hxl⟩
  · refine ⟨_, _, rfl, rfl, ?_⟩
    repeat (first | refine WL.pp rfl ?_ | refine WL.ns ?_ | refine WC.sr ?_ | refine WC.bF rfl (by first | with_reducible rfl | exact Bool.not_true) ?_ | refine X.sn ?_ | refine X.sx ?_ | refine X.bx ?_ | refine WC.exit ?_)
    refine WL.call rfl rfl rfl (error_any pp data left 0 [] w6 hP6) ?_
    rintro e w7 ⟨rfl, rfl⟩
    refine ⟨_, _, rfl, rfl, ?_⟩
    repeat (first | refine WL.pp rfl ?_ | refine WL.ns ?_ | refine WC.ret ?_)
    refine X.ret_ rfl rfl ⟨_, _, rfl, .inl ⟨?_, rfl⟩, hU.trans (hF6.upB (Nat.le_refl _))⟩
    rw [← hfi]; rfl
  · refine ⟨_, _, rfl, rfl, ?_⟩
    obtain ⟨data, left, hP6⟩ := hX6.ps
    obtain ⟨g, hg, hA6⟩ := hP6.ar (encX_pos x) (by omega)
    have hkx := hks x (by simp)
    have hT6 := hT.fm hF6 (by simp) (by simp) (by simp) (by simp) (by simp)
    simp only [wX] at hb
    have hbg := begun_ge t
    repeat (first | refine WL.ns ?_ | refine WC.sr ?_ | refine WC.bT rfl (by first | with_reducible rfl | exact Bool.not_false) ?_ | refine WC.seq ?_ | refine WC.block ?_ | refine X.sn ?_ | refine WC.skip ?_)
    refine WL.call rfl rfl rfl (expression_any pp g _ w6 hA6 (encX_pos x)) ?_
    rintro e w7 ⟨rfl, rfl⟩
    refine ⟨_, _, rfl, rfl, ?_⟩
    skip
    refine WL.call rfl rfl rfl (check_any tb pp g x _ t w7 hT6 hA6 (encX_wf x hkx) (encX_xt x hkx) hkx hp (by omega)) ?_
    rintro e w8 ⟨b, u, rfl, hu, hT8, hF8⟩
    refine ⟨_, _, rfl, rfl, ?_⟩
    obtain ⟨hp8, hb8⟩ := ckT_pre hp x
    have hX8 := hX6.fm hF8 (by simp) (by simp) (by simp)
    have hU8 := (hU.trans (hF6.upB (Nat.le_refl _))).trans (hF8.upB (by omega))
    simp only [List.length_cons] at hn
    rcases hu with ⟨hok, rfl⟩ | ⟨hok, p, rfl⟩
    · simp only [firstBad, hok, if_true] at hfi
      repeat (first | refine WL.pp rfl ?_ | refine WL.ns ?_ | refine WC.sr ?_ | refine WC.bF rfl (by first | with_reducible rfl | exact Bool.not_true) ?_ | refine WC.reg ?_ | refine WL.nil ?_ | refine X.sn ?_ | refine X.bn ?_ | refine WC.skip ?_ | refine WL.ad rfl rfl (by omega) rfl ?_)
      exact X.again (rest', (ckT t x).1, n + 1) ⟨⟨_, hX8⟩, hT8, hp8, hU8, by dsimp only; omega, hfi, by dsimp only; omega⟩ (by simp) ⟨rfl, rfl, rfl, trivial⟩
    · simp only [firstBad, hok, Bool.false_eq_true, if_false] at hfi
      repeat (first | refine WL.pp rfl ?_ | refine WL.ns ?_ | refine WC.sr ?_ | refine WC.bT rfl (by first | with_reducible rfl | exact Bool.not_false) ?_ | refine X.sr ?_ | refine X.br ?_ | refine WC.ret ?_)
      refine X.ret_ rfl rfl ⟨_, _, rfl, .inr ⟨?_, _, rfl⟩, hU8⟩
      rw [← hfi]; rfl

set_option maxRecDepth 100000 in
set_option maxHeartbeats 16000000 in
theorem checkDoc_any (v : Value) (l : Bs) (es : List Ex) (w : World) (hv : RB w v l) (hd : DOC false l es) (hm : l.length ≤ 100000000) :
    Calls PP 16 #[v] w fun e w' => e = .returned (.bool (meant es).isNone) ∧ Up w.heap.size w w' := by
  refine enter (L := [(0, v)]) Tryz.func16 rfl rfl rfl ⟨rfl, trivial⟩ ?_
  repeat (first | refine WL.pp rfl ?_ | refine WL.ns ?_ | refine WC.sr ?_)
  refine WL.call rfl rfl rfl (clone_any v l w hv hm) ?_
  rintro e w2 ⟨v2, rfl, hc2, hF2⟩
  refine ⟨_, _, rfl, rfl, ?_⟩
  skip
  refine WL.call rfl rfl rfl (zzCheck_any _ v2 l es w2 hc2 hd hm) ?_
  rintro e w3 ⟨a, u, rfl, hu, hU3⟩
  refine ⟨_, _, rfl, rfl, ?_⟩
  have hU : Up w.heap.size w w3 := hF2.up.trans (hU3.mono hF2.size)
  rcases hu with ⟨hok, rfl⟩ | ⟨hok, p, rfl⟩
  · rw [hok]
    repeat (first | refine WL.pp rfl ?_ | refine WL.ns ?_ | refine WC.sr ?_ | refine WC.ret ?_)
    exact X.ret_ rfl rfl ⟨rfl, hU⟩
  · rw [hok]
    repeat (first | refine WL.pp rfl ?_ | refine WL.ns ?_ | refine WC.sr ?_ | refine WC.ret ?_)
    exact X.ret_ rfl rfl ⟨rfl, hU⟩
end Go.Proofs.YtaccphdkapmdhaaGreat

namespace Go.Proofs.YtaccphdkapmdhaaGreat

theorem add_str (a b : Bs) (h : a.length + b.length ≤ 4611686018427387904) (t : Nat) (w : World) : (binOp .add t (str a) (str b)).run PP w = .ok (str (a ++ b)) w := by
  rw [binOp_string_add, run_string_add_sum w _ _ (by simp [ByteArray.size]; omega), ByteArray.mk_append_mk]

theorem rem_int (k : IntKind) (a b : Nat) (h : 0 < b) (t : Nat) (w : World) : (binOp .rem t (.int k (a : Int)) (.int k (b : Int))).run PP w = .ok (.int k ((a % b : Nat) : Int)) w := by
  have h0 : ¬ ((b : Int) = 0) := by omega
  rw [binOp_rem]
  unfold Op.intDiv
  rw [if_neg h0]
  simp only [Sem.run_pure]
  rfl

theorem shrU (k : IntKind) (a n : Nat) (hn : n < 32) (hk : 32 ≤ k.bits) (t : Nat) (w : World) (k2 : IntKind) : (binOp .shr t (.int k (a : Int)) (.int k2 (n : Int))).run PP w = .ok (.int k ((a / 2 ^ n : Nat) : Int)) w := by
  show (Op.shift .shr k (a : Int) k2 (n : Int)).run PP w = _
  unfold Op.shift
  rw [if_neg (by omega)]
  have hm : min (n : Int).toNat k.bits = n := by rw [Int.toNat_natCast]; omega
  simp only [hm, Sem.run_pure]
  congr 2
  rw [show (2 : Int) ^ n = ((2 ^ n : Nat) : Int) by simp, Int.fdiv_eq_ediv_of_nonneg _ (Int.natCast_nonneg _), Int.natCast_ediv]

section
attribute [local semireducible] WL WC X WD WX
variable {all : List Oper} {Q : Exit → Act → World → Prop} {N : Nat} {L L' : Env} {o : Oper} {rest : List Oper} {w : World} {S : World → Prop}

def rgA (L : Env) (op : Op) : Option ByteArray :=
  match op with
  | .range t x => cond (Nat.beq t 9) (match ev L x with
    | some (.string s) => some s
    | _ => none) none
  | _ => none

/-- 'range' over a string: an iterator. -/
theorem WL.rg {s : ByteArray} (hg : grd all L o = some true) (h : rgA L o.op = some s) (hd : dstE N o (.pointer (some ⟨w.heap.size, 0, none⟩)) L = some L')
    (k : ∀ w', Al w (.stringIter s 0) w' → WL all Q N L' rest w') : WL all Q N L (o :: rest) w := by
  refine WL.of_run (w' := w.iter s 0) hg (fun a hf => ?_) hd (k _ (alloc_al w _))
  obtain ⟨dst, op, ty, pos, after, guard⟩ := o
  simp only at h
  unfold rgA at h
  split at h
  · rename_i t x
    cases ht : Nat.beq t 9 with
    | false => simp [ht] at h
    | true =>
      have : t = 9 := by simpa using ht
      subst this
      simp only [ht, cond_true] at h
      split at h
      · rename_i s' hx
        simp only [Option.some.injEq] at h
        subst h
        simp [execOp, hf.eval hx, run_range_string w 9 s' string_u]
      · cases h
  · cases h

def nxA (L : Env) (op : Op) : Option Nat :=
  match op with
  | .next x true => match ev L x with
    | some (.pointer (some ⟨r, 0, none⟩)) => some r
    | _ => none
  | _ => none

def World.put (w : World) (r : Nat) (o : Obj) : World := { w with heap := w.heap.setIfInBounds r o }
theorem put_st {w : World} {r : Nat} {o o0 : Obj} (h : w.heap[r]? = some o0) : St w r o (World.put w r o) := by
  refine ⟨rfl, rfl, rfl, by simp [World.put], ?_, fun k hk => ?_⟩
  · have := lt_of_heap h
    simp [World.put, Array.getElem?_setIfInBounds, this]
  · simp only [World.put]
    rw [Array.getElem?_setIfInBounds_ne (fun e => hk e.symm)]

theorem next_run {w : World} {r pos : Nat} {l : Bs} {c : UInt8} (ty : TypeId) (hr : w.heap[r]? = some (.stringIter ⟨l.toArray⟩ pos)) (hc : l[pos]? = some c) (ha : c.toNat < 128) :
    (Instr.next (.pointer (some ⟨r, 0, none⟩)) true ty).run PP w = .ok (.tuple #[.bool true, .int .i64 pos, .int .i32 (c.toNat : Int)]) (World.put w r (.stringIter ⟨l.toArray⟩ (pos + 1))) := by
  have hl := (List.getElem?_eq_some_iff.1 hc).1
  have h1 : pos < (⟨l.toArray⟩ : ByteArray).size := by simpa [ByteArray.size] using hl
  have h2 : (⟨l.toArray⟩ : ByteArray)[pos]'h1 = c := by
    have := (List.getElem?_eq_some_iff.1 hc).2
    rw [← this]
    rfl
  have hd := decode_ascii ⟨l.toArray⟩ pos h1 (by rw [h2]; exact ha)
  rw [h2] at hd
  have hsz := lt_of_heap hr
  simp only [Instr.next, getObj, setObj, Sem.run_bind, Sem.run, hr, Result.andThen, h1, if_true, hd]
  simp [goInt, Sem.run, hr, World.put]

theorem next_over {w : World} {r pos : Nat} {l : Bs} (ty : TypeId) (hr : w.heap[r]? = some (.stringIter ⟨l.toArray⟩ pos)) (hc : l.length ≤ pos) :
    (Instr.next (.pointer (some ⟨r, 0, none⟩)) true ty).run PP w = .ok (.tuple #[.bool false]) w := by
  have h1 : ¬ pos < (⟨l.toArray⟩ : ByteArray).size := by simp [ByteArray.size]; omega
  simp [Instr.next, getObj, Sem.run, hr, h1]

theorem nxA_run {r : Nat} {a : Act} (hf : Fr N L a) (h : nxA L o.op = some r) : execOp a.eval o = (do pure (.value (← Instr.next (.pointer (some ⟨r, 0, none⟩)) true o.type))) := by
  obtain ⟨dst, op, ty, pos, after, guard⟩ := o
  simp only at h
  unfold nxA at h
  split at h
  · rename_i x
    split at h
    · rename_i r' hx
      simp only [Option.some.injEq] at h
      subst h
      simp only [execOp, hf.eval hx]
    · cases h
  · cases h

/-- The next sign of a string, of one byte. -/
theorem WL.nx {r pos : Nat} {l : Bs} {c : UInt8} (hg : grd all L o = some true) (h : nxA L o.op = some r) (hr : w.heap[r]? = some (.stringIter ⟨l.toArray⟩ pos)) (hc : l[pos]? = some c) (ha : c.toNat < 128)
    (hd : dstE N o (.tuple ⟨[.bool true, .int .i64 (pos : Int), .int .i32 (c.toNat : Int)]⟩) L = some L') (k : ∀ w', St w r (.stringIter ⟨l.toArray⟩ (pos + 1)) w' → WL all Q N L' rest w') : WL all Q N L (o :: rest) w :=
  WL.of_run hg (fun a hf => by rw [nxA_run hf h]; simp [next_run o.type hr hc ha]) hd (k _ (put_st hr))

/-- None is left. -/
theorem WL.nxe {r pos : Nat} {l : Bs} (hg : grd all L o = some true) (h : nxA L o.op = some r) (hr : w.heap[r]? = some (.stringIter ⟨l.toArray⟩ pos)) (hc : l.length ≤ pos)
    (hd : dstE N o (.tuple ⟨[.bool false]⟩) L = some L') (k : WL all Q N L' rest w) : WL all Q N L (o :: rest) w :=
  WL.of_run hg (fun a hf => by rw [nxA_run hf h]; simp [next_over o.type hr hc]) hd k

def isA (L : Env) (op : Op) : Option (ByteArray × Int) :=
  match op with
  | .index t x i => cond (Nat.beq t 9) (match ev L x, ev L i with
    | some (.string s), some (.int _ j) => some (s, j)
    | _, _ => none) none
  | _ => none

theorem isA_run {l : Bs} {j : Int} {i : Nat} {c : UInt8} {a : Act} (hf : Fr N L a) (h : isA L o.op = some (⟨l.toArray⟩, j)) (hj : j = (i : Int)) (hc : l[i]? = some c) (w : World) :
    (execOp a.eval o).run PP w = .ok (.value (u8 c)) w := by
  subst hj
  obtain ⟨dst, op, ty, pos, after, guard⟩ := o
  simp only at h
  unfold isA at h
  split at h
  · rename_i t x y
    cases ht : Nat.beq t 9 with
    | false => simp [ht] at h
    | true =>
      have : t = 9 := by simpa using ht
      subst this
      simp only [ht, cond_true] at h
      split at h
      · rename_i s k j' hx hy
        simp only [Option.some.injEq, Prod.mk.injEq] at h
        obtain ⟨rfl, rfl⟩ := h
        have hl := (List.getElem?_eq_some_iff.1 hc).1
        have h1 : i < (⟨l.toArray⟩ : ByteArray).size := by simpa [ByteArray.size] using hl
        have h2 : (⟨l.toArray⟩ : ByteArray)[i]? = some c := by
          rw [ByteArray.getElem?_lt' _ _ h1]
          have := (List.getElem?_eq_some_iff.1 hc).2
          rw [← this]
          rfl
        simp [execOp, hf.eval hx, hf.eval hy, Instr.index, asIntOf, run_underlying string_u, h2]
      · cases h
  · cases h

/-- A byte of a string. -/
theorem WL.is {l : Bs} {j : Int} {i : Nat} {c : UInt8} (hg : grd all L o = some true) (h : isA L o.op = some (⟨l.toArray⟩, j)) (hj : j = (i : Int)) (hc : l[i]? = some c) (hd : dstE N o (u8 c) L = some L') (k : WL all Q N L' rest w) : WL all Q N L (o :: rest) w :=
  WL.of_run hg (fun _ hf => isA_run hf h hj hc w) hd k

def cvS (L : Env) (op : Op) : Option (Nat × Nat × Value) :=
  match op with
  | .convert src dst x => match ev L x with
    | some v => some (src, dst, v)
    | none => none
  | _ => none

/-- Any conversion, by its run. -/
theorem WL.cvr {src dst : Nat} {x v : Value} {w' : World} (hg : grd all L o = some true) (h : cvS L o.op = some (src, dst, x)) (hr : (convert src dst x).run PP w = .ok v w') (hd : dstE N o v L = some L') (k : WL all Q N L' rest w') : WL all Q N L (o :: rest) w := by
  refine WL.of_run hg (fun a hf => ?_) hd k
  obtain ⟨dst', op, ty, pos, after, guard⟩ := o
  simp only at h
  unfold cvS at h
  split at h
  · rename_i s d y
    split at h
    · rename_i v' hx
      simp only [Option.some.injEq, Prod.mk.injEq] at h
      obtain ⟨rfl, rfl, rfl⟩ := h
      simp [execOp, hf.eval hx, hr]
    · cases h
  · cases h

/-- An operation of two operands that draws or not: in a region whose order is open, one at a time. -/
theorem WX.bo1 {bop : BinOp} {t : Nat} {x y v : Value} (hs : oneX all (o :: rest) = true) (hg : grd all L o = some true) (h : boA L o.op = some (bop, t, x, y)) (hr : (binOp bop t x y).run PP w = .ok v w) (hS : S w)
    (hd : dstE N o v L = some L') (k : WX all Q N S L' rest w) : WX all Q N S L (o :: rest) w :=
  WX.rv hs hg (fun _ hf => boA_run hf h hr) hS hd k
end

theorem rune_str (c : UInt8) (h : c.toNat < 128) (w : World) : (convert 21 9 (.int .i32 (c.toNat : Int))).run PP w = .ok (str [c]) w := by
  have hs : (PP.underlying 21).isSome = true := by kernel_rfl
  rw [run_convert_int_string w 21 9 .i32 (c.toNat : Int) hs string_u]
  have hv : Utf8.valid (c.toNat : Int) = true := by simp [Utf8.valid]; omega
  unfold Utf8.encode
  simp only [hv, if_true, Int.toNat_natCast, h]
  simp

/-- '[]byte(s)'. -/
theorem bytes_str (l : Bs) (w : World) : ∃ v w', (convert 9 23 (str l)).run PP w = .ok v w' ∧ RB w' v l ∧ Up w.heap.size w w' := by
  have h := run_bytes_of_string (P := PP) w 9 23 5 ⟨l.toArray⟩ string_u bytes_u u8_u
  refine ⟨_, _, h, ?_, ?_⟩
  · refine ⟨_, _, rfl, fun _ => ⟨w.heap.size, 0, _, _, rfl, heap_alloc_new w.drew _, fun i c hc => ?_⟩⟩
    rw [Nat.zero_add]
    unfold bytesRow
    have hl := (List.getElem?_eq_some_iff.1 hc).1
    rw [Array.getElem?_append_left (by simpa using hl)]
    simp [hc]
  · exact ⟨rfl, rfl, rfl, by simp, fun k hk => heap_alloc_old w.drew _ k hk⟩

end Go.Proofs.YtaccphdkapmdhaaGreat

namespace Go.Proofs.YtaccphdkapmdhaaGreat
attribute [local irreducible] binOp IntKind.wrap Sem.run

/-- Bytes that came from without: part of any block below B. -/
def RF (B : Nat) (w : World) (v : Value) (l : Bs) : Prop := ∃ ad cap, v = .slice ad l.length cap ∧ (l ≠ [] → ∃ b o dc e fz, ad = some ⟨b, o, none⟩ ∧ w.heap[b]? = some (.cells dc e fz) ∧ BA dc o l ∧ b < B)

theorem RF.fm {B B' T w w' v l} (h : RF B w v l) (hf : Fm B' T w w') (hT : T = []) : RF B w' v l := by
  obtain ⟨ad, cap, h1, h2⟩ := h
  refine ⟨ad, cap, h1, fun hl => ?_⟩
  obtain ⟨b, o, dc, e, fz, h3, h4, h5, h6⟩ := h2 hl
  exact ⟨b, o, dc, e, fz, h3, hf.keep _ _ h4 (by rw [hT]; simp), h5, h6⟩
theorem RF.old {B T w w' v l} (h : RF B w v l) (hf : Fm B T w w') : RF B w' v l := by
  obtain ⟨ad, cap, h1, h2⟩ := h
  refine ⟨ad, cap, h1, fun hl => ?_⟩
  obtain ⟨b, o, dc, e, fz, h3, h4, h5, h6⟩ := h2 hl
  exact ⟨b, o, dc, e, fz, h3, (hf.old b h6).trans h4, h5, h6⟩
theorem RF.upS {w w' v l} (h : RF w.heap.size w v l) (hu : Up w.heap.size w w') : RF w'.heap.size w' v l := by
  obtain ⟨ad, cap, h1, h2⟩ := h
  refine ⟨ad, cap, h1, fun hl => ?_⟩
  obtain ⟨b, o, dc, e, fz, h3, h4, h5, h6⟩ := h2 hl
  exact ⟨b, o, dc, e, fz, h3, hu.at h6 h4, h5, Nat.lt_of_lt_of_le h6 hu.size⟩

/-- The style at block sp: its code, the place in it. -/
def SB (w : World) (sp : Nat) (code : Bs) (i : Nat) : Prop := ∃ v, w.heap[sp]? = some (.cells ⟨[v, .int .i64 (i : Int)]⟩ 68 (0, 0)) ∧ RF sp w v code

theorem SB.fm {B T w w' sp code i} (h : SB w sp code i) (hf : Fm B T w w') (h5 : T = []) (h68 : 68 ∉ T) : SB w' sp code i := by
  obtain ⟨v, h1, h2⟩ := h
  exact ⟨v, hf.keep _ _ h1 h68, h2.fm hf h5⟩
theorem SB.fms {T w w' sp code i} (h : SB w sp code i) (hf : Fm sp T w w') (h68 : 68 ∉ T) : SB w' sp code i := by
  obtain ⟨v, h1, h2⟩ := h
  exact ⟨v, hf.keep _ _ h1 h68, h2.old hf⟩
theorem SB.lt {w sp code i} (h : SB w sp code i) : sp < w.heap.size := by
  obtain ⟨v, h1, h2⟩ := h
  exact lt_of_heap h1

/-- What the next choice is made of. -/
def pkv (code : Bs) (i : Nat) : Nat := match code[i]? with
  | some c => c.toNat
  | none => i * 7

/-- What is left to be spent. -/
def Pot (code : Bs) (i : Nat) : Nat := i + 24 * (code.length - i)

theorem Pot.succ (code : Bs) (i : Nat) : Pot code (i + 1) ≤ Pot code i + 1 := by unfold Pot; omega
theorem Pot.ge (code : Bs) (i : Nat) : i ≤ Pot code i := by unfold Pot; omega

set_option maxRecDepth 10000 in
set_option maxHeartbeats 8000000 in
theorem pick_any (sp : Nat) (code : Bs) (i n : Nat) (w : World) (hS : SB w sp code i) (hi : i ≤ 1000000000) (hn : 0 < n) :
    Calls PP 25 #[.pointer (some ⟨sp, 0, none⟩), .int .i64 (n : Int)] w fun e w' => e = .returned (.int .i64 ((pkv code i % n : Nat) : Int)) ∧ SB w' sp code (i + 1) ∧ Fm sp [68] w w' := by
  obtain ⟨v, h1, hv⟩ := hS
  have hv0 := hv
  obtain ⟨ad, cap, rfl, hc⟩ := hv
  refine enter (L := [(0, .pointer (some ⟨sp, 0, none⟩)), (1, .int .i64 (n : Int))]) Tryz.func25 rfl rfl rfl ⟨rfl, rfl, trivial⟩ ?_
  repeat (first | refine WL.pp rfl ?_ | refine WL.ns ?_ | refine WC.sr ?_ | refine WL.ldB (b := sp) (i := 1) rfl rfl h1 rfl rfl ?_ | refine WL.mu rfl rfl (by omega) rfl ?_ | refine WC.cut (x := .seq _ (.cond _ _ _)) (σ := Unit) (fun _ w' => Sm w w') (fun _ => [(0, .pointer (some ⟨sp, 0, none⟩)), (1, .int .i64 (n : Int)), (5, .int .i64 (pkv code i : Int))]) ?_ ?_ | refine WC.seq ?_)
  · have hd : w.drew.heap = w.heap := rfl
    have k1 : ∀ w' : World, w'.heap = w.heap → w'.cell? ⟨sp, 1, none⟩ = some (.int .i64 (i : Int)) := fun w' hw => cell_of (by rw [hw]; exact h1) rfl
    have k0 : ∀ w' : World, w'.heap = w.heap → w'.cell? ⟨sp, 0, none⟩ = some (.slice ad code.length cap) := fun w' hw => cell_of (by rw [hw]; exact h1) rfl
    refine WC.drx (fun w' => w'.heap = w.heap) ?_
    repeat (first | refine WX.p (by kernel_rfl) (by first | trivial | assumption) rfl ?_ | refine WX.ld (by kernel_rfl) hd rfl rfl k0 rfl ?_ | refine WX.ld (by kernel_rfl) hd rfl rfl k1 rfl ?_)
    refine WX.nil ?_
    by_cases hil : i < code.length
    · have hne : code ≠ [] := by rintro rfl; simp at hil
      obtain ⟨b, o, dc, _, fz, rfl, hb, hba, _⟩ := hc hne
      have hci : code[i]? = some code[i] := List.getElem?_eq_getElem hil
      have hpk : pkv code i = code[i].toNat := by simp [pkv, hci]
      have k5 : ∀ w' : World, w'.heap = w.heap → w'.cell? ⟨b, o + i, none⟩ = some (u8 code[i]) := fun w' hw => cell_of (by rw [hw]; exact hb) (hba i _ hci)
      have hd2 : w.drew.drew.heap = w.heap := rfl
      repeat (first | refine WC.dT rfl (by first | omega | decide) ?_ | refine X.sn ?_)
      refine WC.drx (fun w' => w'.heap = w.heap) ?_
      repeat (first | refine WX.p (by kernel_rfl) (by first | trivial | assumption) rfl ?_ | refine WX.ld (by kernel_rfl) hd2 rfl rfl k0 rfl ?_ | refine WX.ld (by kernel_rfl) hd2 rfl rfl k1 rfl ?_ | refine WX.ix (i := i) (by kernel_rfl) hd2 rfl rfl rfl hil (by rw [Nat.mul_one]; rfl) ?_ | refine WX.ld (by kernel_rfl) hd2 rfl rfl k5 rfl ?_ | refine WX.cv (by kernel_rfl) hd2 rfl rfl (wrap_i64 (by have := code[i].toNat_lt; omega)) rfl ?_)
      refine WX.nil ?_
      skip
      exact X.cut () ((Sm.refl _).drew.drew) ⟨rfl, rfl, by rw [hpk]; rfl, trivial⟩
    · have hpk : pkv code i = i * 7 := by simp [pkv, List.getElem?_eq_none (show code.length ≤ i by omega)]
      repeat (first | refine WC.dF rfl (by first | omega | decide) ?_ | refine X.sn ?_ | refine WC.skip ?_)
      exact X.cut () ((Sm.refl _).drew) ⟨rfl, rfl, by rw [hpk]; rfl, trivial⟩
  · rintro _ w1 hS1
    have h1a := hS1.at h1
    repeat (first | refine WL.pp rfl ?_ | refine WC.sr ?_ | refine WL.ldB (b := sp) (i := 1) rfl rfl h1a rfl rfl ?_ | refine WL.ad rfl rfl (by omega) rfl ?_)
    refine WL.stB rfl rfl rfl h1a rfl rfl (fun w2 hS2 => ?_)
    have hF : Fm sp [68] w w2 := hS1.fm.trans (hS2.fm h1a (Nat.le_refl _) (by simp [tag]) rfl)
    repeat (first | refine WL.pp rfl ?_ | refine WL.ns ?_ | refine WC.sr ?_ | refine WL.bo rfl rfl (rem_int .i64 (pkv code i) n hn _ _) rfl ?_ | refine WC.ret ?_)
    exact X.ret_ rfl rfl ⟨rfl, ⟨_, hS2.at_, hv0.old hF⟩, hF⟩

/-- A row of strings. -/
abbrev strs (l : List Bs) : Array Value := ⟨l.map str⟩

theorem bsS3 (a b c : Bs) (w : World) : (Instr.buildSlice 34 3 ⟨[(0, str a), (1, str b), (2, str c)]⟩).run PP w = .ok (.slice (some ⟨w.heap.size, 0, none⟩) 3 3) (w.alloc (.cells (strs [a, b, c]) 9 (0, 0))) := by kernel_rfl
theorem bsS4 (a b c d : Bs) (w : World) : (Instr.buildSlice 34 4 ⟨[(0, str a), (1, str b), (2, str c), (3, str d)]⟩).run PP w = .ok (.slice (some ⟨w.heap.size, 0, none⟩) 4 4) (w.alloc (.cells (strs [a, b, c, d]) 9 (0, 0))) := by kernel_rfl
theorem bsS5 (a b c d e : Bs) (w : World) : (Instr.buildSlice 34 5 ⟨[(0, str a), (1, str b), (2, str c), (3, str d), (4, str e)]⟩).run PP w = .ok (.slice (some ⟨w.heap.size, 0, none⟩) 5 5) (w.alloc (.cells (strs [a, b, c, d, e]) 9 (0, 0))) := by kernel_rfl

theorem strs_get {l : List Bs} {i : Nat} {s : Bs} (h : l[i]? = some s) : (strs l)[i]? = some (str s) := by
  rw [List.getElem?_toArray, List.getElem?_map, h]
  rfl

/-- A text that was written: its property, the style behind it, what was spent. -/
def Wro (sp : Nat) (code : Bs) (i K : Nat) (P : Bs → Prop) (w : World) (e : Ending) (w' : World) : Prop :=
  ∃ s j, e = .returned (str s) ∧ P s ∧ SB w' sp code j ∧ Fm sp [68] w w' ∧ s.length + Pot code j ≤ Pot code i + K

def blTexts : List Bs := [[], [], [32], [9], [32, 32]]

theorem blTexts_ok : ∀ s ∈ blTexts, BL s ∧ s.length ≤ 2 := by
  intro s hs
  simp only [blTexts, List.mem_cons, List.not_mem_nil, or_false] at hs
  rcases hs with rfl | rfl | rfl | rfl | rfl
  all_goals exact ⟨fun c hc => by
    first
      | (simp at hc; done)
      | (simp only [List.mem_cons, List.not_mem_nil, or_false] at hc; rcases hc with rfl | rfl <;> decide)
      | (simp only [List.mem_cons, List.not_mem_nil, or_false] at hc; subst hc; decide), by decide⟩

set_option maxRecDepth 10000 in
set_option maxHeartbeats 8000000 in
theorem blanks_any (sp : Nat) (code : Bs) (i : Nat) (w : World) (hS : SB w sp code i) (hi : i ≤ 1000000000) :
    Calls PP 27 #[.pointer (some ⟨sp, 0, none⟩)] w fun e w' => ∃ s, e = .returned (str s) ∧ BL s ∧ s.length ≤ 2 ∧ SB w' sp code (i + 1) ∧ Fm sp [68] w w' := by
  have hlt := hS.lt
  refine enter (L := [(0, .pointer (some ⟨sp, 0, none⟩))]) Tryz.func27 rfl rfl rfl ⟨rfl, trivial⟩ ?_
  repeat (first | refine WL.pp rfl ?_ | refine WL.ns ?_ | refine WC.sr ?_)
  refine WL.bs rfl rfl (bsS5 [] [] [32] [9] [32, 32]) rfl (fun w1 hA => ?_)
  have hF1 : Fm sp [68] w w1 := hA.fm (by omega)
  have hS1 := hS.fm (hA.fm (B := 0) (T := []) (Nat.zero_le _)) (by simp) (by simp)
  repeat (refine WL.pp rfl ?_)
  refine WL.call rfl rfl rfl (pick_any sp code i 5 w1 hS1 hi (by omega)) ?_
  rintro e w2 ⟨rfl, hS2, hF2⟩
  refine ⟨_, _, rfl, rfl, ?_⟩
  have hr : pkv code i % 5 < 5 := Nat.mod_lt _ (by omega)
  generalize pkv code i % 5 = r at hr
  have hb2 := hF2.keep _ _ hA.at_ (by simp [tag])
  obtain ⟨s, hs⟩ : ∃ s, blTexts[r]? = some s := ⟨_, List.getElem?_eq_getElem (by simpa [blTexts] using hr)⟩
  obtain ⟨h1, h2⟩ := blTexts_ok s (List.mem_of_getElem? hs)
  have hc : w2.cell? ⟨w.heap.size, r, none⟩ = some (str s) := cell_of hb2 (strs_get hs)
  repeat (first | refine WL.pp rfl ?_ | refine WL.ns ?_ | refine WL.ix (i := r) rfl rfl rfl hr (by rw [Nat.zero_add, Nat.mul_one]; rfl) ?_ | refine WL.ld rfl rfl hc rfl ?_ | refine WC.ret ?_)
  exact X.ret_ rfl rfl ⟨s, rfl, h1, h2, hS2, hF1.trans hF2⟩

theorem blanks_wro (sp : Nat) (code : Bs) (i : Nat) (w : World) (hS : SB w sp code i) (hi : i ≤ 1000000000) : Calls PP 27 #[.pointer (some ⟨sp, 0, none⟩)] w (Wro sp code i 3 BL w) :=
  (blanks_any sp code i w hS hi).mono (by
    rintro e w' ⟨s, rfl, h1, h2, h3, h4⟩
    exact ⟨s, i + 1, rfl, h1, h3, h4, by have := Pot.succ code i; omega⟩)
end Go.Proofs.YtaccphdkapmdhaaGreat

