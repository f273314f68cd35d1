/- The parts of keys. The parser's state and its arena of nodes: 'push', 'at', 'Range', 'offsetOf', 'rangeFrom'. 'push', 'at', 'Range', 'offsetOf', 'rangeFrom'. 'at', 'Range', 'offsetOf', 'rangeFrom', parts of keys as nodes. No condition. -/
import Derived.Test.YtaccphdkapmdhaaGreatP8
import Derived.Test.YtaccphdkapmdhaaGreatP1
namespace Go.Proofs.YtaccphdkapmdhaaGreat
attribute [local irreducible] binOp IntKind.wrap Sem.run

set_option maxHeartbeats 4000000 in
theorem bareChar_any (c : UInt8) (w : World) : Calls PP 137 #[u8 c] w fun e w' => e = .returned (.bool (isBare c)) ∧ w' = w := by
  refine enter (L := [(0, u8 c)]) Tryz.func137 rfl rfl rfl ⟨rfl, trivial⟩ ?_
  have key : c.toNat < 45 ∨ c.toNat = 45 ∨ (45 < c.toNat ∧ c.toNat < 48) ∨ (48 ≤ c.toNat ∧ c.toNat ≤ 57) ∨ (57 < c.toNat ∧ c.toNat < 65) ∨ (65 ≤ c.toNat ∧ c.toNat ≤ 90) ∨ (90 < c.toNat ∧ c.toNat < 95) ∨ c.toNat = 95 ∨ c.toNat = 96 ∨ (97 ≤ c.toNat ∧ c.toNat ≤ 122) ∨ 122 < c.toNat := by omega
  rcases key with h | h | h | h | h | h | h | h | h | h | h
  all_goals
    repeat (first | refine WL.pp rfl ?_ | refine WL.ns ?_ | refine WC.sr ?_ | refine WL.p rfl ?_ | refine WC.ret ?_ | refine WL.gT rfl rfl (by first | omega | decide) ?_ | refine WL.gF rfl rfl (by first | omega | decide) ?_)
    refine X.ret_ rfl rfl ⟨?_, rfl⟩
    refine congrArg Ending.returned (congrArg Value.bool ?_)
    first
      | (rw [dc_of (by omega)]; simp only [isBare]; symm; rw [decide_eq_true_eq]; omega)
      | (rw [dc_not (by omega)]; simp only [isBare]; symm; rw [decide_eq_false_iff_not]; omega)
      | (simp only [isBare]; symm; rw [decide_eq_true_eq]; omega)

section
variable {bd C E : Nat} {dc : Array Value} {fz : Nat × Nat}

theorem isBare_cases {c : UInt8} (h : isBare c = true) : c.toNat ≠ 39 ∧ c.toNat ≠ 34 := by
  simp only [isBare, decide_eq_true_eq] at h
  omega

set_option maxRecDepth 100000 in
set_option maxHeartbeats 4000000 in
theorem scanKey_any (p v : Value) (b k r : Bs) (w : World) (hv : Suf bd C E dc v b) (hE : E ≤ 100000000) (hk : KP b k r) (hD : w.heap[bd]? = some (.cells dc 5 fz)) :
    Calls PP 128 #[p, v] w fun e w' => ∃ v1 v2 v3, e = .returned (.tuple #[v1, v2, v3, .nilIface]) ∧ Rg C E v1 ∧ RB w' v2 k ∧ Suf bd C E dc v3 r ∧ Up w.heap.size w w' := by
  have hC := hv.C62
  have hle := hv.le
  have hEC := hv.EC
  refine enter (L := [(0, p), (1, v)]) Tryz.func128 rfl rfl rfl ⟨rfl, rfl, trivial⟩ ?_
  cases hk with
  | lit h =>
    have hcell := hv.cell hD
    have hv' := hv
    have hcons := hv.cons
    subst hcons
    simp only [List.length_cons] at hle
    repeat (first | refine WL.pp rfl ?_ | refine WL.ns ?_ | refine WC.sr ?_ | refine WC.dT rfl (by first | omega | decide) ?_ | refine WC.dF rfl (by first | omega | decide) ?_ | refine WL.ix (i := 0) rfl rfl rfl (by omega) rfl ?_ | refine WL.ld rfl rfl hcell rfl ?_ | refine WC.seq ?_ | refine WC.block ?_ | refine X.sn ?_ | refine WC.skip ?_)
    refine WL.call rfl rfl rfl (literal_any p _ _ _ _ w hv' h hD) ?_
    rintro e w2 ⟨v1, v2, v3, rfl, h1, h2, h3, h4⟩
    refine ⟨_, _, rfl, rfl, ?_⟩
    repeat (first | refine WL.pp rfl ?_ | refine WL.ns ?_ | refine X.br ?_ | refine WC.ret ?_)
    exact X.ret_ rfl rfl ⟨_, _, _, rfl, h1, h2, h3, h4.up⟩
  | bas h =>
    have hcell := hv.cell hD
    have hv' := hv
    have hcons := hv.cons
    subst hcons
    simp only [List.length_cons] at hle
    repeat (first | refine WL.pp rfl ?_ | refine WL.ns ?_ | refine WC.sr ?_ | refine WC.dT rfl (by first | omega | decide) ?_ | refine WC.dF rfl (by first | omega | decide) ?_ | refine WL.ix (i := 0) rfl rfl rfl (by omega) rfl ?_ | refine WL.ld rfl rfl hcell rfl ?_ | refine WC.seq ?_ | refine WC.block ?_ | refine X.sn ?_ | refine WC.skip ?_)
    refine WL.call rfl rfl rfl (basic_any p _ _ _ _ w hv' h hE hD) ?_
    rintro e w2 ⟨v1, v2, v3, rfl, h1, h2, h3, h4⟩
    refine ⟨_, _, rfl, rfl, ?_⟩
    repeat (first | refine WL.pp rfl ?_ | refine WL.ns ?_ | refine X.br ?_ | refine WC.ret ?_)
    exact X.ret_ rfl rfl ⟨_, _, _, rfl, h1, h2, h3, h4⟩
  | bare h1 h2 h3 =>
    have hlen : (k ++ r).length = k.length + r.length := by simp
    have hk0 : 0 < k.length := List.length_pos_iff.2 h1
    have hval := hv.val (by omega)
    obtain ⟨c, hc⟩ : ∃ c, (k ++ r)[0]? = some c := ⟨_, List.getElem?_eq_getElem (by omega)⟩
    have hcell := hv.at hD hc
    have hcb : isBare c = true := h2 c (by
      rw [List.getElem?_append_left hk0] at hc
      exact List.mem_of_getElem? hc)
    obtain ⟨hn1, hn2⟩ := isBare_cases hcb
    generalize hl0 : k ++ r = l0 at *
    subst hval
    repeat (first | refine WL.pp rfl ?_ | refine WL.ns ?_ | refine WC.sr ?_ | refine WC.dF rfl (by first | omega | decide) ?_ | refine WL.ix (i := 0) rfl rfl rfl (by omega) rfl ?_ | refine WL.ld rfl rfl hcell rfl ?_ | refine WC.cut (x := .block _ (.loop _)) (σ := Unit) (fun _ w' => w' = w) (fun _ => [(1, .slice (some ⟨bd, E - l0.length, none⟩) l0.length (C - (E - l0.length))), (8, .int .i64 (k.length : Int))]) ?_ ?_ | refine WC.seq ?_ | refine WC.block ?_ | refine X.sn ?_ | refine WC.skip ?_)
    · skip
      refine WC.loop (σ := Nat) (I := fun j w' => w' = w ∧ j ≤ k.length) (m := fun j => k.length - j) (Lf := fun j => [(1, .slice (some ⟨bd, E - l0.length, none⟩) l0.length (C - (E - l0.length))), (8, .int .i64 (j : Int))]) 0 ⟨rfl, Nat.zero_le _⟩ ⟨rfl, rfl, trivial⟩ ?_
      rintro j w1 ⟨rfl, hj⟩
      by_cases hjk : j < k.length
      · have hcj : l0[j]? = some k[j] := by rw [← hl0, List.getElem?_append_left hjk, List.getElem?_eq_getElem hjk]
        have hcj2 := hv.at hD hcj
        have hb := h2 k[j] (by simp)
        generalize k[j] = c at hcj2 hb
        repeat (first | refine WL.pp rfl ?_ | refine WC.sr ?_ | refine WL.ix (i := j) rfl rfl rfl (by omega) rfl ?_ | refine WL.ld rfl rfl hcj2 rfl ?_ | refine WL.p rfl ?_ | refine WC.seq ?_ | refine WL.gT rfl rfl (by first | omega | decide) ?_)
        refine WL.call rfl rfl rfl (bareChar_any c w1) ?_
        rintro e w2 ⟨rfl, rfl⟩
        rw [hb]
        refine ⟨_, _, rfl, rfl, ?_⟩
        repeat (first | refine WL.pp rfl ?_ | refine WL.ns ?_ | refine WC.bT rfl (by first | with_reducible rfl | exact Bool.not_false) ?_ | refine WL.p rfl ?_ | refine WC.reg ?_ | refine WC.block ?_ | refine WL.nil ?_ | refine X.sn ?_ | refine X.bn ?_ | refine WC.skip ?_ | refine WL.ad rfl rfl (by omega) rfl ?_)
        exact X.again (j + 1) ⟨rfl, by omega⟩ (by omega) ⟨rfl, rfl, trivial⟩
      · have hjk' : j = k.length := by omega
        subst hjk'
        cases r with
        | nil =>
          simp only [List.length_nil, Nat.add_zero] at hlen
          repeat (first | refine WL.pp rfl ?_ | refine WL.ns ?_ | refine WC.sr ?_ | refine WC.bF rfl (by first | with_reducible rfl | exact Bool.not_true) ?_ | refine WL.p rfl ?_ | refine WC.seq ?_ | refine X.sx ?_ | refine X.bx ?_ | refine WC.exit ?_ | refine WL.gF rfl rfl (by first | omega | decide) ?_)
          exact X.cut () rfl ⟨rfl, rfl, trivial⟩
        | cons c r =>
          simp only [List.length_cons] at hlen
          have hcj : l0[k.length]? = some c := by rw [← hl0, List.getElem?_append_right (Nat.le_refl _)]; simp
          have hcj2 := hv.at hD hcj
          have hb := h3 c rfl
          repeat (first | refine WL.pp rfl ?_ | refine WC.sr ?_ | refine WL.ix (i := k.length) rfl rfl rfl (by omega) rfl ?_ | refine WL.ld rfl rfl hcj2 rfl ?_ | refine WL.p rfl ?_ | refine WC.seq ?_ | refine WL.gT rfl rfl (by first | omega | decide) ?_)
          refine WL.call rfl rfl rfl (bareChar_any c w1) ?_
          rintro e w2 ⟨rfl, rfl⟩
          rw [hb]
          refine ⟨_, _, rfl, rfl, ?_⟩
          repeat (first | refine WL.ns ?_ | refine WC.bF rfl (by first | with_reducible rfl | exact Bool.not_true) ?_ | refine WL.p rfl ?_ | refine X.sx ?_ | refine X.bx ?_ | refine WC.exit ?_)
          exact X.cut () rfl ⟨rfl, rfl, trivial⟩
    · rintro _ w1 rfl
      repeat (first | refine WL.pp rfl ?_ | refine WL.ns ?_ | refine WC.sr ?_ | refine WC.dF rfl (by first | omega | decide) ?_ | refine WC.seq ?_ | refine X.sn ?_ | refine WC.skip ?_)
      refine WC.drx (fun _ => True) ?_
      repeat (refine WX.p (by kernel_rfl) (by first | trivial | assumption) rfl ?_)
      refine WX.sS k.length 0 (by kernel_rfl) trivial rfl rfl (Sf.mk _ _ _) rfl (by simp) (by omega) (fun _ => rfl) (fun ad1 hs1 => ?_)
      repeat (refine WX.p (by kernel_rfl) (by first | trivial | assumption) rfl ?_)
      refine WX.sS k.length 0 (by kernel_rfl) trivial rfl rfl (Sf.mk _ _ _) rfl (by simp) (by omega) (fun _ => rfl) (fun ad2 hs2 => ?_)
      repeat (refine WX.p (by kernel_rfl) (by first | trivial | assumption) rfl ?_)
      refine WX.sS (l0.length - k.length) k.length (by kernel_rfl) trivial rfl rfl (Sf.mk _ _ _) (by simp) (by simp; omega) (by omega) (fun _ => rfl) (fun ad3 hs3 => ?_)
      repeat (refine WX.p (by kernel_rfl) (by first | trivial | assumption) rfl ?_)
      refine WX.nil ?_
      repeat (first | refine X.sn ?_ | refine X.br ?_ | refine WC.ret ?_)
      refine X.ret_ rfl rfl ⟨_, _, _, rfl, hv.rg 0 k.length (by omega) _, ?_, ?_, (Up.refl _ _).drew⟩
      · have := hv.sub (w := w1.drew) hD 0 k.length (by omega) hs2
        have e : (l0.drop 0).take k.length = k := by rw [List.drop_zero, ← hl0, List.take_left]
        rw [e] at this; exact this
      · have := hv.drop k.length (by omega) hs3
        rw [← hl0, List.drop_left] at this
        rw [hl0] at this
        exact this
end
end Go.Proofs.YtaccphdkapmdhaaGreat

namespace Go.Proofs.YtaccphdkapmdhaaGreat

section
attribute [local semireducible] WL WC X WD
variable {all : List Oper} {Q : Exit → Act → World → Prop} {N : Nat} {L L' : Env} {o : Oper} {rest : List Oper} {w : World} {S : World → Prop} {fuel : Nat} {listed : Array Bool}

theorem WD.weaken (L' : Env) (ha : Agree L' L) (k : WD all Q N S fuel listed L' w) : WD all Q N S fuel listed L w := fun a hf => k a (hf.weaken ha)

/-- Two that may come up: either may. -/
theorem WD.br {i j : Nat} {oi oj : Oper} {vi vj : Value} {wi wj : World} {Li Lj : Env} (hr : Region.ready .any all.toArray listed = [i, j]) (hi : all[i]? = some oi) (hj : all[j]? = some oj)
    (gi : grd all L oi = some true) (gj : grd all L oj = some true) (ri : ∀ a, Fr N L a → (execOp a.eval oi).run PP w = .ok (.value vi) wi) (rj : ∀ a, Fr N L a → (execOp a.eval oj).run PP w = .ok (.value vj) wj)
    (si : S wi) (sj : S wj) (di : dstE N oi vi L = some Li) (dj : dstE N oj vj L = some Lj)
    (ki : WD all Q N S fuel (listed.setIfInBounds i true) Li wi) (kj : WD all Q N S fuel (listed.setIfInBounds j true) Lj wj) : WD all Q N S (fuel + 1) listed L w := fun a hf => by
  refine wpAnyH_all hr (by simp) fun m hm => ?_
  have hm' : m = i ∨ m = j := by simpa using hm
  rcases hm' with rfl | rfl
  · unfold wpOp
    have hi' : (all.toArray)[m]? = some oi := by simpa using hi
    simp only [hi', grd_ok hf gi, if_true]
    refine .inl ?_
    unfold Oper.wp
    rw [ri a hf]
    exact ⟨si, ki _ (dstE_ok hf di)⟩
  · unfold wpOp
    have hj' : (all.toArray)[m]? = some oj := by simpa using hj
    simp only [hj', grd_ok hf gj, if_true]
    refine .inl ?_
    unfold Oper.wp
    rw [rj a hf]
    exact ⟨sj, kj _ (dstE_ok hf dj)⟩

theorem apRun {B t e s n m c : Nat} {v : Value} {xs : List Value} {ad : Addr} (news : List Value) (h : apA L o.op = some (t, v, .slice (some ad) m c))
    (ht : rowT t = some (e, s)) (hown : w.ownsRow B e s v n xs) (hl : news.length = m * s) (hnews : ∀ j u, news[j]? = some u → w.cell? (ad.add j) = some u) (h1 : ∀ u ∈ news, oneV u = true)
    (hm : n + m ≤ 1099511627776) (hB : B ≤ w.heap.size) :
    ∃ v' w', (∀ a, Fr N L a → (execOp a.eval o).run PP w = .ok (.value v') w') ∧ w'.ownsRow B e s v' (n + m) (xs ++ news) ∧ Up B w w' ∧ w.grownBy w' v.ownBlock := by
  obtain ⟨i, z, hu, hi, hz, hsz, hby, hzs, h0⟩ := row_parts ht
  have hone : ∀ u ∈ news, u.oneCell' = true := fun u hu => by
    have := h1 u hu
    cases u <;> first | rfl | (simp [oneV] at this)
  have hbb : (n + m) * i.bytes ≤ 140737488355328 := by
    have := Nat.mul_le_mul hm hby
    omega
  obtain ⟨v', w', hr, h2, h3, h4⟩ := run_append_own (P := PP) w B t o.type e i z s i.bytes hu hi hz hsz rfl hzs h0 v n xs hown ad m c news hl hnews hone (by simp only [maxLen]; omega) hbb hB
  exact ⟨v', w', fun a hf => by rw [apA_run hf h]; simp [hr], h2, Up.of_grown h3 (fun k hk => (hown.lt k hk).1) hB, h3⟩
end

/-! ### Nodes -/
def isSl : Value → Prop
  | .slice _ _ _ => True
  | _ => False

/-- The cells of nodes. -/
structure NodeIs (w : World) (pp : Nat) (n : ANode) (xs : List Value) (k : Nat) : Prop where
  kind : xs[k]? = some (.int .i64 n.kind)
  raw : ∃ a b : Int, xs[k + 1]? = some (.int .u32 a) ∧ xs[k + 2]? = some (.int .u32 b)
  data : ∃ d, xs[k + 3]? = some d ∧ isSl d ∧ ∀ s, n.data = some s → RB w d s
  parser : xs[k + 4]? = some (.pointer (some ⟨pp, 0, none⟩))
  next : xs[k + 5]? = some (.int .i32 n.next)
  child : xs[k + 6]? = some (.int .i32 n.child)

def NL (w : World) (pp : Nat) (ns : List ANode) (xs : List Value) : Prop := ∀ (i : Nat) (n : ANode), ns[i]? = some n → NodeIs w pp n xs (i * 7)

theorem NodeIs.fm {B T w w' pp n xs k} (h : NodeIs w pp n xs k) (hf : Fm B T w w') (hT : 5 ∉ T) : NodeIs w' pp n xs k := by
  obtain ⟨d, h1, h2, h3⟩ := h.data
  exact ⟨h.kind, h.raw, ⟨d, h1, h2, fun s hs => (h3 s hs).fm hf hT⟩, h.parser, h.next, h.child⟩

theorem NL.fm {B T w w' pp ns xs} (h : NL w pp ns xs) (hf : Fm B T w w') (hT : 5 ∉ T) : NL w' pp ns xs := fun i n hn => (h i n hn).fm hf hT

theorem NodeIs.app {w pp n xs ys k} (h : NodeIs w pp n xs k) : NodeIs w pp n (xs ++ ys) k := by
  have key : ∀ (j : Nat) (v : Value), xs[j]? = some v → (xs ++ ys)[j]? = some v := fun j v hj => by
    rw [List.getElem?_append_left (List.getElem?_eq_some_iff.1 hj).1]; exact hj
  obtain ⟨a, b, h1, h2⟩ := h.raw
  obtain ⟨d, h3, h4, h5⟩ := h.data
  exact ⟨key _ _ h.kind, ⟨a, b, key _ _ h1, key _ _ h2⟩, ⟨d, key _ _ h3, h4, h5⟩, key _ _ h.parser, key _ _ h.next, key _ _ h.child⟩

theorem NL.snoc {w pp ns xs n ys} (h : NL w pp ns xs) (hl : xs.length = ns.length * 7) (hn : NodeIs w pp n ys 0) : NL w pp (ns ++ [n]) (xs ++ ys) := by
  intro i m hm
  by_cases hi : i < ns.length
  · rw [List.getElem?_append_left hi] at hm
    exact (h i m hm).app
  · have hi' : i = ns.length := by
      have := (List.getElem?_eq_some_iff.1 hm).1
      simp at this; omega
    subst hi'
    rw [List.getElem?_append_right (Nat.le_refl _), Nat.sub_self] at hm
    simp only [List.getElem?_cons_zero, Option.some.injEq] at hm
    subst hm
    have key : ∀ (j : Nat) (v : Value), ys[j]? = some v → (xs ++ ys)[ns.length * 7 + j]? = some v := fun j v hj => by
      rw [List.getElem?_append_right (by omega), hl, Nat.add_sub_cancel_left]; exact hj
    obtain ⟨a, b, h1, h2⟩ := hn.raw
    obtain ⟨d, h3, h4, h5⟩ := hn.data
    simp only [Nat.zero_add] at h1 h2 h3
    have h6 := hn.parser
    have h7 := hn.next
    have h8 := hn.child
    simp only [Nat.zero_add] at h6 h7 h8
    exact ⟨key 0 _ hn.kind, ⟨a, b, key 1 _ h1, key 2 _ h2⟩, ⟨d, key 3 _ h3, h4, h5⟩, key 4 _ h6, key 5 _ h7, key 6 _ h8⟩

/-- Each cell of nodes is one cell. -/
theorem NL.one {w pp ns xs} (h : NL w pp ns xs) (hl : xs.length = ns.length * 7) : ∀ u ∈ xs, oneV u = true := by
  intro u hu
  obtain ⟨j, hj, rfl⟩ := List.getElem_of_mem hu
  have hi : j / 7 < ns.length := by omega
  have hn := h (j / 7) ns[j / 7] (List.getElem?_eq_getElem hi)
  have hj' : xs[j]? = some xs[j] := List.getElem?_eq_getElem hj
  have key : ∀ (k : Nat) (v : Value), j % 7 = k → xs[j / 7 * 7 + k]? = some v → xs[j] = v := fun k v hk hv => by
    have e : j / 7 * 7 + k = j := by omega
    rw [e, hj'] at hv
    simpa using hv
  obtain ⟨a, b, h1, h2⟩ := hn.raw
  obtain ⟨d, h3, h4, h5⟩ := hn.data
  have hm : j % 7 = 0 ∨ j % 7 = 1 ∨ j % 7 = 2 ∨ j % 7 = 3 ∨ j % 7 = 4 ∨ j % 7 = 5 ∨ j % 7 = 6 := by omega
  rcases hm with e | e | e | e | e | e | e
  · rw [key 0 _ e hn.kind]; rfl
  · rw [key 1 _ e h1]; rfl
  · rw [key 2 _ e h2]; rfl
  · rw [key 3 _ e h3]; cases d <;> first | rfl | (exact h4.elim)
  · rw [key 4 _ e hn.parser]; rfl
  · rw [key 5 _ e hn.next]; rfl
  · rw [key 6 _ e hn.child]; rfl

theorem getElem_set5 {xs : List Value} {i j k f : Nat} {v u : Value} (hk : k < 7) (hf : f < 7) (hne : i ≠ j ∨ k ≠ f) (h : xs[i * 7 + k]? = some u) : (xs.set (j * 7 + f) v)[i * 7 + k]? = some u := by
  rw [List.getElem?_set_ne (by omega)]; exact h

theorem NL.setNext {w pp ns xs} (h : NL w pp ns xs) (j v : Nat) {n : ANode} (hj : ns[j]? = some n) : NL w pp (ns.set j { n with next := v }) (xs.set (j * 7 + 5) (.int .i32 v)) := by
  intro i m hm
  by_cases hij : i = j
  · subst hij
    have hlt := (List.getElem?_eq_some_iff.1 hj).1
    rw [List.getElem?_set_self hlt] at hm
    simp only [Option.some.injEq] at hm
    subst hm
    have h0 := h i n hj
    obtain ⟨a, b, h1, h2⟩ := h0.raw
    obtain ⟨d, h3, h4, h5⟩ := h0.data
    refine ⟨getElem_set5 (k := 0) (by omega) (by omega) (.inr (by omega)) h0.kind, ⟨a, b, getElem_set5 (by omega) (by omega) (.inr (by omega)) h1, getElem_set5 (by omega) (by omega) (.inr (by omega)) h2⟩,
      ⟨d, getElem_set5 (by omega) (by omega) (.inr (by omega)) h3, h4, h5⟩, getElem_set5 (by omega) (by omega) (.inr (by omega)) h0.parser, ?_, getElem_set5 (by omega) (by omega) (.inr (by omega)) h0.child⟩
    rw [List.getElem?_set_self (List.getElem?_eq_some_iff.1 h0.next).1]
  · rw [List.getElem?_set_ne (Ne.symm hij)] at hm
    have h0 := h i m hm
    obtain ⟨a, b, h1, h2⟩ := h0.raw
    obtain ⟨d, h3, h4, h5⟩ := h0.data
    exact ⟨getElem_set5 (k := 0) (by omega) (by omega) (.inl hij) h0.kind, ⟨a, b, getElem_set5 (by omega) (by omega) (.inl hij) h1, getElem_set5 (by omega) (by omega) (.inl hij) h2⟩,
      ⟨d, getElem_set5 (by omega) (by omega) (.inl hij) h3, h4, h5⟩, getElem_set5 (by omega) (by omega) (.inl hij) h0.parser, getElem_set5 (by omega) (by omega) (.inl hij) h0.next, getElem_set5 (by omega) (by omega) (.inl hij) h0.child⟩

theorem NL.setChild {w pp ns xs} (h : NL w pp ns xs) (j v : Nat) {n : ANode} (hj : ns[j]? = some n) : NL w pp (ns.set j { n with child := v }) (xs.set (j * 7 + 6) (.int .i32 v)) := by
  intro i m hm
  by_cases hij : i = j
  · subst hij
    have hlt := (List.getElem?_eq_some_iff.1 hj).1
    rw [List.getElem?_set_self hlt] at hm
    simp only [Option.some.injEq] at hm
    subst hm
    have h0 := h i n hj
    obtain ⟨a, b, h1, h2⟩ := h0.raw
    obtain ⟨d, h3, h4, h5⟩ := h0.data
    refine ⟨getElem_set5 (k := 0) (by omega) (by omega) (.inr (by omega)) h0.kind, ⟨a, b, getElem_set5 (by omega) (by omega) (.inr (by omega)) h1, getElem_set5 (by omega) (by omega) (.inr (by omega)) h2⟩,
      ⟨d, getElem_set5 (by omega) (by omega) (.inr (by omega)) h3, h4, h5⟩, getElem_set5 (by omega) (by omega) (.inr (by omega)) h0.parser, getElem_set5 (by omega) (by omega) (.inr (by omega)) h0.next, ?_⟩
    rw [List.getElem?_set_self (List.getElem?_eq_some_iff.1 h0.child).1]
  · rw [List.getElem?_set_ne (Ne.symm hij)] at hm
    have h0 := h i m hm
    obtain ⟨a, b, h1, h2⟩ := h0.raw
    obtain ⟨d, h3, h4, h5⟩ := h0.data
    exact ⟨getElem_set5 (k := 0) (by omega) (by omega) (.inl hij) h0.kind, ⟨a, b, getElem_set5 (by omega) (by omega) (.inl hij) h1, getElem_set5 (by omega) (by omega) (.inl hij) h2⟩,
      ⟨d, getElem_set5 (by omega) (by omega) (.inl hij) h3, h4, h5⟩, getElem_set5 (by omega) (by omega) (.inl hij) h0.parser, getElem_set5 (by omega) (by omega) (.inl hij) h0.next, getElem_set5 (by omega) (by omega) (.inl hij) h0.child⟩

/-- The raw place of a node, set anew. -/
theorem NL.setRaw {w pp ns xs} (h : NL w pp ns xs) (j : Nat) (a b : Int) {n : ANode} (hj : ns[j]? = some n) : NL w pp ns ((xs.set (j * 7 + 1) (.int .u32 a)).set (j * 7 + 2) (.int .u32 b)) := by
  intro i m hm
  have h0 := h i m hm
  obtain ⟨a', b', h1, h2⟩ := h0.raw
  obtain ⟨d, h3, h4, h5⟩ := h0.data
  have two : ∀ {k : Nat} {u : Value}, k < 7 → k ≠ 1 → k ≠ 2 → xs[i * 7 + k]? = some u → ((xs.set (j * 7 + 1) (.int .u32 a)).set (j * 7 + 2) (.int .u32 b))[i * 7 + k]? = some u := fun hk h1 h2 h =>
    getElem_set5 hk (by omega) (.inr h2) (getElem_set5 hk (by omega) (.inr h1) h)
  refine ⟨two (k := 0) (by omega) (by omega) (by omega) h0.kind, ?_, ⟨d, two (by omega) (by omega) (by omega) h3, h4, h5⟩, two (by omega) (by omega) (by omega) h0.parser, two (by omega) (by omega) (by omega) h0.next, two (by omega) (by omega) (by omega) h0.child⟩
  by_cases hij : i = j
  · subst hij
    refine ⟨a, b, ?_, ?_⟩
    · rw [List.getElem?_set_ne (by omega), List.getElem?_set_self (List.getElem?_eq_some_iff.1 h1).1]
    · rw [List.getElem?_set_self (by rw [List.length_set]; exact (List.getElem?_eq_some_iff.1 h2).1)]
  · exact ⟨a', b', getElem_set5 (by omega) (by omega) (.inl hij) (getElem_set5 (by omega) (by omega) (.inl hij) h1), getElem_set5 (by omega) (by omega) (.inl hij) (getElem_set5 (by omega) (by omega) (.inl hij) h2)⟩

/-- The parser at block pp: its text, what is left, how deep, its nodes. -/
def PS (w : World) (pp : Nat) (data left : Value) (nest : Int) (ns : List ANode) : Prop :=
  ∃ nv xs, w.heap[pp]? = some (.cells ⟨[.bool false, data, left, nv, .nilIface, .int .i64 nest]⟩ 52 (0, 0)) ∧ w.ownsRow (pp + 1) 104 7 nv ns.length xs ∧ NL w pp ns xs

theorem own_same {w w' : World} {B e s n : Nat} {v : Value} {xs : List Value} (h : w.ownsRow B e s v n xs) (hk : ∀ k o, v.ownBlock = some k → w.heap[k]? = some o → w'.heap[k]? = some o) : w'.ownsRow B e s v n xs := by
  refine ⟨h.1, ?_⟩
  rcases h.2 with hn | ⟨g, cap, cur, rfl, hb, hgg, rest⟩
  · exact .inl hn
  · exact .inr ⟨g, cap, cur, rfl, hb, hk g _ rfl hgg, rest⟩

/-- Nothing has been done to the parser. -/
theorem PS.fm {B T w w' pp data left nest ns} (h : PS w pp data left nest ns) (hf : Fm B T w w') (h5 : 5 ∉ T) (h52 : 52 ∉ T) (h104 : 104 ∉ T) : PS w' pp data left nest ns := by
  obtain ⟨nv, xs, h1, h2, h3⟩ := h
  refine ⟨nv, xs, hf.keep _ _ h1 h52, ?_, h3.fm hf h5⟩
  refine ⟨h2.1, ?_⟩
  rcases h2.2 with hn | ⟨g, cap, cur, rfl, hb, hgg, rest⟩
  · exact .inl hn
  · exact .inr ⟨g, cap, cur, rfl, hb, hf.keep _ _ hgg h104, rest⟩
theorem PS.sm {w w' pp data left nest ns} (h : PS w pp data left nest ns) (hs : Sm w w') : PS w' pp data left nest ns := h.fm (B := 0) (T := []) hs.fm (by simp) (by simp) (by simp)
theorem PS.up {w w' pp data left nest ns} (h : PS w pp data left nest ns) (hs : Up w.heap.size w w') : PS w' pp data left nest ns := h.fm (B := 0) (T := []) (hs.fm (Nat.le_refl _) (Nat.zero_le _)) (by simp) (by simp) (by simp)
/-- A store into a block that was not there at first. -/
theorem Fm.stN {B T w w1 w' b o} (h : Fm B T w w1) (hS : St w1 b o w') (hb : w.heap.size ≤ b) (hB : B ≤ b) : Fm B T w w' :=
  ⟨hS.os.trans h.os, hS.tape.trans h.tape, hS.output.trans h.output, by rw [hS.size]; exact h.size, fun k hk => (hS.oth k (by omega)).trans (h.old k hk),
    fun k o ho ht => hS.keep (h.keep k o ho ht) (by have := lt_of_heap ho; omega), fun k o ho => by
      obtain ⟨o', h1, h2⟩ := h.tags k o ho
      exact ⟨o', hS.keep h1 (by have := lt_of_heap ho; omega), h2⟩⟩
theorem PS.lt {w pp data left nest ns} (h : PS w pp data left nest ns) : pp < w.heap.size := by
  obtain ⟨nv, xs, h1, _⟩ := h
  exact lt_of_heap h1

/-- The arena, where it holds a node. -/
theorem PS.open {w pp data left nest ns} (h : PS w pp data left nest ns) (h0 : 0 < ns.length) :
    ∃ g cap cur xs, w.heap[pp]? = some (.cells ⟨[.bool false, data, left, .slice (some ⟨g, 0, none⟩) ns.length cap, .nilIface, .int .i64 nest]⟩ 52 (0, 0)) ∧ pp < g ∧ w.heap[g]? = some (.cells cur 104 (0, 0)) ∧
      ns.length ≤ cap ∧ cap ≤ maxLen ∧ cur.size = cap * 7 ∧ cur.toList.take (ns.length * 7) = xs ∧ xs.length = ns.length * 7 ∧ NL w pp ns xs := by
  obtain ⟨nv, xs, h1, h2, h3⟩ := h
  rcases h2.2 with ⟨_, hn⟩ | ⟨g, cap, cur, rfl, hb, hg, hc, hm, hs, ht⟩
  · omega
  · exact ⟨g, cap, cur, xs, h1, hb, hg, hc, hm, hs, ht, h2.1, h3⟩

theorem take_set {cur : Array Value} {n i : Nat} {v : Value} : (cur.setIfInBounds i v).toList.take n = (cur.toList.take n).set i v := by
  rw [Array.toList_setIfInBounds, List.take_set]

/-- A store into the arena. -/
theorem PS.stored {w w' : World} {pp : Nat} {data left : Value} {nest : Int} {ns ns' : List ANode} {g cap : Nat} {cur cur' : Array Value} (h1 : w.heap[pp]? = some (.cells ⟨[.bool false, data, left, .slice (some ⟨g, 0, none⟩) ns.length cap, .nilIface, .int .i64 nest]⟩ 52 (0, 0)))
    (hg : pp < g) (hgb : w.heap[g]? = some (.cells cur 104 (0, 0))) (hc : ns.length ≤ cap) (hm : cap ≤ maxLen) (hs : cur'.size = cap * 7) (hl : ns'.length = ns.length)
    (hS : St w g (.cells cur' 104 (0, 0)) w') (hN : NL w pp ns' (cur'.toList.take (ns.length * 7))) : PS w' pp data left nest ns' := by
  have hf : Fm 0 [104] w w' := hS.fm hgb (Nat.zero_le _) (by simp [tag]) rfl
  refine ⟨_, cur'.toList.take (ns.length * 7), hS.keep h1 (by omega), ⟨?_, .inr ⟨g, cap, cur', ?_, hg, hS.at_, by omega, hm, hs, ?_⟩⟩, hN.fm hf (by decide)⟩
  · have e : cur'.toList.length = cap * 7 := by simpa using hs
    have := Nat.mul_le_mul_right 7 hc
    rw [List.length_take, hl, e]
    omega
  · rw [hl]
  · rw [hl]

end Go.Proofs.YtaccphdkapmdhaaGreat

namespace Go.Proofs.YtaccphdkapmdhaaGreat
attribute [local irreducible] binOp IntKind.wrap Sem.run

theorem bsNode (a b c d e f g : Value) (w : World) : (Instr.buildSlice 48 1 ⟨[(0, .agg ⟨[a, b, c, d, e, f, g]⟩)]⟩).run PP w = .ok (.slice (some ⟨w.heap.size, 0, none⟩) 1 1) (w.alloc (.cells ⟨[a, b, c, d, e, f, g]⟩ 104 (0, 0))) := by kernel_rfl

section
attribute [local semireducible] WL WC X WD Sem.run
variable {all : List Oper} {Q : Exit → Act → World → Prop} {N : Nat} {L L' : Env} {o : Oper} {rest : List Oper} {w : World}

/-- 'copy' into a row, of elements of several cells. -/
theorem WL.cpn {t e s g dl dc n c : Nat} {ad : Addr} {cur : Array Value} (m : Nat) (cs : List Value) (hg : grd all L o = some true) (h : cpA L o.op = some (t, t, .slice (some ⟨g, 0, none⟩) dl dc, .slice (some ad) n c)) (ht : rowT t = some (e, s))
    (hgc : w.heap[g]? = some (.cells cur e (0, 0))) (hm : Nat.min n dl = m) (hn : cs.length = m * s) (hcs : ∀ j u, cs[j]? = some u → w.cell? (ad.add j) = some u) (hfit : cs.length ≤ cur.size) (h1 : ∀ u ∈ cs, oneV u = true)
    (hd : dstE N o (.int .i64 (m : Int)) L = some L')
    (k : ∀ w', St w g (.cells (cs ++ cur.toList.drop cs.length).toArray e (0, 0)) w' → WL all Q N L' rest w') : WL all Q N L (o :: rest) w := by
  obtain ⟨i, z, hu, hi, hz, hsz, hby, hzs, h0⟩ := row_parts ht
  have hone : ∀ u ∈ cs, u.oneCell' = true := fun u hu => by
    have := h1 u hu
    cases u <;> first | rfl | (simp [oneV] at this)
  have hf := run_firstCells_some (P := PP) w s m ad n c cs hn hcs
  have hst := run_storeCells_at PP g 0 e cs 0 cur w hgc (by simpa using hfit) hone
  simp only [Nat.add_zero, Nat.zero_add, List.take_zero, List.nil_append] at hst
  have hr : ∀ ty, (Builtin.copy_ #[t, t] ty #[.slice (some ⟨g, 0, none⟩) dl dc, .slice (some ad) n c]).run PP w = .ok (goInt m) (w.setRow g (cs ++ cur.toList.drop cs.length).toArray) := fun ty => by
    simp [Builtin.copy_, run_underlying hu, Builtin.lenOf, sizeOf, typeInfo, hi, hsz, hm, hf, hst]
  refine WL.of_run (w' := w.setRow g (cs ++ cur.toList.drop cs.length).toArray) hg (fun a hf => ?_) hd (k _ ⟨rfl, rfl, rfl, by simp, setRow_heap w g cur _ e (0, 0) hgc, fun k hk => setRow_other w g k _ hk⟩)
  obtain ⟨dst, op, ty, pos, after, guard⟩ := o
  simp only at h
  unfold cpA at h
  split at h
  · rename_i x y t1 t2
    split at h
    · rename_i v' u' hx hy
      simp only [Option.some.injEq, Prod.mk.injEq] at h
      obtain ⟨rfl, rfl, rfl, rfl⟩ := h
      simp [execOp, resolve, invoke, builtin, hf.eval hx, hf.eval hy, hr, goInt]
    · cases h
  · cases h

/-- 'copy' of nothing at all. -/
theorem WL.cp0 {t e s g dl dc : Nat} (hg : grd all L o = some true) (h : cpA L o.op = some (t, t, .slice (some ⟨g, 0, none⟩) dl dc, .slice none 0 0)) (ht : rowT t = some (e, s))
    (hd : dstE N o (.int .i64 0) L = some L') (k : WL all Q N L' rest w) : WL all Q N L (o :: rest) w := by
  obtain ⟨i, z, hu, hi, hz, hsz, hby, hzs, h0⟩ := row_parts ht
  have hr : ∀ ty, (Builtin.copy_ #[t, t] ty #[.slice (some ⟨g, 0, none⟩) dl dc, .slice none 0 0]).run PP w = .ok (goInt 0) w := fun ty =>
    run_copy_nil (P := PP) w t t ty e ⟨g, 0, none⟩ dl dc hu (by rw [hi]; rfl)
  refine WL.of_run hg (fun a hf => ?_) hd k
  obtain ⟨dst, op, ty, pos, after, guard⟩ := o
  simp only at h
  unfold cpA at h
  split at h
  · rename_i x y t1 t2
    split at h
    · rename_i v' u' hx hy
      simp only [Option.some.injEq, Prod.mk.injEq] at h
      obtain ⟨rfl, rfl, rfl, rfl⟩ := h
      simp [execOp, resolve, invoke, builtin, hf.eval hx, hf.eval hy, hr, goInt]
    · cases h
  · cases h
end

/-- 'append' where there is room. -/
theorem apRoom {B t e s n m c g cap : Nat} {xs : List Value} {ad : Addr} {w : World} (ty : TypeId) (news : List Value)
    (ht : rowT t = some (e, s)) (hown : w.ownsRow B e s (.slice (some ⟨g, 0, none⟩) n cap) n xs) (hl : news.length = m * s) (hnews : ∀ j u, news[j]? = some u → w.cell? (ad.add j) = some u) (h1 : ∀ u ∈ news, oneV u = true)
    (hroom : n + m ≤ cap) :
    ∃ w' cur', (Builtin.append_ #[t, t] ty #[.slice (some ⟨g, 0, none⟩) n cap, .slice (some ad) m c]).run PP w = .ok (.slice (some ⟨g, 0, none⟩) (n + m) cap) w' ∧ w'.ownsRow B e s (.slice (some ⟨g, 0, none⟩) (n + m) cap) (n + m) (xs ++ news) ∧ St w g (.cells cur' e (0, 0)) w' := by
  obtain ⟨i, z, hu, hi, hz, hsz, hby, hzs, h0⟩ := row_parts ht
  have hone : ∀ u ∈ news, u.oneCell' = true := fun u hu => by
    have := h1 u hu
    cases u <;> first | rfl | (simp [oneV] at this)
  rcases hown.2 with ⟨hn, _⟩ | ⟨g', cap', cur, hn, hbg, hgg, hgc, hgm, hgs, hgt⟩
  · simp at hn
  · simp only [Value.slice.injEq, Option.some.injEq, Addr.mk.injEq] at hn
    obtain ⟨⟨rfl, -, -⟩, -, rfl⟩ := hn
    subst hsz
    have hfit : n * i.size + news.length ≤ cur.size := by rw [hl, hgs, ← Nat.add_mul]; exact Nat.mul_le_mul_right _ hroom
    have hr := run_append_room (P := PP) w t ty e i hu hi g n cap cur hgg ad m c news hl hnews hone hroom hfit
    have hlen : (xs ++ news).length = (n + m) * i.size := by rw [List.length_append, hown.1, hl, Nat.add_mul]
    refine ⟨_, _, hr, ⟨hlen, .inr ⟨g, cap, _, rfl, hbg, setRow_heap w g cur _ e _ hgg, hroom, hgm, ?_, ?_⟩⟩, ⟨rfl, rfl, rfl, by simp, setRow_heap w g cur _ e _ hgg, fun k hk => setRow_other w g k _ hk⟩⟩
    · simp only [List.size_toArray, List.length_append, List.length_take, List.length_drop, Array.length_toList]
      omega
    · rw [hgt, ← hlen]
      exact List.take_left

/-- The cells of a new node, its parser set. -/
theorem node_new {w : World} {pp : Nat} {kind nx ch : Nat} {a b : Int} {d : Value} {data : Option Bs} (hd : isSl d) (hr : ∀ s, data = some s → RB w d s) :
    NodeIs w pp ⟨kind, data, nx, ch⟩ [.int .i64 kind, .int .u32 a, .int .u32 b, d, .pointer (some ⟨pp, 0, none⟩), .int .i32 nx, .int .i32 ch] 0 :=
  ⟨rfl, ⟨a, b, rfl, rfl⟩, ⟨d, rfl, hd, hr⟩, rfl, rfl, rfl⟩

theorem take_drop7 {xs ys : List Value} {n : Nat} (h : xs.length = n) : (xs ++ ys).take n = xs := by
  rw [List.take_append_of_le_length (by omega), List.take_of_length_le (by omega)]

set_option maxRecDepth 100000 in
set_option maxHeartbeats 8000000 in
theorem push_any (pp : Nat) (data left : Value) (nest : Int) (ns : List ANode) (kind nx ch : Nat) (a b : Int) (d : Value) (dt : Option Bs) (w : World) (hP : PS w pp data left nest ns) (hd : isSl d) (hr : ∀ s, dt = some s → RB w d s) (hm : ns.length ≤ 400000000) :
    Calls PP 43 #[.pointer (some ⟨pp, 0, none⟩), .agg ⟨[.int .i64 kind, .int .u32 a, .int .u32 b, d, .pointer none, .int .i32 nx, .int .i32 ch]⟩] w fun e w' =>
      e = .returned (.int .i32 ((ns.length + 1 : Nat) : Int)) ∧ PS w' pp data left nest (ns ++ [⟨kind, dt, nx, ch⟩]) ∧ Fm pp [52, 104] w w' := by
  obtain ⟨nv, xs, h1, h2, h3⟩ := hP
  have hpp := lt_of_heap h1
  obtain ⟨ad, cap, hnv⟩ : ∃ ad cap, nv = .slice ad ns.length cap := by
    rcases h2.2 with ⟨rfl, hn⟩ | ⟨g, cap, cur, rfl, _⟩
    · exact ⟨none, 0, by rw [hn]⟩
    · exact ⟨_, _, rfl⟩
  refine enter (L := [(0, .pointer (some ⟨pp, 0, none⟩)), (1, .agg ⟨[.int .i64 kind, .int .u32 a, .int .u32 b, d, .pointer none, .int .i32 nx, .int .i32 ch]⟩)]) Tryz.func43 rfl rfl rfl ⟨rfl, rfl, trivial⟩ ?_
  repeat (refine WC.sr ?_)
  refine WL.bx rfl rfl rfl (fun w1 hA => ?_)
  have hbx := hA.at_
  have h1a := hA.keep h1
  have h2a : w1.ownsRow (pp + 1) 104 7 nv ns.length xs := own_same h2 (fun k o _ h => hA.keep h)
  have hF1 : Fm pp [52, 104] w w1 := hA.fm (by omega)
  generalize hbxn : w.heap.size = bx at *
  repeat (first | refine WL.pp rfl ?_ | refine WL.ns ?_ | refine WC.cut (x := .seq _ (.cond _ _ _)) (σ := Value) (fun nv' w' => ∃ g' cap', nv' = .slice (some ⟨g', 0, none⟩) ns.length cap' ∧ ns.length < cap' ∧ w'.heap[pp]? = some (.cells ⟨[.bool false, data, left, nv', .nilIface, .int .i64 nest]⟩ 52 (0, 0)) ∧ w'.ownsRow (pp + 1) 104 7 nv' ns.length xs ∧ w'.heap[bx]? = some (.cells ⟨[.int .i64 kind, .int .u32 a, .int .u32 b, d, .pointer none, .int .i32 nx, .int .i32 ch]⟩ 104 (0, 0)) ∧ Fm pp [52, 104] w w' ∧ nv'.ownBlock ≠ some bx) (fun _ => [(0, .pointer (some ⟨pp, 0, none⟩)), (3, .pointer (some ⟨bx, 0, none⟩))]) ?_ ?_ | refine WC.seq ?_)
  · refine WC.drx (fun w' => w'.heap[pp]? = some (.cells ⟨[.bool false, data, left, nv, .nilIface, .int .i64 nest]⟩ 52 (0, 0))) ?_
    have h1b : w1.drew.heap[pp]? = some (.cells ⟨[.bool false, data, left, nv, .nilIface, .int .i64 nest]⟩ 52 (0, 0)) := h1a
    subst hnv
    repeat (first | refine WX.p (by kernel_rfl) (by first | trivial | assumption) rfl ?_ | refine WX.ld (by kernel_rfl) (by assumption) rfl rfl (fun w' hw' => cell_of hw' rfl) rfl ?_)
    refine WX.nil ?_
    have hone := h3.one h2.1
    by_cases hcap : ns.length = cap
    · subst hcap
      repeat (first | refine WL.pp rfl ?_ | refine WL.ns ?_ | refine WC.sr ?_ | refine WC.dT rfl (by first | omega | decide) ?_ | refine WL.ldB (v := .slice ad ns.length ns.length) rfl rfl h1b rfl rfl ?_ | refine WL.mu rfl rfl (by omega) rfl ?_ | refine WC.cut (x := .seq _ (.cond _ _ _)) (σ := Nat) (fun c w' => w' = w1.drew ∧ ns.length < c ∧ c ≤ 800000064) (fun c => [(0, .pointer (some ⟨pp, 0, none⟩)), (3, .pointer (some ⟨bx, 0, none⟩)), (5, .int .i64 (c : Int))]) ?_ ?_ | refine X.sn ?_)
      · by_cases h64 : ns.length < 32
        · repeat (first | refine WL.pp rfl ?_ | refine WC.dT rfl (by first | omega | decide) ?_ | refine WC.reg ?_ | refine WL.nil ?_)
          exact X.cut 64 ⟨rfl, by omega, by omega⟩ ⟨rfl, rfl, rfl, trivial⟩
        · repeat (first | refine WC.dF rfl (by first | omega | decide) ?_ | refine WC.skip ?_)
          exact X.cut (2 * ns.length) ⟨rfl, by omega, by omega⟩ ⟨rfl, rfl, rfl, trivial⟩
      · rintro c w2 ⟨rfl, hc1, hc2⟩
        repeat (first | refine WL.pp rfl ?_ | refine WC.sr ?_ | refine WL.ldB (v := .slice ad ns.length ns.length) rfl rfl h1b rfl rfl ?_)
        refine WL.mk ns.length c rfl rfl rfl rfl rfl (by omega) (by omega) rfl (fun w3 z hz1 _ hA3 => ?_)
        have h1c := hA3.keep h1b
        have hsz : w1.drew.heap.size = bx + 1 := by rw [← hbxn]; exact hA.size
        have hbxc := hA3.keep (show w1.drew.heap[bx]? = some _ from hbx)
        have hF3 : Fm pp [52, 104] w w3 := hF1.drew.trans (hA3.fm (by omega))
        rcases h2.2 with ⟨hnil, hn0⟩ | ⟨g, cap', cur, hsl, hbg, hg, hgc, hgm, hgs, hgt⟩
        · simp only [Value.slice.injEq] at hnil
          obtain ⟨rfl, -, -⟩ := hnil
          have hns : ns = [] := List.eq_nil_of_length_eq_zero hn0
          subst hns
          have hxs : xs = [] := List.eq_nil_of_length_eq_zero h2.1
          subst hxs
          repeat (first | refine WL.pp rfl ?_ | refine WL.ns ?_ | refine WC.sr ?_ | refine WL.ldB (v := .slice none 0 0) rfl rfl h1c rfl rfl ?_ | refine WL.cp0 rfl rfl rfl rfl ?_ | refine WC.reg ?_)
          refine WL.stB rfl rfl rfl h1c rfl rfl (fun w4 hS4 => ?_)
          repeat (refine WL.nil ?_)
          refine X.cut _ ⟨_, _, rfl, hc1, hS4.at_, ⟨rfl, .inr ⟨_, c, _, rfl, by omega, hS4.keep hA3.at_ (by omega), Nat.zero_le _, by simp only [maxLen]; omega, size_madeCells _ _, by simp⟩⟩, hS4.keep hbxc (by omega), hF3.trans (hS4.fm h1c (Nat.le_refl _) (by simp [tag]) rfl), ?_⟩ ⟨rfl, rfl, trivial⟩
          simp only [Value.ownBlock, hsz, ne_eq, Option.some.injEq]
          omega
        · simp only [Value.slice.injEq] at hsl
          obtain ⟨rfl, -, rfl⟩ := hsl
          have hg3 := hA3.keep (show w1.drew.heap[g]? = some _ from hA.keep hg)
          have hcell : ∀ j u, xs[j]? = some u → w3.cell? ((⟨g, 0, none⟩ : Addr).add j) = some u := fun j u hu => by
            rw [add_zero]
            refine cell_of hg3 ?_
            rw [← hgt, List.getElem?_take] at hu
            split at hu
            · simpa using hu
            · cases hu
          have hlx : xs.length ≤ (madeCells z (c * 7)).size := by
            rw [size_madeCells, h2.1]
            exact Nat.mul_le_mul_right 7 (Nat.le_of_lt hc1)
          repeat (first | refine WL.pp rfl ?_ | refine WL.ns ?_ | refine WC.sr ?_ | refine WL.ldB (v := .slice (some ⟨g, 0, none⟩) ns.length ns.length) rfl rfl h1c rfl rfl ?_)
          refine WL.cpn ns.length xs rfl rfl rfl hA3.at_ (Nat.min_self _) h2.1 hcell hlx hone rfl (fun w4 hS4 => ?_)
          have h1d := hS4.keep h1c (by omega)
          repeat (first | refine WL.pp rfl ?_ | refine WL.ns ?_ | refine WC.reg ?_)
          refine WL.stB rfl rfl rfl h1d rfl rfl (fun w5 hS5 => ?_)
          repeat (refine WL.nil ?_)
          refine X.cut _ ⟨_, _, rfl, hc1, hS5.at_, ⟨h2.1, .inr ⟨_, c, _, rfl, by omega, hS5.keep hS4.at_ (by omega), by omega, by simp only [maxLen]; omega, ?_, ?_⟩⟩, hS5.keep (hS4.keep hbxc (by omega)) (by omega), (hF3.trans (hS4.fm hA3.at_ (by omega) (by simp [tag]) rfl)).trans (hS5.fm h1d (Nat.le_refl _) (by simp [tag]) rfl), ?_⟩ ⟨rfl, rfl, trivial⟩
          · have := size_madeCells z (c * 7)
            simp only [List.size_toArray, List.length_append, List.length_drop, Array.length_toList]
            omega
          · rw [← h2.1]
            simp
          · simp only [Value.ownBlock, hsz, ne_eq, Option.some.injEq]
            omega
    · repeat (first | refine WC.dF rfl (by first | omega | decide) ?_ | refine X.sn ?_ | refine WC.skip ?_)
      rcases h2.2 with ⟨hnil, hn0⟩ | ⟨g, cap', cur, hsl, hbg, hg, hgc, hgm, hgs, hgt⟩
      · simp only [Value.slice.injEq] at hnil
        omega
      · simp only [Value.slice.injEq] at hsl
        obtain ⟨rfl, -, rfl⟩ := hsl
        exact X.cut _ ⟨g, cap, rfl, by omega, h1b, own_same h2a (fun _ _ _ h => h), hbx, hF1.drew, fun e => by
          have := (h2.lt bx e).2
          omega⟩ ⟨rfl, rfl, trivial⟩
  · rintro nv2 w2 ⟨g2, cap2, rfl, hcap2, hP2, hO2, hB2, hF2, hne⟩
    repeat (first | refine WL.pp rfl ?_ | refine WC.sr ?_)
    refine WL.stB rfl rfl rfl hB2 rfl rfl (fun w3 hS3 => ?_)
    have hP3 := hS3.keep hP2 (by omega)
    have hO3 : w3.ownsRow (pp + 1) 104 7 (.slice (some ⟨g2, 0, none⟩) ns.length cap2) ns.length xs := own_same hO2 (fun k o hk h => hS3.keep h (fun e => hne (by rw [hk, e])))
    have hB3 : w3.heap[bx]? = some (.cells ⟨[.int .i64 kind, .int .u32 a, .int .u32 b, d, .pointer (some ⟨pp, 0, none⟩), .int .i32 nx, .int .i32 ch]⟩ 104 (0, 0)) := hS3.at_
    have hbx3 := lt_of_heap hB2
    have hF3 : Fm pp [52, 104] w w3 := by
      refine ⟨hS3.os.trans hF2.os, hS3.tape.trans hF2.tape, hS3.output.trans hF2.output, by rw [hS3.size]; exact hF2.size, fun k hk => (hS3.oth k (by omega)).trans (hF2.old k hk), fun k o ho ht => hS3.keep (hF2.keep k o ho ht) (by have := lt_of_heap ho; omega), fun k o ho => ?_⟩
      obtain ⟨o', h1, h2⟩ := hF2.tags k o ho
      exact ⟨o', hS3.keep h1 (by have := lt_of_heap ho; omega), h2⟩
    clear hS3 hP2 hO2 hB2
    repeat (first | refine WL.ns ?_ | refine WC.seq ?_)
    refine WC.draw (fun _ => True) ?_
    generalize hw4 : w3.drew = w4
    have hP4 : w4.heap[pp]? = some (.cells ⟨[.bool false, data, left, .slice (some ⟨g2, 0, none⟩) ns.length cap2, .nilIface, .int .i64 nest]⟩ 52 (0, 0)) := by subst hw4; exact hP3
    have hO4 : w4.ownsRow (pp + 1) 104 7 (.slice (some ⟨g2, 0, none⟩) ns.length cap2) ns.length xs := by subst hw4; exact hO3
    have hB4 : w4.heap[bx]? = some (.cells ⟨[.int .i64 kind, .int .u32 a, .int .u32 b, d, .pointer (some ⟨pp, 0, none⟩), .int .i32 nx, .int .i32 ch]⟩ 104 (0, 0)) := by subst hw4; exact hB3
    have hF4 : Fm pp [52, 104] w w4 := by subst hw4; exact hF3.drew
    have hgt : bx < w4.heap.size := lt_of_heap hB4
    clear hP3 hO3 hB3 hF3 hw4
    refine WD.tp 0 rfl (by kernel_rfl) POk.ok trivial rfl ?_
    refine WD.tp 1 rfl (by kernel_rfl) POk.ok trivial rfl ?_
    refine WD.tp 2 rfl (by kernel_rfl) POk.ok trivial rfl ?_
    refine WD.tp 3 rfl (by kernel_rfl) POk.ok trivial rfl ?_
    have r4 : ∀ {N : Nat} {L : Env} {o : Oper} (a' : Act), Fr N L a' → ldA L o.op = some ⟨pp, 3, none⟩ → (execOp a'.eval o).run PP w4 = .ok (.value (.slice (some ⟨g2, 0, none⟩) ns.length cap2)) w4 := fun a' hf h => ldA_run hf h (cell_of hP4 rfl)
    have r5 : ∀ {N : Nat} {L : Env} {o : Oper} (a' : Act), Fr N L a' → lgA L o.op = some (7, ⟨bx, 0, none⟩) → (execOp a'.eval o).run PP w4 = .ok (.value (.agg ⟨[.int .i64 kind, .int .u32 a, .int .u32 b, d, .pointer (some ⟨pp, 0, none⟩), .int .i32 nx, .int .i32 ch]⟩)) w4 := fun a' hf h => lgA_run (cs := [.int .i64 kind, .int .u32 a, .int .u32 b, d, .pointer (some ⟨pp, 0, none⟩), .int .i32 nx, .int .i32 ch]) hf h rfl (cells_block hB4 rfl)
    have hA5 := alloc_al w4 (.cells ⟨[.int .i64 kind, .int .u32 a, .int .u32 b, d, .pointer (some ⟨pp, 0, none⟩), .int .i32 nx, .int .i32 ch]⟩ 104 (0, 0))
    have r6 : ∀ {N : Nat} {L : Env} {o : Oper} (a' : Act), Fr N L a' → bsA L o.op = some (48, 1, [(0, .agg ⟨[.int .i64 kind, .int .u32 a, .int .u32 b, d, .pointer (some ⟨pp, 0, none⟩), .int .i32 nx, .int .i32 ch]⟩)]) → (execOp a'.eval o).run PP w4 = .ok (.value (.slice (some ⟨w4.heap.size, 0, none⟩) 1 1)) (w4.alloc (.cells ⟨[.int .i64 kind, .int .u32 a, .int .u32 b, d, .pointer (some ⟨pp, 0, none⟩), .int .i32 nx, .int .i32 ch]⟩ 104 (0, 0))) := fun a' hf h => by
      rw [bsA_run hf h]
      simp [bsNode]
    generalize w4.alloc (.cells ⟨[.int .i64 kind, .int .u32 a, .int .u32 b, d, .pointer (some ⟨pp, 0, none⟩), .int .i32 nx, .int .i32 ch]⟩ 104 (0, 0)) = w5 at hA5 r6
    have r4b : ∀ {N : Nat} {L : Env} {o : Oper} (a' : Act), Fr N L a' → ldA L o.op = some ⟨pp, 3, none⟩ → (execOp a'.eval o).run PP w5 = .ok (.value (.slice (some ⟨g2, 0, none⟩) ns.length cap2)) w5 := fun a' hf h => ldA_run hf h (cell_of (hA5.keep hP4) rfl)
    have hO5 : w5.ownsRow (pp + 1) 104 7 (.slice (some ⟨g2, 0, none⟩) ns.length cap2) ns.length xs := own_same hO4 (fun _ _ _ h => hA5.keep h)
    obtain ⟨w6, cur6, hr6, hO6, hS6⟩ := apRoom (B := pp + 1) (t := 48) (e := 104) (s := 7) (n := ns.length) (m := 1) (c := 1) (w := w5) (g := g2) (cap := cap2) (ad := ⟨w4.heap.size, 0, none⟩) 48 [.int .i64 kind, .int .u32 a, .int .u32 b, d, .pointer (some ⟨pp, 0, none⟩), .int .i32 nx, .int .i32 ch] rfl hO5 rfl (fun j u hu => by rw [add_zero]; exact cell_of hA5.at_ (by simpa using hu)) (by
        intro u hu
        simp only [List.mem_cons, List.not_mem_nil, or_false] at hu
        rcases hu with rfl | rfl | rfl | rfl | rfl | rfl | rfl <;> first | rfl | (cases u <;> first | rfl | exact hd.elim)) hcap2
    have hg2 : pp < g2 ∧ ∃ cur2, w5.heap[g2]? = some (.cells cur2 104 (0, 0)) := by
      rcases hO5.2 with ⟨hn, _⟩ | ⟨g, cap, cur, hn, hbg, hgg, _⟩
      · simp at hn
      · simp only [Value.slice.injEq, Option.some.injEq, Addr.mk.injEq] at hn
        obtain ⟨⟨rfl, -, -⟩, -, rfl⟩ := hn
        exact ⟨hbg, cur, hgg⟩
    obtain ⟨hg2, cur2, hgc2⟩ := hg2
    have r7 : ∀ {N : Nat} {L : Env} {o : Oper} (a' : Act), Fr N L a' → o.type = 48 → apA L o.op = some (48, .slice (some ⟨g2, 0, none⟩) ns.length cap2, .slice (some ⟨w4.heap.size, 0, none⟩) 1 1) → (execOp a'.eval o).run PP w5 = .ok (.value (.slice (some ⟨g2, 0, none⟩) (ns.length + 1) cap2)) w6 := fun a' hf ht h => by
      rw [apA_run hf h, ht]
      simp [hr6]
    have hP6 : w6.heap[pp]? = some (.cells ⟨[.bool false, data, left, .slice (some ⟨g2, 0, none⟩) ns.length cap2, .nilIface, .int .i64 nest]⟩ 52 (0, 0)) := hS6.keep (hA5.keep hP4) (by omega)
    have hS7 := setCell_st (i := 3) (.slice (some ⟨g2, 0, none⟩) (ns.length + 1) cap2) hP6
    have r10 : ∀ {N : Nat} {L : Env} {o : Oper} (a' : Act), Fr N L a' → oneV (.slice (some ⟨g2, 0, none⟩) (ns.length + 1) cap2) = true → stA L o.op = some (⟨pp, 3, none⟩, (.slice (some ⟨g2, 0, none⟩) (ns.length + 1) cap2)) → (execOp a'.eval o).run PP w6 = .ok .skip (w6.setCell ⟨pp, 3, none⟩ (.slice (some ⟨g2, 0, none⟩) (ns.length + 1) cap2)) := fun a' hf h1 h => stA_run hf h h1 hP6 rfl
    generalize hw7 : w6.setCell ⟨pp, 3, none⟩ (.slice (some ⟨g2, 0, none⟩) (ns.length + 1) cap2) = w7 at hS7 r10
    have hfin : PS w7 pp data left nest (ns ++ [⟨kind, dt, nx, ch⟩]) ∧ Fm pp [52, 104] w w7 := by
      have hF5 : Fm pp [52, 104] w w5 := hF4.trans (hA5.fm (by omega))
      have hF6 : Fm pp [52, 104] w5 w6 := hS6.fm hgc2 (by omega) (by simp [tag]) rfl
      have hF7 : Fm pp [52, 104] w w7 := (hF5.trans hF6).trans (hS7.fm hP6 (Nat.le_refl _) (by simp [tag]) rfl)
      refine ⟨⟨(.slice (some ⟨g2, 0, none⟩) (ns.length + 1) cap2), xs ++ [.int .i64 kind, .int .u32 a, .int .u32 b, d, .pointer (some ⟨pp, 0, none⟩), .int .i32 nx, .int .i32 ch], hS7.at_, ?_, ?_⟩, hF7⟩
      · rw [List.length_append, List.length_singleton]
        refine own_same hO6 (fun k o hk h => hS7.keep h (fun e => ?_))
        have := (hO6.lt k hk).1
        omega
      · exact (h3.fm hF7 (by decide)).snoc h2.1 (node_new hd (fun s hs => (hr s hs).fm hF7 (by decide)))
    refine WD.br (i := 4) (j := 5) (by kernel_rfl) rfl rfl rfl rfl (fun a' hf => r4 a' hf rfl) (fun a' hf => r5 a' hf rfl) trivial trivial rfl rfl ?_ ?_
    · refine WD.rv 5 (by kernel_rfl) rfl rfl (fun a' hf => r5 a' hf rfl) trivial rfl ?_
      refine WD.rv 6 (by kernel_rfl) rfl rfl (fun a' hf => r6 a' hf rfl) trivial rfl ?_
      refine WD.weaken (L' := [(49, .slice (some ⟨g2, 0, none⟩) ns.length cap2), (51, .slice (some ⟨w4.heap.size, 0, none⟩) 1 1), (45, .pointer (some ⟨pp, 0, none⟩)), (0, .pointer (some ⟨pp, 0, none⟩))]) ⟨rfl, rfl, rfl, rfl, trivial⟩ ?_
      refine WD.rv 7 (by kernel_rfl) rfl rfl (fun a' hf => r7 a' hf rfl rfl) trivial rfl ?_
      refine WD.tp 8 rfl (by kernel_rfl) POk.ok trivial rfl ?_
      refine WD.tp 9 rfl (by kernel_rfl) POk.ok trivial rfl ?_
      refine WD.rk 10 (by kernel_rfl) rfl rfl (fun a' hf => r10 a' hf rfl rfl) trivial rfl ?_
      refine WD.nil (by kernel_rfl) ?_
      repeat (first | refine WL.pp rfl ?_ | refine WL.ns ?_ | refine WC.sr ?_ | refine WL.ldB (v := .slice (some ⟨g2, 0, none⟩) (ns.length + 1) cap2) rfl rfl hS7.at_ rfl rfl ?_ | refine X.sn ?_ | refine WC.ret ?_ | refine WL.cv rfl rfl (wrap_i32 (by omega)) rfl ?_)
      exact X.ret_ rfl rfl ⟨rfl, hfin.1, hfin.2⟩
    · refine WD.br (i := 4) (j := 6) (by kernel_rfl) rfl rfl rfl rfl (fun a' hf => r4 a' hf rfl) (fun a' hf => r6 a' hf rfl) trivial trivial rfl rfl ?_ ?_
      · refine WD.rv 6 (by kernel_rfl) rfl rfl (fun a' hf => r6 a' hf rfl) trivial rfl ?_
        refine WD.weaken (L' := [(49, .slice (some ⟨g2, 0, none⟩) ns.length cap2), (51, .slice (some ⟨w4.heap.size, 0, none⟩) 1 1), (45, .pointer (some ⟨pp, 0, none⟩)), (0, .pointer (some ⟨pp, 0, none⟩))]) ⟨rfl, rfl, rfl, rfl, trivial⟩ ?_
        refine WD.rv 7 (by kernel_rfl) rfl rfl (fun a' hf => r7 a' hf rfl rfl) trivial rfl ?_
        refine WD.tp 8 rfl (by kernel_rfl) POk.ok trivial rfl ?_
        refine WD.tp 9 rfl (by kernel_rfl) POk.ok trivial rfl ?_
        refine WD.rk 10 (by kernel_rfl) rfl rfl (fun a' hf => r10 a' hf rfl rfl) trivial rfl ?_
        refine WD.nil (by kernel_rfl) ?_
        repeat (first | refine WL.pp rfl ?_ | refine WL.ns ?_ | refine WC.sr ?_ | refine WL.ldB (v := .slice (some ⟨g2, 0, none⟩) (ns.length + 1) cap2) rfl rfl hS7.at_ rfl rfl ?_ | refine X.sn ?_ | refine WC.ret ?_ | refine WL.cv rfl rfl (wrap_i32 (by omega)) rfl ?_)
        exact X.ret_ rfl rfl ⟨rfl, hfin.1, hfin.2⟩
      · refine WD.rv 4 (by kernel_rfl) rfl rfl (fun a' hf => r4b a' hf rfl) trivial rfl ?_
        refine WD.weaken (L' := [(49, .slice (some ⟨g2, 0, none⟩) ns.length cap2), (51, .slice (some ⟨w4.heap.size, 0, none⟩) 1 1), (45, .pointer (some ⟨pp, 0, none⟩)), (0, .pointer (some ⟨pp, 0, none⟩))]) ⟨rfl, rfl, rfl, rfl, trivial⟩ ?_
        refine WD.rv 7 (by kernel_rfl) rfl rfl (fun a' hf => r7 a' hf rfl rfl) trivial rfl ?_
        refine WD.tp 8 rfl (by kernel_rfl) POk.ok trivial rfl ?_
        refine WD.tp 9 rfl (by kernel_rfl) POk.ok trivial rfl ?_
        refine WD.rk 10 (by kernel_rfl) rfl rfl (fun a' hf => r10 a' hf rfl rfl) trivial rfl ?_
        refine WD.nil (by kernel_rfl) ?_
        repeat (first | refine WL.pp rfl ?_ | refine WL.ns ?_ | refine WC.sr ?_ | refine WL.ldB (v := .slice (some ⟨g2, 0, none⟩) (ns.length + 1) cap2) rfl rfl hS7.at_ rfl rfl ?_ | refine X.sn ?_ | refine WC.ret ?_ | refine WL.cv rfl rfl (wrap_i32 (by omega)) rfl ?_)
        exact X.ret_ rfl rfl ⟨rfl, hfin.1, hfin.2⟩
end Go.Proofs.YtaccphdkapmdhaaGreat

namespace Go.Proofs.YtaccphdkapmdhaaGreat

section
attribute [local semireducible] WL WC X WD
/-- The result stands in a block. -/
theorem X.retC {fn : Func} {R : Ending → World → Prop} {N : Nat} {L : Env} {w : World} {x b n : Nat} {t e : TypeId} {cs : List Value} {fz : Nat × Nat} (hr : fn.results = ⟨[.cell x t]⟩) (hx : look L x = some (.pointer (some ⟨b, 0, none⟩))) (ht : aggSize t = some n)
    (hb : w.heap[b]? = some (.cells ⟨cs⟩ e fz)) (hn : cs.length = n) (hR : R (.returned (.agg ⟨cs⟩)) w) : X .ret (bodyPost PP fn R) N L w := fun a hf => by
  refine bodyPost_ret ?_ hf.defers hR
  rw [results_eq, hr]
  subst hn
  obtain ⟨h1, h2⟩ := agg_run ht w
  have h3 := loadCells_run (w := w) (b := b) (ofs := 0) cs (cells_block hb (by simp))
  simp [List.mapM_toArray, resF, hf.getD hx, asAddr, loadVar, h1, h2, h3]
end
attribute [local irreducible] binOp IntKind.wrap Sem.run

set_option maxHeartbeats 4000000 in
theorem at_any (pp g n cap h i : Nat) (c0 data left err nest : Value) (w : World) (hb : w.heap[pp]? = some (.cells ⟨[c0, data, left, .slice (some ⟨g, 0, none⟩) n cap, err, nest]⟩ 52 (0, 0))) (hi : h = i + 1) (hn : i < n) (hm : n ≤ 1000000000) :
    Calls PP 102 #[.pointer (some ⟨pp, 0, none⟩), .int .i32 (h : Int)] w fun e w' => e = .returned (.pointer (some ⟨g, i * 7, none⟩)) ∧ w' = w := by
  refine enter (L := [(0, .pointer (some ⟨pp, 0, none⟩)), (1, .int .i32 (h : Int))]) Tryz.func102 rfl rfl rfl ⟨rfl, rfl, trivial⟩ ?_
  repeat (first | refine WL.pp rfl ?_ | refine WL.ns ?_ | refine WC.sr ?_ | refine WL.ldB (v := .slice (some ⟨g, 0, none⟩) n cap) rfl rfl hb rfl rfl ?_ | refine WL.su32 rfl rfl (by omega) rfl ?_ | refine WL.ix (i := i) rfl rfl (by omega) hn rfl ?_ | refine WC.ret ?_)
  refine X.ret_ rfl rfl ⟨?_, rfl⟩
  simp [resV]

theorem bdRange (a b : Int) (w : World) : (Instr.build 101 ⟨[(0, .int .u32 a), (1, .int .u32 b)]⟩).run PP w = .ok (.agg ⟨[.int .u32 a, .int .u32 b]⟩) w := by kernel_rfl

set_option maxHeartbeats 4000000 in
theorem range_any (pp E C : Nat) (ad : Option Addr) (c0 v left nv err nest : Value) (w : World) (hb : w.heap[pp]? = some (.cells ⟨[c0, .slice ad E C, left, nv, err, nest]⟩ 52 (0, 0))) (hv : Rg C E v) (hC : C ≤ 9223372036854775807) (hE : E ≤ 100000000) :
    Calls PP 44 #[.pointer (some ⟨pp, 0, none⟩), v] w fun e w' => ∃ a b : Int, e = .returned (.agg ⟨[.int .u32 a, .int .u32 b]⟩) ∧ Up w.heap.size w w' := by
  obtain ⟨ad', n, cap, rfl, h1, h2⟩ := hv
  refine enter (L := [(0, .pointer (some ⟨pp, 0, none⟩)), (1, .slice ad' n cap)]) Tryz.func44 rfl rfl rfl ⟨rfl, rfl, trivial⟩ ?_
  repeat (refine WC.sr ?_)
  refine WL.al rfl rfl rfl (fun w1 hA => ?_)
  have hb1 := hA.keep hb
  repeat (first | refine WL.pp rfl ?_ | refine WL.ns ?_ | refine WC.sr ?_ | refine WC.dF rfl (by first | omega | decide) ?_ | refine WL.ldB (v := .slice ad E C) rfl rfl hb1 rfl rfl ?_ | refine WL.p rfl ?_ | refine WC.seq ?_ | refine X.sn ?_ | refine WC.skip ?_ | refine WL.ad rfl rfl (by omega) rfl ?_ | refine WL.su rfl rfl (by omega) rfl ?_ | refine WL.gF rfl rfl (by first | omega | decide) ?_ | refine WL.cv rfl rfl (wrap_u32 (by omega)) rfl ?_)
  refine WL.bd rfl rfl (bdRange _ _) rfl ?_
  refine WL.sg rfl rfl rfl (by simp [oneV]) hA.at_ (by simp) rfl (fun w2 hS => ?_)
  repeat (first | refine WL.ns ?_ | refine WC.ret ?_)
  exact X.retC rfl rfl rfl hS.at_ rfl ⟨_, _, rfl, (hA.up (Nat.le_refl _)).trans (hS.up (Nat.le_refl _))⟩

set_option maxHeartbeats 4000000 in
theorem offsetOf_any (pp E C n cap : Nat) (ad ad' : Option Addr) (c0 left nv err nest : Value) (w : World) (hb : w.heap[pp]? = some (.cells ⟨[c0, .slice ad E C, left, nv, err, nest]⟩ 52 (0, 0))) (hC : C ≤ 9223372036854775807) (hc : cap ≤ 9223372036854775807) :
    Calls PP 47 #[.pointer (some ⟨pp, 0, none⟩), .slice ad' n cap] w fun e w' => e = .returned (.int .i64 ((C : Int) - cap)) ∧ w' = w := by
  refine enter (L := [(0, .pointer (some ⟨pp, 0, none⟩)), (1, .slice ad' n cap)]) Tryz.func47 rfl rfl rfl ⟨rfl, rfl, trivial⟩ ?_
  repeat (first | refine WL.pp rfl ?_ | refine WL.ns ?_ | refine WC.sr ?_ | refine WL.ldB (v := .slice ad E C) rfl rfl hb rfl rfl ?_ | refine WC.ret ?_ | refine WL.su rfl rfl (by omega) rfl ?_)
  exact X.ret_ rfl rfl ⟨rfl, rfl⟩

set_option maxHeartbeats 4000000 in
theorem rangeFrom_any (pp E C n cap n2 cap2 : Nat) (ad ad' ad2 : Option Addr) (c0 left nv err nest : Value) (w : World) (hb : w.heap[pp]? = some (.cells ⟨[c0, .slice ad E C, left, nv, err, nest]⟩ 52 (0, 0))) (hC : C ≤ 9223372036854775807) (hc : cap ≤ 9223372036854775807) (hc2 : cap2 ≤ 9223372036854775807) :
    Calls PP 105 #[.pointer (some ⟨pp, 0, none⟩), .slice ad' n cap, .slice ad2 n2 cap2] w fun e w' => ∃ a b : Int, e = .returned (.agg ⟨[.int .u32 a, .int .u32 b]⟩) ∧ Up w.heap.size w w' := by
  refine enter (L := [(0, .pointer (some ⟨pp, 0, none⟩)), (1, .slice ad' n cap), (2, .slice ad2 n2 cap2)]) Tryz.func105 rfl rfl rfl ⟨rfl, rfl, rfl, trivial⟩ ?_
  repeat (refine WC.sr ?_)
  refine WL.al rfl rfl rfl (fun w1 hA => ?_)
  have hb1 := hA.keep hb
  repeat (first | refine WL.pp rfl ?_ | refine WL.ns ?_ | refine WC.sr ?_)
  refine WL.call rfl rfl rfl (offsetOf_any pp E C n cap ad ad' c0 left nv err nest w1 hb1 hC hc) ?_
  rintro e w2 ⟨rfl, rfl⟩
  refine ⟨_, _, rfl, rfl, ?_⟩
  repeat (first | refine WL.pp rfl ?_ | refine WL.ns ?_ | refine WC.sr ?_)
  refine WL.call rfl rfl rfl (offsetOf_any pp E C n2 cap2 ad ad2 c0 left nv err nest w2 hb1 hC hc2) ?_
  rintro e w3 ⟨rfl, rfl⟩
  refine ⟨_, _, rfl, rfl, ?_⟩
  repeat (first | refine WL.pp rfl ?_ | refine WL.ns ?_ | refine WC.sr ?_ | refine WL.cw rfl rfl rfl ?_ | refine WL.su rfl rfl (by omega) rfl ?_)
  refine WL.bd rfl rfl (bdRange _ _) rfl ?_
  refine WL.sg rfl rfl rfl (by simp [oneV]) hA.at_ (by simp) rfl (fun w4 hS => ?_)
  repeat (first | refine WL.ns ?_ | refine WC.ret ?_)
  exact X.retC rfl rfl rfl hS.at_ rfl ⟨_, _, rfl, (hA.up (Nat.le_refl _)).trans (hS.up (Nat.le_refl _))⟩

theorem bdNode (k a b : Int) (ad : Option Addr) (n c : Nat) (w : World) : (Instr.build 104 ⟨[(0, .int .i64 k), (1, .agg ⟨[.int .u32 a, .int .u32 b]⟩), (2, .slice ad n c)]⟩).run PP w =
    .ok (.agg ⟨[.int .i64 k, .int .u32 a, .int .u32 b, .slice ad n c, .pointer none, .int .i32 0, .int .i32 0]⟩) w := by kernel_rfl
theorem bdNode1 (k : Int) (w : World) : (Instr.build 104 ⟨[(0, .int .i64 k)]⟩).run PP w =
    .ok (.agg ⟨[.int .i64 k, .int .u32 0, .int .u32 0, .slice none 0 0, .pointer none, .int .i32 0, .int .i32 0]⟩) w := by kernel_rfl
theorem bdNode2 (k a b : Int) (w : World) : (Instr.build 104 ⟨[(0, .int .i64 k), (1, .agg ⟨[.int .u32 a, .int .u32 b]⟩)]⟩).run PP w =
    .ok (.agg ⟨[.int .i64 k, .int .u32 a, .int .u32 b, .slice none 0 0, .pointer none, .int .i32 0, .int .i32 0]⟩) w := by kernel_rfl

section
variable {bd C E : Nat} {dc : Array Value} {fz : Nat × Nat}

theorem Suf.capLe {v l} (h : Suf bd C E dc v l) : ∃ ad n cap, v = .slice ad n cap ∧ cap ≤ 9223372036854775807 := by
  obtain ⟨ad, h1, _⟩ := h.ex
  exact ⟨ad, _, _, h1, by have := h.C63; omega⟩

set_option maxRecDepth 100000 in
set_option maxHeartbeats 4000000 in
theorem simpleKey_any (pp : Nat) (ad0 : Option Addr) (left : Value) (nest : Int) (ns : List ANode) (v : Value) (b k r : Bs) (w : World) (hv : Suf bd C E dc v b) (hE : E ≤ 100000000) (hk : KP b k r) (hD : w.heap[bd]? = some (.cells dc 5 fz))
    (hP : PS w pp (.slice ad0 E C) left nest ns) (hm : ns.length ≤ 400000000) :
    Calls PP 115 #[.pointer (some ⟨pp, 0, none⟩), v] w fun e w' => ∃ v', e = .returned (.tuple #[.int .i32 ((ns.length + 1 : Nat) : Int), v', .nilIface]) ∧ Suf bd C E dc v' r ∧ PS w' pp (.slice ad0 E C) left nest (ns ++ [⟨2, some k, 0, 0⟩]) ∧ Fm pp [52, 104] w w' := by
  have hC := hv.C63
  have hlt := hP.lt
  refine enter (L := [(0, .pointer (some ⟨pp, 0, none⟩)), (1, v)]) Tryz.func115 rfl rfl rfl ⟨rfl, rfl, trivial⟩ ?_
  repeat (first | refine WL.pp rfl ?_ | refine WL.ns ?_ | refine WC.sr ?_)
  refine WL.call rfl rfl rfl (scanKey_any _ v b k r w hv hE hk hD) ?_
  rintro e w1 ⟨v1, v2, v3, rfl, h1, h2, h3, hU1⟩
  refine ⟨_, _, rfl, rfl, ?_⟩
  repeat (first | refine WL.pp rfl ?_ | refine WL.ns ?_ | refine WC.sr ?_ | refine WC.bF rfl (by first | with_reducible rfl | exact Bool.not_true) ?_ | refine WC.seq ?_ | refine X.sn ?_ | refine WC.skip ?_)
  obtain ⟨nv, xs, hb1, _, _⟩ := hP.up hU1
  refine WL.call rfl rfl rfl (range_any pp E C ad0 _ v1 left nv .nilIface _ w1 hb1 h1 hC hE) ?_
  rintro e w2 ⟨a, b2, rfl, hU2⟩
  refine ⟨_, _, rfl, rfl, ?_⟩
  have h2' := h2.upS hU2
  obtain ⟨ad2, cap2, rfl, -⟩ := h2
  repeat (refine WL.pp rfl ?_)
  refine WL.bd rfl rfl (bdNode _ _ _ _ _ _) rfl ?_
  have hP2 := (hP.up hU1).up hU2
  refine WL.call rfl rfl rfl (push_any pp _ left nest ns 2 0 0 a b2 _ (some k) w2 hP2 trivial (fun s hs => by cases hs; exact h2') hm) ?_
  rintro e w3 ⟨rfl, hP3, hF3⟩
  refine ⟨_, _, rfl, rfl, ?_⟩
  repeat (first | refine WL.pp rfl ?_ | refine WL.ns ?_ | refine WC.sr ?_ | refine WC.ret ?_)
  exact X.ret_ rfl rfl ⟨_, rfl, h3, hP3, ((hU1.fm (Nat.le_refl _) (by omega)).trans (hU2.fm (Nat.le_refl _) (by have := hU1.size; omega))).trans hF3⟩
end
end Go.Proofs.YtaccphdkapmdhaaGreat

