/- The tracker's memory; errors; equal names; looking an entry up. Keys with values and their values, as the tracker checks them. Values, as the tracker checks them. No condition. -/
import Derived.Test.YtaccphdkapmdhaaGreatP6
import Derived.Test.YtaccphdkapmdhaaGreatP1
import Derived.Test.YtaccphdkapmdhaaGreatP9
import Derived.Laws.BytesArg
namespace Go.Proofs.YtaccphdkapmdhaaGreat

theorem bytes_u : PP.underlying 23 = some (.slice 5) := by kernel_rfl
theorem u8_u : PP.underlying 5 = some (.int .u8) := by kernel_rfl

/-- A string. -/
abbrev str (l : Bs) : Value := .string ⟨l.toArray⟩

theorem nums_back : ∀ (l : Bs), (l.map fun c => (c.toNat : Int)).map (fun n => UInt8.ofNat n.toNat) = l
  | [] => rfl
  | c :: l => by
    have := nums_back l
    simp only [List.map_cons, Int.toNat_natCast, UInt8.ofNat_toNat]
    rw [this]

theorem RB.str {w : World} {v : Value} {l : Bs} (h : RB w v l) : (convert 23 9 v).run PP w = .ok (str l) w := by
  obtain ⟨ad, cap, rfl, h2⟩ := h
  by_cases hl : l = []
  · subst hl
    cases ad with
    | none =>
      have := run_convert_bytes_nil (P := PP) w 23 5 bytes_u u8_u 0 cap 9 string_u
      exact this
    | some a =>
      rw [run_convert_bytes_string w 23 9 5 _ _ cap bytes_u u8_u string_u]
      exact run_bytesToString (P := PP) w a 0 cap [] (by simp [loadCells, loadCellsFrom])
  · obtain ⟨b, o, dc, fz, rfl, hb, hc⟩ := h2 hl
    have := run_convert_bytes_arg (P := PP) w 23 5 bytes_u u8_u b o l.length cap (l.map fun c => (c.toNat : Int)) (by simp) (fun i hi => by
      have h3 : l[i]? = some l[i] := List.getElem?_eq_getElem hi
      have := hc i _ h3
      rw [cell_of hb this]
      simp [List.getD, h3]) 9 string_u
    rw [this]
    unfold strOfNums
    rw [nums_back]

section
attribute [local semireducible] WL WC X WD WX
variable {all : List Oper} {Q : Exit → Act → World → Prop} {N : Nat} {L L' : Env} {o : Oper} {rest : List Oper} {w : World}

def cbA (L : Env) (op : Op) : Option Value :=
  match op with
  | .convert src dst x => cond (Nat.beq src 23) (cond (Nat.beq dst 9) (ev L x) none) none
  | _ => none

/-- 'string(b)'. -/
theorem WL.cbs {v : Value} (l : Bs) (hg : grd all L o = some true) (h : cbA L o.op = some v) (hr : RB w v l) (hd : dstE N o (str l) L = some L') (k : WL all Q N L' rest w) : WL all Q N L (o :: rest) w := by
  refine WL.of_run hg (fun a hf => ?_) hd k
  obtain ⟨dst, op, ty, pos, after, guard⟩ := o
  simp only at h
  unfold cbA at h
  split at h
  · rename_i src ds x
    cases h1 : Nat.beq src 23 with
    | false => simp [h1] at h
    | true =>
      cases h2 : Nat.beq ds 9 with
      | false => simp [h1, h2] at h
      | true =>
        simp only [h1, h2, cond_true] at h
        have e1 : src = 23 := by simpa using h1
        have e2 : ds = 9 := by simpa using h2
        subst e1 e2
        simp [execOp, hf.eval h, hr.str]
  · cases h
end
attribute [local irreducible] binOp IntKind.wrap Sem.run

theorem str_inj {a b : Bs} : ((⟨a.toArray⟩ : ByteArray) = ⟨b.toArray⟩) ↔ a = b := by
  constructor
  · intro h
    have := congrArg (fun s : ByteArray => s.data.toList) h
    simpa using this
  · rintro rfl; rfl

set_option maxHeartbeats 4000000 in
theorem equal_any (v u : Value) (a b : Bs) (w : World) (hv : RB w v a) (hu : RB w u b) : Calls PP 108 #[v, u] w fun e w' => e = .returned (.bool (dc (a = b))) ∧ w' = w := by
  refine enter (L := [(0, v), (1, u)]) Tryz.func108 rfl rfl rfl ⟨rfl, rfl, trivial⟩ ?_
  repeat (first | refine WL.pp rfl ?_ | refine WL.ns ?_ | refine WC.sr ?_ | refine WL.cbs a rfl rfl hv rfl ?_)
  repeat (first | refine WL.pp rfl ?_ | refine WL.ns ?_ | refine WL.cbs b rfl rfl hu rfl ?_ | refine WC.ret ?_)
  refine X.ret_ rfl rfl ⟨?_, rfl⟩
  refine congrArg Ending.returned (congrArg Value.bool ?_)
  by_cases h : a = b
  · rw [dc_of h, dc_of (str_inj.2 h)]
  · rw [dc_not h, dc_not (fun e => h (str_inj.1 e))]

theorem bdErr (s : ByteArray) (w : World) : (Instr.build 155 ⟨[(0, .string s)]⟩).run PP w = .ok (.agg ⟨[.string s]⟩) w := by kernel_rfl

/-- An error. -/
def IsErr (v : Value) : Prop := ∃ p, v = .iface 153 p

set_option maxHeartbeats 4000000 in
theorem errNew_any (s : ByteArray) (w : World) : Calls PP 52 #[.string s] w fun e w' => ∃ v, e = .returned v ∧ IsErr v ∧ Up w.heap.size w w' := by
  refine enter (L := [(0, .string s)]) Tryz.func52 rfl rfl rfl ⟨rfl, trivial⟩ ?_
  repeat (first | refine WL.pp rfl ?_ | refine WL.ns ?_ | refine WC.sr ?_)
  refine WL.bd rfl rfl (bdErr _) rfl ?_
  refine WL.bx rfl rfl rfl (fun w1 hA => ?_)
  repeat (first | refine WL.pp rfl ?_ | refine WL.ns ?_ | refine WC.ret ?_)
  exact X.ret_ rfl rfl ⟨_, rfl, ⟨_, rfl⟩, hA.up (Nat.le_refl _)⟩

/-! ### The tracker's memory -/
structure EntIs (w : World) (e : Ent) (xs : List Value) (k : Nat) : Prop where
  parent : xs[k]? = some (.int .i32 e.parent)
  kind : xs[k + 1]? = some (.int .u8 e.kind)
  expl : xs[k + 2]? = some (.bool e.expl)
  name : ∃ d, xs[k + 3]? = some d ∧ RB w d e.name

def EL (w : World) (es : List Ent) (xs : List Value) : Prop := ∀ (i : Nat) (e : Ent), es[i]? = some e → EntIs w e xs (i * 4)

theorem EL.fm {B T w w' es xs} (h : EL w es xs) (hf : Fm B T w w') (hT : 5 ∉ T) : EL w' es xs := fun i e he => by
  obtain ⟨h1, h2, h3, d, h4, h5⟩ := h i e he
  exact ⟨h1, h2, h3, d, h4, h5.fm hf hT⟩

/-- The two buffers. -/
def Buf (w : World) (tb cn : Nat) (rb mb : Value) : Prop :=
  (cn = 0 ∧ rb = .slice none 0 0 ∧ mb = .slice none 0 0) ∨
  ∃ g1 g2 n1 n2 c1 c2, rb = .slice (some ⟨g1, 0, none⟩) n1 cn ∧ mb = .slice (some ⟨g2, 0, none⟩) n2 cn ∧ tb < g1 ∧ tb < g2 ∧ w.heap[g1]? = some (.cells c1 4 (0, 0)) ∧ w.heap[g2]? = some (.cells c2 21 (0, 0)) ∧ c1.size = cn ∧ c2.size = cn

theorem Buf.fm {B T w w' tb cn rb mb} (h : Buf w tb cn rb mb) (hf : Fm B T w w') (h4 : 4 ∉ T) (h21 : 21 ∉ T) : Buf w' tb cn rb mb := by
  rcases h with h | ⟨g1, g2, n1, n2, c1, c2, h1, h2, h3, h4', h5, h6, h7⟩
  · exact .inl h
  · exact .inr ⟨g1, g2, n1, n2, c1, c2, h1, h2, h3, h4', hf.keep _ _ h5 h4, hf.keep _ _ h6 h21, h7⟩

/-- The tracker at block tb. -/
def TS (w : World) (tb : Nat) (t : Trk) : Prop :=
  ∃ ev xs rb mb cn, w.heap[tb]? = some (.cells ⟨[ev, .int .i32 (t.cur : Int), rb, mb]⟩ 59 (0, 0)) ∧ w.ownsRow (tb + 1) 145 4 ev t.ents.length xs ∧ EL w t.ents xs ∧ Buf w tb cn rb mb

theorem row_keep {w w' : World} {B e s n : Nat} {v : Value} {xs : List Value} {C : Nat} {T : List Nat} (h : w.ownsRow B e s v n xs) (hf : Fm C T w w') (ht : e ∉ T) : w'.ownsRow B e s v n xs := by
  refine ⟨h.1, ?_⟩
  rcases h.2 with hn | ⟨g, cap, cur, rfl, hb, hgg, rest⟩
  · exact .inl hn
  · exact .inr ⟨g, cap, cur, rfl, hb, hf.keep _ _ hgg ht, rest⟩

theorem TS.fm {B T w w' tb t} (h : TS w tb t) (hf : Fm B T w w') (h5 : 5 ∉ T) (h59 : 59 ∉ T) (h145 : 145 ∉ T) (h4 : 4 ∉ T) (h21 : 21 ∉ T) : TS w' tb t := by
  obtain ⟨ev, xs, rb, mb, cn, h1, h2, h3, h6⟩ := h
  exact ⟨ev, xs, rb, mb, cn, hf.keep _ _ h1 h59, row_keep h2 hf h145, h3.fm hf h5, h6.fm hf h4 h21⟩
theorem TS.sm {w w' tb t} (h : TS w tb t) (hs : Sm w w') : TS w' tb t := h.fm (B := 0) (T := []) hs.fm (by simp) (by simp) (by simp) (by simp) (by simp)
theorem TS.up {w w' tb t} (h : TS w tb t) (hs : Up w.heap.size w w') : TS w' tb t := h.fm (B := 0) (T := []) (hs.fm (Nat.le_refl _) (Nat.zero_le _)) (by simp) (by simp) (by simp) (by simp) (by simp)
theorem TS.lt {w tb t} (h : TS w tb t) : tb < w.heap.size := by
  obtain ⟨ev, xs, rb, mb, cn, h1, _⟩ := h
  exact lt_of_heap h1

/-- The entries, where there are any. -/
theorem TS.open {w tb t} (h : TS w tb t) (h0 : 0 < t.ents.length) :
    ∃ g cap cur rb mb cn, w.heap[tb]? = some (.cells ⟨[.slice (some ⟨g, 0, none⟩) t.ents.length cap, .int .i32 (t.cur : Int), rb, mb]⟩ 59 (0, 0)) ∧ tb < g ∧ w.heap[g]? = some (.cells cur 145 (0, 0)) ∧
      t.ents.length ≤ cap ∧ cap ≤ maxLen ∧ cur.size = cap * 4 ∧ EL w t.ents cur.toList ∧ Buf w tb cn rb mb := by
  obtain ⟨ev, xs, rb, mb, cn, h1, h2, h3, h4⟩ := h
  rcases h2.2 with ⟨_, hn⟩ | ⟨g, cap, cur, rfl, hb, hg, hc, hm, hs, ht⟩
  · omega
  · refine ⟨g, cap, cur, rb, mb, cn, h1, hb, hg, hc, hm, hs, fun i e he => ?_, h4⟩
    have e1 : cur.toList = xs ++ cur.toList.drop (t.ents.length * 4) := by rw [← ht, List.take_append_drop]
    rw [e1]
    obtain ⟨q1, q2, q3, d, q4, q5⟩ := h3 i e he
    have key : ∀ (j : Nat) (v : Value), xs[j]? = some v → (xs ++ cur.toList.drop (t.ents.length * 4))[j]? = some v := fun j v hj => by
      rw [List.getElem?_append_left (List.getElem?_eq_some_iff.1 hj).1]; exact hj
    exact ⟨key _ _ q1, key _ _ q2, key _ _ q3, d, key _ _ q4, q5⟩

/-- What 'find' tells. -/
def foundV : Option Nat → Int
  | some i => (i : Int)
  | none => -1

set_option maxRecDepth 10000 in
set_option maxHeartbeats 8000000 in
theorem find_any (tb p : Nat) (v : Value) (k : Bs) (t : Trk) (w : World) (hT : TS w tb t) (hv : RB w v k) (hp : p < t.ents.length) (hm : t.ents.length ≤ 1000000000) :
    Calls PP 85 #[.pointer (some ⟨tb, 0, none⟩), .int .i32 (p : Int), v] w fun e w' => e = .returned (.int .i32 (foundV (findE t.ents p k))) ∧ w' = w := by
  obtain ⟨g, cap, cur, rb, mb, cn, hb, hg, hgb, hc1, hc2, hcs, hN, hB⟩ := hT.open (by omega)
  refine enter (L := [(0, .pointer (some ⟨tb, 0, none⟩)), (1, .int .i32 (p : Int)), (2, v)]) Tryz.func85 rfl rfl rfl ⟨rfl, rfl, rfl, trivial⟩ ?_
  repeat (first | refine WL.pp rfl ?_ | refine WL.ns ?_ | refine WC.sr ?_ | refine WC.seq ?_ | refine WC.block ?_ | refine WL.ad rfl rfl (by omega) rfl ?_ | refine WL.cv rfl rfl (wrap_i64 (by omega)) rfl ?_)
  refine WC.loop (σ := Nat) (I := fun i w' => w' = w ∧ i ≤ t.ents.length ∧ findFrom p k (t.ents.drop i) i = findE t.ents p k) (m := fun i => t.ents.length - i) (Lf := fun i => [(0, .pointer (some ⟨tb, 0, none⟩)), (1, .int .i32 (p : Int)), (2, v), (7, .int .i64 (i : Int))])
    (p + 1) ⟨rfl, by omega, rfl⟩ ⟨rfl, rfl, rfl, rfl, trivial⟩ ?_
  rintro i w1 ⟨rfl, hi, hfd⟩
  by_cases hlt : i < t.ents.length
  · obtain ⟨e, he⟩ : ∃ e, t.ents[i]? = some e := ⟨_, List.getElem?_eq_getElem hlt⟩
    have hdr : t.ents.drop i = e :: t.ents.drop (i + 1) := by
      rw [List.getElem?_eq_some_iff] at he
      obtain ⟨_, rfl⟩ := he
      exact List.drop_eq_getElem_cons hlt
    rw [hdr] at hfd
    simp only [findFrom] at hfd
    obtain ⟨q1, q2, q3, d, q4, q5⟩ := hN i e he
    have c0 : w1.cell? ⟨g, i * 4, none⟩ = some (.int .i32 e.parent) := cell_of hgb (by simpa using q1)
    have c1 : w1.cell? ⟨g, i * 4 + 1, none⟩ = some (.int .u8 e.kind) := cell_of hgb (by simpa using q2)
    have c3 : w1.cell? ⟨g, i * 4 + 3, none⟩ = some d := cell_of hgb (by simpa using q4)
    repeat (first | refine WL.pp rfl ?_ | refine WL.ns ?_ | refine WC.sr ?_ | refine WC.dT rfl (by first | omega | decide) ?_ | refine WL.ldB (b := tb) (i := 0) rfl rfl hb rfl rfl ?_ | refine WL.ix (i := i) rfl rfl rfl (by omega) (by rw [Nat.zero_add]; rfl) ?_ | refine WL.ld rfl rfl c0 rfl ?_ | refine WC.seq ?_ | refine WC.block ?_ | refine X.sn ?_ | refine WC.skip ?_)
    by_cases h1 : e.parent = (p : Int)
    · repeat (first | refine WL.pp rfl ?_ | refine WL.ld rfl rfl c1 rfl ?_ | refine WL.p rfl ?_ | refine WL.gT rfl rfl (by first | omega | decide) ?_)
      by_cases h2 : e.kind = 5
      · have his : e.is p k = false := by simp [Ent.is, h2]
        rw [his] at hfd
        repeat (first | refine WL.pp rfl ?_ | refine WL.ns ?_ | refine WC.bF rfl (by first | with_reducible rfl | exact Bool.not_true) ?_ | refine WL.p rfl ?_ | refine WC.reg ?_ | refine WL.nil ?_ | refine X.sn ?_ | refine X.bn ?_ | refine WC.skip ?_ | refine WL.ad rfl rfl (by omega) rfl ?_ | refine WL.gF rfl rfl (by first | omega | decide) ?_)
        exact X.again (i + 1) ⟨rfl, by omega, hfd⟩ (by omega) ⟨rfl, rfl, rfl, rfl, trivial⟩
      · repeat (first | refine WL.ld rfl rfl c3 rfl ?_ | refine WL.p rfl ?_ | refine WL.gT rfl rfl (by first | omega | decide) ?_)
        refine WL.call rfl rfl rfl (equal_any d v e.name k w1 q5 hv) ?_
        rintro _ w2 ⟨rfl, rfl⟩
        by_cases h3 : e.name = k
        · have his : e.is p k = true := by simp [Ent.is, h1, h2, h3]
          rw [his] at hfd
          rw [dc_of h3]
          refine ⟨_, _, rfl, rfl, ?_⟩
          repeat (first | refine WL.pp rfl ?_ | refine WL.ns ?_ | refine WC.sr ?_ | refine WC.bT rfl (by first | with_reducible rfl | exact Bool.not_false) ?_ | refine WL.p rfl ?_ | refine X.sr ?_ | refine X.br ?_ | refine WC.ret ?_ | refine WL.cv rfl rfl (wrap_i32 (by omega)) rfl ?_)
          refine X.ret_ rfl rfl ⟨?_, rfl⟩
          rw [← hfd]
          rfl
        · have his : e.is p k = false := by simp [Ent.is, h3]
          rw [his] at hfd
          rw [dc_not h3]
          refine ⟨_, _, rfl, rfl, ?_⟩
          repeat (first | refine WL.pp rfl ?_ | refine WL.ns ?_ | refine WC.bF rfl (by first | with_reducible rfl | exact Bool.not_true) ?_ | refine WL.p rfl ?_ | refine WC.reg ?_ | refine WL.nil ?_ | refine X.sn ?_ | refine X.bn ?_ | refine WC.skip ?_ | refine WL.ad rfl rfl (by omega) rfl ?_)
          exact X.again (i + 1) ⟨rfl, by omega, hfd⟩ (by omega) ⟨rfl, rfl, rfl, rfl, trivial⟩
    · have his : e.is p k = false := by simp [Ent.is, h1]
      rw [his] at hfd
      repeat (first | refine WL.pp rfl ?_ | refine WL.ns ?_ | refine WC.bF rfl (by first | with_reducible rfl | exact Bool.not_true) ?_ | refine WL.p rfl ?_ | refine WC.reg ?_ | refine WL.nil ?_ | refine X.sn ?_ | refine X.bn ?_ | refine WC.skip ?_ | refine WL.ad rfl rfl (by omega) rfl ?_ | refine WL.gF rfl rfl (by first | omega | decide) ?_)
      exact X.again (i + 1) ⟨rfl, by omega, hfd⟩ (by omega) ⟨rfl, rfl, rfl, rfl, trivial⟩
  · have hie : i = t.ents.length := by omega
    rw [List.drop_eq_nil_of_le (by omega)] at hfd
    simp only [findFrom] at hfd
    repeat (first | refine WL.pp rfl ?_ | refine WL.ns ?_ | refine WC.sr ?_ | refine WC.dF rfl (by first | omega | decide) ?_ | refine WL.ldB (b := tb) (i := 0) rfl rfl hb rfl rfl ?_ | refine WC.seq ?_ | refine X.sn ?_ | refine X.sx ?_ | refine X.bx ?_ | refine WC.exit ?_ | refine WC.ret ?_)
    refine X.ret_ rfl rfl ⟨?_, rfl⟩
    rw [← hfd]
    rfl

theorem bdEnt (p k : Int) (x : Bool) (d : Option Addr) (n c : Nat) (w : World) : (Instr.build 145 ⟨[(0, .int .i32 p), (1, .int .u8 k), (2, .bool x), (3, .slice d n c)]⟩).run PP w = .ok (.agg ⟨[.int .i32 p, .int .u8 k, .bool x, .slice d n c]⟩) w := by kernel_rfl
theorem bdEnt2 (p k : Int) (w : World) : (Instr.build 145 ⟨[(0, .int .i32 p), (1, .int .u8 k)]⟩).run PP w = .ok (.agg ⟨[.int .i32 p, .int .u8 k, .bool false, .slice none 0 0]⟩) w := by kernel_rfl
theorem bsEnt (a b c d : Value) (w : World) : (Instr.buildSlice 55 1 ⟨[(0, .agg ⟨[a, b, c, d]⟩)]⟩).run PP w = .ok (.slice (some ⟨w.heap.size, 0, none⟩) 1 1) (w.alloc (.cells ⟨[a, b, c, d]⟩ 145 (0, 0))) := by kernel_rfl

theorem EL.snoc {w es xs e ys} (h : EL w es xs) (hl : xs.length = es.length * 4) (hn : EntIs w e ys 0) : EL w (es ++ [e]) (xs ++ ys) := by
  intro i m hm
  by_cases hi : i < es.length
  · rw [List.getElem?_append_left hi] at hm
    obtain ⟨q1, q2, q3, d, q4, q5⟩ := h i m hm
    have key : ∀ (j : Nat) (v : Value), xs[j]? = some v → (xs ++ ys)[j]? = some v := fun j v hj => by
      rw [List.getElem?_append_left (List.getElem?_eq_some_iff.1 hj).1]; exact hj
    exact ⟨key _ _ q1, key _ _ q2, key _ _ q3, d, key _ _ q4, q5⟩
  · have hi' : i = es.length := by
      have := (List.getElem?_eq_some_iff.1 hm).1
      simp at this; omega
    subst hi'
    rw [List.getElem?_append_right (Nat.le_refl _), Nat.sub_self] at hm
    simp only [List.getElem?_cons_zero, Option.some.injEq] at hm
    subst hm
    have key : ∀ (j : Nat) (v : Value), ys[0 + j]? = some v → (xs ++ ys)[es.length * 4 + j]? = some v := fun j v hj => by
      rw [Nat.zero_add] at hj
      rw [List.getElem?_append_right (by omega), hl, Nat.add_sub_cancel_left]; exact hj
    obtain ⟨q1, q2, q3, d, q4, q5⟩ := hn
    exact ⟨key 0 _ q1, key 1 _ q2, key 2 _ q3, d, key 3 _ q4, q5⟩

/-- A row that grew by one entry, stored. -/
theorem TS.grow {w0 w w' : World} {tb : Nat} {t : Trk} {c : Nat} {e : Ent} {ev' rb mb : Value} {xs ys : List Value} {cn : Nat} {l : List Value} (hO : w.ownsRow (tb + 1) 145 4 ev' (t.ents.length + 1) (xs ++ ys)) (hE : EL w0 t.ents xs) (hxl : xs.length = t.ents.length * 4) (hn : EntIs w0 e ys 0)
    (hB : Buf w tb cn rb mb) (hu : Fm 0 [59, 145] w0 w) (htb : w.heap[tb]? = some (.cells ⟨l⟩ 59 (0, 0))) (hS : St w tb (.cells ⟨[ev', .int .i32 (c : Int), rb, mb]⟩ 59 (0, 0)) w') : TS w' tb ⟨t.ents ++ [e], c⟩ := by
  have hf : Fm 0 [59] w w' := hS.fm htb (Nat.zero_le _) (by simp [tag]) rfl
  refine ⟨ev', xs ++ ys, rb, mb, cn, hS.at_, ?_, ?_, hB.fm hf (by simp) (by simp)⟩
  · simp only [List.length_append, List.length_singleton]
    exact row_keep hO hf (by simp)
  · exact ((hE.snoc hxl hn).fm hu (by simp)).fm hf (by simp)

set_option maxRecDepth 10000 in
set_option maxHeartbeats 8000000 in
theorem create_any (tb p kd : Nat) (x : Bool) (v : Value) (k : Bs) (t : Trk) (w : World) (hT : TS w tb t) (hv : RB w v k) (hk : kd ≤ 5) (hp : p ≤ 1000000000) (hm : t.ents.length ≤ 1000000000) :
    Calls PP 86 #[.pointer (some ⟨tb, 0, none⟩), .int .i32 (p : Int), v, .int .u8 (kd : Int), .bool x] w fun e w' => e = .returned (.int .i32 (t.ents.length : Int)) ∧ TS w' tb ⟨t.ents ++ [⟨p, kd, x, k⟩], t.cur⟩ ∧ Fm tb [59, 145] w w' := by
  obtain ⟨ev, xs, rb, mb, cn, h1, h2, h3, h4⟩ := hT
  obtain ⟨ad, cap, rfl⟩ : ∃ ad cap, ev = .slice ad t.ents.length cap := by
    rcases h2.2 with ⟨rfl, hn⟩ | ⟨g, cap, cur, rfl, _⟩
    · exact ⟨none, 0, by rw [hn]⟩
    · exact ⟨_, _, rfl⟩
  have hlt := lt_of_heap h1
  have hv0 := hv
  obtain ⟨dad, dcap, rfl, -⟩ := hv
  refine enter (L := [(0, .pointer (some ⟨tb, 0, none⟩)), (1, .int .i32 (p : Int)), (2, .slice dad k.length dcap), (3, .int .u8 (kd : Int)), (4, .bool x)]) Tryz.func86 rfl rfl rfl ⟨rfl, rfl, rfl, rfl, rfl, trivial⟩ ?_
  repeat (first | refine WL.pp rfl ?_ | refine WL.ns ?_ | refine WC.sr ?_ | refine WL.ldB (b := tb) (i := 0) rfl rfl h1 rfl rfl ?_ | refine WL.cv rfl rfl (wrap_i32 (by omega)) rfl ?_)
  refine WL.bd rfl rfl (bdEnt _ _ _ _ _ _) rfl ?_
  refine WL.bs rfl rfl (bsEnt _ _ _ _) rfl (fun w1 hA => ?_)
  have h1a := hA.keep h1
  have h2a : w1.ownsRow (tb + 1) 145 4 (.slice ad t.ents.length cap) t.ents.length xs := own_same h2 (fun k o _ h => hA.keep h)
  have hF1 : Fm tb [59, 145] w w1 := hA.fm (by omega)
  refine WL.apf (m := 1) [.int .i32 (p : Int), .int .u8 (kd : Int), .bool x, .slice dad k.length dcap] rfl rfl (rfl : rowT 55 = some (145, 4)) h2a rfl (fun j u hu => ?_) (fun u hu => ?_) (by omega) (by rw [hA.size]; omega) (fun v' w2 hO2 hG2 _ => ?_)
  · rw [add_zero]
    exact cell_of hA.at_ (by simpa using hu)
  · simp only [List.mem_cons, List.not_mem_nil, or_false] at hu
    rcases hu with rfl | rfl | rfl | rfl <;> rfl
  have h1b : w2.heap[tb]? = some (.cells ⟨[.slice ad t.ents.length cap, .int .i32 (t.cur : Int), rb, mb]⟩ 59 (0, 0)) := hG2.keep _ _ h1a (by simp [tag])
  have hone : oneV v' = true := by
    rcases hO2.2 with ⟨rfl, _⟩ | ⟨g, cap, cur, rfl, _⟩ <;> rfl
  have hF2 : Fm tb [59, 145] w1 w2 := hG2.mono (by omega) (by simp)
  refine ⟨_, rfl, ?_⟩
  repeat (refine WL.pp rfl ?_)
  refine WL.stB rfl rfl hone h1b rfl rfl (fun w3 hS3 => ?_)
  repeat (first | refine WL.pp rfl ?_ | refine WL.ns ?_ | refine WC.sr ?_ | refine WC.ret ?_)
  refine X.ret_ rfl rfl ⟨rfl, ?_, (hF1.trans hF2).trans (hS3.fm h1b (Nat.le_refl _) (by simp [tag]) rfl)⟩
  exact TS.grow (w0 := w) hO2 h3 h2.1 ⟨rfl, rfl, rfl, _, rfl, hv0⟩ (h4.fm (hF1.trans hF2) (by simp) (by simp)) ((hF1.trans hF2).mono (Nat.zero_le _) (fun _ h => h)) h1b hS3
end Go.Proofs.YtaccphdkapmdhaaGreat

namespace Go.Proofs.YtaccphdkapmdhaaGreat
attribute [local irreducible] binOp IntKind.wrap Sem.run

/-- An iterator whose next step comes to handle h. -/
def ItAt (w : World) (it g : Nat) (ns : List ANode) (h : Nat) : Prop :=
  w.heap[it]? = some (.cells ⟨[.bool false, hptr g h]⟩ 147 (0, 0)) ∨ ∃ i n, ns[i]? = some n ∧ n.next = h ∧ w.heap[it]? = some (.cells ⟨[.bool true, hptr g (i + 1)]⟩ 147 (0, 0))

theorem ItAt.keep {w w' : World} {it g h : Nat} {ns : List ANode} (hI : ItAt w it g ns h) (hk : ∀ o, tag o = 147 → w.heap[it]? = some o → w'.heap[it]? = some o) : ItAt w' it g ns h := by
  rcases hI with h1 | ⟨i, n, h1, h2, h3⟩
  · exact .inl (hk _ rfl h1)
  · exact .inr ⟨i, n, h1, h2, hk _ rfl h3⟩

theorem ItAt.fm {B T} {w w' : World} {it g h : Nat} {ns : List ANode} (hI : ItAt w it g ns h) (hf : Fm B T w w') (hT : 147 ∉ T) : ItAt w' it g ns h :=
  hI.keep fun o ho h => hf.keep _ _ h (by rw [ho]; exact hT)

theorem ItAt.lt {w : World} {it g h : Nat} {ns : List ANode} (hI : ItAt w it g ns h) : it < w.heap.size := by
  rcases hI with h1 | ⟨i, n, h1, h2, h3⟩
  · exact lt_of_heap h1
  · exact lt_of_heap h3

theorem iterStep (pp g h it : Nat) (ns : List ANode) (w : World) (hA : AR w pp g ns) (hw : Wf ns) (hh : h ≤ ns.length) (hI : ItAt w it g ns h) :
    Calls PP 82 #[.pointer (some ⟨it, 0, none⟩)] w fun e w' => e = .returned (.bool (dc (h ≠ 0))) ∧ ∃ w1, Sm w w1 ∧ (∃ o, tag o = 147 ∧ w1.heap[it]? = some o) ∧ St w1 it (.cells ⟨[.bool true, hptr g h]⟩ 147 (0, 0)) w' := by
  rcases hI with h1 | ⟨i, n, h1, h2, h3⟩
  · refine (iterFirst_any pp g h it ns w hA hw hh h1).mono ?_
    rintro e w' ⟨rfl, hS⟩
    exact ⟨rfl, w, Sm.refl _, ⟨_, rfl, h1⟩, hS⟩
  · subst h2
    refine (iterNext_any pp g i it ns n w hA hw h1 h3).mono ?_
    rintro e w' ⟨rfl, w1, hS1, hS⟩
    exact ⟨rfl, w1, hS1, ⟨_, rfl, hS1.at h3⟩, hS⟩

theorem hptr_succ (g i : Nat) : hptr g (i + 1) = .pointer (some ⟨g, i * 7, none⟩) := rfl

/-- What a check tells. -/
def ErrIs (ok : Bool) (v : Value) : Prop := (ok = true ∧ v = .nilIface) ∨ (ok = false ∧ IsErr v)

/-- The check of a value. -/
def CkVC (v : Val) : Prop := ∀ (tb pp g id i : Nat) (ns : List ANode) (t : Trk) (w : World), TS w tb t → AR w pp g ns → Wf ns → NT ns v i → Ord t.ents → id < t.ents.length → t.ents.length + cV v ≤ 1000000000 →
  Calls PP 87 #[.pointer (some ⟨tb, 0, none⟩), .int .i32 (id : Int), .pointer (some ⟨g, i * 7, none⟩)] w fun e w' => ∃ u, e = .returned u ∧ ErrIs (ckV v t.ents id).2 u ∧ TS w' tb ⟨(ckV v t.ents id).1, t.cur⟩ ∧ Fm tb [59, 145] w w'

/-- The kind of an entry, in its cells. -/
theorem kindE_some {es : List Ent} {j : Nat} {e : Ent} (h : es[j]? = some e) : kindE es j = e.kind := by simp [kindE, h]

/-- A step of an iterator of one's own. -/
theorem Fm.step {B T} {w w1 w2 w3 : World} {it : Nat} {o : Obj} (hf : Fm B T w w1) (hs : Sm w1 w2) (hS : St w2 it o w3) (hit : w.heap.size ≤ it) (hB : B ≤ it) : Fm B T w w3 := (hf.trans hs.fm).stN hS hit hB

/-- Such a step leaves all else alone. -/
theorem step_fm {w1 w2 w3 : World} {it : Nat} {o o' : Obj} (hs : Sm w1 w2) (ho : w2.heap[it]? = some o') (ht : tag o' = 147) (hS : St w2 it o w3) (ht' : tag o = 147) : Fm 0 [147] w1 w3 :=
  hs.fm.trans (hS.fm ho (Nat.zero_le _) (by simp [ht]) (by rw [ht, ht']))

set_option maxRecDepth 100000 in
set_option maxHeartbeats 16000000 in
theorem ckKV_any (v : Val) (hv : CkVC v) (ks : List Bs) (tb pp g p i c : Nat) (ns : List ANode) (t : Trk) (a b : ANode) (w : World) (hT : TS w tb t) (hA : AR w pp g ns) (hw : Wf ns)
    (ha : ns[i]? = some a) (hk : a.kind = 5) (hc : a.child = c + 1) (hb : ns[c]? = some b) (hn : NT ns v c) (hK : KT ns ks b.next) (hks : ks ≠ []) (hO : Ord t.ents) (hp : p < t.ents.length) (hm : t.ents.length + ks.length + cV v ≤ 1000000000) :
    Calls PP 49 #[.pointer (some ⟨tb, 0, none⟩), .int .i32 (p : Int), .pointer (some ⟨g, i * 7, none⟩)] w fun e w' => ∃ u, e = .returned u ∧ ErrIs (ckK (ckV v) ks t.ents p).2 u ∧ TS w' tb ⟨(ckK (ckV v) ks t.ents p).1, t.cur⟩ ∧ Fm tb [59, 145] w w' := by
  have hlt := hT.lt
  have hsm := hA.small
  have hchl := (hw i a ha).2.2.2
  have hke : keyAt ns a = b.next := by simp [keyAt, hk, hc, hb]
  have hbn := (hw c b hb).2.2.1
  refine enter (L := [(0, .pointer (some ⟨tb, 0, none⟩)), (1, .int .i32 (p : Int)), (2, .pointer (some ⟨g, i * 7, none⟩))]) Tryz.func49 rfl rfl rfl ⟨rfl, rfl, rfl, trivial⟩ ?_
  repeat (first | refine WL.pp rfl ?_ | refine WL.ns ?_ | refine WC.sr ?_)
  refine WL.call rfl rfl rfl (key81_any pp g i ns a w hA hw ha (.inl ⟨hk, by omega⟩)) ?_
  rintro e w1 ⟨rfl, hU1⟩
  rw [hke]
  refine ⟨_, _, rfl, rfl, ?_⟩
  refine WL.al rfl rfl rfl (fun w2 hA2 => ?_)
  refine WL.sg rfl rfl rfl (by simp [oneV, hptr]) hA2.at_ (by simp) rfl (fun w3 hS3 => ?_)
  generalize hit : w1.heap.size = it at *
  have hsz : w.heap.size ≤ it := by have := hU1.size; omega
  have hF3 : Fm tb [59, 145] w w3 := ((hU1.fm (Nat.le_refl _) (by omega)).trans (hA2.fm (by omega))).stN hS3 hsz (by omega)
  have hI3 : ItAt w3 it g ns b.next := .inl hS3.at_
  have hT3 : TS w3 tb t := hT.fm (B := 0) (T := []) (((hU1.fm (Nat.le_refl _) (Nat.zero_le _)).trans (hA2.fm (Nat.zero_le _))).stN hS3 hsz (Nat.zero_le _)) (by simp) (by simp) (by simp) (by simp) (by simp)
  have hA3 : AR w3 pp g ns := hA.fm hF3 (by simp) (by simp) (by simp)
  clear hS3 hA2 hU1
  repeat (first | refine WL.ns ?_ | refine WC.seq ?_ | refine WC.block ?_)
  refine WC.loop (σ := Nat × List Bs × Nat × List Ent) (I := fun s w' => ItAt w' it g ns s.1 ∧ KT ns s.2.1 s.1 ∧ s.2.1 ≠ [] ∧ TS w' tb ⟨s.2.2.2, t.cur⟩ ∧ AR w' pp g ns ∧ Fm tb [59, 145] w w' ∧ Ord s.2.2.2 ∧ s.2.2.1 < s.2.2.2.length ∧ s.2.2.2.length + s.2.1.length + cV v ≤ 1000000000 ∧ ckK (ckV v) s.2.1 s.2.2.2 s.2.2.1 = ckK (ckV v) ks t.ents p)
    (m := fun s => s.2.1.length) (Lf := fun s => [(0, .pointer (some ⟨tb, 0, none⟩)), (1, .int .i32 (s.2.2.1 : Int)), (2, .pointer (some ⟨g, i * 7, none⟩)), (7, .pointer (some ⟨it, 0, none⟩))])
    (b.next, ks, p, t.ents) ⟨hI3, hK, hks, hT3, hA3, hF3, hO, hp, hm, rfl⟩ ⟨rfl, rfl, rfl, rfl, trivial⟩ ?_
  clear hI3 hK hks hT3 hA3 hF3 hO hp hm hT
  rintro ⟨h, kc, q, es⟩ w4 ⟨hI, hK, hne, hT, hA, hF, hO, hq, hm, hres⟩
  dsimp only at hI hK hne hT hO hq hm hres ⊢
  rw [← hres]
  cases kc with
  | nil => exact absurd rfl hne
  | cons k rest =>
    obtain ⟨j, m, rfl, hj, hjk, hjd, hKr⟩ := hK
    have hjl := (List.getElem?_eq_some_iff.1 hj).1
    have hjn := (hw j m hj).2.2.1
    repeat (first | refine WC.sr ?_ | refine WC.seq ?_)
    refine WL.call rfl rfl rfl (iterStep pp g (j + 1) it ns w4 hA hw (by omega) hI) ?_
    rintro e w5 ⟨rfl, wm, hSm, ⟨om, htm, hom⟩, hS5⟩
    rw [dc_of (show j + 1 ≠ 0 by omega)]
    refine ⟨_, _, rfl, rfl, ?_⟩
    have hF45 := step_fm hSm hom htm hS5 rfl
    have hF5 : Fm tb [59, 145] w w5 := hF.step hSm hS5 hsz (by omega)
    have hT5 := hT.fm hF45 (by simp) (by simp) (by simp) (by simp) (by simp)
    have hA5 := hA.fm hF45 (by simp) (by simp) (by simp)
    have hit5 := hS5.at_
    rw [hptr_succ] at hit5
    have hI5 : ItAt w5 it g ns m.next := .inr ⟨j, m, hj, rfl, hS5.at_⟩
    clear hF45 hS5 hI hT hA hF hom hSm
    repeat (first | refine WL.ns ?_ | refine WC.sr ?_ | refine WC.bT rfl (by first | with_reducible rfl | exact Bool.not_false) ?_ | refine WC.block ?_ | refine X.sn ?_ | refine WC.skip ?_)
    refine WL.call rfl rfl rfl (iterNode_any _ _ it w5 hit5) ?_
    rintro e w6 ⟨rfl, rfl⟩
    refine ⟨_, _, rfl, rfl, ?_⟩
    obtain ⟨cur, hgc, hNL⟩ := hA5.cells
    obtain ⟨d, hd1, hd2, hd3⟩ := (hNL j m hj).data
    have hdk := hd3 k hjd
    have c3 : w6.cell? ⟨g, j * 7 + 3, none⟩ = some d := cell_of hgc (by simpa using hd1)
    repeat (first | refine WL.pp rfl ?_ | refine WL.ns ?_ | refine WC.sr ?_ | refine WL.ld rfl rfl c3 rfl ?_ | refine WC.seq ?_)
    refine WL.call rfl rfl rfl (isLast_any pp g j it _ ns m w6 hA5 hj hit5) ?_
    rintro e w7 ⟨rfl, rfl⟩
    refine ⟨_, _, rfl, rfl, ?_⟩
    have hfind := find_any tb q d k ⟨es, t.cur⟩ w7 hT5 hdk hq (by simp only [List.length_cons] at hm; simp only; omega)
    cases rest with
    | nil =>
      have hm0 : m.next = 0 := hKr
      simp only [List.length_singleton] at hm
      repeat (first | refine WL.pp rfl ?_ | refine WL.ns ?_ | refine WC.sr ?_ | refine WC.dT rfl (by first | omega | decide) ?_ | refine WC.seq ?_)
      refine WL.call rfl rfl rfl hfind ?_
      rintro e w8 ⟨rfl, rfl⟩
      refine ⟨_, _, rfl, rfl, ?_⟩
      cases hf : findE es q k with
      | some x =>
        have e1 : ckK (ckV v) [k] es q = (es, false) := by simp [ckK, hf]
        rw [e1]
        simp only [foundV]
        repeat (first | refine WL.pp rfl ?_ | refine WL.ns ?_ | refine WC.sr ?_ | refine WC.dT rfl (by first | omega | decide) ?_)
        refine WL.call rfl rfl rfl (errNew_any _ w8) ?_
        rintro e w9 ⟨u, rfl, hu, hU9⟩
        refine ⟨_, _, rfl, rfl, ?_⟩
        repeat (first | refine WL.pp rfl ?_ | refine WL.ns ?_ | refine X.sr ?_ | refine X.br ?_ | refine WC.ret ?_)
        exact X.ret_ rfl rfl ⟨_, rfl, .inr ⟨rfl, hu⟩, hT5.up hU9, hF5.trans (hU9.fm (Nat.le_refl _) (by have := hT5.lt; omega))⟩
      | none =>
        have e1 : ckK (ckV v) [k] es q = ckV v (es ++ [⟨q, 1, false, k⟩]) es.length := by simp [ckK, hf]
        rw [e1]
        simp only [foundV]
        repeat (first | refine WL.pp rfl ?_ | refine WL.ns ?_ | refine WC.sr ?_ | refine WC.dF rfl (by first | omega | decide) ?_ | refine X.sn ?_ | refine WC.skip ?_)
        refine WL.call rfl rfl rfl (create_any tb q 1 false d k ⟨es, t.cur⟩ w8 hT5 hdk (by omega) (by omega) (by simp only; omega)) ?_
        rintro e w9 ⟨rfl, hT9, hF9⟩
        refine ⟨_, _, rfl, rfl, ?_⟩
        simp only at hT9
        have hA9 := hA5.fm hF9 (by simp) (by simp) (by simp)
        repeat (first | refine WL.pp rfl ?_ | refine WL.ns ?_ | refine WC.sr ?_)
        refine WL.call rfl rfl rfl (value70_any pp g i ns a w9 hA9 ha hchl) ?_
        rintro e w10 ⟨rfl, hS10⟩
        refine ⟨_, _, rfl, rfl, ?_⟩
        rw [hc, hptr_succ]
        have hG := Grow.snoc hO (k := 1) (x := false) (nm := k) hq (by omega) (by omega)
        skip
        refine WL.call rfl rfl rfl (hv tb pp g es.length c ns ⟨es ++ [⟨q, 1, false, k⟩], t.cur⟩ w10 (hT9.sm hS10) (hA9.fm (B := 0) (T := []) hS10.fm (by simp) (by simp) (by simp)) hw hn hG.1 (by simp) (by simp; omega)) ?_
        rintro e w11 ⟨u, rfl, hu, hT11, hF11⟩
        refine ⟨_, _, rfl, rfl, ?_⟩
        repeat (first | refine WL.pp rfl ?_ | refine WL.ns ?_ | refine X.sr ?_ | refine X.br ?_ | refine WC.ret ?_)
        exact X.ret_ rfl rfl ⟨_, rfl, hu, hT11, ((hF5.trans hF9).trans hS10.fm).trans hF11⟩
    | cons k2 rest =>
      have hm0 : m.next ≠ 0 := by
        obtain ⟨_, _, h, _⟩ := hKr
        omega
      simp only [List.length_cons] at hm
      repeat (first | refine WL.pp rfl ?_ | refine WL.ns ?_ | refine WC.sr ?_ | refine WC.dF rfl (by first | omega | decide) ?_ | refine X.sn ?_ | refine WC.skip ?_)
      refine WL.call rfl rfl rfl hfind ?_
      rintro e w8 ⟨rfl, rfl⟩
      refine ⟨_, _, rfl, rfl, ?_⟩
      cases hf : findE es q k with
      | none =>
        have e1 : ckK (ckV v) (k :: k2 :: rest) es q = ckK (ckV v) (k2 :: rest) (es ++ [⟨q, 2, false, k⟩]) es.length := by simp [ckK, hf]
        simp only [foundV]
        repeat (first | refine WL.pp rfl ?_ | refine WL.ns ?_ | refine WC.sr ?_ | refine WC.dT rfl (by first | omega | decide) ?_ | refine WC.seq ?_ | refine WC.reg ?_)
        refine WL.call rfl rfl rfl (create_any tb q 2 false d k ⟨es, t.cur⟩ w8 hT5 hdk (by omega) (by omega) (by simp only; omega)) ?_
        rintro e w9 ⟨rfl, hT9, hF9⟩
        refine ⟨_, _, rfl, rfl, ?_⟩
        simp only at hT9
        repeat (first | refine WL.pp rfl ?_ | refine WL.ns ?_ | refine WC.reg ?_ | refine WL.nil ?_ | refine X.bn ?_)
        have hG := Grow.snoc hO (k := 2) (x := false) (nm := k) hq (by omega) (by omega)
        exact X.again (m.next, k2 :: rest, es.length, es ++ [⟨q, 2, false, k⟩]) ⟨hI5.fm hF9 (by simp), hKr, by simp, hT9, hA5.fm hF9 (by simp) (by simp) (by simp), hF5.trans hF9, hG.1, by simp, by simp; omega, by rw [← e1, hres]⟩ (by simp) ⟨rfl, rfl, rfl, rfl, trivial⟩
      | some x =>
        have hxl := findE_lt hf
        obtain ⟨ex, hex⟩ : ∃ ex, es[x]? = some ex := ⟨_, List.getElem?_eq_getElem hxl⟩
        have hkx := kindE_some hex
        obtain ⟨ge, cape, cure, rbe, mbe, cne, he1, he2, he3, he4, he5, he6, he7, he8⟩ := hT5.open (by simp only; omega)
        simp only at he1 he4 he7
        have ck : w8.cell? ⟨ge, x * 4 + 1, none⟩ = some (.int .u8 ex.kind) := cell_of he3 (by simpa using (he7 x ex hex).kind)
        simp only [foundV]
        repeat (first | refine WL.pp rfl ?_ | refine WL.ns ?_ | refine WC.sr ?_ | refine WC.dF rfl (by first | omega | decide) ?_ | refine WL.ldB (b := tb) (i := 0) rfl rfl he1 rfl rfl ?_ | refine WL.ix (i := x) rfl rfl rfl hxl (by rw [Nat.zero_add]; rfl) ?_ | refine WL.ld rfl rfl ck rfl ?_ | refine WC.seq ?_)
        by_cases h2 : ex.kind = 2
        · have e1 : ckK (ckV v) (k :: k2 :: rest) es q = ckK (ckV v) (k2 :: rest) es x := by simp [ckK, hf, hkx, h2]
          repeat (first | refine WL.pp rfl ?_ | refine WC.dF rfl (by first | omega | decide) ?_ | refine WC.reg ?_ | refine WL.nil ?_ | refine X.sn ?_ | refine X.bn ?_ | refine WC.skip ?_)
          exact X.again (m.next, k2 :: rest, x, es) ⟨hI5, hKr, by simp, hT5, hA5, hF5, hO, hxl, by simp only [List.length_cons]; omega, by rw [← e1, hres]⟩ (by simp) ⟨rfl, rfl, rfl, rfl, trivial⟩
        · have e1 : ckK (ckV v) (k :: k2 :: rest) es q = (es, false) := by simp [ckK, hf, hkx, h2]
          rw [e1]
          repeat (first | refine WC.sr ?_ | refine WC.dT rfl (by first | omega | decide) ?_)
          refine WL.call rfl rfl rfl (errNew_any _ w8) ?_
          rintro e w9 ⟨u, rfl, hu, hU9⟩
          refine ⟨_, _, rfl, rfl, ?_⟩
          repeat (first | refine WL.pp rfl ?_ | refine WL.ns ?_ | refine X.sr ?_ | refine X.br ?_ | refine WC.ret ?_)
          exact X.ret_ rfl rfl ⟨_, rfl, .inr ⟨rfl, hu⟩, hT5.up hU9, hF5.trans (hU9.fm (Nat.le_refl _) (by have := hT5.lt; omega))⟩
end Go.Proofs.YtaccphdkapmdhaaGreat

namespace Go.Proofs.YtaccphdkapmdhaaGreat
attribute [local irreducible] binOp IntKind.wrap Sem.run

theorem nodeKind_range (k : Nat) : 8 ≤ nodeKind k ∧ nodeKind k ≤ 15 := by
  unfold nodeKind
  split <;> decide

set_option maxRecDepth 100000 in
set_option maxHeartbeats 8000000 in
theorem ckSc (kind : Nat) (text : Bs) : CkVC (.sc kind text) := by
  intro tb pp g id i ns t w hT hA hw hn hO hid hm
  obtain ⟨a, ha, hk, _⟩ := hn
  have hr := nodeKind_range kind
  obtain ⟨cur, hgc, hNL⟩ := hA.cells
  have c0 : w.cell? ⟨g, i * 7, none⟩ = some (.int .i64 a.kind) := cell_of hgc (by simpa using (hNL i a ha).kind)
  refine enter (L := [(0, .pointer (some ⟨tb, 0, none⟩)), (1, .int .i32 (id : Int)), (2, .pointer (some ⟨g, i * 7, none⟩))]) Tryz.func87 rfl rfl rfl ⟨rfl, rfl, rfl, trivial⟩ ?_
  repeat (first | refine WL.pp rfl ?_ | refine WL.ns ?_ | refine WC.sr ?_ | refine WC.dF rfl (by first | omega | decide) ?_ | refine WL.ld rfl rfl c0 rfl ?_ | refine WC.seq ?_ | refine WC.block ?_ | refine X.sn ?_ | refine X.bn ?_ | refine WC.skip ?_ | refine WC.ret ?_)
  simp only [ckV]
  exact X.ret_ rfl rfl ⟨_, rfl, .inl ⟨rfl, rfl⟩, hT, Fm.refl _ _ _⟩

theorem Val.kind_of {ns : List ANode} {v : Val} {i : Nat} {a : ANode} (h : NT ns v i) (ha : ns[i]? = some a) : (v.isSc = true ∧ a.kind ≠ 6 ∧ a.kind ≠ 7) ∨ (v.isSc = false ∧ (a.kind = 6 ∨ a.kind = 7)) := by
  cases v with
  | sc kind text =>
    obtain ⟨b, hb, hk, _⟩ := h
    rw [ha] at hb
    cases hb
    have := nodeKind_range kind
    exact .inl ⟨rfl, by omega, by omega⟩
  | arr vs =>
    obtain ⟨b, hb, hk, _⟩ := h
    rw [ha] at hb
    cases hb
    exact .inr ⟨rfl, .inl hk⟩
  | tbl es =>
    obtain ⟨b, hb, hk, _⟩ := h
    rw [ha] at hb
    cases hb
    exact .inr ⟨rfl, .inr hk⟩

set_option maxRecDepth 100000 in
set_option maxHeartbeats 16000000 in
theorem ckArr (vs : List Val) (hvs : ∀ v ∈ vs, CkVC v) : CkVC (.arr vs) := by
  intro tb pp g id i ns t w hT hA hw hn hO hid hm
  simp only [NT] at hn
  obtain ⟨a, ha, hk, hch⟩ := hn
  have hlt := hT.lt
  have hchl := (hw i a ha).2.2.2
  simp only [cV] at hm
  simp only [ckV]
  obtain ⟨cur, hgc, hNL⟩ := hA.cells
  have c0 : w.cell? ⟨g, i * 7, none⟩ = some (.int .i64 a.kind) := cell_of hgc (by simpa using (hNL i a ha).kind)
  refine enter (L := [(0, .pointer (some ⟨tb, 0, none⟩)), (1, .int .i32 (id : Int)), (2, .pointer (some ⟨g, i * 7, none⟩))]) Tryz.func87 rfl rfl rfl ⟨rfl, rfl, rfl, trivial⟩ ?_
  repeat (first | refine WL.pp rfl ?_ | refine WL.ns ?_ | refine WC.sr ?_ | refine WC.dT rfl (by first | omega | decide) ?_ | refine WC.dF rfl (by first | omega | decide) ?_ | refine WL.ld rfl rfl c0 rfl ?_ | refine WC.seq ?_ | refine WC.block ?_)
  refine WL.call rfl rfl rfl (children_any pp g i ns a w hA ha hchl) ?_
  rintro e w1 ⟨rfl, hU1⟩
  refine ⟨_, _, rfl, rfl, ?_⟩
  refine WL.al rfl rfl rfl (fun w2 hA2 => ?_)
  refine WL.sg rfl rfl rfl (by simp [oneV, hptr]) hA2.at_ (by simp) rfl (fun w3 hS3 => ?_)
  generalize hit : w1.heap.size = it at *
  have hsz : w.heap.size ≤ it := by have := hU1.size; omega
  have hF3 : Fm tb [59, 145] w w3 := ((hU1.fm (Nat.le_refl _) (by omega)).trans (hA2.fm (by omega))).stN hS3 hsz (by omega)
  have hI3 : ItAt w3 it g ns a.child := .inl hS3.at_
  have hT3 : TS w3 tb t := hT.fm (B := 0) (T := []) (((hU1.fm (Nat.le_refl _) (Nat.zero_le _)).trans (hA2.fm (Nat.zero_le _))).stN hS3 hsz (Nat.zero_le _)) (by simp) (by simp) (by simp) (by simp) (by simp)
  have hA3 : AR w3 pp g ns := hA.fm hF3 (by simp) (by simp) (by simp)
  clear hS3 hA2 hU1 c0
  repeat (first | refine WL.ns ?_ | refine WC.block ?_)
  refine WC.loop (σ := Nat × List Val × List Ent) (I := fun s w' => ItAt w' it g ns s.1 ∧ NTs ns s.2.1 s.1 ∧ (∀ v ∈ s.2.1, CkVC v) ∧ TS w' tb ⟨s.2.2, t.cur⟩ ∧ AR w' pp g ns ∧ Fm tb [59, 145] w w' ∧ Ord s.2.2 ∧ id < s.2.2.length ∧ s.2.2.length + cIs s.2.1 ≤ 1000000000 ∧ ckIs s.2.1 s.2.2 id = ckIs vs t.ents id)
    (m := fun s => s.2.1.length) (Lf := fun s => [(0, .pointer (some ⟨tb, 0, none⟩)), (1, .int .i32 (id : Int)), (2, .pointer (some ⟨g, i * 7, none⟩)), (9, .pointer (some ⟨it, 0, none⟩))])
    (a.child, vs, t.ents) ⟨hI3, hch, hvs, hT3, hA3, hF3, hO, hid, hm, rfl⟩ ⟨rfl, rfl, rfl, rfl, trivial⟩ ?_
  clear hI3 hch hvs hT3 hA3 hF3 hO hid hm hT
  rintro ⟨h, us, es⟩ w4 ⟨hI, hch, hvs, hT, hA, hF, hO, hid, hm, hres⟩
  dsimp only at hI hch hvs hT hO hid hm hres ⊢
  rw [← hres]
  cases us with
  | nil =>
    have h0 : h = 0 := hch
    subst h0
    repeat (first | refine WC.sr ?_ | refine WC.seq ?_)
    refine WL.call rfl rfl rfl (iterStep pp g 0 it ns w4 hA hw (by omega) hI) ?_
    rintro e w5 ⟨rfl, wm, hSm, ⟨om, htm, hom⟩, hS5⟩
    rw [dc_not (by simp)]
    refine ⟨_, _, rfl, rfl, ?_⟩
    have hF45 := step_fm hSm hom htm hS5 rfl
    have hF5 : Fm tb [59, 145] w w5 := hF.step hSm hS5 hsz (by omega)
    repeat (first | refine WL.pp rfl ?_ | refine WL.ns ?_ | refine WC.sr ?_ | refine WC.bF rfl (by first | with_reducible rfl | exact Bool.not_true) ?_ | refine X.sn ?_ | refine X.sx ?_ | refine X.bn ?_ | refine X.bx ?_ | refine WC.exit ?_ | refine WC.ret ?_)
    simp only [ckIs]
    exact X.ret_ rfl rfl ⟨_, rfl, .inl ⟨rfl, rfl⟩, hT.fm hF45 (by simp) (by simp) (by simp) (by simp) (by simp), hF5⟩
  | cons v rest =>
    simp only [NTs] at hch
    obtain ⟨j, m, rfl, hj, hjv, hKr⟩ := hch
    have hjl := (List.getElem?_eq_some_iff.1 hj).1
    repeat (first | refine WC.sr ?_ | refine WC.seq ?_)
    refine WL.call rfl rfl rfl (iterStep pp g (j + 1) it ns w4 hA hw (by omega) hI) ?_
    rintro e w5 ⟨rfl, wm, hSm, ⟨om, htm, hom⟩, hS5⟩
    rw [dc_of (show j + 1 ≠ 0 by omega)]
    refine ⟨_, _, rfl, rfl, ?_⟩
    have hF45 := step_fm hSm hom htm hS5 rfl
    have hF5 : Fm tb [59, 145] w w5 := hF.step hSm hS5 hsz (by omega)
    have hT5 := hT.fm hF45 (by simp) (by simp) (by simp) (by simp) (by simp)
    have hA5 := hA.fm hF45 (by simp) (by simp) (by simp)
    have hit5 := hS5.at_
    rw [hptr_succ] at hit5
    have hI5 : ItAt w5 it g ns m.next := .inr ⟨j, m, hj, rfl, hS5.at_⟩
    clear hF45 hS5 hI hT hA hF hom hSm
    repeat (first | refine WL.ns ?_ | refine WC.sr ?_ | refine WC.bT rfl (by first | with_reducible rfl | exact Bool.not_false) ?_ | refine WC.block ?_ | refine X.sn ?_ | refine WC.skip ?_)
    refine WL.call rfl rfl rfl (iterNode_any _ _ it w5 hit5) ?_
    rintro e w6 ⟨rfl, rfl⟩
    refine ⟨_, _, rfl, rfl, ?_⟩
    obtain ⟨cur, hgc, hNL⟩ := hA5.cells
    have c0 : w6.cell? ⟨g, j * 7, none⟩ = some (.int .i64 m.kind) := cell_of hgc (by simpa using (hNL j m hj).kind)
    simp only [cIs] at hm
    have hrest : ∀ v ∈ rest, CkVC v := fun v hv => hvs v (by simp [hv])
    rcases Val.kind_of hjv hj with ⟨hs, hk6, hk7⟩ | ⟨hs, hk67⟩
    · have e1 : ckIs (v :: rest) es id = ckIs rest es id := by simp [ckIs, hs]
      repeat (first | refine WL.pp rfl ?_ | refine WL.ns ?_ | refine WC.sr ?_ | refine WC.dF rfl (by first | omega | decide) ?_ | refine WL.ld rfl rfl c0 rfl ?_ | refine WL.p rfl ?_ | refine X.bn ?_ | refine WC.skip ?_ | refine WL.gF rfl rfl (by first | omega | decide) ?_)
      exact X.again (m.next, rest, es) ⟨hI5, hKr, hrest, hT5, hA5, hF5, hO, hid, by simp only; omega, by rw [← e1, hres]⟩ (by simp) ⟨rfl, rfl, rfl, rfl, trivial⟩
    · have tail : ∀ (L : Env) (Q : Exit → Act → World → Prop), True := fun _ _ => trivial
      clear tail
      have hG := Grow.snoc hO (k := 5) (x := false) (nm := []) hid (by omega) (by omega)
      have hgr := ckV_grow v (es ++ [⟨id, 5, false, []⟩]) es.length hG.1 (by simp)
      have e1 : ∀ es' ok, ckV v (es ++ [⟨id, 5, false, []⟩]) es.length = (es', ok) → ckIs (v :: rest) es id = if ok then ckIs rest es' id else (es', false) := fun es' ok hh => by
        simp only [ckIs, hs, Bool.false_eq_true, if_false, hh]
        cases ok <;> rfl
      rcases hk67 with hk | hk
      all_goals
        repeat (first | refine WL.pp rfl ?_ | refine WL.ns ?_ | refine WC.sr ?_ | refine WC.bT rfl (by first | with_reducible rfl | exact Bool.not_false) ?_ | refine WC.dT rfl (by first | omega | decide) ?_ | refine WL.ld rfl rfl c0 rfl ?_ | refine WL.p rfl ?_ | refine WL.gT rfl rfl (by first | omega | decide) ?_ | refine WL.gF rfl rfl (by first | omega | decide) ?_)
        refine WL.call rfl rfl rfl (create_any tb id 5 false (.slice none 0 0) [] ⟨es, t.cur⟩ w6 hT5 ⟨none, 0, rfl, fun h => absurd rfl h⟩ (by omega) (by omega) (by simp only; omega)) ?_
        rintro e w9 ⟨rfl, hT9, hF9⟩
        refine ⟨_, _, rfl, rfl, ?_⟩
        simp only at hT9
        repeat (first | refine WL.pp rfl ?_ | refine WL.ns ?_ | refine WC.sr ?_)
        refine WL.call rfl rfl rfl (hvs v (by simp) tb pp g es.length j ns ⟨es ++ [⟨id, 5, false, []⟩], t.cur⟩ w9 hT9 (hA5.fm hF9 (by simp) (by simp) (by simp)) hw hjv hG.1 (by simp) (by simp; omega)) ?_
        rintro e w11 ⟨u, rfl, hu, hT11, hF11⟩
        refine ⟨_, _, rfl, rfl, ?_⟩
        simp only at hu hT11
        cases hr : ckV v (es ++ [⟨id, 5, false, []⟩]) es.length with
        | mk es' ok =>
          rw [hr] at hu hT11 hgr
          simp only at hu hT11 hgr
          have e1 := e1 _ _ hr
          rcases hu with ⟨hok, rfl⟩ | ⟨hok, p, rfl⟩
          · subst hok
            simp only [if_true] at e1
            repeat (first | refine WL.pp rfl ?_ | refine WL.ns ?_ | refine WC.sr ?_ | refine WC.bF rfl (by first | with_reducible rfl | exact Bool.not_true) ?_ | refine X.bn ?_ | refine WC.skip ?_)
            exact X.again (m.next, rest, es') ⟨(hI5.fm hF9 (by simp)).fm hF11 (by simp), hKr, hrest, hT11, (hA5.fm hF9 (by simp) (by simp) (by simp)).fm hF11 (by simp) (by simp) (by simp), (hF5.trans hF9).trans hF11, hgr.1, by have := hgr.2.1; simp at this ⊢; omega, by have := hgr.2.2; simp at this ⊢; omega, by rw [← e1, hres]⟩ (by simp) ⟨rfl, rfl, rfl, rfl, trivial⟩
          · subst hok
            simp only [Bool.false_eq_true, if_false] at e1
            rw [e1]
            repeat (first | refine WL.pp rfl ?_ | refine WL.ns ?_ | refine WC.sr ?_ | refine WC.bT rfl (by first | with_reducible rfl | exact Bool.not_false) ?_ | refine X.sr ?_ | refine X.br ?_ | refine WC.ret ?_)
            exact X.ret_ rfl rfl ⟨_, rfl, .inr ⟨rfl, _, rfl⟩, hT11, (hF5.trans hF9).trans hF11⟩

set_option maxRecDepth 100000 in
set_option maxHeartbeats 16000000 in
theorem ckTbl (ts : List (List Bs × Val)) (hvs : ∀ ks v, (ks, v) ∈ ts → CkVC v) (hks : KsOkE ts) : CkVC (.tbl ts) := by
  intro tb pp g id i ns t w hT hA hw hn hO hid hm
  simp only [NT] at hn
  obtain ⟨a, ha, hk, hch⟩ := hn
  have hlt := hT.lt
  have hchl := (hw i a ha).2.2.2
  simp only [cV] at hm
  simp only [ckV]
  obtain ⟨cur, hgc, hNL⟩ := hA.cells
  have c0 : w.cell? ⟨g, i * 7, none⟩ = some (.int .i64 a.kind) := cell_of hgc (by simpa using (hNL i a ha).kind)
  refine enter (L := [(0, .pointer (some ⟨tb, 0, none⟩)), (1, .int .i32 (id : Int)), (2, .pointer (some ⟨g, i * 7, none⟩))]) Tryz.func87 rfl rfl rfl ⟨rfl, rfl, rfl, trivial⟩ ?_
  repeat (first | refine WL.pp rfl ?_ | refine WL.ns ?_ | refine WC.sr ?_ | refine WC.dT rfl (by first | omega | decide) ?_ | refine WL.ld rfl rfl c0 rfl ?_ | refine WC.seq ?_ | refine WC.block ?_)
  refine WL.call rfl rfl rfl (children_any pp g i ns a w hA ha hchl) ?_
  rintro e w1 ⟨rfl, hU1⟩
  refine ⟨_, _, rfl, rfl, ?_⟩
  refine WL.al rfl rfl rfl (fun w2 hA2 => ?_)
  refine WL.sg rfl rfl rfl (by simp [oneV, hptr]) hA2.at_ (by simp) rfl (fun w3 hS3 => ?_)
  generalize hit : w1.heap.size = it at *
  have hsz : w.heap.size ≤ it := by have := hU1.size; omega
  have hF3 : Fm tb [59, 145] w w3 := ((hU1.fm (Nat.le_refl _) (by omega)).trans (hA2.fm (by omega))).stN hS3 hsz (by omega)
  have hI3 : ItAt w3 it g ns a.child := .inl hS3.at_
  have hT3 : TS w3 tb t := hT.fm (B := 0) (T := []) (((hU1.fm (Nat.le_refl _) (Nat.zero_le _)).trans (hA2.fm (Nat.zero_le _))).stN hS3 hsz (Nat.zero_le _)) (by simp) (by simp) (by simp) (by simp) (by simp)
  have hA3 : AR w3 pp g ns := hA.fm hF3 (by simp) (by simp) (by simp)
  clear hS3 hA2 hU1 c0
  repeat (first | refine WL.ns ?_ | refine WC.block ?_)
  refine WC.loop (σ := Nat × List (List Bs × Val) × List Ent) (I := fun s w' => ItAt w' it g ns s.1 ∧ NEs ns s.2.1 s.1 ∧ (∀ ks v, (ks, v) ∈ s.2.1 → CkVC v) ∧ KsOkE s.2.1 ∧ TS w' tb ⟨s.2.2, t.cur⟩ ∧ AR w' pp g ns ∧ Fm tb [59, 145] w w' ∧ Ord s.2.2 ∧ id < s.2.2.length ∧ s.2.2.length + cEs s.2.1 ≤ 1000000000 ∧ ckEs s.2.1 s.2.2 id = ckEs ts t.ents id)
    (m := fun s => s.2.1.length) (Lf := fun s => [(0, .pointer (some ⟨tb, 0, none⟩)), (1, .int .i32 (id : Int)), (2, .pointer (some ⟨g, i * 7, none⟩)), (7, .pointer (some ⟨it, 0, none⟩))])
    (a.child, ts, t.ents) ⟨hI3, hch, hvs, hks, hT3, hA3, hF3, hO, hid, hm, rfl⟩ ⟨rfl, rfl, rfl, rfl, trivial⟩ ?_
  clear hI3 hch hvs hks hT3 hA3 hF3 hO hid hm hT
  rintro ⟨h, us, es⟩ w4 ⟨hI, hch, hvs, hks, hT, hA, hF, hO, hid, hm, hres⟩
  dsimp only at hI hch hvs hks hT hO hid hm hres ⊢
  rw [← hres]
  cases us with
  | nil =>
    have h0 : h = 0 := hch
    subst h0
    repeat (first | refine WC.sr ?_ | refine WC.seq ?_)
    refine WL.call rfl rfl rfl (iterStep pp g 0 it ns w4 hA hw (by omega) hI) ?_
    rintro e w5 ⟨rfl, wm, hSm, ⟨om, htm, hom⟩, hS5⟩
    rw [dc_not (by simp)]
    refine ⟨_, _, rfl, rfl, ?_⟩
    have hF45 := step_fm hSm hom htm hS5 rfl
    have hF5 : Fm tb [59, 145] w w5 := hF.step hSm hS5 hsz (by omega)
    repeat (first | refine WL.pp rfl ?_ | refine WL.ns ?_ | refine WC.sr ?_ | refine WC.bF rfl (by first | with_reducible rfl | exact Bool.not_true) ?_ | refine X.sn ?_ | refine X.sx ?_ | refine X.bn ?_ | refine X.bx ?_ | refine WC.exit ?_ | refine WC.ret ?_)
    simp only [ckEs]
    exact X.ret_ rfl rfl ⟨_, rfl, .inl ⟨rfl, rfl⟩, hT.fm hF45 (by simp) (by simp) (by simp) (by simp) (by simp), hF5⟩
  | cons kv rest =>
    obtain ⟨ks, v⟩ := kv
    simp only [NEs] at hch
    obtain ⟨j, m, c, b, rfl, hj, hj5, hjc, hb, hjv, hKT, hKr⟩ := hch
    obtain ⟨hk1, hk2, hk3⟩ := hks
    have hjl := (List.getElem?_eq_some_iff.1 hj).1
    repeat (first | refine WC.sr ?_ | refine WC.seq ?_)
    refine WL.call rfl rfl rfl (iterStep pp g (j + 1) it ns w4 hA hw (by omega) hI) ?_
    rintro e w5 ⟨rfl, wm, hSm, ⟨om, htm, hom⟩, hS5⟩
    rw [dc_of (show j + 1 ≠ 0 by omega)]
    refine ⟨_, _, rfl, rfl, ?_⟩
    have hF45 := step_fm hSm hom htm hS5 rfl
    have hF5 : Fm tb [59, 145] w w5 := hF.step hSm hS5 hsz (by omega)
    have hT5 := hT.fm hF45 (by simp) (by simp) (by simp) (by simp) (by simp)
    have hA5 := hA.fm hF45 (by simp) (by simp) (by simp)
    have hit5 := hS5.at_
    rw [hptr_succ] at hit5
    have hI5 : ItAt w5 it g ns m.next := .inr ⟨j, m, hj, rfl, hS5.at_⟩
    clear hF45 hS5 hI hT hA hF hom hSm
    repeat (first | refine WL.pp rfl ?_ | refine WL.ns ?_ | refine WC.sr ?_ | refine WC.bT rfl (by first | with_reducible rfl | exact Bool.not_false) ?_ | refine WC.block ?_ | refine X.sn ?_ | refine WC.skip ?_)
    refine WL.call rfl rfl rfl (iterNode_any _ _ it w5 hit5) ?_
    rintro e w6 ⟨rfl, rfl⟩
    refine ⟨_, _, rfl, rfl, ?_⟩
    simp only [cEs] at hm
    have hrest : ∀ ks v, (ks, v) ∈ rest → CkVC v := fun ks v hv => hvs ks v (by simp [hv])
    have hgr := ckK_grow (f := ckV v) (m := cV v) (fun es id h hi => ckV_grow v es id h hi) ks es id hO hid
    have e1 : ∀ es' ok, ckK (ckV v) ks es id = (es', ok) → ckEs ((ks, v) :: rest) es id = if ok then ckEs rest es' id else (es', false) := fun es' ok hh => by
      simp only [ckEs, hh]
      cases ok <;> rfl
    skip
    refine WL.call rfl rfl rfl (ckKV_any v (hvs ks v (by simp)) ks tb pp g id j c ns ⟨es, t.cur⟩ m b w6 hT5 hA5 hw hj hj5 hjc hb hjv hKT hk1 hO hid (by simp only; omega)) ?_
    rintro e w11 ⟨u, rfl, hu, hT11, hF11⟩
    refine ⟨_, _, rfl, rfl, ?_⟩
    simp only at hu hT11
    cases hr : ckK (ckV v) ks es id with
    | mk es' ok =>
      rw [hr] at hu hT11 hgr
      simp only at hu hT11 hgr
      have e1 := e1 _ _ hr
      rcases hu with ⟨hok, rfl⟩ | ⟨hok, p, rfl⟩
      · subst hok
        simp only [if_true] at e1
        repeat (first | refine WL.pp rfl ?_ | refine WL.ns ?_ | refine WC.sr ?_ | refine WC.bF rfl (by first | with_reducible rfl | exact Bool.not_true) ?_ | refine X.bn ?_ | refine WC.skip ?_)
        exact X.again (m.next, rest, es') ⟨hI5.fm hF11 (by simp), hKr, hrest, hk3, hT11, hA5.fm hF11 (by simp) (by simp) (by simp), hF5.trans hF11, hgr.1, by have := hgr.2.1; simp at this ⊢; omega, by have := hgr.2.2; simp at this ⊢; omega, by rw [← e1, hres]⟩ (by simp) ⟨rfl, rfl, rfl, rfl, trivial⟩
      · subst hok
        simp only [Bool.false_eq_true, if_false] at e1
        rw [e1]
        repeat (first | refine WL.pp rfl ?_ | refine WL.ns ?_ | refine WC.sr ?_ | refine WC.bT rfl (by first | with_reducible rfl | exact Bool.not_false) ?_ | refine X.sr ?_ | refine X.br ?_ | refine WC.ret ?_)
        exact X.ret_ rfl rfl ⟨_, rfl, .inr ⟨rfl, _, rfl⟩, hT11, hF5.trans hF11⟩

mutual
theorem ckV_all : ∀ (v : Val), KsOk v → CkVC v
  | .sc k t, _ => ckSc k t
  | .arr vs, h => ckArr vs (ckV_allI vs (by simpa only [KsOk] using h))
  | .tbl ts, h => ckTbl ts (ckV_allE ts (by simpa only [KsOk] using h)) (by simpa only [KsOk] using h)
theorem ckV_allI : ∀ (vs : List Val), KsOks vs → ∀ v ∈ vs, CkVC v
  | [], _, v, hv => by simp at hv
  | u :: us, h, v, hv => by
    simp only [KsOks] at h
    rcases List.mem_cons.1 hv with e | hv
    · rw [e]; exact ckV_all u h.1
    · exact ckV_allI us h.2 v hv
theorem ckV_allE : ∀ (ts : List (List Bs × Val)), KsOkE ts → ∀ ks v, (ks, v) ∈ ts → CkVC v
  | [], _, ks, v, hv => by simp at hv
  | (ks', u) :: us, h, ks, v, hv => by
    simp only [KsOkE] at h
    rcases List.mem_cons.1 hv with e | hv
    · simp only [Prod.mk.injEq] at e
      rw [e.2]; exact ckV_all u h.2.1
    · exact ckV_allE us h.2.2 ks v hv
end
end Go.Proofs.YtaccphdkapmdhaaGreat

