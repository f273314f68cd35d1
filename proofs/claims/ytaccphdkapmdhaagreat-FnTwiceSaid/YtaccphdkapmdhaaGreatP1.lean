/- The grammar of the documents, as relations between texts and what they tell. Plain Lean, no program. The grammar of values and documents, step by step; what they are parsed into. Plain Lean, no program. How long texts and their nodes are. Plain Lean, no program. The nodes of an expression, seen as a tree. Plain Lean, no program. What the tracker does, as a function on lists; the first expression that is refused. Plain Lean, no program. No condition. -/
namespace Go.Proofs.YtaccphdkapmdhaaGreat

abbrev Bs := List UInt8

def isWs (c : UInt8) : Bool := decide (c.toNat = 32 ∨ c.toNat = 9)
def skipWs : Bs → Bs
  | [] => []
  | c :: l => if isWs c then skipWs l else c :: l

/-- The length of the well-formed sequence of more than one byte that begins here; 0 where none does. -/
def mbLen : Bs → Nat
  | c :: c1 :: l =>
    if 194 ≤ c.toNat ∧ c.toNat < 224 then (if 128 ≤ c1.toNat ∧ c1.toNat < 192 then 2 else 0)
    else match l with
    | c2 :: l' =>
      if 224 ≤ c.toNat ∧ c.toNat < 240 then
        (if 128 ≤ c2.toNat ∧ c2.toNat < 192 ∧ 128 ≤ c1.toNat ∧ c1.toNat < 192 ∧ (c.toNat = 224 → 160 ≤ c1.toNat) ∧ (c.toNat = 237 → c1.toNat < 160) then 3 else 0)
      else match l' with
      | c3 :: _ =>
        if 240 ≤ c.toNat ∧ c.toNat < 245 then
          (if 128 ≤ c2.toNat ∧ c2.toNat < 192 ∧ 128 ≤ c3.toNat ∧ c3.toNat < 192 ∧ 128 ≤ c1.toNat ∧ c1.toNat < 192 ∧ (c.toNat = 240 → 144 ≤ c1.toNat) ∧ (c.toNat = 244 → c1.toNat < 144) then 4 else 0)
        else 0
      | [] => 0
    | [] => 0
  | _ => 0

/-- A byte of its own that may stand in texts. -/
def plainB (c : UInt8) : Bool := decide (c.toNat = 9 ∨ (32 ≤ c.toNat ∧ c.toNat < 127))

/-- How many bytes the sign here has; 0 where none may stand. -/
def signLen : Bs → Nat
  | [] => 0
  | c :: l => if plainB c then 1 else if c.toNat < 128 then 0 else mbLen (c :: l)

/-- A remark, from its '#' on, to the end of its line. -/
inductive Cm : Bs → Bs → Prop
  | eof : Cm [] []
  | lf (r : Bs) : Cm (10 :: r) (10 :: r)
  | crlf (r : Bs) : Cm (13 :: 10 :: r) (13 :: 10 :: r)
  | sign {b r : Bs} (n : Nat) : signLen b = n → 0 < n → Cm (b.drop n) r → Cm b r

/-- The end of a line: nothing, or a newline. -/
inductive Nl : Bs → Bs → Prop
  | eof : Nl [] []
  | lf (r : Bs) : Nl (10 :: r) r
  | crlf (r : Bs) : Nl (13 :: 10 :: r) r

/-- The end of a line, with a remark or without. -/
inductive Eol : Bs → Bs → Prop
  | nl {b r : Bs} : Nl b r → Eol b r
  | cm {b r r' : Bs} : Cm (35 :: b) r → Nl r r' → Eol (35 :: b) r'

/-- Blanks, ends of lines and remarks, up to something else. -/
inductive Gap : Bs → Bs → Prop
  | stop {b : Bs} {c : UInt8} {r : Bs} : skipWs b = c :: r → c ≠ 10 → c ≠ 13 → c ≠ 35 → Gap b (c :: r)
  | lf {b r r' : Bs} : skipWs b = 10 :: r → Gap r r' → Gap b r'
  | crlf {b r r' : Bs} : skipWs b = 13 :: 10 :: r → Gap r r' → Gap b r'
  | cm {b c r r' r'' : Bs} : skipWs b = 35 :: c → Cm (35 :: c) r → r ≠ [] → Nl r r' → Gap r' r'' → Gap b r''

def isBare (c : UInt8) : Bool := decide ((48 ≤ c.toNat ∧ c.toNat ≤ 57) ∨ (97 ≤ c.toNat ∧ c.toNat ≤ 122) ∨ (65 ≤ c.toNat ∧ c.toNat ≤ 90) ∨ c.toNat = 95 ∨ c.toNat = 45)

/-- The bytes of a code point. -/
def utf8 (v : Nat) : Bs :=
  if v < 0x80 then [UInt8.ofNat v]
  else if v < 0x800 then [UInt8.ofNat (0xC0 + v / 64), UInt8.ofNat (0x80 + v % 64)]
  else if v < 0x10000 then [UInt8.ofNat (0xE0 + v / 4096), UInt8.ofNat (0x80 + v / 64 % 64), UInt8.ofNat (0x80 + v % 64)]
  else [UInt8.ofNat (0xF0 + v / 262144), UInt8.ofNat (0x80 + v / 4096 % 64), UInt8.ofNat (0x80 + v / 64 % 64), UInt8.ofNat (0x80 + v % 64)]

/-- What a figure of sixteen tells; 99 of others. -/
def hexv (c : UInt8) : Nat :=
  if 48 ≤ c.toNat ∧ c.toNat ≤ 57 then c.toNat - 48 else if 97 ≤ c.toNat ∧ c.toNat ≤ 102 then c.toNat - 87 else if 65 ≤ c.toNat ∧ c.toNat ≤ 70 then c.toNat - 55 else 99

def hexs (l : Bs) : Nat := l.foldl (fun v c => v * 16 + hexv c) 0

def escCh (c : UInt8) : Option UInt8 :=
  if c = 98 then some 8 else if c = 116 then some 9 else if c = 110 then some 10 else if c = 102 then some 12 else if c = 114 then some 13 else if c = 34 then some 34 else if c = 92 then some 92 else none

def okRune (v : Nat) : Prop := v ≤ 0x10FFFF ∧ ¬ (0xD800 ≤ v ∧ v < 0xE000)

/-- What stands behind a stroke: its bytes, the rest. -/
inductive Esc : Bs → Bs → Bs → Prop
  | ch {c x : UInt8} {r : Bs} : escCh c = some x → Esc (c :: r) [x] r
  | u {ds r : Bs} : ds.length = 4 → (∀ c ∈ ds, hexv c < 16) → okRune (hexs ds) → Esc (117 :: ds ++ r) (utf8 (hexs ds)) r
  | U {ds r : Bs} : ds.length = 8 → (∀ c ∈ ds, hexv c < 16) → okRune (hexs ds) → Esc (85 :: ds ++ r) (utf8 (hexs ds)) r

/-- A string between single quotes, behind the first. -/
inductive SLit : Bs → Bs → Bs → Prop
  | close (r : Bs) : SLit (39 :: r) [] r
  | sign {b out r : Bs} (n : Nat) : b.head? ≠ some 39 → signLen b = n → 0 < n → SLit (b.drop n) out r → SLit b (b.take n ++ out) r

/-- A string between double quotes, behind the first. -/
inductive SBas : Bs → Bs → Bs → Prop
  | close (r : Bs) : SBas (34 :: r) [] r
  | esc {b u b' out r : Bs} : Esc b u b' → SBas b' out r → SBas (92 :: b) (u ++ out) r
  | sign {b out r : Bs} (n : Nat) : b.head? ≠ some 34 → b.head? ≠ some 92 → signLen b = n → 0 < n → SBas (b.drop n) out r → SBas b (b.take n ++ out) r

/-- How many quotes (up to five) begin here. -/
def quotes (q : UInt8) : Bs → Nat
  | [] => 0
  | c :: l => if c = q then quotes q l + 1 else 0

/-- A string of several lines between single quotes, behind the first three (and a newline). -/
inductive MLit : Bs → Bs → Bs → Prop
  | close {b : Bs} (n : Nat) : quotes 39 b = n → 3 ≤ n → n ≤ 5 → MLit b (List.replicate (n - 3) 39) (b.drop n)
  | quote {b out r : Bs} (n : Nat) : quotes 39 b = n → 0 < n → n < 3 → MLit (b.drop n) out r → MLit b (List.replicate n 39 ++ out) r
  | lf {b out r : Bs} : MLit b out r → MLit (10 :: b) (10 :: out) r
  | crlf {b out r : Bs} : MLit b out r → MLit (13 :: 10 :: b) (13 :: 10 :: out) r
  | sign {b out r : Bs} (n : Nat) : b.head? ≠ some 39 → signLen b = n → 0 < n → MLit (b.drop n) out r → MLit b (b.take n ++ out) r

/-- What is passed over behind a stroke at the end of a line: blanks and newlines. -/
inductive Wsn : Bs → Bs → Prop
  | stop {b : Bs} : (∀ r, skipWs b ≠ 10 :: r) → (∀ r, skipWs b ≠ 13 :: 10 :: r) → Wsn b (skipWs b)
  | lf {b r r' : Bs} : skipWs b = 10 :: r → Wsn r r' → Wsn b r'
  | crlf {b r r' : Bs} : skipWs b = 13 :: 10 :: r → Wsn r r' → Wsn b r'

inductive MBas : Bs → Bs → Bs → Prop
  | close {b : Bs} (n : Nat) : quotes 34 b = n → 3 ≤ n → n ≤ 5 → MBas b (List.replicate (n - 3) 34) (b.drop n)
  | quote {b out r : Bs} (n : Nat) : quotes 34 b = n → 0 < n → n < 3 → MBas (b.drop n) out r → MBas b (List.replicate n 34 ++ out) r
  | lf {b out r : Bs} : MBas b out r → MBas (10 :: b) (10 :: out) r
  | crlf {b out r : Bs} : MBas b out r → MBas (13 :: 10 :: b) (13 :: 10 :: out) r
  | cont {b b' b'' out r : Bs} : skipWs b = 10 :: b' ∨ skipWs b = 13 :: 10 :: b' → Wsn b' b'' → MBas b'' out r → MBas (92 :: b) out r
  | esc {b u b' out r : Bs} : (∀ b', skipWs b ≠ 10 :: b') → (∀ b', skipWs b ≠ 13 :: 10 :: b') → Esc b u b' → MBas b' out r → MBas (92 :: b) (u ++ out) r
  | sign {b out r : Bs} (n : Nat) : b.head? ≠ some 34 → b.head? ≠ some 92 → signLen b = n → 0 < n → MBas (b.drop n) out r → MBas b (b.take n ++ out) r

/-- The text behind a newline that stands right behind three quotes. -/
def trimNl : Bs → Bs
  | 10 :: r => r
  | 13 :: 10 :: r => r
  | b => b

/-- A part of a key. -/
inductive KP : Bs → Bs → Bs → Prop
  | bare {l r : Bs} : l ≠ [] → (∀ c ∈ l, isBare c = true) → (∀ c, r.head? = some c → isBare c = false) → KP (l ++ r) l r
  | lit {b out r : Bs} : SLit b out r → KP (39 :: b) out r
  | bas {b out r : Bs} : SBas b out r → KP (34 :: b) out r

/-- A key with its points: blanks ahead and behind are passed over. -/
inductive Ks : Bs → List Bs → Bs → Prop
  | one {b k r : Bs} : KP (skipWs b) k r → (skipWs r).head? ≠ some 46 → Ks b [k] (skipWs r)
  | dot {b k r r' r'' : Bs} {ks : List Bs} : KP (skipWs b) k r → skipWs r = 46 :: r' → Ks r' ks r'' → Ks b (k :: ks) r''

/-- The byte at a place; 0 where there is none. -/
def pk (b : Bs) (n : Nat) : UInt8 := b.getD n 0

def isDig (c : UInt8) : Bool := decide (48 ≤ c.toNat ∧ c.toNat ≤ 57)

/-- How many figures below a base begin here. -/
def digs (base : Nat) : Bs → Nat
  | [] => 0
  | c :: l => if hexv c < base then digs base l + 1 else 0

/-- A number of figures below a base, with strokes between them: its length. -/
inductive Grp (base : Nat) : Bs → Nat → Prop
  | one {b : Bs} {k : Nat} : digs base b = k → 0 < k → (b.drop k).head? ≠ some 95 → Grp base b k
  | more {b b' : Bs} {k n : Nat} : digs base b = k → 0 < k → b.drop k = 95 :: b' → Grp base b' n → Grp base b (k + 1 + n)

/-- So many figures of ten at a place. -/
def digsAt (b : Bs) (n k : Nat) : Prop := ∀ i, i < k → isDig (pk b (n + i)) = true

/-- A time of a day, from place n on: its length. -/
inductive Clk (b : Bs) (n : Nat) : Nat → Prop
  | plain : digsAt b n 2 → pk b (n + 2) = 58 → digsAt b (n + 3) 2 → pk b (n + 5) = 58 → digsAt b (n + 6) 2 → pk b (n + 8) ≠ 46 → Clk b n 8
  | frac (f : Nat) : digsAt b n 2 → pk b (n + 2) = 58 → digsAt b (n + 3) 2 → pk b (n + 5) = 58 → digsAt b (n + 6) 2 → pk b (n + 8) = 46 → digs 10 (b.drop (n + 9)) = f → 0 < f → Clk b n (9 + f)

def isDateB (b : Bs) : Prop := digsAt b 0 4 ∧ pk b 4 = 45
def isTimeB (b : Bs) : Prop := digsAt b 0 2 ∧ pk b 2 = 58

def signAt (b : Bs) : Nat := if pk b 0 = 43 ∨ pk b 0 = 45 then 1 else 0

/-- A number, a date or a time: its kind, its length. -/
inductive Num (b : Bs) : Nat → Nat → Prop
  | date : isDateB b → digsAt b 5 2 → pk b 7 = 45 → digsAt b 8 2 → pk b 10 ≠ 84 → pk b 10 ≠ 116 → (pk b 10 = 32 → ¬ digsAt b 11 2) → Num b 6 10
  | dateTime {k : Nat} : isDateB b → digsAt b 5 2 → pk b 7 = 45 → digsAt b 8 2 → (pk b 10 = 84 ∨ pk b 10 = 32) → Clk b 11 k → pk b (11 + k) ≠ 90 → pk b (11 + k) ≠ 122 → pk b (11 + k) ≠ 43 → pk b (11 + k) ≠ 45 → Num b 5 (11 + k)
  | offZ {k : Nat} : isDateB b → digsAt b 5 2 → pk b 7 = 45 → digsAt b 8 2 → (pk b 10 = 84 ∨ pk b 10 = 32) → Clk b 11 k → pk b (11 + k) = 90 → Num b 4 (12 + k)
  | offN {k : Nat} : isDateB b → digsAt b 5 2 → pk b 7 = 45 → digsAt b 8 2 → (pk b 10 = 84 ∨ pk b 10 = 32) → Clk b 11 k → (pk b (11 + k) = 43 ∨ pk b (11 + k) = 45) →
      digsAt b (12 + k) 2 → pk b (14 + k) = 58 → digsAt b (15 + k) 2 → Num b 4 (17 + k)
  | time {k : Nat} : ¬ isDateB b → isTimeB b → Clk b 0 k → Num b 7 k
  | radix {c : UInt8} {base n : Nat} {r : Bs} : b = 48 :: c :: r → ((c = 120 ∧ base = 16) ∨ (c = 111 ∧ base = 8) ∨ (c = 98 ∧ base = 2)) → Grp base r n → Num b 1 (2 + n)
  | inf : b.drop (signAt b) = 105 :: 110 :: 102 :: b.drop (signAt b + 3) → Num b 2 (signAt b + 3)
  | nan : b.drop (signAt b) = 110 :: 97 :: 110 :: b.drop (signAt b + 3) → Num b 2 (signAt b + 3)
  | dec {k f e : Nat} {kind : Nat} : ¬ isDateB b → ¬ isTimeB b → ¬ (pk b 0 = 48 ∧ (pk b 1 = 120 ∨ pk b 1 = 111 ∨ pk b 1 = 98)) →
      Grp 10 (b.drop (signAt b)) k → (pk b (signAt b) = 48 → k = 1) →
      ((pk b (signAt b + k) ≠ 46 ∧ f = 0) ∨ ∃ g, pk b (signAt b + k) = 46 ∧ Grp 10 (b.drop (signAt b + k + 1)) g ∧ f = 1 + g) →
      ((pk b (signAt b + k + f) ≠ 101 ∧ pk b (signAt b + k + f) ≠ 69 ∧ e = 0) ∨
        ∃ m g, (pk b (signAt b + k + f) = 101 ∨ pk b (signAt b + k + f) = 69) ∧ (m = if pk b (signAt b + k + f + 1) = 43 ∨ pk b (signAt b + k + f + 1) = 45 then 2 else 1) ∧ Grp 10 (b.drop (signAt b + k + f + m)) g ∧ e = m + g) →
      kind = (if f = 0 ∧ e = 0 then 1 else 2) → Num b kind (signAt b + k + f + e)

/-- A value: of lists their values, of tables values with their keys. -/
inductive Val where
  | sc (kind : Nat) (text : Bs)
  | arr (items : List Val)
  | tbl (items : List (List Bs × Val))

mutual
/-- A value, so deep. -/
inductive V : Nat → Bs → Val → Bs → Prop
  | str {d : Nat} {b out r : Bs} : d ≤ 50 → SBas b out r → (∀ r', b ≠ 34 :: 34 :: r') → V d (34 :: b) (.sc 0 out) r
  | lit {d : Nat} {b out r : Bs} : d ≤ 50 → SLit b out r → (∀ r', b ≠ 39 :: 39 :: r') → V d (39 :: b) (.sc 0 out) r
  | mstr {d : Nat} {b out r : Bs} : d ≤ 50 → MBas (trimNl b) out r → V d (34 :: 34 :: 34 :: b) (.sc 0 out) r
  | mlit {d : Nat} {b out r : Bs} : d ≤ 50 → MLit (trimNl b) out r → V d (39 :: 39 :: 39 :: b) (.sc 0 out) r
  | tru {d : Nat} {r : Bs} : d ≤ 50 → V d (116 :: 114 :: 117 :: 101 :: r) (.sc 3 [116, 114, 117, 101]) r
  | fls {d : Nat} {r : Bs} : d ≤ 50 → V d (102 :: 97 :: 108 :: 115 :: 101 :: r) (.sc 3 [102, 97, 108, 115, 101]) r
  | num {d : Nat} {b : Bs} {kind n : Nat} : d ≤ 50 → Num b kind n → V d b (.sc kind (b.take n)) (b.drop n)
  | arr {d : Nat} {b r : Bs} {vs : List Val} : d ≤ 50 → Arr (d + 1) b vs r → V d (91 :: b) (.arr vs) r
  | tbl0 {d : Nat} {b r : Bs} : d ≤ 50 → skipWs b = 125 :: r → V d (123 :: b) (.tbl []) r
  | tbl {d : Nat} {b r : Bs} {vs : List (List Bs × Val)} : d ≤ 50 → Tb (d + 1) b vs r → V d (123 :: b) (.tbl vs) r
/-- The values of a list, behind its opening or behind a comma. -/
inductive Arr : Nat → Bs → List Val → Bs → Prop
  | close {d : Nat} {b r : Bs} : Gap b (93 :: r) → Arr d b [] r
  | last {d : Nat} {b b1 b2 r : Bs} {v : Val} : Gap b b1 → b1.head? ≠ some 93 → V d b1 v b2 → Gap b2 (93 :: r) → Arr d b [v] r
  | more {d : Nat} {b b1 b2 b3 r : Bs} {v : Val} {vs : List Val} : Gap b b1 → b1.head? ≠ some 93 → V d b1 v b2 → Gap b2 (44 :: b3) → Arr d b3 vs r → Arr d b (v :: vs) r
/-- The entries of a table between braces. -/
inductive Tb : Nat → Bs → List (List Bs × Val) → Bs → Prop
  | last {d : Nat} {b b1 b2 r : Bs} {ks : List Bs} {v : Val} : Ks b ks (61 :: b1) → V d (skipWs b1) v b2 → skipWs b2 = 125 :: r → Tb d b [(ks, v)] r
  | more {d : Nat} {b b1 b2 b3 r : Bs} {ks : List Bs} {v : Val} {vs : List (List Bs × Val)} : Ks b ks (61 :: b1) → V d (skipWs b1) v b2 → skipWs b2 = 44 :: b3 → Tb d b3 vs r → Tb d b ((ks, v) :: vs) r
end

/-- An expression of a document. -/
inductive Ex where
  | kv (keys : List Bs) (v : Val)
  | tab (keys : List Bs)
  | atab (keys : List Bs)

/-- An expression, up to the end of its line. -/
inductive ExAt : Bs → Ex → Bs → Prop
  | tab {b r : Bs} {ks : List Bs} : b.head? ≠ some 91 → Ks b ks (93 :: r) → ExAt (91 :: b) (.tab ks) r
  | atab {b r : Bs} {ks : List Bs} : Ks b ks (93 :: 93 :: r) → ExAt (91 :: 91 :: b) (.atab ks) r
  | kv {b b1 r : Bs} {ks : List Bs} {v : Val} : b.head? ≠ some 91 → Ks b ks (61 :: b1) → V 0 (skipWs b1) v r → ExAt b (.kv ks v) r

/-- A document. -/
inductive Doc : Bs → List Ex → Prop
  | done : Doc [] []
  | blank {b b' : Bs} {es : List Ex} : Eol (skipWs b) b' → b ≠ [] → Doc b' es → Doc b es
  | expr {b b1 b2 : Bs} {e : Ex} {es : List Ex} : ExAt (skipWs b) e b1 → Eol (skipWs b1) b2 → Doc b2 es → Doc b (e :: es)

end Go.Proofs.YtaccphdkapmdhaaGreat

namespace Go.Proofs.YtaccphdkapmdhaaGreat

/-- What may stand right behind a number. -/
def Fol (r : Bs) : Prop := r = [] ∨ ∃ c t, r = c :: t ∧ (c.toNat = 9 ∨ c.toNat = 10 ∨ c.toNat = 13 ∨ c.toNat = 32 ∨ c.toNat = 35 ∨ c.toNat = 44 ∨ c.toNat = 93 ∨ c.toNat = 125)

mutual
/-- A value, so deep. 'f': any; else the number 7, lists and tables alone. -/
inductive VV (f : Bool) : Nat → Bs → Val → Bs → Prop
  | seven {d : Nat} {r : Bs} : d ≤ 60 → Fol r → VV f d (55 :: r) (.sc 1 [55]) r
  | str {d : Nat} {b out r : Bs} : f = true → d ≤ 60 → SBas b out r → (∀ r', b ≠ 34 :: 34 :: r') → VV f d (34 :: b) (.sc 0 out) r
  | lit {d : Nat} {b out r : Bs} : f = true → d ≤ 60 → SLit b out r → (∀ r', b ≠ 39 :: 39 :: r') → VV f d (39 :: b) (.sc 0 out) r
  | mstr {d : Nat} {b out r : Bs} : f = true → d ≤ 60 → MBas (trimNl b) out r → VV f d (34 :: 34 :: 34 :: b) (.sc 0 out) r
  | mlit {d : Nat} {b out r : Bs} : f = true → d ≤ 60 → MLit (trimNl b) out r → VV f d (39 :: 39 :: 39 :: b) (.sc 0 out) r
  | tru {d : Nat} {r : Bs} : f = true → d ≤ 60 → VV f d (116 :: 114 :: 117 :: 101 :: r) (.sc 3 [116, 114, 117, 101]) r
  | fls {d : Nat} {r : Bs} : f = true → d ≤ 60 → VV f d (102 :: 97 :: 108 :: 115 :: 101 :: r) (.sc 3 [102, 97, 108, 115, 101]) r
  | num {d : Nat} {b : Bs} {kind n : Nat} : f = true → d ≤ 60 → Num b kind n → Fol (b.drop n) → VV f d b (.sc kind (b.take n)) (b.drop n)
  | arr {d : Nat} {b r : Bs} {vs : List Val} : d ≤ 60 → VA f (d + 1) false b vs r → VV f d (91 :: b) (.arr vs) r
  | tbl {d : Nat} {b r : Bs} {vs : List (List Bs × Val)} : d ≤ 60 → VT f (d + 1) false b vs r → VV f d (123 :: b) (.tbl vs) r
/-- The rest of a list: behind a value (true), or behind its opening or a comma. -/
inductive VA (f : Bool) : Nat → Bool → Bs → List Val → Bs → Prop
  | close {d : Nat} {a : Bool} {b r : Bs} : skipWs b = 93 :: r → VA f d a b [] r
  | lf {d : Nat} {a : Bool} {b b' r : Bs} {vs : List Val} : skipWs b = 10 :: b' → VA f d a b' vs r → VA f d a b vs r
  | crlf {d : Nat} {a : Bool} {b b' r : Bs} {vs : List Val} : skipWs b = 13 :: 10 :: b' → VA f d a b' vs r → VA f d a b vs r
  | cm {d : Nat} {a : Bool} {b c b' r : Bs} {vs : List Val} : skipWs b = 35 :: c → Cm (35 :: c) b' → VA f d a b' vs r → VA f d a b vs r
  | comma {d : Nat} {b b' r : Bs} {vs : List Val} : skipWs b = 44 :: b' → VA f d false b' vs r → VA f d true b vs r
  | val {d : Nat} {b b1 b2 r : Bs} {c : UInt8} {v : Val} {vs : List Val} : skipWs b = c :: b1 → (c.toNat ≠ 93 ∧ c.toNat ≠ 10 ∧ c.toNat ≠ 13 ∧ c.toNat ≠ 35 ∧ c.toNat ≠ 44) → VV f d (c :: b1) v b2 → VA f d true b2 vs r → VA f d false b (v :: vs) r
/-- The rest of a table between braces. -/
inductive VT (f : Bool) : Nat → Bool → Bs → List (List Bs × Val) → Bs → Prop
  | close {d : Nat} {a : Bool} {b r : Bs} : skipWs b = 125 :: r → VT f d a b [] r
  | comma {d : Nat} {b b' r : Bs} {vs : List (List Bs × Val)} : skipWs b = 44 :: b' → VT f d false b' vs r → VT f d true b vs r
  | ent {d : Nat} {b b1 b2 r : Bs} {ks : List Bs} {v : Val} {vs : List (List Bs × Val)} : Ks b ks (61 :: b1) → VV f d (skipWs b1) v b2 → VT f d true b2 vs r → VT f d false b ((ks, v) :: vs) r
end

/-- An expression, up to the end of its line. -/
inductive EX (f : Bool) : Bs → Ex → Bs → Prop
  | tab {b r : Bs} {ks : List Bs} : b.head? ≠ some 91 → Ks b ks (93 :: r) → EX f (91 :: b) (.tab ks) r
  | atab {b r : Bs} {ks : List Bs} : Ks b ks (93 :: 93 :: r) → EX f (91 :: 91 :: b) (.atab ks) r
  | kv {c : UInt8} {b b1 r : Bs} {ks : List Bs} {v : Val} : Ks (c :: b) ks (61 :: b1) → VV f 0 (skipWs b1) v r → EX f (c :: b) (.kv ks v) r

/-- A document. -/
inductive DOC (f : Bool) : Bs → List Ex → Prop
  | done {b : Bs} : skipWs b = [] → DOC f b []
  | blank {b b' : Bs} {es : List Ex} : skipWs b ≠ [] → Eol (skipWs b) b' → DOC f b' es → DOC f b es
  | expr {b c b1 b2 : Bs} {h : UInt8} {e : Ex} {es : List Ex} : skipWs b = h :: c → EX f (h :: c) e b1 → Eol (skipWs b1) b2 → DOC f b2 es → DOC f b (e :: es)

/-! ### What values are parsed into -/
/-- A node: its kind, its text where it counts, the next one and the first below it (0: none; else one more than the index). -/
structure ANode where
  kind : Nat
  data : Option Bs
  next : Nat
  child : Nat

/-- The nodes of a key, behind so many others. -/
def keyNodes : Nat → List Bs → List ANode
  | _, [] => []
  | _, [s] => [⟨2, some s, 0, 0⟩]
  | k, s :: t :: l => ⟨2, some s, k + 2, 0⟩ :: keyNodes (k + 1) (t :: l)

def setN : List ANode → Nat → List ANode
  | [], _ => []
  | a :: l, n => { a with next := n } :: l

/-- Things side by side, each a row of nodes whose first one is its root. -/
def forest : Nat → List (Nat → List ANode) → List ANode
  | _, [] => []
  | k, [x] => x k
  | k, x :: y :: l => setN (x k) (k + (x k).length + 1) ++ forest (k + (x k).length) (y :: l)

def nodeKind : Nat → Nat
  | 0 => 8 | 1 => 11 | 2 => 10 | 3 => 9 | 4 => 15 | 5 => 14 | 6 => 12 | _ => 13

def encE (ks : List Bs) (x : Nat → List ANode) (k : Nat) : List ANode := ⟨5, none, 0, k + ks.length + 2⟩ :: (keyNodes (k + 1) ks ++ setN (x (k + 1 + ks.length)) (k + 2))

mutual
def encV : Val → Nat → List ANode
  | .sc kind text, _ => [⟨nodeKind kind, some text, 0, 0⟩]
  | .arr vs, k => ⟨6, none, 0, if vs.isEmpty then 0 else k + 2⟩ :: forest (k + 1) (encIs vs)
  | .tbl es, k => ⟨7, none, 0, if es.isEmpty then 0 else k + 2⟩ :: forest (k + 1) (encEs es)
def encIs : List Val → List (Nat → List ANode)
  | [] => []
  | v :: vs => encV v :: encIs vs
def encEs : List (List Bs × Val) → List (Nat → List ANode)
  | [] => []
  | (ks, v) :: es => encE ks (encV v) :: encEs es
end

theorem keyNodes_length : ∀ (l : List Bs) (k : Nat), (keyNodes k l).length = l.length
  | [], _ => rfl
  | [_], _ => rfl
  | _ :: t :: l, k => by simp [keyNodes, keyNodes_length (t :: l) (k + 1)]

theorem setN_length (l : List ANode) (n : Nat) : (setN l n).length = l.length := by cases l <;> rfl

theorem forest_length : ∀ (l : List (Nat → List ANode)) (k : Nat), l ≠ [] → ∀ x ∈ l.head?, (x k).length ≤ (forest k l).length
  | [], _, h, _, _ => absurd rfl h
  | [x], k, _, y, hy => by simp at hy; subst hy; simp [forest]
  | x :: z :: l, k, _, y, hy => by simp at hy; subst hy; simp [forest, setN_length]

/-- Where the last of them begins. -/
def lastAt : Nat → List (Nat → List ANode) → Nat
  | k, [] => k
  | k, [_] => k
  | k, x :: y :: l => lastAt (k + (x k).length) (y :: l)

theorem lastAt_ge : ∀ (l : List (Nat → List ANode)) (k : Nat), k ≤ lastAt k l
  | [], _ => Nat.le_refl _
  | [_], _ => Nat.le_refl _
  | x :: y :: l, k => Nat.le_trans (by omega) (lastAt_ge (y :: l) (k + (x k).length))

theorem forest_snoc : ∀ (ds : List (Nat → List ANode)) (k : Nat) (x : Nat → List ANode), ds ≠ [] → (∀ y ∈ ds, ∀ j, ∃ (a : ANode) (l : List ANode), y j = a :: l) →
    ∃ (a : ANode), (forest k ds)[lastAt k ds - k]? = some a ∧
      (forest k ds ++ x (k + (forest k ds).length)).set (lastAt k ds - k) { a with next := k + (forest k ds).length + 1 } = forest k (ds ++ [x]) ∧
      lastAt k (ds ++ [x]) = k + (forest k ds).length
  | [], _, _, h, _ => absurd rfl h
  | [y], k, x, _, hy => by
    obtain ⟨a, l, h⟩ := hy y (by simp) k
    refine ⟨a, by simp [forest, lastAt, h], ?_, by simp [forest, lastAt]⟩
    simp [forest, lastAt, h, setN]
  | y :: z :: ds, k, x, _, hy => by
    obtain ⟨a, h1, h2, h3⟩ := forest_snoc (z :: ds) (k + (y k).length) x (by simp) (fun u hu => hy u (by simp [hu]))
    have hge := lastAt_ge (z :: ds) (k + (y k).length)
    have e1 : lastAt (k + (y k).length) (z :: ds) - k = (setN (y k) (k + (y k).length + 1)).length + (lastAt (k + (y k).length) (z :: ds) - (k + (y k).length)) := by rw [setN_length]; omega
    have e2 : k + (forest k (y :: z :: ds)).length = k + (y k).length + (forest (k + (y k).length) (z :: ds)).length := by
      simp only [forest, List.length_append, setN_length]; omega
    refine ⟨a, ?_, ?_, ?_⟩
    · simp only [forest, lastAt]
      rw [e1, List.getElem?_append_right (by omega), Nat.add_sub_cancel_left]
      exact h1
    · rw [e2]
      simp only [forest, lastAt, List.cons_append] at h2 ⊢
      rw [e1, List.append_assoc, List.set_append_right _ _ (by omega), Nat.add_sub_cancel_left]
      rw [h2]
    · rw [e2]
      simp only [lastAt, List.cons_append] at h3 ⊢
      exact h3

theorem encV_cons : ∀ (v : Val) (k : Nat), ∃ (a : ANode) (l : List ANode), encV v k = a :: l ∧ a.next = 0
  | .sc _ _, _ => ⟨_, _, by rw [encV], rfl⟩
  | .arr _, _ => ⟨_, _, by rw [encV], rfl⟩
  | .tbl _, _ => ⟨_, _, by rw [encV], rfl⟩

theorem encIs_app : ∀ (a b : List Val), encIs (a ++ b) = encIs a ++ encIs b
  | [], b => by simp [encIs]
  | v :: a, b => by simp [encIs, encIs_app a b]
theorem encEs_app : ∀ (a b : List (List Bs × Val)), encEs (a ++ b) = encEs a ++ encEs b
  | [], b => by simp [encEs]
  | (ks, v) :: a, b => by simp [encEs, encEs_app a b]
theorem encIs_cons : ∀ (l : List Val), ∀ y ∈ encIs l, ∀ j, ∃ (a : ANode) (t : List ANode), y j = a :: t
  | [], y, hy => by simp [encIs] at hy
  | v :: l, y, hy => by
    simp only [encIs, List.mem_cons] at hy
    rcases hy with rfl | hy
    · exact fun j => let ⟨a, t, h, _⟩ := encV_cons v j; ⟨a, t, h⟩
    · exact encIs_cons l y hy
theorem encEs_cons : ∀ (l : List (List Bs × Val)), ∀ y ∈ encEs l, ∀ j, ∃ (a : ANode) (t : List ANode), y j = a :: t
  | [], y, hy => by simp [encEs] at hy
  | (ks, v) :: l, y, hy => by
    simp only [encEs, List.mem_cons] at hy
    rcases hy with rfl | hy
    · exact fun j => ⟨_, _, rfl⟩
    · exact encEs_cons l y hy
end Go.Proofs.YtaccphdkapmdhaaGreat

namespace Go.Proofs.YtaccphdkapmdhaaGreat

theorem skipWs_le : ∀ (b : Bs), (skipWs b).length ≤ b.length
  | [] => Nat.le_refl _
  | c :: l => by
    unfold skipWs
    split
    · have := skipWs_le l; simp only [List.length_cons]; omega
    · exact Nat.le_refl _

theorem signLen_le (b : Bs) : signLen b ≤ b.length ∨ signLen b ≤ 4 := .inr (by
  unfold signLen
  split
  · omega
  · split
    · omega
    · split
      · omega
      · unfold mbLen
        (repeat' split) <;> omega)

theorem SLit.lt : ∀ {b o r : Bs}, SLit b o r → r.length < b.length := by
  intro b o r h
  induction h with
  | close r => simp
  | @sign b out r n h1 h2 h3 h4 ih =>
    rw [List.length_drop] at ih; omega

theorem Esc.lt' {b u b' : Bs} (h : Esc b u b') : b'.length < b.length := by
  cases h with
  | ch => simp
  | u h1 => simp; omega
  | U h1 => simp; omega

theorem SBas.lt : ∀ {b o r : Bs}, SBas b o r → r.length < b.length := by
  intro b o r h
  induction h with
  | close r => simp
  | @esc b u b' out r h1 h2 ih =>
    have := h1.lt'
    simp only [List.length_cons]; omega
  | @sign b out r n h1 h1' h2 h3 h4 ih =>
    rw [List.length_drop] at ih; omega

theorem KP.lt {b k r : Bs} (h : KP b k r) : r.length < b.length := by
  cases h with
  | bare h1 h2 h3 => have := List.length_pos_iff.2 h1; simp; omega
  | lit h => have := h.lt; simp only [List.length_cons]; omega
  | bas h => have := h.lt; simp only [List.length_cons]; omega

theorem Ks.len : ∀ {b r : Bs} {ks : List Bs}, Ks b ks r → ks.length + r.length ≤ b.length ∧ ks ≠ [] := by
  intro b r ks h
  induction h with
  | @one b k r h1 h2 =>
    have := h1.lt
    have := skipWs_le b
    have := skipWs_le r
    exact ⟨by simp only [List.length_singleton]; omega, by simp⟩
  | @dot b k r r' r'' ks h1 h2 h3 ih =>
    have := h1.lt
    have h4 := skipWs_le b
    have h5 := skipWs_le r
    rw [h2] at h5
    simp only [List.length_cons] at h5 ⊢
    exact ⟨by have := ih.1; omega, by simp⟩

theorem Cm.le : ∀ {b r : Bs}, Cm b r → r.length ≤ b.length := by
  intro b r h
  induction h with
  | eof => exact Nat.le_refl _
  | lf => exact Nat.le_refl _
  | crlf => exact Nat.le_refl _
  | @sign b r n h1 h2 h3 ih => rw [List.length_drop] at ih; omega

/-- So many nodes in all. -/
def fsum : Nat → List (Nat → List ANode) → Nat := fun k l => (forest k l).length

theorem forest_cons (k : Nat) (x : Nat → List ANode) (l : List (Nat → List ANode)) : (forest k (x :: l)).length = (x k).length + (forest (k + (x k).length) l).length := by
  cases l with
  | nil => simp [forest]
  | cons y l => simp [forest, setN_length]

theorem encE_length (ks : List Bs) (x : Nat → List ANode) (k : Nat) : (encE ks x k).length = 1 + ks.length + (x (k + 1 + ks.length)).length := by
  simp only [encE, List.length_cons, List.length_append, keyNodes_length, setN_length]; omega

theorem cm_pos {c b : Bs} (h : Cm (35 :: c) b) : b.length < (35 :: c).length := by
  cases h with
  | sign n h1 h2 h3 =>
    have := h3.le
    rw [List.length_drop] at this
    simp only [List.length_cons] at *
    omega

theorem VV.len {f : Bool} {d : Nat} {b r : Bs} {v : Val} (h : VV f d b v r) (hf : f = false) : ∀ k, (encV v k).length + 3 * r.length ≤ 3 * b.length := by
  refine VV.rec (f := f) (motive_1 := fun d b v r _ => ∀ k, (encV v k).length + 3 * r.length ≤ 3 * b.length) (motive_2 := fun d a b vs r _ => ∀ k, (forest k (encIs vs)).length + 3 * r.length ≤ 3 * b.length)
    (motive_3 := fun d a b es r _ => ∀ k, (forest k (encEs es)).length + 3 * r.length ≤ 3 * b.length) ?_ ?_ ?_ ?_ ?_ ?_ ?_ ?_ ?_ ?_ ?_ ?_ ?_ ?_ ?_ ?_ ?_ ?_ ?_ h
  · intro d r h1 h2 k; simp only [encV, List.length_cons, List.length_nil]; omega
  · intros; simp_all
  · intros; simp_all
  · intros; simp_all
  · intros; simp_all
  · intros; simp_all
  · intros; simp_all
  · intros; simp_all
  · intro d b r vs h1 h2 ih k
    have := ih (k + 1)
    simp only [encV, List.length_cons]; omega
  · intro d b r vs h1 h2 ih k
    have := ih (k + 1)
    simp only [encV, List.length_cons]; omega
  · intro d a b r h1 k
    have := skipWs_le b
    rw [h1] at this
    simp only [encIs, forest, List.length_nil, List.length_cons] at *; omega
  · intro d a b b' r vs h1 h2 ih k
    have h3 := ih k
    have := skipWs_le b
    rw [h1] at this
    simp only [List.length_cons] at *; omega
  · intro d a b b' r vs h1 h2 ih k
    have h3 := ih k
    have := skipWs_le b
    rw [h1] at this
    simp only [List.length_cons] at *; omega
  · intro d a b c b' r vs h1 h2 h4 ih k
    have h3 := ih k
    have := skipWs_le b
    have h5 := h2.le
    rw [h1] at this
    omega
  · intro d b b' r vs h1 h2 ih k
    have h3 := ih k
    have := skipWs_le b
    rw [h1] at this
    simp only [List.length_cons] at *; omega
  · intro d b b1 b2 r c v vs h1 h2 h3 h4 ih1 ih2 k
    have h5 := ih1 k
    have h6 := ih2 (k + (encV v k).length)
    have := skipWs_le b
    rw [h1] at this
    rw [encIs, forest_cons]
    omega
  · intro d a b r h1 k
    have := skipWs_le b
    rw [h1] at this
    simp only [encEs, forest, List.length_nil, List.length_cons] at *; omega
  · intro d b b' r vs h1 h2 ih k
    have h3 := ih k
    have := skipWs_le b
    rw [h1] at this
    simp only [List.length_cons] at *; omega
  · intro d b b1 b2 r ks v vs h1 h2 h3 ih1 ih2 k
    have h4 := h1.len.1
    have h5 := ih1 (k + 1 + ks.length)
    have h6 := ih2 (k + (encE ks (encV v) k).length)
    have h7 := skipWs_le b1
    rw [encEs, forest_cons, encE_length]
    rw [encE_length] at h6
    simp only [List.length_cons] at h4
    omega

theorem VV.lt {f : Bool} {d : Nat} {b r : Bs} {v : Val} (h : VV f d b v r) (hf : f = false) : r.length < b.length := by
  have h1 := h.len hf 0
  obtain ⟨a, l, h2, _⟩ := encV_cons v 0
  rw [h2] at h1
  simp only [List.length_cons] at h1
  omega
end Go.Proofs.YtaccphdkapmdhaaGreat

namespace Go.Proofs.YtaccphdkapmdhaaGreat

/-- The parts of a key, from a handle on. -/
def KT (ns : List ANode) : List Bs → Nat → Prop
  | [], h => h = 0
  | s :: l, h => ∃ i a, h = i + 1 ∧ ns[i]? = some a ∧ a.kind = 2 ∧ a.data = some s ∧ KT ns l a.next

mutual
/-- Node i is this value. -/
def NT (ns : List ANode) : Val → Nat → Prop
  | .sc kind text, i => ∃ a, ns[i]? = some a ∧ a.kind = nodeKind kind ∧ a.data = some text
  | .arr vs, i => ∃ a, ns[i]? = some a ∧ a.kind = 6 ∧ NTs ns vs a.child
  | .tbl es, i => ∃ a, ns[i]? = some a ∧ a.kind = 7 ∧ NEs ns es a.child
/-- From this handle on, these values. -/
def NTs (ns : List ANode) : List Val → Nat → Prop
  | [], h => h = 0
  | v :: vs, h => ∃ i a, h = i + 1 ∧ ns[i]? = some a ∧ NT ns v i ∧ NTs ns vs a.next
/-- From this handle on, these entries. -/
def NEs (ns : List ANode) : List (List Bs × Val) → Nat → Prop
  | [], h => h = 0
  | (ks, v) :: es, h => ∃ i a c b, h = i + 1 ∧ ns[i]? = some a ∧ a.kind = 5 ∧ a.child = c + 1 ∧ ns[c]? = some b ∧ NT ns v c ∧ KT ns ks b.next ∧ NEs ns es a.next
end

/-- Node 0 is this expression. -/
def XT (ns : List ANode) : Ex → Prop
  | .kv ks v => ∃ a c b, ns[0]? = some a ∧ a.kind = 5 ∧ a.child = c + 1 ∧ ns[c]? = some b ∧ NT ns v c ∧ KT ns ks b.next
  | .tab ks => ∃ a, ns[0]? = some a ∧ a.kind = 3 ∧ KT ns ks a.child
  | .atab ks => ∃ a, ns[0]? = some a ∧ a.kind = 4 ∧ KT ns ks a.child

/-- These nodes stand from place k on. -/
def Sub (ns : List ANode) (k : Nat) (l : List ANode) : Prop := ∀ (j : Nat) (a : ANode), l[j]? = some a → ns[k + j]? = some a

theorem Sub.head {ns k a l} (h : Sub ns k (a :: l)) : ns[k]? = some a := h 0 a rfl
theorem Sub.tail {ns k a l} (h : Sub ns k (a :: l)) : Sub ns (k + 1) l := fun j b hb => by
  have := h (j + 1) b (by simpa using hb)
  rwa [show k + 1 + j = k + (j + 1) by omega]
theorem Sub.left {ns k l l'} (h : Sub ns k (l ++ l')) : Sub ns k l := fun j b hb => h j b (by
  rw [List.getElem?_append_left (List.getElem?_eq_some_iff.1 hb).1]; exact hb)
theorem Sub.right {ns k l l'} (h : Sub ns k (l ++ l')) : Sub ns (k + l.length) l' := fun j b hb => by
  have := h (l.length + j) b (by rw [List.getElem?_append_right (by omega), Nat.add_sub_cancel_left]; exact hb)
  rwa [show k + l.length + j = k + (l.length + j) by omega]
theorem Sub.self (l : List ANode) : Sub l 0 l := fun j a h => by rw [Nat.zero_add]; exact h

theorem KT_of (ns : List ANode) : ∀ (l : List Bs) (k : Nat), l ≠ [] → Sub ns k (keyNodes k l) → KT ns l (k + 1)
  | [], _, h, _ => absurd rfl h
  | [s], k, _, h => ⟨k, _, rfl, h.head, rfl, rfl, rfl⟩
  | s :: t :: l, k, _, h => ⟨k, _, rfl, h.head, rfl, rfl, KT_of ns (t :: l) (k + 1) (by simp) h.tail⟩

theorem setN_zero (v : Val) (k : Nat) : setN (encV v k) 0 = encV v k := by
  obtain ⟨a, l, h, h0⟩ := encV_cons v k
  rw [h]
  cases a
  simp only at h0
  simp [setN, h0]

mutual
/-- Keys stand in every entry. -/
def KsOk : Val → Prop
  | .sc _ _ => True
  | .arr vs => KsOks vs
  | .tbl es => KsOkE es
def KsOks : List Val → Prop
  | [] => True
  | v :: vs => KsOk v ∧ KsOks vs
def KsOkE : List (List Bs × Val) → Prop
  | [] => True
  | (ks, v) :: es => ks ≠ [] ∧ KsOk v ∧ KsOkE es
end

theorem encE_setN (ks : List Bs) (x : Nat → List ANode) (k n : Nat) : setN (encE ks x k) n = ⟨5, none, n, k + ks.length + 2⟩ :: (keyNodes (k + 1) ks ++ setN (x (k + 1 + ks.length)) (k + 2)) := rfl

mutual
theorem NT_of (ns : List ANode) : ∀ (v : Val) (k n : Nat), KsOk v → Sub ns k (setN (encV v k) n) → NT ns v k ∧ ∃ a, ns[k]? = some a ∧ a.next = n
  | .sc kind text, k, n, _, h => by
    simp only [encV, setN] at h
    exact ⟨⟨_, h.head, rfl, rfl⟩, ⟨_, h.head, rfl⟩⟩
  | .arr vs, k, n, hk, h => by
    simp only [encV, setN] at h
    exact ⟨⟨_, h.head, rfl, NTs_of ns vs (k + 1) (by simpa [KsOk] using hk) h.tail⟩, ⟨_, h.head, rfl⟩⟩
  | .tbl es, k, n, hk, h => by
    simp only [encV, setN] at h
    exact ⟨⟨_, h.head, rfl, NEs_of ns es (k + 1) (by simpa [KsOk] using hk) h.tail⟩, ⟨_, h.head, rfl⟩⟩
theorem NTs_of (ns : List ANode) : ∀ (vs : List Val) (k : Nat), KsOks vs → Sub ns k (forest k (encIs vs)) → NTs ns vs (if vs.isEmpty then 0 else k + 1)
  | [], _, _, _ => rfl
  | [v], k, hk, h => by
    simp only [encIs, forest] at h
    rw [← setN_zero] at h
    obtain ⟨h1, a, h2, h3⟩ := NT_of ns v k 0 hk.1 h
    exact ⟨k, a, rfl, h2, h1, h3⟩
  | v :: u :: vs, k, hk, h => by
    simp only [encIs, forest] at h
    obtain ⟨h1, a, h2, h3⟩ := NT_of ns v k _ hk.1 h.left
    have h4 := h.right
    rw [setN_length] at h4
    have h5 := NTs_of ns (u :: vs) (k + (encV v k).length) hk.2 (by simpa only [encIs] using h4)
    exact ⟨k, a, rfl, h2, h1, by rw [h3]; exact h5⟩
theorem NEs_of (ns : List ANode) : ∀ (es : List (List Bs × Val)) (k : Nat), KsOkE es → Sub ns k (forest k (encEs es)) → NEs ns es (if es.isEmpty then 0 else k + 1)
  | [], _, _, _ => rfl
  | [(ks, v)], k, hk, h => by
    simp only [encEs, forest, encE] at h
    have h4 := h.tail.right
    rw [keyNodes_length] at h4
    obtain ⟨h1, a, h2, h3⟩ := NT_of ns v (k + 1 + ks.length) _ hk.2.1 h4
    have h5 := KT_of ns ks (k + 1) hk.1 h.tail.left
    exact ⟨k, _, k + 1 + ks.length, a, rfl, h.head, rfl, by simp only; omega, h2, h1, by rw [h3]; exact h5, rfl⟩
  | (ks, v) :: e :: es, k, hk, h => by
    have e1 : encEs ((ks, v) :: e :: es) = encE ks (encV v) :: encEs (e :: es) := rfl
    have e2 : forest k (encE ks (encV v) :: encEs (e :: es)) = setN (encE ks (encV v) k) (k + (encE ks (encV v) k).length + 1) ++ forest (k + (encE ks (encV v) k).length) (encEs (e :: es)) := rfl
    rw [e1, e2] at h
    have h6 := h.right
    rw [setN_length] at h6
    have h7 := NEs_of ns (e :: es) _ hk.2.2 h6
    have h8 := h.left
    rw [encE_setN] at h8
    have h4 := h8.tail.right
    rw [keyNodes_length] at h4
    obtain ⟨h1, a, h2, h3⟩ := NT_of ns v (k + 1 + ks.length) _ hk.2.1 h4
    have h5 := KT_of ns ks (k + 1) hk.1 h8.tail.left
    exact ⟨k, _, k + 1 + ks.length, a, rfl, h8.head, rfl, by simp only; omega, h2, h1, by rw [h3]; exact h5, h7⟩
end

/-- Handles and kinds are in range. -/
def Wn (N : Nat) (l : List ANode) : Prop := ∀ a ∈ l, a.kind ≠ 0 ∧ a.kind ≤ 100 ∧ a.next ≤ N ∧ a.child ≤ N

theorem Wn.mono {N N' l} (h : Wn N l) (hN : N ≤ N') : Wn N' l := fun a ha => let ⟨h1, h2, h3, h4⟩ := h a ha; ⟨h1, h2, by omega, by omega⟩
theorem Wn.app {N l l'} (h : Wn N l) (h' : Wn N l') : Wn N (l ++ l') := fun a ha => (List.mem_append.1 ha).elim (h a) (h' a)
theorem Wn.cons {N a l} (h1 : a.kind ≠ 0) (h2 : a.kind ≤ 100) (h3 : a.next ≤ N) (h4 : a.child ≤ N) (h : Wn N l) : Wn N (a :: l) := fun b hb => by
  rcases List.mem_cons.1 hb with rfl | hb
  · exact ⟨h1, h2, h3, h4⟩
  · exact h b hb
theorem Wn.setN {N l n} (h : Wn N l) (hn : n ≤ N) : Wn N (setN l n) := by
  cases l with
  | nil => exact h
  | cons a l =>
    obtain ⟨h1, h2, h3, h4⟩ := h a (by simp)
    exact Wn.cons h1 h2 hn h4 (fun b hb => h b (by simp [hb]))
theorem Wn.nil (N : Nat) : Wn N [] := fun a ha => by simp at ha

theorem keyNodes_wn : ∀ (l : List Bs) (k N : Nat), k + l.length ≤ N → Wn N (keyNodes k l)
  | [], _, _, _ => Wn.nil _
  | [s], k, N, _ => Wn.cons (by simp) (by simp) (Nat.zero_le _) (Nat.zero_le _) (Wn.nil _)
  | s :: t :: l, k, N, h => Wn.cons (by simp) (by simp) (by simp at h ⊢; omega) (Nat.zero_le _) (keyNodes_wn (t :: l) (k + 1) N (by simp at h ⊢; omega))

theorem nodeKind_ok (k : Nat) : nodeKind k ≠ 0 ∧ nodeKind k ≤ 100 := by
  unfold nodeKind
  split <;> decide

mutual
theorem encV_wn : ∀ (v : Val) (k : Nat), Wn (k + (encV v k).length) (encV v k)
  | .sc kind text, k => by
    rw [encV]
    exact Wn.cons (nodeKind_ok kind).1 (nodeKind_ok kind).2 (Nat.zero_le _) (Nat.zero_le _) (Wn.nil _)
  | .arr vs, k => by
    rw [encV]
    refine Wn.cons (by simp) (by simp) (Nat.zero_le _) ?_ ((encIs_wn vs (k + 1)).mono (by simp only [List.length_cons]; omega))
    simp only [List.length_cons]
    cases vs with
    | nil => simp
    | cons v vs =>
      simp only [List.isEmpty_cons, Bool.false_eq_true, if_false, encIs]
      have := forest_length (encV v :: encIs vs) (k + 1) (by simp) (encV v) (by simp)
      obtain ⟨a, l, h, _⟩ := encV_cons v (k + 1)
      rw [h] at this
      simp only [List.length_cons] at this
      omega
  | .tbl es, k => by
    rw [encV]
    refine Wn.cons (by simp) (by simp) (Nat.zero_le _) ?_ ((encEs_wn es (k + 1)).mono (by simp only [List.length_cons]; omega))
    simp only [List.length_cons]
    cases es with
    | nil => simp
    | cons e es =>
      obtain ⟨ks, v⟩ := e
      simp only [List.isEmpty_cons, Bool.false_eq_true, if_false, encEs]
      have := forest_length (encE ks (encV v) :: encEs es) (k + 1) (by simp) (encE ks (encV v)) (by simp)
      rw [encE_length] at this
      omega
theorem encIs_wn : ∀ (vs : List Val) (k : Nat), Wn (k + (forest k (encIs vs)).length) (forest k (encIs vs))
  | [], _ => Wn.nil _
  | [v], k => by
    simp only [encIs, forest]
    exact encV_wn v k
  | v :: u :: vs, k => by
    have h1 := encV_wn v k
    have h2 := encIs_wn (u :: vs) (k + (encV v k).length)
    have h3 := forest_cons k (encV v) (encIs (u :: vs))
    simp only [encIs] at h2 h3 ⊢
    have h4 := forest_length (encV u :: encIs vs) (k + (encV v k).length) (by simp) (encV u) (by simp)
    obtain ⟨a, l, h, _⟩ := encV_cons u (k + (encV v k).length)
    rw [h] at h4
    simp only [List.length_cons] at h4
    rw [h3]
    simp only [forest]
    exact ((h1.mono (by omega)).setN (by omega)).app (h2.mono (by omega))
theorem encEs_wn : ∀ (es : List (List Bs × Val)) (k : Nat), Wn (k + (forest k (encEs es)).length) (forest k (encEs es))
  | [], _ => Wn.nil _
  | [(ks, v)], k => by
    simp only [encEs, forest]
    have h1 := encV_wn v (k + 1 + ks.length)
    have h2 := encE_length ks (encV v) k
    rw [h2]
    obtain ⟨a, l, h, _⟩ := encV_cons v (k + 1 + ks.length)
    have h3 : 0 < (encV v (k + 1 + ks.length)).length := by rw [h]; simp
    unfold encE
    exact Wn.cons (by simp) (by simp) (Nat.zero_le _) (by simp only; omega) ((keyNodes_wn ks (k + 1) _ (by omega)).app ((h1.mono (by omega)).setN (by omega)))
  | (ks, v) :: e :: es, k => by
    have h1 := encV_wn v (k + 1 + ks.length)
    have h2 := encE_length ks (encV v) k
    have h4 := encEs_wn (e :: es) (k + (encE ks (encV v) k).length)
    have h5 := forest_cons k (encE ks (encV v)) (encEs (e :: es))
    obtain ⟨ks', u⟩ := e
    simp only [encEs] at h4 h5 ⊢
    have h6 := forest_length (encE ks' (encV u) :: encEs es) (k + (encE ks (encV v) k).length) (by simp) (encE ks' (encV u)) (by simp)
    rw [encE_length] at h6
    have h7 : setN (encE ks (encV v) k) (k + (encE ks (encV v) k).length + 1) = _ := encE_setN ks (encV v) k (k + (encE ks (encV v) k).length + 1)
    rw [h5]
    simp only [forest]
    rw [h7]
    generalize (encE ks (encV v) k).length = m at *
    refine Wn.app ?_ (h4.mono (by omega))
    obtain ⟨a, l, h, _⟩ := encV_cons v (k + 1 + ks.length)
    have h3 : 0 < (encV v (k + 1 + ks.length)).length := by rw [h]; simp
    exact Wn.cons (by simp) (by simp) (by simp only; omega) (by simp only; omega) ((keyNodes_wn ks (k + 1) _ (by omega)).app ((h1.mono (by omega)).setN (by omega)))
end

theorem VV.keys {f : Bool} {d : Nat} {b r : Bs} {v : Val} (h : VV f d b v r) : KsOk v := by
  refine VV.rec (f := f) (motive_1 := fun _ _ v _ _ => KsOk v) (motive_2 := fun _ _ _ vs _ _ => KsOks vs) (motive_3 := fun _ _ _ es _ _ => KsOkE es) ?_ ?_ ?_ ?_ ?_ ?_ ?_ ?_ ?_ ?_ ?_ ?_ ?_ ?_ ?_ ?_ ?_ ?_ ?_ h
  all_goals intros
  all_goals first
    | trivial
    | (simp only [KsOk]; assumption)
    | assumption
    | exact ⟨by assumption, by assumption⟩
    | (refine ⟨?_, by assumption, by assumption⟩; rename_i hk _ _ _ _; exact hk.len.2)

def KsX : Ex → Prop
  | .kv ks v => ks ≠ [] ∧ KsOk v
  | .tab ks => ks ≠ []
  | .atab ks => ks ≠ []

theorem EX.keys {f : Bool} {b r : Bs} {x : Ex} (h : EX f b x r) : KsX x := by
  cases h with
  | tab _ h => exact h.len.2
  | atab h => exact h.len.2
  | kv h1 h2 => exact ⟨h1.len.2, h2.keys⟩
end Go.Proofs.YtaccphdkapmdhaaGreat

namespace Go.Proofs.YtaccphdkapmdhaaGreat

/-- An entry that was seen. -/
structure Ent where
  parent : Int
  kind : Nat
  expl : Bool
  name : Bs

def Ent.is (e : Ent) (p : Nat) (nm : Bs) : Bool := decide (e.parent = (p : Int) ∧ e.kind ≠ 5 ∧ e.name = nm)

def findFrom (p : Nat) (nm : Bs) : List Ent → Nat → Option Nat
  | [], _ => none
  | e :: l, i => if e.is p nm then some i else findFrom p nm l (i + 1)

/-- The entry of a name below another. -/
def findE (es : List Ent) (p : Nat) (nm : Bs) : Option Nat := findFrom p nm (es.drop (p + 1)) (p + 1)

def kindE (es : List Ent) (i : Nat) : Nat := match es[i]? with
  | some e => e.kind
  | none => 0

/-- A key with points, below an entry: its last part is told to f. -/
def ckK (f : List Ent → Nat → List Ent × Bool) : List Bs → List Ent → Nat → List Ent × Bool
  | [], es, _ => (es, false)
  | [k], es, p => match findE es p k with
    | some _ => (es, false)
    | none => f (es ++ [⟨p, 1, false, k⟩]) es.length
  | k :: k2 :: ks, es, p => match findE es p k with
    | none => ckK f (k2 :: ks) (es ++ [⟨p, 2, false, k⟩]) es.length
    | some i => if kindE es i = 2 then ckK f (k2 :: ks) es i else (es, false)

def Val.isSc : Val → Bool
  | .sc _ _ => true
  | _ => false

mutual
/-- A value, below its entry. -/
def ckV : Val → List Ent → Nat → List Ent × Bool
  | .sc _ _, es, _ => (es, true)
  | .arr vs, es, id => ckIs vs es id
  | .tbl ts, es, id => ckEs ts es id
def ckIs : List Val → List Ent → Nat → List Ent × Bool
  | [], es, _ => (es, true)
  | v :: vs, es, id => if v.isSc then ckIs vs es id else
    match ckV v (es ++ [⟨id, 5, false, []⟩]) es.length with
    | (es', true) => ckIs vs es' id
    | (es', false) => (es', false)
def ckEs : List (List Bs × Val) → List Ent → Nat → List Ent × Bool
  | [], es, _ => (es, true)
  | (ks, v) :: ts, es, id => match ckK (ckV v) ks es id with
    | (es', true) => ckEs ts es' id
    | (es', false) => (es', false)
end

/-- Up to the last part of a head: the entry at which it is looked up. -/
def ckH : List Bs → List Ent → Nat → List Ent × Option (Nat × Bs)
  | [], es, _ => (es, none)
  | [k], es, p => (es, some (p, k))
  | k :: k2 :: ks, es, p => match findE es p k with
    | none => ckH (k2 :: ks) (es ++ [⟨p, 3, false, k⟩]) es.length
    | some i => if kindE es i = 2 ∨ kindE es i = 3 ∨ kindE es i = 4 then ckH (k2 :: ks) es i else (es, none)

/-- All below an entry is taken out: what is left so far, the new places, which were taken out. -/
structure Clr where
  out : List Ent
  remap : List Nat
  gone : List Bool

def clrOne (id : Nat) (c : Clr) (e : Ent) : Clr :=
  if e.parent ≥ 0 ∧ ((e.parent = (id : Int) ∧ e.kind ≠ 0) ∨ c.gone.getD e.parent.toNat false = true) then
    ⟨c.out, c.remap ++ [0], c.gone ++ [true]⟩
  else ⟨c.out ++ [if c.out.length = c.gone.length then e else { e with parent := (c.remap.getD e.parent.toNat 0 : Nat) }], c.remap ++ [c.out.length], c.gone ++ [false]⟩

def clrE (id : Nat) (es : List Ent) : List Ent := (es.foldl (clrOne id) ⟨[], [], []⟩).out

/-- The tracker: its entries, the table that is open. -/
structure Trk where
  ents : List Ent
  cur : Nat

def Trk.begun (t : Trk) : Trk := if t.ents.isEmpty then ⟨[⟨-1, 3, false, []⟩], 0⟩ else t

def ckX (t : Trk) : Ex → Trk × Bool
  | .kv ks v => let r := ckK (ckV v) ks t.ents t.cur; (⟨r.1, t.cur⟩, r.2)
  | .tab ks => match ckH ks t.ents 0 with
    | (es, none) => (⟨es, t.cur⟩, false)
    | (es, some (p, k)) => match findE es p k with
      | none => (⟨es ++ [⟨p, 3, true, k⟩], es.length⟩, true)
      | some i => match es[i]? with
        | some e => if e.kind = 3 ∧ e.expl = false then (⟨es.set i { e with expl := true }, i⟩, true) else (⟨es, t.cur⟩, false)
        | none => (⟨es, t.cur⟩, false)
  | .atab ks => match ckH ks t.ents 0 with
    | (es, none) => (⟨es, t.cur⟩, false)
    | (es, some (p, k)) => match findE es p k with
      | none => (⟨es ++ [⟨p, 4, true, k⟩], es.length⟩, true)
      | some i => if kindE es i = 4 then (⟨clrE i es, i⟩, true) else (⟨es, t.cur⟩, false)

/-- What the check of an expression does. -/
def ckT (t : Trk) (x : Ex) : Trk × Bool := ckX t.begun x

/-- The first one that is refused. -/
def firstBad : Trk → List Ex → Nat → Option Nat
  | _, [], _ => none
  | t, x :: l, n => if (ckT t x).2 then firstBad (ckT t x).1 l (n + 1) else some n

def meant (l : List Ex) : Option Nat := firstBad ⟨[], 0⟩ l 0

theorem firstBad_app : ∀ (l m : List Ex) (t : Trk) (n k : Nat), firstBad t l n = some k → firstBad t (l ++ m) n = some k
  | [], _, _, _, _, h => by simp [firstBad] at h
  | x :: l, m, t, n, k, h => by
    simp only [firstBad, List.cons_append] at h ⊢
    split at h
    · rename_i hb; rw [if_pos hb]; exact firstBad_app l m _ _ _ h
    · rename_i hb; rw [if_neg hb]; exact h

theorem firstBad_take : ∀ (l : List Ex) (t : Trk) (n k : Nat), firstBad t l n = some k → n ≤ k ∧ k < n + l.length ∧ firstBad t (l.take (k - n)) n = none
  | [], _, _, _, h => by simp [firstBad] at h
  | x :: l, t, n, k, h => by
    simp only [firstBad] at h
    split at h
    · rename_i hb
      obtain ⟨h1, h2, h3⟩ := firstBad_take l _ _ _ h
      refine ⟨by omega, by simp only [List.length_cons]; omega, ?_⟩
      rw [show k - n = (k - (n + 1)) + 1 by omega, List.take_succ_cons]
      simp only [firstBad, hb, if_true]
      exact h3
    · simp only [Option.some.injEq] at h
      subst h
      simp [firstBad]

theorem firstBad_none : ∀ (l : List Ex) (t : Trk) (n j : Nat), firstBad t l n = none → firstBad t (l.take j) n = none
  | [], _, _, _, _ => by simp [firstBad]
  | x :: l, t, n, 0, _ => by simp [firstBad]
  | x :: l, t, n, j + 1, h => by
    simp only [firstBad, List.take_succ_cons] at h ⊢
    split at h
    · rename_i hb; rw [if_pos hb]; exact firstBad_none l _ _ _ h
    · cases h

theorem meant_app {l : List Ex} {k : Nat} (m : List Ex) (h : meant l = some k) : meant (l ++ m) = some k := firstBad_app _ _ _ _ _ h
theorem meant_take {l : List Ex} {k : Nat} (h : meant l = some k) : k < l.length ∧ meant (l.take k) = none := by
  obtain ⟨_, h2, h3⟩ := firstBad_take l _ _ _ h
  exact ⟨by omega, h3⟩
theorem meant_none {l : List Ex} (j : Nat) (h : meant l = none) : meant (l.take j) = none := firstBad_none _ _ _ _ h

/-! ### Entries stay in order -/
/-- A parent stands ahead of its children. -/
def Ord (es : List Ent) : Prop := ∀ (i : Nat) (e : Ent), es[i]? = some e → e.parent < (i : Int) ∧ (i = 0 ∨ 0 ≤ e.parent) ∧ e.kind ≤ 5 ∧ e.kind ≠ 0

theorem Ord.snoc {es : List Ent} (h : Ord es) {p k : Nat} {x : Bool} {nm : Bs} (hp : p < es.length) (hk : k ≤ 5) (hk0 : k ≠ 0) : Ord (es ++ [⟨p, k, x, nm⟩]) := by
  intro i e he
  by_cases hi : i < es.length
  · rw [List.getElem?_append_left hi] at he
    exact h i e he
  · have hi' : i = es.length := by
      have := (List.getElem?_eq_some_iff.1 he).1
      simp at this; omega
    subst hi'
    rw [List.getElem?_append_right (Nat.le_refl _), Nat.sub_self] at he
    simp only [List.getElem?_cons_zero, Option.some.injEq] at he
    subst he
    exact ⟨by simp only; omega, .inr (by simp only; omega), hk, hk0⟩

theorem findFrom_some {p : Nat} {nm : Bs} : ∀ (l : List Ent) (i j : Nat), findFrom p nm l i = some j → i ≤ j ∧ ∃ e, l[j - i]? = some e ∧ e.is p nm = true
  | [], _, _, h => by simp [findFrom] at h
  | e :: l, i, j, h => by
    simp only [findFrom] at h
    split at h
    · rename_i he
      simp only [Option.some.injEq] at h
      subst h
      exact ⟨Nat.le_refl _, e, by simp, he⟩
    · obtain ⟨h1, e', h2, h3⟩ := findFrom_some l (i + 1) j h
      refine ⟨by omega, e', ?_, h3⟩
      rw [show j - i = (j - (i + 1)) + 1 by omega, List.getElem?_cons_succ]
      exact h2

theorem findE_some {es : List Ent} {p i : Nat} {nm : Bs} (h : findE es p nm = some i) : p < i ∧ ∃ e, es[i]? = some e ∧ e.is p nm = true := by
  obtain ⟨h1, e, h2, h3⟩ := findFrom_some _ _ _ h
  rw [List.getElem?_drop, show p + 1 + (i - (p + 1)) = i by omega] at h2
  exact ⟨by omega, e, h2, h3⟩

theorem findE_lt {es : List Ent} {p i : Nat} {nm : Bs} (h : findE es p nm = some i) : i < es.length := by
  obtain ⟨_, e, h2, _⟩ := findE_some h
  exact (List.getElem?_eq_some_iff.1 h2).1

/-- What a check may do: entries come behind, in order. -/
def Grow (es es' : List Ent) (n : Nat) : Prop := Ord es' ∧ es.length ≤ es'.length ∧ es'.length ≤ es.length + n

theorem Grow.refl {es : List Ent} (h : Ord es) (n : Nat) : Grow es es n := ⟨h, Nat.le_refl _, by omega⟩
theorem Grow.trans {a b c : List Ent} {n m : Nat} (h : Grow a b n) (g : Grow b c m) : Grow a c (n + m) := ⟨g.1, Nat.le_trans h.2.1 g.2.1, by have := h.2.2; have := g.2.2; omega⟩
theorem Grow.mono {a b : List Ent} {n m : Nat} (h : Grow a b n) (hm : n ≤ m) : Grow a b m := ⟨h.1, h.2.1, by have := h.2.2; omega⟩
theorem Grow.snoc {es : List Ent} (h : Ord es) {p k : Nat} {x : Bool} {nm : Bs} (hp : p < es.length) (hk : k ≤ 5) (hk0 : k ≠ 0) : Grow es (es ++ [⟨p, k, x, nm⟩]) 1 := ⟨h.snoc hp hk hk0, by simp, by simp⟩

theorem ckK_grow {f : List Ent → Nat → List Ent × Bool} {m : Nat} (hf : ∀ es id, Ord es → id < es.length → Grow es (f es id).1 m) :
    ∀ (ks : List Bs) (es : List Ent) (p : Nat), Ord es → p < es.length → Grow es (ckK f ks es p).1 (ks.length + m)
  | [], es, p, h, _ => Grow.refl h _
  | [k], es, p, h, hp => by
    simp only [ckK]
    split
    · exact Grow.refl h _
    · have h1 := Grow.snoc h (k := 1) (x := false) (nm := k) hp (by omega) (by omega)
      have h2 := hf _ es.length h1.1 (by simp)
      exact (h1.trans h2).mono (by simp)
  | k :: k2 :: ks, es, p, h, hp => by
    simp only [ckK]
    split
    · have h1 := Grow.snoc h (k := 2) (x := false) (nm := k) hp (by omega) (by omega)
      have h2 := ckK_grow hf (k2 :: ks) _ es.length h1.1 (by simp)
      exact (h1.trans h2).mono (by simp only [List.length_cons]; omega)
    · rename_i i hi
      split
      · exact (ckK_grow hf (k2 :: ks) es i h (findE_lt hi)).mono (by simp only [List.length_cons]; omega)
      · exact Grow.refl h _

mutual
/-- How many entries come behind at most. -/
def cV : Val → Nat
  | .sc _ _ => 0
  | .arr vs => cIs vs
  | .tbl ts => cEs ts
def cIs : List Val → Nat
  | [] => 0
  | v :: vs => 1 + cV v + cIs vs
def cEs : List (List Bs × Val) → Nat
  | [] => 0
  | (ks, v) :: ts => ks.length + cV v + cEs ts
end

def cX : Ex → Nat
  | .kv ks v => ks.length + cV v
  | .tab ks => ks.length
  | .atab ks => ks.length

mutual
theorem cV_le : ∀ (v : Val) (k : Nat), cV v + 1 ≤ (encV v k).length
  | .sc _ _, _ => by simp [cV, encV]
  | .arr vs, k => by
    have := cIs_le vs (k + 1)
    simp only [cV, encV, List.length_cons]; omega
  | .tbl ts, k => by
    have := cEs_le ts (k + 1)
    simp only [cV, encV, List.length_cons]; omega
theorem cIs_le : ∀ (vs : List Val) (k : Nat), cIs vs ≤ (forest k (encIs vs)).length
  | [], _ => by simp [cIs]
  | v :: vs, k => by
    have h1 := cV_le v k
    have h2 := cIs_le vs (k + (encV v k).length)
    have e1 := forest_cons k (encV v) (encIs vs)
    simp only [cIs, encIs]; omega
theorem cEs_le : ∀ (ts : List (List Bs × Val)) (k : Nat), cEs ts ≤ (forest k (encEs ts)).length
  | [], _ => by simp [cEs]
  | (ks, v) :: ts, k => by
    have h1 := cV_le v (k + 1 + ks.length)
    have h2 := cEs_le ts (k + (encE ks (encV v) k).length)
    have e1 := forest_cons k (encE ks (encV v)) (encEs ts)
    have e2 := encE_length ks (encV v) k
    simp only [cEs, encEs]; omega
end

mutual
theorem ckV_grow : ∀ (v : Val) (es : List Ent) (id : Nat), Ord es → id < es.length → Grow es (ckV v es id).1 (cV v)
  | .sc _ _, es, _, h, _ => by simp only [ckV]; exact Grow.refl h _
  | .arr vs, es, id, h, hi => by
    simp only [ckV, cV]
    exact ckIs_grow vs es id h hi
  | .tbl ts, es, id, h, hi => by
    simp only [ckV, cV]
    exact ckEs_grow ts es id h hi
theorem ckIs_grow : ∀ (vs : List Val) (es : List Ent) (id : Nat), Ord es → id < es.length → Grow es (ckIs vs es id).1 (cIs vs)
  | [], es, _, h, _ => by simp only [ckIs]; exact Grow.refl h _
  | v :: vs, es, id, h, hi => by
    simp only [ckIs, cIs]
    split
    · exact (ckIs_grow vs es id h hi).mono (by omega)
    · have h1 := Grow.snoc h (k := 5) (x := false) (nm := []) hi (by omega) (by omega)
      have h2 := ckV_grow v _ es.length h1.1 (by simp)
      have h3 := h1.trans h2
      split
      · rename_i es' heq
        rw [heq] at h3
        have h4 := ckIs_grow vs es' id h3.1 (by have := h3.2.1; simp only at this; omega)
        exact h3.trans h4
      · rename_i es' heq
        rw [heq] at h3
        exact h3.mono (by omega)
theorem ckEs_grow : ∀ (ts : List (List Bs × Val)) (es : List Ent) (id : Nat), Ord es → id < es.length → Grow es (ckEs ts es id).1 (cEs ts)
  | [], es, _, h, _ => by simp only [ckEs]; exact Grow.refl h _
  | (ks, v) :: ts, es, id, h, hi => by
    simp only [ckEs, cEs]
    have h2 := ckK_grow (f := ckV v) (m := cV v) (fun es id h hi => ckV_grow v es id h hi) ks es id h hi
    split
    · rename_i es' heq
      rw [heq] at h2
      have h4 := ckEs_grow ts es' id h2.1 (by have := h2.2.1; simp only at this; omega)
      exact h2.trans h4
    · rename_i es' heq
      rw [heq] at h2
      exact h2.mono (by omega)
end

theorem ckH_grow : ∀ (ks : List Bs) (es : List Ent) (p : Nat), Ord es → p < es.length →
    Grow es (ckH ks es p).1 (ks.length - 1) ∧ ∀ q k, (ckH ks es p).2 = some (q, k) → q < (ckH ks es p).1.length
  | [], es, p, h, _ => ⟨Grow.refl h _, fun q k hq => by simp [ckH] at hq⟩
  | [k], es, p, h, hp => ⟨Grow.refl h _, fun q k hq => by
      simp only [ckH, Option.some.injEq, Prod.mk.injEq] at hq
      obtain ⟨rfl, rfl⟩ := hq
      exact hp⟩
  | k :: k2 :: ks, es, p, h, hp => by
    simp only [ckH]
    split
    · have h1 := Grow.snoc h (k := 3) (x := false) (nm := k) hp (by omega) (by omega)
      obtain ⟨h2, h3⟩ := ckH_grow (k2 :: ks) _ es.length h1.1 (by simp)
      exact ⟨(h1.trans h2).mono (by simp only [List.length_cons]; omega), h3⟩
    · rename_i i hi
      split
      · obtain ⟨h2, h3⟩ := ckH_grow (k2 :: ks) es i h (findE_lt hi)
        exact ⟨h2.mono (by simp only [List.length_cons]; omega), h3⟩
      · exact ⟨Grow.refl h _, fun q k hq => by simp at hq⟩

theorem Ord.set {es : List Ent} (h : Ord es) {i : Nat} {e e' : Ent} (he : es[i]? = some e) (hp : e'.parent = e.parent) (hk : e'.kind = e.kind) : Ord (es.set i e') := by
  intro j a ha
  by_cases hij : i = j
  · subst hij
    rw [List.getElem?_set_self (List.getElem?_eq_some_iff.1 he).1] at ha
    simp only [Option.some.injEq] at ha
    subst ha
    rw [hp, hk]
    exact h i e he
  · rw [List.getElem?_set_ne hij] at ha
    exact h j a ha

/-- What holds while entries are taken out. -/
structure ClrOk (id : Nat) (es : List Ent) (i : Nat) (c : Clr) : Prop where
  gone : c.gone.length = i
  remap : c.remap.length = i
  out : c.out.length ≤ i
  ord : Ord c.out
  keep : ∀ (j : Nat), c.gone[j]? = some false → ∃ m, c.remap[j]? = some m ∧ m < c.out.length
  low : ∀ (j : Nat), j < i → j ≤ id → c.gone[j]? = some false ∧ c.remap[j]? = some j ∧ c.out[j]? = es[j]?
  same : c.out.length = i → c.out = es.take i

theorem ClrOk.step {id : Nat} {es : List Ent} {i : Nat} {c : Clr} {e : Ent} (h : ClrOk id es i c) (hO : Ord es) (he : es[i]? = some e) : ClrOk id es (i + 1) (clrOne id c e) := by
  obtain ⟨o1, o2, o3, o4⟩ := hO i e he
  have hlt := (List.getElem?_eq_some_iff.1 he).1
  have hg := h.gone
  have hr := h.remap
  have ho := h.out
  unfold clrOne
  split
  · rename_i hc
    obtain ⟨hc0, hc1⟩ := hc
    refine ⟨by simp [hg], by simp [hr], by simp only; omega, h.ord, fun j hj => ?_, fun j hj hji => ?_, fun hs => by simp only at hs; omega⟩
    · by_cases hjl : j < c.gone.length
      · rw [List.getElem?_append_left hjl] at hj
        obtain ⟨m, h1, h2⟩ := h.keep j hj
        exact ⟨m, by rw [List.getElem?_append_left (by omega)]; exact h1, h2⟩
      · rw [List.getElem?_append_right (by omega)] at hj
        cases hx : j - c.gone.length with
        | zero => rw [hx] at hj; simp at hj
        | succ n => rw [hx] at hj; simp at hj
    · by_cases hjl : j < i
      · obtain ⟨h1, h2, h3⟩ := h.low j hjl hji
        exact ⟨by rw [List.getElem?_append_left (by omega)]; exact h1, by rw [List.getElem?_append_left (by omega)]; exact h2, h3⟩
      · exfalso
        have hji' : j = i := by omega
        subst hji'
        rcases hc1 with ⟨hc1, _⟩ | hc1
        · omega
        · have hp : e.parent.toNat < j := by omega
          have := (h.low e.parent.toNat hp (by omega)).1
          simp [List.getD_eq_getElem?_getD, this] at hc1
  · rename_i hc
    have hpar : e.parent ≥ 0 → c.gone[e.parent.toNat]? = some false := fun h0 => by
      have hp : e.parent.toNat < c.gone.length := by omega
      cases hx : c.gone[e.parent.toNat]? with
      | none => rw [List.getElem?_eq_none_iff] at hx; omega
      | some b =>
        cases b with
        | false => rfl
        | true => exact absurd ⟨h0, .inr (by simp [List.getD_eq_getElem?_getD, hx])⟩ hc
    refine ⟨by simp [hg], by simp [hr], by simp; omega, ?_, fun j hj => ?_, fun j hj hji => ?_, fun hs => ?_⟩
    · intro j a ha
      by_cases hjl : j < c.out.length
      · rw [List.getElem?_append_left hjl] at ha
        exact h.ord j a ha
      · have hjl' : j = c.out.length := by
          have := (List.getElem?_eq_some_iff.1 ha).1
          simp at this; omega
        subst hjl'
        rw [List.getElem?_append_right (Nat.le_refl _), Nat.sub_self] at ha
        simp only [List.getElem?_cons_zero, Option.some.injEq] at ha
        subst ha
        split
        · rename_i hs
          exact ⟨by omega, by omega, o3, o4⟩
        · rename_i hs
          have h0 : e.parent ≥ 0 := by
            rcases o2 with o2 | o2
            · omega
            · exact o2
          obtain ⟨m, h1, h2⟩ := h.keep _ (hpar h0)
          simp only [List.getD_eq_getElem?_getD, h1, Option.getD_some]
          exact ⟨by omega, .inr (by omega), o3, o4⟩
    · by_cases hjl : j < c.gone.length
      · rw [List.getElem?_append_left hjl] at hj
        obtain ⟨m, h1, h2⟩ := h.keep j hj
        exact ⟨m, by rw [List.getElem?_append_left (by omega)]; exact h1, by simp; omega⟩
      · have hjl' : j = i := by
          have := (List.getElem?_eq_some_iff.1 hj).1
          simp at this; omega
        subst hjl'
        refine ⟨c.out.length, ?_, by simp⟩
        rw [List.getElem?_append_right (by omega), hr, Nat.sub_self]
        rfl
    · have hlo : ∀ j, j < i → j ≤ id → c.out[j]? = es[j]? := fun j a b => (h.low j a b).2.2
      by_cases hjl : j < i
      · obtain ⟨h1, h2, h3⟩ := h.low j hjl hji
        refine ⟨by rw [List.getElem?_append_left (by omega)]; exact h1, by rw [List.getElem?_append_left (by omega)]; exact h2, ?_⟩
        have : j < c.out.length := by
          have h5 : es[j]? = some es[j] := List.getElem?_eq_getElem (by omega)
          rw [h5] at h3
          exact (List.getElem?_eq_some_iff.1 h3).1
        rw [List.getElem?_append_left this]; exact h3
      · have hjl' : j = i := by omega
        subst hjl'
        have hol : c.out.length = j := by
          rcases Nat.lt_or_ge c.out.length j with h5 | h5
          · exfalso
            have h6 := hlo c.out.length h5 (by omega)
            rw [List.getElem?_eq_none (Nat.le_refl _), List.getElem?_eq_getElem (by omega)] at h6
            cases h6
          · omega
        refine ⟨by rw [List.getElem?_append_right (by omega), hg, Nat.sub_self]; rfl, ?_, ?_⟩
        · rw [List.getElem?_append_right (by omega), hr, Nat.sub_self, hol]; rfl
        · rw [List.getElem?_append_right (by omega), hol, Nat.sub_self, hg, if_pos rfl, he]; rfl
    · simp only [List.length_append, List.length_singleton] at hs
      have hs' : c.out.length = i := by omega
      rw [if_pos (by omega), h.same hs', List.take_add_one, he]
      rfl

theorem clr_ok (id : Nat) (es : List Ent) (hO : Ord es) : ∀ (l : List Ent) (i : Nat) (c : Clr), es.drop i = l → i ≤ es.length → ClrOk id es i c → ClrOk id es es.length (l.foldl (clrOne id) c)
  | [], i, c, hl, hi, h => by
    have : i = es.length := by
      have := List.drop_eq_nil_iff.1 hl
      omega
    subst this
    exact h
  | e :: l, i, c, hl, hi, h => by
    have he : es[i]? = some e := by
      have := congrArg (fun l => l[0]?) hl
      simpa using this
    have hl' : es.drop (i + 1) = l := by
      have := congrArg (fun l => l.drop 1) hl
      simpa using this
    exact clr_ok id es hO l (i + 1) _ hl' (by have := (List.getElem?_eq_some_iff.1 he).1; omega) (h.step hO he)

theorem clr_zero (id : Nat) (es : List Ent) : ClrOk id es 0 ⟨[], [], []⟩ :=
  ⟨rfl, rfl, Nat.le_refl _, fun i e h => by simp at h, fun j h => by simp at h, fun j h => by omega, fun _ => by simp⟩

theorem clrE_ok (id : Nat) (es : List Ent) (hO : Ord es) (hid : id < es.length) : Ord (clrE id es) ∧ (clrE id es).length ≤ es.length ∧ id < (clrE id es).length := by
  have h := clr_ok id es hO es 0 ⟨[], [], []⟩ rfl (Nat.zero_le _) (clr_zero id es)
  refine ⟨h.ord, h.out, ?_⟩
  have h1 := (h.low id hid (Nat.le_refl _)).2.2
  rw [List.getElem?_eq_getElem hid] at h1
  exact (List.getElem?_eq_some_iff.1 h1).1

/-- The tracker is in order. -/
def TOk (t : Trk) : Prop := Ord t.ents ∧ t.cur < t.ents.length

theorem ckX_ok {t : Trk} (h : TOk t) (x : Ex) : TOk (ckX t x).1 ∧ (ckX t x).1.ents.length ≤ t.ents.length + cX x := by
  obtain ⟨hO, hc⟩ := h
  have h0 : 0 < t.ents.length := by omega
  cases x with
  | kv ks v =>
    have h2 := ckK_grow (f := ckV v) (m := cV v) (fun es id h hi => ckV_grow v es id h hi) ks t.ents t.cur hO hc
    simp only [ckX, cX]
    exact ⟨⟨h2.1, by have := h2.2.1; simp only; omega⟩, h2.2.2⟩
  | tab ks =>
    obtain ⟨h1, h2⟩ := ckH_grow ks t.ents 0 hO h0
    simp only [ckX, cX]
    split
    · rename_i es heq
      rw [heq] at h1
      exact ⟨⟨h1.1, by have := h1.2.1; simp only at this ⊢; omega⟩, by have := h1.2.2; simp only at this ⊢; omega⟩
    · rename_i es p k heq
      have hk1 : 1 ≤ ks.length := by
        cases ks with
        | nil => simp [ckH] at heq
        | cons => simp
      have hp := h2 p k (by rw [heq])
      rw [heq] at h1 hp
      have hl1 := h1.2.1
      have hl2 := h1.2.2
      simp only at hp hl1 hl2
      split
      · have h3 := Grow.snoc h1.1 (k := 3) (x := true) (nm := k) hp (by omega) (by omega)
        exact ⟨⟨h3.1, by simp⟩, by simp; omega⟩
      · rename_i i hi
        have hil := findE_lt hi
        split
        · rename_i e he
          split
          · exact ⟨⟨Ord.set h1.1 he rfl rfl, by simp; omega⟩, by simp; omega⟩
          · exact ⟨⟨h1.1, by simp only; omega⟩, by simp only; omega⟩
        · exact ⟨⟨h1.1, by simp only; omega⟩, by simp only; omega⟩
  | atab ks =>
    obtain ⟨h1, h2⟩ := ckH_grow ks t.ents 0 hO h0
    simp only [ckX, cX]
    split
    · rename_i es heq
      rw [heq] at h1
      exact ⟨⟨h1.1, by have := h1.2.1; simp only at this ⊢; omega⟩, by have := h1.2.2; simp only at this ⊢; omega⟩
    · rename_i es p k heq
      have hk1 : 1 ≤ ks.length := by
        cases ks with
        | nil => simp [ckH] at heq
        | cons => simp
      have hp := h2 p k (by rw [heq])
      rw [heq] at h1 hp
      have hl1 := h1.2.1
      have hl2 := h1.2.2
      simp only at hp hl1 hl2
      split
      · have h3 := Grow.snoc h1.1 (k := 4) (x := true) (nm := k) hp (by omega) (by omega)
        exact ⟨⟨h3.1, by simp⟩, by simp; omega⟩
      · rename_i i hi
        have hil := findE_lt hi
        split
        · obtain ⟨h3, h4, h5⟩ := clrE_ok i es h1.1 hil
          exact ⟨⟨h3, h5⟩, by simp only; omega⟩
        · exact ⟨⟨h1.1, by simp only; omega⟩, by simp only; omega⟩

def TPre (t : Trk) : Prop := t = ⟨[], 0⟩ ∨ TOk t

theorem begun_ok {t : Trk} (h : TPre t) : TOk t.begun ∧ t.begun.ents.length ≤ t.ents.length + 1 := by
  rcases h with rfl | h
  · refine ⟨⟨fun i e he => ?_, by simp [Trk.begun]⟩, by simp [Trk.begun]⟩
    simp only [Trk.begun, List.isEmpty_nil, if_true] at he
    cases i with
    | zero =>
      simp only [List.getElem?_cons_zero, Option.some.injEq] at he
      subst he
      exact ⟨by simp only; omega, .inl rfl, by simp, by simp⟩
    | succ i => simp at he
  · have : t.ents.isEmpty = false := by
      cases hx : t.ents with
      | nil => have := h.2; rw [hx] at this; simp at this
      | cons => rfl
    simp only [Trk.begun, this, Bool.false_eq_true, if_false]
    exact ⟨h, by omega⟩

theorem begun_of {t : Trk} (h : TOk t) : t.begun = t := by
  have : t.ents.isEmpty = false := by
    cases hx : t.ents with
    | nil => have := h.2; rw [hx] at this; simp at this
    | cons => rfl
  simp [Trk.begun, this]
end Go.Proofs.YtaccphdkapmdhaaGreat

