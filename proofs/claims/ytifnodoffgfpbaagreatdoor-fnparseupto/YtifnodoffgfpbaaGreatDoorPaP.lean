/- Messages as plain data, and how they are written, in plain Lean; conditions: none. -/
namespace Go.Proofs.YtifnodoffgfpbaaGreatDoor

structure HeadD where
  id : UInt16
  resp : Bool
  op : UInt16
  auth : Bool
  cut : Bool
  des : Bool
  avail : Bool
  authc : Bool
  unch : Bool
  code : UInt16
structure AskD where
  name : ByteArray
  typ : UInt16
  cls : UInt16
structure PairD where
  key : UInt16
  data : List UInt8
structure RecD where
  name : ByteArray
  typ : UInt16
  cls : UInt16
  ttl : UInt32
  len : UInt16
  kind : Int
  data : List UInt8
  host : ByteArray
  box : ByteArray
  n1 : UInt32
  n2 : UInt32
  n3 : UInt32
  n4 : UInt32
  n5 : UInt32
  texts : List ByteArray
  pairs : List PairD
structure MsgD where
  head : HeadD
  asks : List AskD
  one : List RecD
  two : List RecD
  three : List RecD

def be16 (x : Nat) : List UInt8 := [UInt8.ofNat (x / 256), UInt8.ofNat x]
def be32 (x : Nat) : List UInt8 := [UInt8.ofNat (x / 16777216), UInt8.ofNat (x / 65536), UInt8.ofNat (x / 256), UInt8.ofNat x]
theorem be16_length (x : Nat) : (be16 x).length = 2 := rfl
theorem be32_length (x : Nat) : (be32 x).length = 4 := rfl

abbrev bt (s : ByteArray) : List UInt8 := s.data.toList
theorem bt_length (s : ByteArray) : (bt s).length = s.size := by
  simp only [bt, Array.length_toList]; rfl

def wireGo : List UInt8 → List UInt8 → List UInt8
  | _, [] => []
  | lab, c :: cs => if c = 46 then (if lab = [] then wireGo [] cs else (UInt8.ofNat lab.length :: lab) ++ wireGo [] cs) else wireGo (lab ++ [c]) cs
def wire (s : List UInt8) : List UInt8 := wireGo [] s ++ [0]
theorem wireGo_le : ∀ (cs lab : List UInt8), (wireGo lab cs).length ≤ lab.length + 2 * cs.length
  | [], lab => by simp [wireGo]
  | c :: cs, lab => by
    simp only [wireGo]
    split
    · split
      · have := wireGo_le cs []; simp at this ⊢; omega
      · have := wireGo_le cs []; simp at this ⊢; omega
    · have := wireGo_le cs (lab ++ [c]); simp at this ⊢; omega
theorem wire_le (s : List UInt8) : (wire s).length ≤ 2 * s.length + 1 := by
  have := wireGo_le s []
  simp [wire] at this ⊢; omega

def fixedL (data : List UInt8) (n : Nat) : List UInt8 := (data ++ List.replicate n 0).take n
theorem fixedL_length (data : List UInt8) (n : Nat) : (fixedL data n).length = n := by
  simp only [fixedL, List.length_take, List.length_append, List.length_replicate]; omega
def pairL (p : PairD) : List UInt8 := be16 p.key.toNat ++ (be16 p.data.length ++ p.data)
def pairsL (ps : List PairD) : List UInt8 := (ps.map pairL).flatten
def textL (s : ByteArray) : List UInt8 := UInt8.ofNat s.size :: bt s
def textsL (ss : List ByteArray) : List UInt8 := (ss.map textL).flatten
def typeN (r : RecD) : UInt16 :=
  if r.kind = 1 then 1 else if r.kind = 2 then 2 else if r.kind = 3 then 5 else if r.kind = 4 then 6 else if r.kind = 5 then 12 else if r.kind = 6 then 15 else if r.kind = 7 then 16
  else if r.kind = 8 then 28 else if r.kind = 9 then 33 else if r.kind = 10 then 41 else if r.kind = 11 then 64 else if r.kind = 12 then 65 else if r.kind = 13 then r.typ else 0
def bodyL (r : RecD) : List UInt8 :=
  if r.kind = 1 then fixedL r.data 4 else if r.kind = 8 then fixedL r.data 16
  else if r.kind = 2 ∨ r.kind = 3 ∨ r.kind = 5 then wire (bt r.host)
  else if r.kind = 6 then be16 r.n1.toNat ++ wire (bt r.host)
  else if r.kind = 4 then wire (bt r.host) ++ (wire (bt r.box) ++ (be32 r.n1.toNat ++ (be32 r.n2.toNat ++ (be32 r.n3.toNat ++ (be32 r.n4.toNat ++ be32 r.n5.toNat)))))
  else if r.kind = 7 then textsL r.texts
  else if r.kind = 9 then be16 r.n1.toNat ++ (be16 r.n2.toNat ++ (be16 r.n3.toNat ++ wire (bt r.host)))
  else if r.kind = 10 then pairsL r.pairs
  else if r.kind = 11 ∨ r.kind = 12 then be16 r.n1.toNat ++ (wire (bt r.host) ++ pairsL r.pairs)
  else r.data
def recL (r : RecD) : List UInt8 := wire (bt r.name) ++ (be16 (typeN r).toNat ++ (be16 r.cls.toNat ++ (be32 r.ttl.toNat ++ (be16 (bodyL r).length ++ bodyL r))))
def recsL (rs : List RecD) : List UInt8 := (rs.map recL).flatten
def flagN (b : Bool) (n : UInt16) : UInt16 := if b then n else 0
def hbits (h : HeadD) : UInt16 :=
  ((((((flagN h.resp 0x8000 ||| (h.op <<< 11)) ||| flagN h.auth 0x0400) ||| flagN h.cut 0x0200) ||| flagN h.des 0x0100)) ||| (((flagN h.avail 0x0080 ||| flagN h.authc 0x0020) ||| flagN h.unch 0x0010) ||| h.code))
def headL (h : HeadD) (counts : List Nat) : List UInt8 := be16 h.id.toNat ++ (be16 (hbits h).toNat ++ (counts.map be16).flatten)
def askL (a : AskD) : List UInt8 := wire (bt a.name) ++ (be16 a.typ.toNat ++ be16 a.cls.toNat)
def asksL (as : List AskD) : List UInt8 := (as.map askL).flatten
def msgL (m : MsgD) : List UInt8 := headL m.head [m.asks.length, m.one.length, m.two.length, m.three.length] ++ (asksL m.asks ++ (recsL m.one ++ (recsL m.two ++ recsL m.three)))

def nameGo : Nat → List UInt8 → Bool
  | n, [] => n == 0
  | n, c :: cs => if c = 46 then (if n = 0 ∨ n > 63 then false else nameGo 0 cs) else nameGo (n + 1) cs
def nameOk (s : ByteArray) : Bool := decide (bt s = [46]) || (nameGo 0 (bt s) && decide (1 < s.size) && decide (s.size ≤ 254))
def RecD.fits (r : RecD) : Prop :=
  r.name.size ≤ 1048576 ∧ r.data.length ≤ 1048576 ∧ r.host.size ≤ 1048576 ∧ r.box.size ≤ 1048576 ∧ r.texts.length ≤ 1048576 ∧ (∀ s ∈ r.texts, s.size ≤ 1048576) ∧ (r.texts.map (·.size)).sum ≤ 1048576 ∧
  r.pairs.length ≤ 1048576 ∧ (∀ p ∈ r.pairs, p.data.length ≤ 1048576) ∧ (r.pairs.map (·.data.length)).sum ≤ 1048576 ∧ -9223372036854775808 ≤ r.kind ∧ r.kind ≤ 9223372036854775807
def MsgD.fits (m : MsgD) : Prop :=
  m.asks.length ≤ 1048576 ∧ (∀ a ∈ m.asks, a.name.size ≤ 1048576) ∧ m.one.length ≤ 1048576 ∧ m.two.length ≤ 1048576 ∧ m.three.length ≤ 1048576 ∧ (∀ r ∈ m.one, r.fits) ∧ (∀ r ∈ m.two, r.fits) ∧ (∀ r ∈ m.three, r.fits)
def HeadD.ok (h : HeadD) : Prop := h.op.toNat < 16 ∧ h.code.toNat < 16
end Go.Proofs.YtifnodoffgfpbaaGreatDoor
