/-
  The generator's plain functions over bit vectors: no Go in sight.
-/
namespace Go.Proofs.Qxb6604045a

/-- The same but for place i. -/
def upd (s : Nat → BitVec 32) (i : Nat) (v : BitVec 32) : Nat → BitVec 32 := fun j => if j = i then v else s j
theorem upd_same (s : Nat → BitVec 32) (i : Nat) (v : BitVec 32) : upd s i v i = v := by simp [upd]
theorem upd_other (s : Nat → BitVec 32) {i j : Nat} (v : BitVec 32) (h : j ≠ i) : upd s i v j = s j := by simp [upd, h]

/-- The word that a twist lays at place i: out of word i, word i + 1 and word i + 397. -/
def tword (a b c : BitVec 32) : BitVec 32 :=
  if ((a &&& 2147483648#32) ||| (b &&& 2147483647#32)) &&& 1#32 = 0#32 then c ^^^ (((a &&& 2147483648#32) ||| (b &&& 2147483647#32)) >>> 1)
  else c ^^^ (((a &&& 2147483648#32) ||| (b &&& 2147483647#32)) >>> 1) ^^^ 2567483615#32
/-- One round of the twist, at place i. -/
def step (s : Nat → BitVec 32) (i : Nat) : Nat → BitVec 32 := upd s i (tword (s i) (s ((i + 1) % 624)) (s ((i + 397) % 624)))
/-- The first k rounds. -/
def tw : Nat → (Nat → BitVec 32) → Nat → BitVec 32
  | 0, s => s
  | k + 1, s => step (tw k s) k
def twist (s : Nat → BitVec 32) : Nat → BitVec 32 := tw 624 s

/-- The tempering. -/
def temper1 (y : BitVec 32) : BitVec 32 := y ^^^ (y >>> 11)
def temper2 (y : BitVec 32) : BitVec 32 := y ^^^ ((y <<< 7) &&& 2636928640#32)
def temper3 (y : BitVec 32) : BitVec 32 := y ^^^ ((y <<< 15) &&& 4022730752#32)
def temper4 (y : BitVec 32) : BitVec 32 := y ^^^ (y >>> 18)
def temper (y : BitVec 32) : BitVec 32 := temper4 (temper3 (temper2 (temper1 y)))

/-! ### The untwist -/
def umix (t s : Nat → BitVec 32) (i : Nat) : BitVec 32 := if 227 ≤ i then t (i - 227) else s (i + 397)
def uy (v : BitVec 32) : BitVec 32 := if v &&& 2147483648#32 = 0#32 then v <<< 1 else ((v ^^^ 2567483615#32) <<< 1) ||| 1#32
def ustep (t s : Nat → BitVec 32) (i : Nat) : Nat → BitVec 32 :=
  let y := uy (t i ^^^ umix t s i)
  let s1 := upd s i ((s i &&& 2147483647#32) ||| (y &&& 2147483648#32))
  if i + 1 < 624 then upd s1 (i + 1) ((s1 (i + 1) &&& 2147483648#32) ||| (y &&& 2147483647#32)) else s1
/-- The first k rounds: places 623, 622, .. -/
def un (t : Nat → BitVec 32) : Nat → Nat → BitVec 32
  | 0 => fun _ => 0#32
  | k + 1 => ustep t (un t k) (623 - k)
def untwist (t : Nat → BitVec 32) : Nat → BitVec 32 := un t 624

/-! ### The seeding -/
def mixf (x : BitVec 32) : BitVec 32 := x ^^^ (x >>> 30)
/-- Behind k rounds of the first loop. -/
def ini : Nat → Nat → BitVec 32
  | 0 => upd (fun _ => 0#32) 0 19650218#32
  | k + 1 => upd (ini k) (k + 1) (1812433253#32 * mixf (ini k k) + BitVec.ofNat 32 (k + 1))
/-- The index goes round: 1, 2, .., 623, 1, .. -/
def wrapS (s : Nat → BitVec 32) (i : Nat) : Nat → BitVec 32 := if i + 1 = 624 then upd s 0 (s 623) else s
def wrapI (i : Nat) : Nat := if i + 1 = 624 then 1 else i + 1
/-- The index behind k rounds that began at i. -/
def idx (i : Nat) : Nat → Nat
  | 0 => i
  | k + 1 => wrapI (idx i k)
/-- Behind k rounds of the second loop. -/
def sA (seed : BitVec 32) (s0 : Nat → BitVec 32) : Nat → Nat → BitVec 32
  | 0 => s0
  | k + 1 => wrapS (upd (sA seed s0 k) (idx 1 k) ((sA seed s0 k (idx 1 k) ^^^ (mixf (sA seed s0 k (idx 1 k - 1)) * 1664525#32)) + seed)) (idx 1 k)
/-- Behind k rounds of the third loop. -/
def sB (s0 : Nat → BitVec 32) : Nat → Nat → BitVec 32
  | 0 => s0
  | k + 1 => wrapS (upd (sB s0 k) (idx 2 k) ((sB s0 k (idx 2 k) ^^^ (mixf (sB s0 k (idx 2 k - 1)) * 1566083941#32)) - BitVec.ofNat 32 (idx 2 k))) (idx 2 k)
/-- The seeded state. -/
def seeded (seed : BitVec 32) : Nat → BitVec 32 := upd (sB (sA seed (ini 623) 624) 623) 0 2147483648#32

/-! ### The untempering -/
def un15 (y t : BitVec 32) : BitVec 32 := y ^^^ ((t <<< 15) &&& 4022730752#32)
def un7 (y t : BitVec 32) : BitVec 32 := y ^^^ ((t <<< 7) &&& 2636928640#32)
def untemper4 (y : BitVec 32) : BitVec 32 := y ^^^ (y >>> 18)
def untemper3 (y : BitVec 32) : BitVec 32 := un15 y (un15 y y)
/-- k rounds. -/
def untemper2 (y : BitVec 32) : Nat → BitVec 32
  | 0 => y
  | k + 1 => un7 y (untemper2 y k)
def untemper1 (y : BitVec 32) : BitVec 32 := y ^^^ (y >>> 11) ^^^ (y >>> 22)
def untemper (y : BitVec 32) : BitVec 32 := untemper1 (untemper2 (untemper3 (untemper4 y)) 4)

end Go.Proofs.Qxb6604045a
