namespace Go.Proofs.Qxb6616158a

/-- The shortest unsigned varint of x, with fuel: a byte's worth of seven bits at a time. -/
def uvf : Nat → Nat → List Nat
  | 0, x => [x]
  | f + 1, x => if x < 128 then [x] else (x % 128 + 128) :: uvf f (x / 128)
def uv (x : Nat) : List Nat := uvf 9 x

theorem uvf_length (f : Nat) : ∀ x, (uvf f x).length ≤ f + 1 := by
  induction f with
  | zero => intro x; simp [uvf]
  | succ f ih =>
    intro x
    unfold uvf
    split
    · simp
    · have := ih (x / 128); simp; omega
theorem uv_length (x : Nat) : (uv x).length ≤ 10 := uvf_length 9 x
theorem uvf_lt (f x : Nat) (h : x < 128) : uvf f x = [x] := by
  cases f with
  | zero => rfl
  | succ f => unfold uvf; rw [if_pos h]
theorem uvf_ge (f x : Nat) (h : ¬ x < 128) : uvf (f + 1) x = (x % 128 + 128) :: uvf f (x / 128) := by
  show (if x < 128 then [x] else (x % 128 + 128) :: uvf f (x / 128)) = _
  rw [if_neg h]

/-- One entry, one member, one change, as plain data. -/
structure Ent where
  pos : Nat
  epoch : Nat
  client : ByteArray
  seq : Nat
  payload : List Nat
structure Mbr where
  id : Nat
  addr : ByteArray
  counts : Bool
  nonvoter : Bool
structure Chg where
  number : Nat
  epoch : Nat
  after : Nat
  members : List Mbr
  goneID : Nat
  goneAddr : ByteArray
  goneCounts : Bool
  goneNonvoter : Bool
  group : Nat
structure Apd where
  ticket : Nat
  epoch : Nat
  start : Nat
  prev : Nat
  prevEpoch : Nat
  entries : List Ent
  ends : List Nat
  commit : Nat
  held : Nat
  change : Option Chg
  changes : Nat
  changed : Nat
  read : Nat

/-- A string's bytes as numbers. -/
def sb (s : ByteArray) : List Nat := s.data.toList.map UInt8.toNat
theorem sb_length (s : ByteArray) : (sb s).length = s.size := by simp [sb]
def encBytes (p : List Nat) : List Nat := uv p.length ++ p
def mark (c n : Bool) : Nat := if c then 1 else if n then 2 else 0
def encEnt (e : Ent) : List Nat := uv e.pos ++ (uv e.epoch ++ (encBytes (sb e.client) ++ (uv e.seq ++ encBytes e.payload)))
def encMbr (m : Mbr) : List Nat := uv m.id ++ (mark m.counts m.nonvoter :: encBytes (sb m.addr))
def encMbrs (ms : List Mbr) : List Nat := ms.flatMap encMbr
def encChg (c : Chg) : List Nat := uv c.number ++ (uv c.epoch ++ (uv c.after ++ (uv c.members.length ++ (encMbrs c.members ++ (uv c.goneID ++ encBytes (sb c.goneAddr))))))
def encChgIn (c : Chg) : List Nat := encChg c ++ uv c.group
def encOpt : Option Chg → List Nat
  | none => [0]
  | some c => 1 :: encChgIn c
def encEnts (es : List Ent) : List Nat := es.flatMap encEnt
def encEnds (es : List Nat) : List Nat := es.flatMap uv
end Go.Proofs.Qxb6616158a
