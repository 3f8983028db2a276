/-
  DERIVED: THE SHELF's CONTRACTS AT THIS DUMP, IN PLAIN WORDS (tools/lay-plain.mjs out of 'TryzShelf.lean', which tools/lay-shelf.mjs wrote): THE SAME DECLARATIONS UNDER THE SAME NAMES: 'import', 'namespace', 'open', 'def', 'theorem' AND NOTHING ELSE: no command of the shelf's: FOR A HAND-IN. Each laying: the table of numbers ('.._ren') and one theorem, a field a fact of the dump's own or the kernel's comparison; each contract: ONE APPLICATION.
-/
import Derived.Shelf.Small.Bits
import Derived.Shelf.Strconv.Itoa0
import Derived.Shelf.LaysM
import Derived.Shelf.Bytes.Len
import Derived.Shelf.Bytes.TryGrow
import Derived.Shelf.Bytes.GrowSliceCatch
import Derived.Shelf.Bytes.GrowSlice
import Derived.Shelf.Bytes.Bytes
import Derived.Shelf.Bytes.GrowRow0Kept
import Derived.Shelf.Bytes.GrowRowKept
import Derived.Shelf.Bytes.GrowNilKept
import Derived.Shelf.Bytes.GrowKept
import Derived.Shelf.Sort.Plain
import Derived.Shelf.Bytes.ResetKept
import Derived.Shelf.Bytes.WriteKept
import Derived.Shelf.Bytes.BufferK
import Derived.Shelf.Bytes.GrowRow0Own
import Derived.Shelf.Bytes.GrowRowOwn
import Derived.Shelf.Bytes.GrowNilOwn
import Derived.Shelf.Bytes.GrowOwn
import Derived.Shelf.Bytes.WriteAny
import Derived.Shelf.Bytes.LenAt
import Derived.Shelf.Bytes.TryGrowAt
import Derived.Shelf.Bytes.GrowRow0At
import Derived.Shelf.Bytes.GrowRowAt
import Derived.Shelf.Bytes.GrowNilAt
import Derived.Shelf.Bytes.GrowAt
import Derived.Shelf.Bytes.WriteAt
import Derived.Ground.Names2Prog
import Derived.Shelf.Slices.Clone
import Derived.Shelf.Slices.In.SortNone
import Derived.Test.YtaejkbjepbifcabGreatDoorProg
namespace Go.Proofs
open Go.Shelf
def Tryz.lays125_ren : Go.Shelf.Ren := ⟨fun | 125 => 75 | 128 => 90 | 129 => 91 | n => n, fun | 46 => 124 | 3 => 3 | 51 => 144 | 53 => 115 | 4 => 4 | 5 => 5 | 9 => 9 | n => n, fun | n => n⟩
theorem Tryz.lays125 : Go.Proofs.Lays.n125 Tryz.prog Tryz.lays125_ren := {
  mixed := by kernel_rfl
  f125 := Tryz.func75.trans (congrArg some (by kernel_rfl))
  f128 := Tryz.func90.trans (congrArg some (by kernel_rfl))
  f129 := Tryz.func91.trans (congrArg some (by kernel_rfl))
  t3 := Tryz.underlying3
  a3 := Tryz.isAgg3
  z3 := Tryz.sizeOf3
  v3 := Tryz.zeroValue3
  t4 := Tryz.underlying4
  a4 := Tryz.isAgg4
  z4 := Tryz.sizeOf4
  v4 := Tryz.zeroValue4
  t5 := Tryz.underlying5
  a5 := Tryz.isAgg5
  z5 := Tryz.sizeOf5
  v5 := Tryz.zeroValue5
  t9 := Tryz.underlying9
  a9 := Tryz.isAgg9
  z9 := Tryz.sizeOf9
  v9 := Tryz.zeroValue9
  t46 := Tryz.underlying124
  a46 := Tryz.isAgg124
  z46 := Tryz.sizeOf124
  v46 := Tryz.zeroValue124
  t51 := Tryz.underlying144
  a51 := Tryz.isAgg144
  z51 := Tryz.sizeOf144
  v51 := Tryz.zeroValue144
  t53 := Tryz.underlying115
  a53 := Tryz.isAgg115
  z53 := Tryz.sizeOf115
  v53 := Tryz.zeroValue115 }
/-- bits.Len: "Len returns the minimum number of bits required to represent x; the result is 0 for x == 0.": IT RETURNS 'Lib.bitLen x'; the world is as it was. (A uint has 64 bits in the model.) ITS CALLEE bits.Len64 IS MET BY ITS OWN CONTRACT OFF THE SHELF (lay that first). (LAID: no walk: one application.) -/
theorem Tryz.bits_Len (x : Int) (w : World) (h0 : 0 ≤ x) (h1 : x ≤ 18446744073709551615) :
    Calls Tryz.prog 75 #[.int .u64 x] w fun e w' => e = .returned (.int .i64 (Lib.bitLen x.toNat)) ∧ w' = w := Any.bits_Len Tryz.lays125 x w h0 h1
def Tryz.laysM181_ren : Go.Shelf.Ren := ⟨fun | 181 => 33 | n => n, fun | 130 => 74 | 3 => 3 | 0 => 0 | 93 => 71 | 37 => 46 | 91 => 69 | 5 => 5 | n => n, fun | n => n⟩
theorem Tryz.laysM181 : Go.Proofs.LaysM.n181 Tryz.prog Tryz.laysM181_ren := {
  mixed := by kernel_rfl
  f181 := Tryz.func33.trans (congrArg some (by kernel_rfl))
  t0 := Tryz.underlying0
  a0 := Tryz.isAgg0
  z0 := Tryz.sizeOf0
  v0 := Tryz.zeroValue0
  t3 := Tryz.underlying3
  a3 := Tryz.isAgg3
  z3 := Tryz.sizeOf3
  v3 := Tryz.zeroValue3
  t37 := Tryz.underlying46
  a37 := Tryz.isAgg46
  z37 := Tryz.sizeOf46
  v37 := Tryz.zeroValue46
  t93 := Tryz.underlying71
  a93 := Tryz.isAgg71
  z93 := Tryz.sizeOf71
  v93 := Tryz.zeroValue71
  t130 := Tryz.underlying74
  a130 := Tryz.isAgg74
  z130 := Tryz.sizeOf74
  v130 := Tryz.zeroValue74
  t5 := Tryz.underlying5
  a5 := Tryz.isAgg5
  z5 := Tryz.sizeOf5
  v5 := Tryz.zeroValue5
  t91 := Tryz.underlying69
  a91 := Tryz.isAgg69
  z91 := Tryz.sizeOf69
  v91 := Tryz.zeroValue69
  i0 := by kernel_rfl
  i3 := by kernel_rfl
  i5 := by kernel_rfl
  i37 := by kernel_rfl
  i91 := by kernel_rfl
  i93 := by kernel_rfl
  i130 := by kernel_rfl }
open Go.RowKit in
/-- (*bytes.Buffer).Len: "Len returns the number of bytes of the unread portion of the buffer; b.Len() == len(b.Bytes()).": the world is as it was but for the count of draws (the statement has two reads: its order is drawn). (LAID: no walk: one application.) -/
theorem Tryz.Buffer_Len (B b : Nat) (bs : List Value) (w : World) (h : Lib.IsBuffer 71 5 B b bs w) :
    Calls Tryz.prog 33 #[.pointer (some ⟨b, 0, none⟩)] w fun e w' => e = .returned (.int .i64 bs.length) ∧ ∃ n, w' = w.drewN n := Any.Buffer_Len Tryz.laysM181 B b bs w h
def Tryz.laysM183_ren : Go.Shelf.Ren := ⟨fun | 183 => 34 | n => n, fun | 130 => 74 | 37 => 46 | 0 => 0 | 93 => 71 | 3 => 3 | 5 => 5 | 91 => 69 | n => n, fun | n => n⟩
theorem Tryz.laysM183 : Go.Proofs.LaysM.n183 Tryz.prog Tryz.laysM183_ren := {
  mixed := by kernel_rfl
  f183 := Tryz.func34.trans (congrArg some (by kernel_rfl))
  t0 := Tryz.underlying0
  a0 := Tryz.isAgg0
  z0 := Tryz.sizeOf0
  v0 := Tryz.zeroValue0
  t3 := Tryz.underlying3
  a3 := Tryz.isAgg3
  z3 := Tryz.sizeOf3
  v3 := Tryz.zeroValue3
  t37 := Tryz.underlying46
  a37 := Tryz.isAgg46
  z37 := Tryz.sizeOf46
  v37 := Tryz.zeroValue46
  t93 := Tryz.underlying71
  a93 := Tryz.isAgg71
  z93 := Tryz.sizeOf71
  v93 := Tryz.zeroValue71
  t130 := Tryz.underlying74
  a130 := Tryz.isAgg74
  z130 := Tryz.sizeOf74
  v130 := Tryz.zeroValue74
  t5 := Tryz.underlying5
  a5 := Tryz.isAgg5
  z5 := Tryz.sizeOf5
  v5 := Tryz.zeroValue5
  t91 := Tryz.underlying69
  a91 := Tryz.isAgg69
  z91 := Tryz.sizeOf69
  v91 := Tryz.zeroValue69
  i0 := by kernel_rfl
  i3 := by kernel_rfl
  i5 := by kernel_rfl
  i37 := by kernel_rfl
  i91 := by kernel_rfl
  i93 := by kernel_rfl
  i130 := by kernel_rfl }
open Go.RowKit in
/-- (*bytes.Buffer).Bytes: "Bytes returns a slice of length b.Len() holding the unread portion of the buffer. .. The slice aliases the buffer content at least until the next buffer modification": A SLICE THAT OWNS THE CELLS bs ('World.ownsRow': nil where nothing was ever written). The world is as it was but for the count of draws. (LAID: no walk: one application.) -/
theorem Tryz.Buffer_Bytes (B b : Nat) (bs : List Value) (w : World) (h : Lib.IsBuffer 71 5 B b bs w) :
    Calls Tryz.prog 34 #[.pointer (some ⟨b, 0, none⟩)] w fun e w' => ∃ v, e = .returned v ∧ w'.ownsRow B 5 1 v bs.length bs ∧ ∃ n, w' = w.drewN n := Any.Buffer_Bytes Tryz.laysM183 B b bs w h
def Tryz.lays190_ren : Go.Shelf.Ren := ⟨fun | 190 => 67 | 125 => 75 | 258 => 79 | 128 => 90 | 129 => 91 | 302 => 92 | 303 => 93 | 304 => 94 | 305 => 95 | 306 => 96 | 307 => 97 | 308 => 65 | 309 => 98 | 310 => 99 | 333 => 109 | 329 => 104 | 330 => 105 | 334 => 110 | 335 => 111 | 336 => 78 | 344 => 113 | n => n, fun | 31 => 22 | 9 => 9 | 3 => 3 | 46 => 124 | 0 => 0 | 51 => 144 | 53 => 115 | 4 => 4 | 183 => 137 | 182 => 136 | 131 => 116 | 5 => 5 | 218 => 151 | 222 => 155 | 228 => 160 | 229 => 161 | n => n, fun | n => n⟩
theorem Tryz.lays190 : Go.Proofs.Lays.n190 Tryz.prog Tryz.lays190_ren := {
  mixed := by kernel_rfl
  f125 := Tryz.func75.trans (congrArg some (by kernel_rfl))
  f128 := Tryz.func90.trans (congrArg some (by kernel_rfl))
  f129 := Tryz.func91.trans (congrArg some (by kernel_rfl))
  f190 := Tryz.func67.trans (congrArg some (by kernel_rfl))
  f258 := Tryz.func79.trans (congrArg some (by kernel_rfl))
  f302 := Tryz.func92.trans (congrArg some (by kernel_rfl))
  f303 := Tryz.func93.trans (congrArg some (by kernel_rfl))
  f304 := Tryz.func94.trans (congrArg some (by kernel_rfl))
  f305 := Tryz.func95.trans (congrArg some (by kernel_rfl))
  f306 := Tryz.func96.trans (congrArg some (by kernel_rfl))
  f307 := Tryz.func97.trans (congrArg some (by kernel_rfl))
  f308 := Tryz.func65.trans (congrArg some (by kernel_rfl))
  f309 := Tryz.func98.trans (congrArg some (by kernel_rfl))
  f310 := Tryz.func99.trans (congrArg some (by kernel_rfl))
  f329 := Tryz.func104.trans (congrArg some (by kernel_rfl))
  f330 := Tryz.func105.trans (congrArg some (by kernel_rfl))
  f333 := Tryz.func109.trans (congrArg some (by kernel_rfl))
  f334 := Tryz.func110.trans (congrArg some (by kernel_rfl))
  f335 := Tryz.func111.trans (congrArg some (by kernel_rfl))
  f336 := Tryz.func78.trans (congrArg some (by kernel_rfl))
  f344 := Tryz.func113.trans (congrArg some (by kernel_rfl))
  t0 := Tryz.underlying0
  a0 := Tryz.isAgg0
  z0 := Tryz.sizeOf0
  v0 := Tryz.zeroValue0
  t3 := Tryz.underlying3
  a3 := Tryz.isAgg3
  z3 := Tryz.sizeOf3
  v3 := Tryz.zeroValue3
  t4 := Tryz.underlying4
  a4 := Tryz.isAgg4
  z4 := Tryz.sizeOf4
  v4 := Tryz.zeroValue4
  t5 := Tryz.underlying5
  a5 := Tryz.isAgg5
  z5 := Tryz.sizeOf5
  v5 := Tryz.zeroValue5
  t9 := Tryz.underlying9
  a9 := Tryz.isAgg9
  z9 := Tryz.sizeOf9
  v9 := Tryz.zeroValue9
  t31 := Tryz.underlying22
  a31 := Tryz.isAgg22
  z31 := Tryz.sizeOf22
  v31 := Tryz.zeroValue22
  t46 := Tryz.underlying124
  a46 := Tryz.isAgg124
  z46 := Tryz.sizeOf124
  v46 := Tryz.zeroValue124
  t51 := Tryz.underlying144
  a51 := Tryz.isAgg144
  z51 := Tryz.sizeOf144
  v51 := Tryz.zeroValue144
  t53 := Tryz.underlying115
  a53 := Tryz.isAgg115
  z53 := Tryz.sizeOf115
  v53 := Tryz.zeroValue115
  t131 := Tryz.underlying116
  a131 := Tryz.isAgg116
  z131 := Tryz.sizeOf116
  v131 := Tryz.zeroValue116
  t182 := Tryz.underlying136
  a182 := Tryz.isAgg136
  z182 := Tryz.sizeOf136
  v182 := Tryz.zeroValue136
  t183 := Tryz.underlying137
  a183 := Tryz.isAgg137
  z183 := Tryz.sizeOf137
  v183 := Tryz.zeroValue137
  t218 := Tryz.underlying151
  a218 := Tryz.isAgg151
  z218 := Tryz.sizeOf151
  v218 := Tryz.zeroValue151
  t222 := Tryz.underlying155
  a222 := Tryz.isAgg155
  z222 := Tryz.sizeOf155
  v222 := Tryz.zeroValue155
  t228 := Tryz.underlying160
  a228 := Tryz.isAgg160
  z228 := Tryz.sizeOf160
  v228 := Tryz.zeroValue160
  t229 := Tryz.underlying161
  a229 := Tryz.isAgg161
  z229 := Tryz.sizeOf161
  v229 := Tryz.zeroValue161 }
open Go.Sort Go.RowKit in
def Tryz.laysM180_ren : Go.Shelf.Ren := ⟨fun | 180 => 134 | 251 => 136 | 252 => 137 | 181 => 33 | 184 => 132 | 290 => 138 | 324 => 139 | n => n, fun | 130 => 74 | 37 => 46 | 3 => 3 | 75 => 55 | 0 => 0 | 93 => 71 | 91 => 69 | 131 => 116 | 4 => 4 | 20 => 20 | 5 => 5 | 80 => 164 | 9 => 9 | n => n, fun | 14 => 3 | n => n⟩
theorem Tryz.laysM180 : Go.Proofs.LaysM.n180 Tryz.prog Tryz.laysM180_ren := {
  mixed := by kernel_rfl
  f180 := Tryz.func134.trans (congrArg some (by kernel_rfl))
  f181 := Tryz.func33.trans (congrArg some (by kernel_rfl))
  f184 := Tryz.func132.trans (congrArg some (by kernel_rfl))
  f251 := Tryz.func136.trans (congrArg some (by kernel_rfl))
  f252 := Tryz.func137.trans (congrArg some (by kernel_rfl))
  f290 := Tryz.func138.trans (congrArg some (by kernel_rfl))
  f324 := Tryz.func139.trans (congrArg some (by kernel_rfl))
  t0 := Tryz.underlying0
  a0 := Tryz.isAgg0
  z0 := Tryz.sizeOf0
  v0 := Tryz.zeroValue0
  t3 := Tryz.underlying3
  a3 := Tryz.isAgg3
  z3 := Tryz.sizeOf3
  v3 := Tryz.zeroValue3
  t4 := Tryz.underlying4
  a4 := Tryz.isAgg4
  z4 := Tryz.sizeOf4
  v4 := Tryz.zeroValue4
  t20 := Tryz.underlying20
  a20 := Tryz.isAgg20
  z20 := Tryz.sizeOf20
  v20 := Tryz.zeroValue20
  t37 := Tryz.underlying46
  a37 := Tryz.isAgg46
  z37 := Tryz.sizeOf46
  v37 := Tryz.zeroValue46
  t75 := Tryz.underlying55
  a75 := Tryz.isAgg55
  z75 := Tryz.sizeOf55
  v75 := Tryz.zeroValue55
  t91 := Tryz.underlying69
  a91 := Tryz.isAgg69
  z91 := Tryz.sizeOf69
  v91 := Tryz.zeroValue69
  t93 := Tryz.underlying71
  a93 := Tryz.isAgg71
  z93 := Tryz.sizeOf71
  v93 := Tryz.zeroValue71
  t130 := Tryz.underlying74
  a130 := Tryz.isAgg74
  z130 := Tryz.sizeOf74
  v130 := Tryz.zeroValue74
  t131 := Tryz.underlying116
  a131 := Tryz.isAgg116
  z131 := Tryz.sizeOf116
  v131 := Tryz.zeroValue116
  g14 := by kernel_rfl
  t5 := Tryz.underlying5
  a5 := Tryz.isAgg5
  z5 := Tryz.sizeOf5
  v5 := Tryz.zeroValue5
  t9 := Tryz.underlying9
  a9 := Tryz.isAgg9
  z9 := Tryz.sizeOf9
  v9 := Tryz.zeroValue9
  t80 := Tryz.underlying164
  a80 := Tryz.isAgg164
  z80 := Tryz.sizeOf164
  v80 := Tryz.zeroValue164
  i0 := by kernel_rfl
  i3 := by kernel_rfl
  i4 := by kernel_rfl
  i5 := by kernel_rfl
  i9 := by kernel_rfl
  i20 := by kernel_rfl
  i37 := by kernel_rfl
  i75 := by kernel_rfl
  i80 := by kernel_rfl
  i91 := by kernel_rfl
  i93 := by kernel_rfl
  i130 := by kernel_rfl
  i131 := by kernel_rfl
  m14 := by kernel_rfl }
open Go.RowKit in
/-- (*bytes.Buffer).Write: "Write appends the contents of p to the buffer, growing the buffer as needed. The return value n is the length of p; err is always nil." (LAID: no walk: one application.) -/
theorem Tryz.Buffer_Write_any (B b : Nat) (bs cs : List Value) (a : Addr) (n c : Nat) (w : World) (h : Lib.IsBuffer 71 5 B b bs w) (hBw : B ≤ w.heap.size) (h1 : ∀ v ∈ bs, v.oneCell' = true) (hn : cs.length = n) (hab : a.block ≠ b) (hsrc : ∀ j v, cs[j]? = some v → w.cell? (a.add j) = some v) (h1c : ∀ v ∈ cs, v.oneCell' = true) (hlim : bs.length + n ≤ 140737488355328) :
    Calls Tryz.prog 134 #[.pointer (some ⟨b, 0, none⟩), .slice (some a) n c] w fun e w' => e = .returned (.tuple #[.int .i64 n, .nilIface]) ∧ Lib.IsBuffer 71 5 B b (bs ++ cs) w' ∧ Below B w w' ∧ Lib.OthersKept 5 (some b) w w' := Any.Buffer_Write_any Tryz.laysM180 B b bs cs a n c w h hBw h1 hn hab hsrc h1c hlim
end Go.Proofs
