/- bytes.Buffer: the shelf's layings at this dump (written by the kit's lay-shelf and lay-plain); Grow by a walk over grow's contract. -/
import Derived.Shelf.Bytes.WriteAny
import Derived.Shelf.Bytes.BufferK
import Derived.Shelf.Bytes.Bytes
import Derived.Shelf.Bytes.Len
import Derived.Lib.BufferOld
import Derived.Ground.NamesProg
import Derived.Test.YtgibmkgibkhemaaDoorDecOff
namespace Go.Proofs.YtgibmkgibkhemaaDoor
open Go.Shelf Go.RowKit
set_option linter.unusedSimpArgs false
set_option linter.unusedVariables false
def layWrite_ren : Go.Shelf.Ren := ⟨fun | 180 => 35 | 251 => 49 | 252 => 45 | 181 => 55 | 184 => 56 | 290 => 58 | 324 => 62 | n => n, fun | 130 => 66 | 37 => 38 | 3 => 3 | 75 => 40 | 0 => 0 | 93 => 70 | 91 => 68 | 131 => 116 | 4 => 4 | 20 => 20 | 5 => 5 | 80 => 43 | 9 => 9 | n => n, fun | 14 => 5 | n => n⟩
theorem layWrite : Go.Proofs.LaysM.n180 Tryd.prog layWrite_ren := {
  mixed := by kernel_rfl
  f180 := Tryd.func35.trans (congrArg some (by kernel_rfl))
  f181 := Tryd.func55.trans (congrArg some (by kernel_rfl))
  f184 := Tryd.func56.trans (congrArg some (by kernel_rfl))
  f251 := Tryd.func49.trans (congrArg some (by kernel_rfl))
  f252 := Tryd.func45.trans (congrArg some (by kernel_rfl))
  f290 := Tryd.func58.trans (congrArg some (by kernel_rfl))
  f324 := Tryd.func62.trans (congrArg some (by kernel_rfl))
  t0 := Tryd.underlying0
  a0 := Tryd.isAgg0
  z0 := Tryd.sizeOf0
  v0 := Tryd.zeroValue0
  t3 := Tryd.underlying3
  a3 := Tryd.isAgg3
  z3 := Tryd.sizeOf3
  v3 := Tryd.zeroValue3
  t4 := Tryd.underlying4
  a4 := Tryd.isAgg4
  z4 := Tryd.sizeOf4
  v4 := Tryd.zeroValue4
  t20 := Tryd.underlying20
  a20 := Tryd.isAgg20
  z20 := Tryd.sizeOf20
  v20 := Tryd.zeroValue20
  t37 := Tryd.underlying38
  a37 := Tryd.isAgg38
  z37 := Tryd.sizeOf38
  v37 := Tryd.zeroValue38
  t75 := Tryd.underlying40
  a75 := Tryd.isAgg40
  z75 := Tryd.sizeOf40
  v75 := Tryd.zeroValue40
  t91 := Tryd.underlying68
  a91 := Tryd.isAgg68
  z91 := Tryd.sizeOf68
  v91 := Tryd.zeroValue68
  t93 := Tryd.underlying70
  a93 := Tryd.isAgg70
  z93 := Tryd.sizeOf70
  v93 := Tryd.zeroValue70
  t130 := Tryd.underlying66
  a130 := Tryd.isAgg66
  z130 := Tryd.sizeOf66
  v130 := Tryd.zeroValue66
  t131 := Tryd.underlying116
  a131 := Tryd.isAgg116
  z131 := Tryd.sizeOf116
  v131 := Tryd.zeroValue116
  g14 := by kernel_rfl
  t5 := Tryd.underlying5
  a5 := Tryd.isAgg5
  z5 := Tryd.sizeOf5
  v5 := Tryd.zeroValue5
  t9 := Tryd.underlying9
  a9 := Tryd.isAgg9
  z9 := Tryd.sizeOf9
  v9 := Tryd.zeroValue9
  t80 := Tryd.underlying43
  a80 := Tryd.isAgg43
  z80 := Tryd.sizeOf43
  v80 := Tryd.zeroValue43
  i0 := by kernel_rfl
  i3 := by kernel_rfl
  i4 := by kernel_rfl
  i5 := by kernel_rfl
  i9 := by kernel_rfl
  i20 := by kernel_rfl
  i37 := by kernel_rfl
  i75 := by kernel_rfl
  i80 := by kernel_rfl
  i91 := by kernel_rfl
  i93 := by kernel_rfl
  i130 := by kernel_rfl
  i131 := by kernel_rfl
  m14 := by kernel_rfl }
def layWriteByte_ren : Go.Shelf.Ren := ⟨fun | 179 => 40 | 251 => 49 | 252 => 45 | 181 => 55 | 184 => 56 | 290 => 58 | 324 => 62 | n => n, fun | 130 => 66 | 5 => 5 | 75 => 40 | 0 => 0 | 93 => 70 | 91 => 68 | 3 => 3 | 131 => 116 | 4 => 4 | 37 => 38 | 20 => 20 | 80 => 43 | 9 => 9 | n => n, fun | 14 => 5 | n => n⟩
theorem layWriteByte : Go.Proofs.LaysM.n179 Tryd.prog layWriteByte_ren := {
  mixed := by kernel_rfl
  f179 := Tryd.func40.trans (congrArg some (by kernel_rfl))
  f181 := Tryd.func55.trans (congrArg some (by kernel_rfl))
  f184 := Tryd.func56.trans (congrArg some (by kernel_rfl))
  f251 := Tryd.func49.trans (congrArg some (by kernel_rfl))
  f252 := Tryd.func45.trans (congrArg some (by kernel_rfl))
  f290 := Tryd.func58.trans (congrArg some (by kernel_rfl))
  f324 := Tryd.func62.trans (congrArg some (by kernel_rfl))
  t0 := Tryd.underlying0
  a0 := Tryd.isAgg0
  z0 := Tryd.sizeOf0
  v0 := Tryd.zeroValue0
  t3 := Tryd.underlying3
  a3 := Tryd.isAgg3
  z3 := Tryd.sizeOf3
  v3 := Tryd.zeroValue3
  t4 := Tryd.underlying4
  a4 := Tryd.isAgg4
  z4 := Tryd.sizeOf4
  v4 := Tryd.zeroValue4
  t5 := Tryd.underlying5
  a5 := Tryd.isAgg5
  z5 := Tryd.sizeOf5
  v5 := Tryd.zeroValue5
  t20 := Tryd.underlying20
  a20 := Tryd.isAgg20
  z20 := Tryd.sizeOf20
  v20 := Tryd.zeroValue20
  t37 := Tryd.underlying38
  a37 := Tryd.isAgg38
  z37 := Tryd.sizeOf38
  v37 := Tryd.zeroValue38
  t75 := Tryd.underlying40
  a75 := Tryd.isAgg40
  z75 := Tryd.sizeOf40
  v75 := Tryd.zeroValue40
  t91 := Tryd.underlying68
  a91 := Tryd.isAgg68
  z91 := Tryd.sizeOf68
  v91 := Tryd.zeroValue68
  t93 := Tryd.underlying70
  a93 := Tryd.isAgg70
  z93 := Tryd.sizeOf70
  v93 := Tryd.zeroValue70
  t130 := Tryd.underlying66
  a130 := Tryd.isAgg66
  z130 := Tryd.sizeOf66
  v130 := Tryd.zeroValue66
  t131 := Tryd.underlying116
  a131 := Tryd.isAgg116
  z131 := Tryd.sizeOf116
  v131 := Tryd.zeroValue116
  g14 := by kernel_rfl
  t9 := Tryd.underlying9
  a9 := Tryd.isAgg9
  z9 := Tryd.sizeOf9
  v9 := Tryd.zeroValue9
  t80 := Tryd.underlying43
  a80 := Tryd.isAgg43
  z80 := Tryd.sizeOf43
  v80 := Tryd.zeroValue43
  i0 := by kernel_rfl
  i3 := by kernel_rfl
  i4 := by kernel_rfl
  i5 := by kernel_rfl
  i9 := by kernel_rfl
  i20 := by kernel_rfl
  i37 := by kernel_rfl
  i75 := by kernel_rfl
  i80 := by kernel_rfl
  i91 := by kernel_rfl
  i93 := by kernel_rfl
  i130 := by kernel_rfl
  i131 := by kernel_rfl
  m14 := by kernel_rfl }
def layBytes_ren : Go.Shelf.Ren := ⟨fun | 183 => 25 | n => n, fun | 130 => 66 | 37 => 38 | 0 => 0 | 93 => 70 | 3 => 3 | 5 => 5 | 91 => 68 | n => n, fun | n => n⟩
theorem layBytes : Go.Proofs.LaysM.n183 Tryd.prog layBytes_ren := {
  mixed := by kernel_rfl
  f183 := Tryd.func25.trans (congrArg some (by kernel_rfl))
  t0 := Tryd.underlying0
  a0 := Tryd.isAgg0
  z0 := Tryd.sizeOf0
  v0 := Tryd.zeroValue0
  t3 := Tryd.underlying3
  a3 := Tryd.isAgg3
  z3 := Tryd.sizeOf3
  v3 := Tryd.zeroValue3
  t37 := Tryd.underlying38
  a37 := Tryd.isAgg38
  z37 := Tryd.sizeOf38
  v37 := Tryd.zeroValue38
  t93 := Tryd.underlying70
  a93 := Tryd.isAgg70
  z93 := Tryd.sizeOf70
  v93 := Tryd.zeroValue70
  t130 := Tryd.underlying66
  a130 := Tryd.isAgg66
  z130 := Tryd.sizeOf66
  v130 := Tryd.zeroValue66
  t5 := Tryd.underlying5
  a5 := Tryd.isAgg5
  z5 := Tryd.sizeOf5
  v5 := Tryd.zeroValue5
  t91 := Tryd.underlying68
  a91 := Tryd.isAgg68
  z91 := Tryd.sizeOf68
  v91 := Tryd.zeroValue68
  i0 := by kernel_rfl
  i3 := by kernel_rfl
  i5 := by kernel_rfl
  i37 := by kernel_rfl
  i91 := by kernel_rfl
  i93 := by kernel_rfl
  i130 := by kernel_rfl }
def layReset_ren : Go.Shelf.Ren := ⟨fun | 184 => 56 | n => n, fun | 130 => 66 | 0 => 0 | 93 => 70 | 37 => 38 | 3 => 3 | 91 => 68 | 5 => 5 | n => n, fun | n => n⟩
theorem layReset : Go.Proofs.LaysM.n184 Tryd.prog layReset_ren := {
  mixed := by kernel_rfl
  f184 := Tryd.func56.trans (congrArg some (by kernel_rfl))
  t0 := Tryd.underlying0
  a0 := Tryd.isAgg0
  z0 := Tryd.sizeOf0
  v0 := Tryd.zeroValue0
  t3 := Tryd.underlying3
  a3 := Tryd.isAgg3
  z3 := Tryd.sizeOf3
  v3 := Tryd.zeroValue3
  t37 := Tryd.underlying38
  a37 := Tryd.isAgg38
  z37 := Tryd.sizeOf38
  v37 := Tryd.zeroValue38
  t91 := Tryd.underlying68
  a91 := Tryd.isAgg68
  z91 := Tryd.sizeOf68
  v91 := Tryd.zeroValue68
  t93 := Tryd.underlying70
  a93 := Tryd.isAgg70
  z93 := Tryd.sizeOf70
  v93 := Tryd.zeroValue70
  t130 := Tryd.underlying66
  a130 := Tryd.isAgg66
  z130 := Tryd.sizeOf66
  v130 := Tryd.zeroValue66
  t5 := Tryd.underlying5
  a5 := Tryd.isAgg5
  z5 := Tryd.sizeOf5
  v5 := Tryd.zeroValue5
  i0 := by kernel_rfl
  i3 := by kernel_rfl
  i5 := by kernel_rfl
  i37 := by kernel_rfl
  i91 := by kernel_rfl
  i93 := by kernel_rfl
  i130 := by kernel_rfl }
def layGrow_ren : Go.Shelf.Ren := ⟨fun | 252 => 45 | 181 => 55 | 184 => 56 | 251 => 49 | 290 => 58 | 324 => 62 | n => n, fun | 130 => 66 | 3 => 3 | 4 => 4 | 0 => 0 | 93 => 70 | 131 => 116 | 37 => 38 | 75 => 40 | 91 => 68 | 20 => 20 | 5 => 5 | 80 => 43 | 9 => 9 | n => n, fun | 14 => 5 | n => n⟩
theorem layGrow : Go.Proofs.LaysM.n252 Tryd.prog layGrow_ren := {
  mixed := by kernel_rfl
  f181 := Tryd.func55.trans (congrArg some (by kernel_rfl))
  f184 := Tryd.func56.trans (congrArg some (by kernel_rfl))
  f251 := Tryd.func49.trans (congrArg some (by kernel_rfl))
  f252 := Tryd.func45.trans (congrArg some (by kernel_rfl))
  f290 := Tryd.func58.trans (congrArg some (by kernel_rfl))
  f324 := Tryd.func62.trans (congrArg some (by kernel_rfl))
  t0 := Tryd.underlying0
  a0 := Tryd.isAgg0
  z0 := Tryd.sizeOf0
  v0 := Tryd.zeroValue0
  t3 := Tryd.underlying3
  a3 := Tryd.isAgg3
  z3 := Tryd.sizeOf3
  v3 := Tryd.zeroValue3
  t4 := Tryd.underlying4
  a4 := Tryd.isAgg4
  z4 := Tryd.sizeOf4
  v4 := Tryd.zeroValue4
  t20 := Tryd.underlying20
  a20 := Tryd.isAgg20
  z20 := Tryd.sizeOf20
  v20 := Tryd.zeroValue20
  t37 := Tryd.underlying38
  a37 := Tryd.isAgg38
  z37 := Tryd.sizeOf38
  v37 := Tryd.zeroValue38
  t75 := Tryd.underlying40
  a75 := Tryd.isAgg40
  z75 := Tryd.sizeOf40
  v75 := Tryd.zeroValue40
  t91 := Tryd.underlying68
  a91 := Tryd.isAgg68
  z91 := Tryd.sizeOf68
  v91 := Tryd.zeroValue68
  t93 := Tryd.underlying70
  a93 := Tryd.isAgg70
  z93 := Tryd.sizeOf70
  v93 := Tryd.zeroValue70
  t130 := Tryd.underlying66
  a130 := Tryd.isAgg66
  z130 := Tryd.sizeOf66
  v130 := Tryd.zeroValue66
  t131 := Tryd.underlying116
  a131 := Tryd.isAgg116
  z131 := Tryd.sizeOf116
  v131 := Tryd.zeroValue116
  g14 := by kernel_rfl
  t5 := Tryd.underlying5
  a5 := Tryd.isAgg5
  z5 := Tryd.sizeOf5
  v5 := Tryd.zeroValue5
  t9 := Tryd.underlying9
  a9 := Tryd.isAgg9
  z9 := Tryd.sizeOf9
  v9 := Tryd.zeroValue9
  t80 := Tryd.underlying43
  a80 := Tryd.isAgg43
  z80 := Tryd.sizeOf43
  v80 := Tryd.zeroValue43
  i0 := by kernel_rfl
  i3 := by kernel_rfl
  i4 := by kernel_rfl
  i5 := by kernel_rfl
  i9 := by kernel_rfl
  i20 := by kernel_rfl
  i37 := by kernel_rfl
  i75 := by kernel_rfl
  i80 := by kernel_rfl
  i91 := by kernel_rfl
  i93 := by kernel_rfl
  i130 := by kernel_rfl
  i131 := by kernel_rfl
  m14 := by kernel_rfl }
def layTry_ren : Go.Shelf.Ren := ⟨fun | 251 => 49 | n => n, fun | 130 => 66 | 3 => 3 | 4 => 4 | 0 => 0 | 93 => 70 | 37 => 38 | 91 => 68 | 5 => 5 | n => n, fun | n => n⟩
theorem layTry : Go.Proofs.LaysM.n251 Tryd.prog layTry_ren := {
  mixed := by kernel_rfl
  f251 := Tryd.func49.trans (congrArg some (by kernel_rfl))
  t0 := Tryd.underlying0
  a0 := Tryd.isAgg0
  z0 := Tryd.sizeOf0
  v0 := Tryd.zeroValue0
  t3 := Tryd.underlying3
  a3 := Tryd.isAgg3
  z3 := Tryd.sizeOf3
  v3 := Tryd.zeroValue3
  t4 := Tryd.underlying4
  a4 := Tryd.isAgg4
  z4 := Tryd.sizeOf4
  v4 := Tryd.zeroValue4
  t37 := Tryd.underlying38
  a37 := Tryd.isAgg38
  z37 := Tryd.sizeOf38
  v37 := Tryd.zeroValue38
  t93 := Tryd.underlying70
  a93 := Tryd.isAgg70
  z93 := Tryd.sizeOf70
  v93 := Tryd.zeroValue70
  t130 := Tryd.underlying66
  a130 := Tryd.isAgg66
  z130 := Tryd.sizeOf66
  v130 := Tryd.zeroValue66
  t5 := Tryd.underlying5
  a5 := Tryd.isAgg5
  z5 := Tryd.sizeOf5
  v5 := Tryd.zeroValue5
  t91 := Tryd.underlying68
  a91 := Tryd.isAgg68
  z91 := Tryd.sizeOf68
  v91 := Tryd.zeroValue68
  i0 := by kernel_rfl
  i3 := by kernel_rfl
  i4 := by kernel_rfl
  i5 := by kernel_rfl
  i37 := by kernel_rfl
  i91 := by kernel_rfl
  i93 := by kernel_rfl
  i130 := by kernel_rfl }
def layLen_ren : Go.Shelf.Ren := ⟨fun | 181 => 55 | n => n, fun | 130 => 66 | 3 => 3 | 0 => 0 | 93 => 70 | 37 => 38 | 91 => 68 | 5 => 5 | n => n, fun | n => n⟩
theorem layLen : Go.Proofs.LaysM.n181 Tryd.prog layLen_ren := {
  mixed := by kernel_rfl
  f181 := Tryd.func55.trans (congrArg some (by kernel_rfl))
  t0 := Tryd.underlying0
  a0 := Tryd.isAgg0
  z0 := Tryd.sizeOf0
  v0 := Tryd.zeroValue0
  t3 := Tryd.underlying3
  a3 := Tryd.isAgg3
  z3 := Tryd.sizeOf3
  v3 := Tryd.zeroValue3
  t37 := Tryd.underlying38
  a37 := Tryd.isAgg38
  z37 := Tryd.sizeOf38
  v37 := Tryd.zeroValue38
  t93 := Tryd.underlying70
  a93 := Tryd.isAgg70
  z93 := Tryd.sizeOf70
  v93 := Tryd.zeroValue70
  t130 := Tryd.underlying66
  a130 := Tryd.isAgg66
  z130 := Tryd.sizeOf66
  v130 := Tryd.zeroValue66
  t5 := Tryd.underlying5
  a5 := Tryd.isAgg5
  z5 := Tryd.sizeOf5
  v5 := Tryd.zeroValue5
  t91 := Tryd.underlying68
  a91 := Tryd.isAgg68
  z91 := Tryd.sizeOf68
  v91 := Tryd.zeroValue68
  i0 := by kernel_rfl
  i3 := by kernel_rfl
  i5 := by kernel_rfl
  i37 := by kernel_rfl
  i91 := by kernel_rfl
  i93 := by kernel_rfl
  i130 := by kernel_rfl }

abbrev IsBuf (B b : Nat) (bs : List Value) (w : World) : Prop := Lib.IsBuffer 70 5 B b bs w

theorem buf_write (B b : Nat) (bs cs : List Value) (a : Addr) (n c : Nat) (w : World) (h : IsBuf B b bs w) (hBw : B ≤ w.heap.size) (h1 : ∀ v ∈ bs, v.oneCell' = true)
    (hn : cs.length = n) (hab : a.block < B) (hsrc : ∀ j v, cs[j]? = some v → w.cell? (a.add j) = some v) (h1c : ∀ v ∈ cs, v.oneCell' = true) (hlim : bs.length + n ≤ 140737488355328) :
    Calls Tryd.prog 35 #[.pointer (some ⟨b, 0, none⟩), .slice (some a) n c] w fun e w' => e = .returned (.tuple #[.int .i64 n, .nilIface]) ∧ IsBuf B b (bs ++ cs) w' ∧ Below B w w' :=
  (Any.Buffer_Write_k layWrite B b bs cs a n c w h hBw h1 hn hab hsrc h1c hlim).mono fun e w' q => ⟨q.1, q.2.1, q.2.2.1⟩

theorem buf_writeByte (B b : Nat) (bs : List Value) (c : Int) (w : World) (h : IsBuf B b bs w) (hBw : B ≤ w.heap.size) (h1 : ∀ v ∈ bs, v.oneCell' = true) (hlim : bs.length + 1 ≤ 140737488355328) :
    Calls Tryd.prog 40 #[.pointer (some ⟨b, 0, none⟩), .int .u8 c] w fun e w' => e = .returned .nilIface ∧ IsBuf B b (bs ++ [.int .u8 c]) w' ∧ Below B w w' :=
  (Any.Buffer_WriteByte_k layWriteByte B b bs c w h hBw h1 hlim).mono fun e w' q => ⟨q.1, q.2.1, q.2.2.1⟩

theorem buf_reset (B b : Nat) (bs : List Value) (w : World) (h : IsBuf B b bs w) :
    Calls Tryd.prog 56 #[.pointer (some ⟨b, 0, none⟩)] w fun e w' => e = .returned (.tuple #[]) ∧ IsBuf B b [] w' ∧ Below B w w' :=
  (Any.Buffer_Reset_k layReset B b bs w h).mono fun e w' q => ⟨q.1, q.2.1, q.2.2.1⟩

theorem buf_bytes (B b : Nat) (bs : List Value) (w : World) (h : IsBuf B b bs w) :
    Calls Tryd.prog 25 #[.pointer (some ⟨b, 0, none⟩)] w fun e w' => ∃ v, e = .returned v ∧ w'.ownsRow B 5 1 v bs.length bs ∧ ∃ n, w' = w.drewN n :=
  Any.Buffer_Bytes layBytes B b bs w h

theorem buf_grow0 (B b n : Nat) (bs : List Value) (w : World) (h : IsBuf B b bs w) (hnr : Lib.NoRoom b n w) (hBw : B ≤ w.heap.size) (h1 : ∀ v ∈ bs, v.oneCell' = true) (hlim : bs.length + n ≤ 140737488355328) :
    Calls Tryd.prog 45 #[.pointer (some ⟨b, 0, none⟩), .int .i64 n] w fun e w' => e = .returned (.int .i64 bs.length) ∧ (∃ xs, xs.length = n ∧ IsBuf B b (bs ++ xs) w') ∧ Below B w w' :=
  (Any.Buffer_grow_own layGrow B b n bs w h hnr hBw h1 hlim).mono fun e w' ⟨p, xs, q1, q2, q3, _⟩ => ⟨p, ⟨xs, q1, q2⟩, q3⟩

set_option maxHeartbeats 1000000 in
set_option maxRecDepth 100000 in
theorem buf_Grow (B b n : Nat) (w : World) (h : IsBuf B b [] w) (hnr : Lib.NoRoom b n w) (hBw : B ≤ w.heap.size) (hn : 1 ≤ n) (hlim : n ≤ 1000000) :
    Calls Tryd.prog 29 #[.pointer (some ⟨b, 0, none⟩), .int .i64 n] w fun e w' => e = .returned (.tuple #[]) ∧ IsBuf B b [] w' ∧ Below B w w' := by
  have hneg : ¬ (n : Int) < 0 := by omega
  go_enter Tryd.func29, Tryd.ntmps29
  go_wp2_with (go_at_call 45; refine (buf_grow0 B b n [] w h hnr hBw (by simp) (by simp; omega)).mono ?_; rintro e w1 ⟨rfl, ⟨xs, hx, hI⟩, hb1⟩; refine Hid.out ?_)
  refine Lib.hid ?_
  obtain ⟨hB, lr, hc⟩ := hI.cases
  rcases hc with ⟨hnil, -⟩ | ⟨g, cap, cur, hbk, hBg, hg, hnc, hcm, hcs, -, hgb⟩
  · rw [List.nil_append] at hnil; rw [hnil] at hx; simp at hx; omega
  rw [List.nil_append] at hbk hnc
  have hcl : w1.cell? ⟨b, 0, none⟩ = some (.slice (some ⟨g, 0, none⟩) xs.length cap) := by rw [Lib.cell_of_heap hbk]; rfl
  have hfr : w1.frozen? ⟨b, 0, none⟩ = false := Lib.frozen_of_heap hbk 0
  have hbk2 := Lib.heap_setCell_same (i := 0) hbk (.slice (some ⟨g, 0, none⟩) 0 cap)
  have hgf : (w1.setCell ⟨b, 0, none⟩ (.slice (some ⟨g, 0, none⟩) 0 cap)).heap[g]? = some (.cells cur 5 (0, 0)) := by rw [Below.heap_setCell _ _ _ _ hgb]; exact hg
  have hI2 := Lib.isBuffer_mk (T := 70) (lr := lr) hB hbk2 hBg hgf (Nat.zero_le _) hcm hcs hgb
  rw [List.take_zero] at hI2
  have hb2 : Below B w (w1.setCell ⟨b, 0, none⟩ (.slice (some ⟨g, 0, none⟩) 0 cap)) := hb1.setCell (p := ⟨b, 0, none⟩) hB _
  clear hbk2 hgf hbk hg
  go_wp2
  go_end0
  exact ⟨rfl, hI2, hb2⟩
end Go.Proofs.YtgibmkgibkhemaaDoor
