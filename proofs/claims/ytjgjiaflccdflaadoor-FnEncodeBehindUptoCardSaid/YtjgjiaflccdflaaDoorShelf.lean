/-
  Contracts of library functions (strings.Builder, slices.Sort, slices.Clone, maps.Keys, slices.Sorted) at this seat's numbers. Written by the kit's programs out of its proved contracts; no walk. Conditions: those that each theorem names.
-/
import Derived.Shelf.Strings.Builder1
import Derived.Shelf.Strings.Builder2
import Derived.Shelf.Strings.BuilderF
import Derived.Shelf.Strings.BuilderK
import Derived.Shelf.Sort.Plain
import Derived.Ground.Names2Prog
import Derived.Shelf.Slices.Clone
import Derived.Shelf.Slices.In.SortNone
import Derived.Test.YtjgjiaflccdflaaDoorProg
import Derived.Shelf.SlIter.Nil
import Derived.Shelf.SortM.Plain
import Derived.Shelf.SortM.SortNone
import Derived.Ground.GgzProg
import Derived.Ground.SlgmProg
namespace Go.Proofs
open Go.Shelf
def Tryd.lays170_ren : Go.Shelf.Ren := ⟨fun | 170 => 59 | n => n, fun | 70 => 92 | 3 => 3 | 0 => 0 | 72 => 95 | 37 => 93 | 5 => 5 | n => n, fun | n => n⟩
theorem Tryd.lays170 : Go.Proofs.Lays.n170 Tryd.prog Tryd.lays170_ren := {
  mixed := by kernel_rfl
  f170 := Tryd.func59.trans (congrArg some (by kernel_rfl))
  t0 := Tryd.underlying0
  a0 := Tryd.isAgg0
  z0 := Tryd.sizeOf0
  v0 := Tryd.zeroValue0
  t3 := Tryd.underlying3
  a3 := Tryd.isAgg3
  z3 := Tryd.sizeOf3
  v3 := Tryd.zeroValue3
  t37 := Tryd.underlying93
  a37 := Tryd.isAgg93
  z37 := Tryd.sizeOf93
  v37 := Tryd.zeroValue93
  t70 := Tryd.underlying92
  a70 := Tryd.isAgg92
  z70 := Tryd.sizeOf92
  v70 := Tryd.zeroValue92
  t72 := Tryd.underlying95
  a72 := Tryd.isAgg95
  z72 := Tryd.sizeOf95
  v72 := Tryd.zeroValue95 }
open Go.RowKit in
theorem Tryd.Builder_Len (B b : Nat) (bs : List Value) (w : World) (h : Lib.IsBuilder 95 5 B b bs w) :
    Calls Tryd.prog 59 #[.pointer (some ⟨b, 0, none⟩)] w fun e w' => e = .returned (.int .i64 bs.length) ∧ w' = w := Any.Builder_Len Tryd.lays170 B b bs w h
def Tryd.lays169_ren : Go.Shelf.Ren := ⟨fun | 169 => 62 | n => n, fun | 70 => 92 | 9 => 9 | 0 => 0 | 72 => 95 | 37 => 93 | 127 => 111 | 3 => 3 | 5 => 5 | n => n, fun | n => n⟩
theorem Tryd.lays169 : Go.Proofs.Lays.n169 Tryd.prog Tryd.lays169_ren := {
  mixed := by kernel_rfl
  f169 := Tryd.func62.trans (congrArg some (by kernel_rfl))
  t0 := Tryd.underlying0
  a0 := Tryd.isAgg0
  z0 := Tryd.sizeOf0
  v0 := Tryd.zeroValue0
  t3 := Tryd.underlying3
  a3 := Tryd.isAgg3
  z3 := Tryd.sizeOf3
  v3 := Tryd.zeroValue3
  t9 := Tryd.underlying9
  a9 := Tryd.isAgg9
  z9 := Tryd.sizeOf9
  v9 := Tryd.zeroValue9
  t37 := Tryd.underlying93
  a37 := Tryd.isAgg93
  z37 := Tryd.sizeOf93
  v37 := Tryd.zeroValue93
  t70 := Tryd.underlying92
  a70 := Tryd.isAgg92
  z70 := Tryd.sizeOf92
  v70 := Tryd.zeroValue92
  t72 := Tryd.underlying95
  a72 := Tryd.isAgg95
  z72 := Tryd.sizeOf95
  v72 := Tryd.zeroValue95
  t127 := Tryd.underlying111
  a127 := Tryd.isAgg111
  z127 := Tryd.sizeOf111
  v127 := Tryd.zeroValue111 }
theorem Tryd.Builder_Extra_169 : Builder.Extra Tryd.prog Tryd.lays169_ren := {
  sizeBuilder := by kernel_rfl
  liesBuilder := by kernel_rfl
  t5 := Tryd.underlying5
  a5 := Tryd.isAgg5
  z5 := Tryd.sizeOf5
  v5 := Tryd.zeroValue5
  infoByte := by kernel_rfl
  cellsByte := by kernel_rfl
  sizeByte := by kernel_rfl
  neB5 := by decide }
open Go.RowKit in
theorem Tryd.Builder_String (B b : Nat) (l : List UInt8) (w : World) (h : Lib.IsBuilder 95 5 B b (Lib.byteCells l) w) (h0 : l ≠ []) :
    Calls Tryd.prog 62 #[.pointer (some ⟨b, 0, none⟩)] w fun e w' => e = .returned (.string ⟨l.toArray⟩) ∧ Below B w w' := Any.Builder_String Tryd.lays169 Tryd.Builder_Extra_169 B b l w h h0
open Go.RowKit in
theorem Tryd.Builder_String_empty (B b : Nat) (w : World) (h : Lib.IsBuilder 95 5 B b [] w) (hBw : B ≤ w.heap.size) :
    Calls Tryd.prog 62 #[.pointer (some ⟨b, 0, none⟩)] w fun e w' => e = .returned (.string ⟨#[]⟩) ∧ Below B w w' := Any.Builder_String_empty Tryd.lays169 Tryd.Builder_Extra_169 B b w h hBw
open Go.RowKit in
theorem Tryd.Builder_String_any (B b : Nat) (l : List UInt8) (w : World) (h : Lib.IsBuilder 95 5 B b (Lib.byteCells l) w) (hBw : B ≤ w.heap.size) :
    Calls Tryd.prog 62 #[.pointer (some ⟨b, 0, none⟩)] w fun e w' => e = .returned (.string ⟨l.toArray⟩) ∧ Below B w w' := Any.Builder_String_any Tryd.lays169 Tryd.Builder_Extra_169 B b l w h hBw
def Tryd.lays241_ren : Go.Shelf.Ren := ⟨fun | 241 => 95 | 277 => 97 | n => n, fun | 70 => 92 | 3 => 3 | 0 => 0 | 72 => 95 | 37 => 93 | 5 => 5 | n => n, fun | n => n⟩
theorem Tryd.lays241 : Go.Proofs.Lays.n241 Tryd.prog Tryd.lays241_ren := {
  mixed := by kernel_rfl
  f241 := Tryd.func95.trans (congrArg some (by kernel_rfl))
  f277 := Tryd.func97.trans (congrArg some (by kernel_rfl))
  t0 := Tryd.underlying0
  a0 := Tryd.isAgg0
  z0 := Tryd.sizeOf0
  v0 := Tryd.zeroValue0
  t3 := Tryd.underlying3
  a3 := Tryd.isAgg3
  z3 := Tryd.sizeOf3
  v3 := Tryd.zeroValue3
  t37 := Tryd.underlying93
  a37 := Tryd.isAgg93
  z37 := Tryd.sizeOf93
  v37 := Tryd.zeroValue93
  t70 := Tryd.underlying92
  a70 := Tryd.isAgg92
  z70 := Tryd.sizeOf92
  v70 := Tryd.zeroValue92
  t72 := Tryd.underlying95
  a72 := Tryd.isAgg95
  z72 := Tryd.sizeOf95
  v72 := Tryd.zeroValue95 }
theorem Tryd.Builder_Extra_241 : Builder.Extra Tryd.prog Tryd.lays241_ren := {
  sizeBuilder := by kernel_rfl
  liesBuilder := by kernel_rfl
  t5 := Tryd.underlying5
  a5 := Tryd.isAgg5
  z5 := Tryd.sizeOf5
  v5 := Tryd.zeroValue5
  infoByte := by kernel_rfl
  cellsByte := by kernel_rfl
  sizeByte := by kernel_rfl
  neB5 := by decide }
open Go.RowKit in
theorem Tryd.Builder_grow_fresh (B b n : Nat) (w : World) (hB : B ≤ b) (hbk : w.heap[b]? = some (.cells #[.pointer (some ⟨b, 0, none⟩), .slice none 0 0] 95 (0, 0))) (hBw : B ≤ w.heap.size) (hn : n ≤ 281474976710656) :
    Calls Tryd.prog 95 #[.pointer (some ⟨b, 0, none⟩), .int .i64 n] w fun e w' => e = .returned (.tuple #[]) ∧ (Lib.BuilderAt 95 5 B b (.pointer (some ⟨b, 0, none⟩)) [] w' ∧ Below B w w') := Any.Builder_grow_fresh Tryd.lays241 Tryd.Builder_Extra_241 B b n w hB hbk hBw hn
def Tryd.lays165_ren : Go.Shelf.Ren := ⟨fun | 165 => 88 | 240 => 70 | 241 => 95 | 276 => 85 | 277 => 97 | n => n, fun | 70 => 92 | 3 => 3 | 0 => 0 | 4 => 4 | 9 => 9 | 20 => 20 | 72 => 95 | 37 => 93 | 164 => 129 | 5 => 5 | n => n, fun | n => n⟩
theorem Tryd.lays165 : Go.Proofs.Lays.n165 Tryd.prog Tryd.lays165_ren := {
  mixed := by kernel_rfl
  f165 := Tryd.func88.trans (congrArg some (by kernel_rfl))
  f240 := Tryd.func70.trans (congrArg some (by kernel_rfl))
  f241 := Tryd.func95.trans (congrArg some (by kernel_rfl))
  f276 := Tryd.func85.trans (congrArg some (by kernel_rfl))
  f277 := Tryd.func97.trans (congrArg some (by kernel_rfl))
  t0 := Tryd.underlying0
  a0 := Tryd.isAgg0
  z0 := Tryd.sizeOf0
  v0 := Tryd.zeroValue0
  t3 := Tryd.underlying3
  a3 := Tryd.isAgg3
  z3 := Tryd.sizeOf3
  v3 := Tryd.zeroValue3
  t4 := Tryd.underlying4
  a4 := Tryd.isAgg4
  z4 := Tryd.sizeOf4
  v4 := Tryd.zeroValue4
  t9 := Tryd.underlying9
  a9 := Tryd.isAgg9
  z9 := Tryd.sizeOf9
  v9 := Tryd.zeroValue9
  t20 := Tryd.underlying20
  a20 := Tryd.isAgg20
  z20 := Tryd.sizeOf20
  v20 := Tryd.zeroValue20
  t37 := Tryd.underlying93
  a37 := Tryd.isAgg93
  z37 := Tryd.sizeOf93
  v37 := Tryd.zeroValue93
  t70 := Tryd.underlying92
  a70 := Tryd.isAgg92
  z70 := Tryd.sizeOf92
  v70 := Tryd.zeroValue92
  t72 := Tryd.underlying95
  a72 := Tryd.isAgg95
  z72 := Tryd.sizeOf95
  v72 := Tryd.zeroValue95
  t164 := Tryd.underlying129
  a164 := Tryd.isAgg129
  z164 := Tryd.sizeOf129
  v164 := Tryd.zeroValue129 }
theorem Tryd.Builder_Extra_165 : Builder.Extra Tryd.prog Tryd.lays165_ren := {
  sizeBuilder := by kernel_rfl
  liesBuilder := by kernel_rfl
  t5 := Tryd.underlying5
  a5 := Tryd.isAgg5
  z5 := Tryd.sizeOf5
  v5 := Tryd.zeroValue5
  infoByte := by kernel_rfl
  cellsByte := by kernel_rfl
  sizeByte := by kernel_rfl
  neB5 := by decide }
open Go.RowKit in
theorem Tryd.Builder_Grow_fresh (B b n : Nat) (w : World) (hB : B ≤ b) (hbk : w.heap[b]? = some (.cells #[.pointer none, .slice none 0 0] 95 (0, 0))) (hBw : B ≤ w.heap.size) (hn : n ≤ 281474976710656) :
    Calls Tryd.prog 88 #[.pointer (some ⟨b, 0, none⟩), .int .i64 n] w fun e w' => e = .returned (.tuple #[]) ∧ (Lib.BuilderAt 95 5 B b (.pointer (some ⟨b, 0, none⟩)) [] w' ∧ Below B w w') := Any.Builder_Grow_fresh Tryd.lays165 Tryd.Builder_Extra_165 B b n w hB hbk hBw hn
open Go.RowKit in
theorem Tryd.Builder_Len_f (B b : Nat) (bs : List Value) (w : World) (h : Lib.IsBuilderF 95 5 B b bs w) :
    Calls Tryd.prog 59 #[.pointer (some ⟨b, 0, none⟩)] w fun e w' => e = .returned (.int .i64 bs.length) ∧ w' = w := Any.Builder_Len_f Tryd.lays170 B b bs w h
open Go.RowKit in
theorem Tryd.Builder_String_f (B b : Nat) (l : List UInt8) (w : World) (h : Lib.IsBuilderF 95 5 B b (Lib.byteCells l) w) (h0 : l ≠ []) :
    Calls Tryd.prog 62 #[.pointer (some ⟨b, 0, none⟩)] w fun e w' => e = .returned (.string ⟨l.toArray⟩) ∧ (Lib.IsBuilderF 95 5 B b (Lib.byteCells l) w' ∧ Below B w w') := Any.Builder_String_f Tryd.lays169 Tryd.Builder_Extra_169 B b l w h h0
open Go.RowKit in
theorem Tryd.Builder_String_empty_f (B b : Nat) (w : World) (h : Lib.IsBuilderF 95 5 B b [] w) (hBw : B ≤ w.heap.size) :
    Calls Tryd.prog 62 #[.pointer (some ⟨b, 0, none⟩)] w fun e w' => e = .returned (.string ⟨#[]⟩) ∧ (Lib.IsBuilderF 95 5 B b [] w' ∧ Below B w w') := Any.Builder_String_empty_f Tryd.lays169 Tryd.Builder_Extra_169 B b w h hBw
open Go.RowKit in
theorem Tryd.Builder_String_any_f (B b : Nat) (l : List UInt8) (w : World) (h : Lib.IsBuilderF 95 5 B b (Lib.byteCells l) w) (hBw : B ≤ w.heap.size) :
    Calls Tryd.prog 62 #[.pointer (some ⟨b, 0, none⟩)] w fun e w' => e = .returned (.string ⟨l.toArray⟩) ∧ (Lib.IsBuilderF 95 5 B b (Lib.byteCells l) w' ∧ Below B w w') := Any.Builder_String_any_f Tryd.lays169 Tryd.Builder_Extra_169 B b l w h hBw
open Go.RowKit in
theorem Tryd.Builder_String_k (B b : Nat) (l : List UInt8) (w : World) (h : Lib.IsBuilderF 95 5 B b (Lib.byteCells l) w) (h0 : l ≠ []) :
    Calls Tryd.prog 62 #[.pointer (some ⟨b, 0, none⟩)] w fun e w' => e = .returned (.string ⟨l.toArray⟩) ∧ (Lib.IsBuilderF 95 5 B b (Lib.byteCells l) w' ∧ Below B w w' ∧ Lib.OthersKept 5 (some b) w w') := Any.Builder_String_k Tryd.lays169 Tryd.Builder_Extra_169 B b l w h h0
open Go.RowKit in
theorem Tryd.Builder_String_empty_k (B b : Nat) (w : World) (h : Lib.IsBuilderF 95 5 B b [] w) (hBw : B ≤ w.heap.size) :
    Calls Tryd.prog 62 #[.pointer (some ⟨b, 0, none⟩)] w fun e w' => e = .returned (.string ⟨#[]⟩) ∧ (Lib.IsBuilderF 95 5 B b [] w' ∧ Below B w w' ∧ Lib.OthersKept 5 (some b) w w') := Any.Builder_String_empty_k Tryd.lays169 Tryd.Builder_Extra_169 B b w h hBw
open Go.RowKit in
theorem Tryd.Builder_String_any_k (B b : Nat) (l : List UInt8) (w : World) (h : Lib.IsBuilderF 95 5 B b (Lib.byteCells l) w) (hBw : B ≤ w.heap.size) :
    Calls Tryd.prog 62 #[.pointer (some ⟨b, 0, none⟩)] w fun e w' => e = .returned (.string ⟨l.toArray⟩) ∧ (Lib.IsBuilderF 95 5 B b (Lib.byteCells l) w' ∧ Below B w w' ∧ Lib.OthersKept 5 (some b) w w') := Any.Builder_String_any_k Tryd.lays169 Tryd.Builder_Extra_169 B b l w h hBw
def Tryd.lays190_ren : Go.Shelf.Ren := ⟨fun | 190 => 57 | 125 => 68 | 258 => 67 | 128 => 82 | 129 => 83 | 302 => 73 | 303 => 74 | 304 => 75 | 305 => 76 | 306 => 77 | 307 => 78 | 308 => 79 | 309 => 80 | 310 => 81 | 333 => 89 | 329 => 90 | 330 => 91 | 334 => 92 | 335 => 93 | 336 => 94 | 344 => 96 | n => n, fun | 31 => 23 | 9 => 9 | 3 => 3 | 46 => 108 | 0 => 0 | 51 => 124 | 53 => 126 | 4 => 4 | 183 => 116 | 182 => 115 | 131 => 121 | 5 => 5 | 218 => 136 | 222 => 140 | 228 => 143 | 229 => 144 | n => n, fun | n => n⟩
theorem Tryd.lays190 : Go.Proofs.Lays.n190 Tryd.prog Tryd.lays190_ren := {
  mixed := by kernel_rfl
  f125 := Tryd.func68.trans (congrArg some (by kernel_rfl))
  f128 := Tryd.func82.trans (congrArg some (by kernel_rfl))
  f129 := Tryd.func83.trans (congrArg some (by kernel_rfl))
  f190 := Tryd.func57.trans (congrArg some (by kernel_rfl))
  f258 := Tryd.func67.trans (congrArg some (by kernel_rfl))
  f302 := Tryd.func73.trans (congrArg some (by kernel_rfl))
  f303 := Tryd.func74.trans (congrArg some (by kernel_rfl))
  f304 := Tryd.func75.trans (congrArg some (by kernel_rfl))
  f305 := Tryd.func76.trans (congrArg some (by kernel_rfl))
  f306 := Tryd.func77.trans (congrArg some (by kernel_rfl))
  f307 := Tryd.func78.trans (congrArg some (by kernel_rfl))
  f308 := Tryd.func79.trans (congrArg some (by kernel_rfl))
  f309 := Tryd.func80.trans (congrArg some (by kernel_rfl))
  f310 := Tryd.func81.trans (congrArg some (by kernel_rfl))
  f329 := Tryd.func90.trans (congrArg some (by kernel_rfl))
  f330 := Tryd.func91.trans (congrArg some (by kernel_rfl))
  f333 := Tryd.func89.trans (congrArg some (by kernel_rfl))
  f334 := Tryd.func92.trans (congrArg some (by kernel_rfl))
  f335 := Tryd.func93.trans (congrArg some (by kernel_rfl))
  f336 := Tryd.func94.trans (congrArg some (by kernel_rfl))
  f344 := Tryd.func96.trans (congrArg some (by kernel_rfl))
  t0 := Tryd.underlying0
  a0 := Tryd.isAgg0
  z0 := Tryd.sizeOf0
  v0 := Tryd.zeroValue0
  t3 := Tryd.underlying3
  a3 := Tryd.isAgg3
  z3 := Tryd.sizeOf3
  v3 := Tryd.zeroValue3
  t4 := Tryd.underlying4
  a4 := Tryd.isAgg4
  z4 := Tryd.sizeOf4
  v4 := Tryd.zeroValue4
  t5 := Tryd.underlying5
  a5 := Tryd.isAgg5
  z5 := Tryd.sizeOf5
  v5 := Tryd.zeroValue5
  t9 := Tryd.underlying9
  a9 := Tryd.isAgg9
  z9 := Tryd.sizeOf9
  v9 := Tryd.zeroValue9
  t31 := Tryd.underlying23
  a31 := Tryd.isAgg23
  z31 := Tryd.sizeOf23
  v31 := Tryd.zeroValue23
  t46 := Tryd.underlying108
  a46 := Tryd.isAgg108
  z46 := Tryd.sizeOf108
  v46 := Tryd.zeroValue108
  t51 := Tryd.underlying124
  a51 := Tryd.isAgg124
  z51 := Tryd.sizeOf124
  v51 := Tryd.zeroValue124
  t53 := Tryd.underlying126
  a53 := Tryd.isAgg126
  z53 := Tryd.sizeOf126
  v53 := Tryd.zeroValue126
  t131 := Tryd.underlying121
  a131 := Tryd.isAgg121
  z131 := Tryd.sizeOf121
  v131 := Tryd.zeroValue121
  t182 := Tryd.underlying115
  a182 := Tryd.isAgg115
  z182 := Tryd.sizeOf115
  v182 := Tryd.zeroValue115
  t183 := Tryd.underlying116
  a183 := Tryd.isAgg116
  z183 := Tryd.sizeOf116
  v183 := Tryd.zeroValue116
  t218 := Tryd.underlying136
  a218 := Tryd.isAgg136
  z218 := Tryd.sizeOf136
  v218 := Tryd.zeroValue136
  t222 := Tryd.underlying140
  a222 := Tryd.isAgg140
  z222 := Tryd.sizeOf140
  v222 := Tryd.zeroValue140
  t228 := Tryd.underlying143
  a228 := Tryd.isAgg143
  z228 := Tryd.sizeOf143
  v228 := Tryd.zeroValue143
  t229 := Tryd.underlying144
  a229 := Tryd.isAgg144
  z229 := Tryd.sizeOf144
  v229 := Tryd.zeroValue144 }
open Go.Sort Go.RowKit in
theorem Tryd.slices_Sort_string (blk off cap : Nat) (ss : List (List UInt8)) (w : World) (hH : Holds encStr w blk off ss.toArray) (hblk : blk < w.heap.size) (hsz : ss.length < 4611686018427387904) :
    Calls Tryd.prog 57 #[.slice (some ⟨blk, off, none⟩) ss.length cap] w fun e w' =>
      e = .returned (.tuple #[]) ∧ ∃ n os, w' = grow (putRow encStr (Sort.ahead w n) blk off (ss.mergeSort fun x y => decide (x ≤ y)).toArray) os := Any.slices_Sort_string Tryd.lays190 blk off cap ss w hH hblk hsz
def Tryd.laysNm216_ren : Go.Shelf.Ren := ⟨fun | 16 => 46 | n => n, fun | 24 => 23 | 9 => 9 | 4 => 4 | n => n, fun | n => n⟩
theorem Tryd.laysNm216 : Go.Proofs.Lays2.n16 Tryd.prog Tryd.laysNm216_ren := {
  mixed := by kernel_rfl
  f16 := Tryd.func46.trans (congrArg some (by kernel_rfl))
  t4 := Tryd.underlying4
  a4 := Tryd.isAgg4
  z4 := Tryd.sizeOf4
  v4 := Tryd.zeroValue4
  t9 := Tryd.underlying9
  a9 := Tryd.isAgg9
  z9 := Tryd.sizeOf9
  v9 := Tryd.zeroValue9
  t24 := Tryd.underlying23
  a24 := Tryd.isAgg23
  z24 := Tryd.sizeOf23
  v24 := Tryd.zeroValue23
  i9 := by kernel_rfl }
open Go.RowKit Go.Lib in
theorem Tryd.slices_Clone_string (b off n c : Nat) (zs : List ByteArray) (w : World) (hz : n ≤ zs.length) (hbig : n * 16 ≤ 140737488355328) (hc : ∀ j, j < zs.length → w.cell? ⟨b, off + j, none⟩ = some (.string (zs.getD j ByteArray.empty))) :
    Calls Tryd.prog 46 #[.slice (some ⟨b, off, none⟩) n c] w fun e w' => ∃ v', e = .returned v' ∧ w'.ownsRow w.heap.size 9 1 v' n ((zs.take n).map (Value.string)) ∧ v' ≠ .slice none 0 0 ∧ Below w.heap.size w w' := Any.slices_Clone_string Tryd.laysNm216 b off n c zs w hz hbig hc
open Go.RowKit Go.Lib in
theorem Tryd.slices_Clone_string_nil (n c : Nat) (w : World) :
    Calls Tryd.prog 46 #[.slice none n c] w fun e w' => e = .returned (.slice none 0 0) ∧ w' = w := Any.slices_Clone_string_nil Tryd.laysNm216 n c w
open Go.RowKit Go.Lib in
theorem Tryd.slices_Clone_string_zero (a : Addr) (c : Nat) (w : World) :
    Calls Tryd.prog 46 #[.slice (some a) 0 c] w fun e w' => ∃ v', e = .returned v' ∧ w'.ownsRow w.heap.size 9 1 v' 0 [] ∧ v' ≠ .slice none 0 0 ∧ Below w.heap.size w w' := Any.slices_Clone_string_zero Tryd.laysNm216 a c w
open Go.RowKit Go.Sort in
theorem Tryd.slices_Sort_string_none (p : Option Addr) (cap : Nat) (w : World) :
    Calls Tryd.prog 57 #[.slice p 0 cap] w fun e w' => e = .returned (.tuple #[]) ∧ w' = w := Any.slices_Sort_string_none Tryd.lays190 p cap w
def Tryd.keys45_ren : Go.Shelf.Ren := ⟨fun | 7 => 45 | 10 => 64 | n => n, fun | 23 => 73 | 26 => 9 | 3 => 23 | 28 => 81 | 0 => 0 | 27 => 80 | 33 => 87 | 4 => 4 | n => n, fun | n => n⟩
theorem Tryd.keys45 : Go.Proofs.SlLaysZ.n7 Tryd.prog Tryd.keys45_ren := {
  mixed := by kernel_rfl
  f7 := ⟨Tryd.f45.name, by decide, Tryd.func45.trans (congrArg some (by kernel_rfl))⟩
  f10 := ⟨Tryd.f64.name, by decide, Tryd.func64.trans (congrArg some (by kernel_rfl))⟩
  t0 := Tryd.underlying0
  a0 := Tryd.isAgg0
  z0 := Tryd.sizeOf0
  v0 := Tryd.zeroValue0
  t4 := Tryd.underlying4
  a4 := Tryd.isAgg4
  z4 := Tryd.sizeOf4
  v4 := Tryd.zeroValue4
  t23 := Tryd.underlying73
  a23 := Tryd.isAgg73
  z23 := Tryd.sizeOf73
  v23 := Tryd.zeroValue73
  t26 := Tryd.underlying9
  a26 := Tryd.isAgg9
  z26 := Tryd.sizeOf9
  v26 := Tryd.zeroValue9
  t27 := Tryd.underlying80
  a27 := Tryd.isAgg80
  z27 := Tryd.sizeOf80
  v27 := Tryd.zeroValue80
  t28 := Tryd.underlying81
  a28 := Tryd.isAgg81
  z28 := Tryd.sizeOf81
  v28 := Tryd.zeroValue81
  t33 := Tryd.underlying87
  a33 := Tryd.isAgg87
  z33 := Tryd.sizeOf87
  v33 := Tryd.zeroValue87 }
def Tryd.sorted44_ren : Go.Shelf.Ren := ⟨fun | 6 => 44 | 8 => 63 | 9 => 57 | 11 => 71 | 13 => 68 | 12 => 67 | 23 => 82 | 24 => 83 | 14 => 73 | 15 => 74 | 16 => 75 | 17 => 76 | 18 => 77 | 19 => 78 | 20 => 79 | 21 => 80 | 22 => 81 | 25 => 89 | 26 => 90 | 27 => 91 | 28 => 92 | 29 => 93 | 30 => 94 | 31 => 96 | n => n, fun | 26 => 9 | 28 => 81 | 24 => 23 | 0 => 0 | 3 => 3 | 37 => 108 | 48 => 124 | 50 => 126 | 4 => 4 | 40 => 116 | 39 => 115 | 45 => 121 | 5 => 5 | 9 => 9 | 51 => 136 | 55 => 140 | 57 => 143 | 58 => 144 | 33 => 87 | n => n, fun | n => n⟩
theorem Tryd.sorted44 : Go.Proofs.SlLaysZ.n6 Tryd.prog Tryd.sorted44_ren := {
  mixed := by kernel_rfl
  f6 := ⟨Tryd.f44.name, by decide, Tryd.func44.trans (congrArg some (by kernel_rfl))⟩
  f8 := ⟨Tryd.f63.name, by decide, Tryd.func63.trans (congrArg some (by kernel_rfl))⟩
  f11 := ⟨Tryd.f71.name, by decide, Tryd.func71.trans (congrArg some (by kernel_rfl))⟩
  t0 := Tryd.underlying0
  a0 := Tryd.isAgg0
  z0 := Tryd.sizeOf0
  v0 := Tryd.zeroValue0
  t24 := Tryd.underlying23
  a24 := Tryd.isAgg23
  z24 := Tryd.sizeOf23
  v24 := Tryd.zeroValue23
  t26 := Tryd.underlying9
  a26 := Tryd.isAgg9
  z26 := Tryd.sizeOf9
  v26 := Tryd.zeroValue9
  t28 := Tryd.underlying81
  a28 := Tryd.isAgg81
  z28 := Tryd.sizeOf81
  v28 := Tryd.zeroValue81
  i26 := by kernel_rfl }
def Tryd.sort57_ren : Go.Shelf.Ren := ⟨fun | 6 => 57 | 8 => 68 | 9 => 67 | 19 => 82 | 20 => 83 | 21 => 73 | 22 => 74 | 23 => 75 | 24 => 76 | 25 => 77 | 26 => 78 | 27 => 79 | 28 => 80 | 29 => 81 | 36 => 89 | 31 => 90 | 32 => 91 | 37 => 92 | 38 => 93 | 39 => 94 | 41 => 96 | n => n, fun | 27 => 23 | 29 => 9 | 3 => 3 | 32 => 108 | 26 => 23 | 0 => 0 | 44 => 124 | 46 => 126 | 4 => 4 | 36 => 116 | 35 => 115 | 41 => 121 | 5 => 5 | 9 => 9 | 53 => 136 | 57 => 140 | 63 => 143 | 64 => 144 | n => n, fun | n => n⟩
theorem Tryd.sort57 : Go.Proofs.SlLaysM.n6 Tryd.prog Tryd.sort57_ren := {
  mixed := by kernel_rfl
  f6 := ⟨Tryd.f57.name, by decide, Tryd.func57.trans (congrArg some (by kernel_rfl))⟩
  f8 := Tryd.func68.trans (congrArg some (by kernel_rfl))
  f9 := ⟨Tryd.f67.name, by decide, Tryd.func67.trans (congrArg some (by kernel_rfl))⟩
  f19 := Tryd.func82.trans (congrArg some (by kernel_rfl))
  f20 := Tryd.func83.trans (congrArg some (by kernel_rfl))
  f21 := ⟨Tryd.f73.name, by decide, Tryd.func73.trans (congrArg some (by kernel_rfl))⟩
  f22 := ⟨Tryd.f74.name, by decide, Tryd.func74.trans (congrArg some (by kernel_rfl))⟩
  f23 := ⟨Tryd.f75.name, by decide, Tryd.func75.trans (congrArg some (by kernel_rfl))⟩
  f24 := ⟨Tryd.f76.name, by decide, Tryd.func76.trans (congrArg some (by kernel_rfl))⟩
  f25 := ⟨Tryd.f77.name, by decide, Tryd.func77.trans (congrArg some (by kernel_rfl))⟩
  f26 := ⟨Tryd.f78.name, by decide, Tryd.func78.trans (congrArg some (by kernel_rfl))⟩
  f27 := ⟨Tryd.f79.name, by decide, Tryd.func79.trans (congrArg some (by kernel_rfl))⟩
  f28 := ⟨Tryd.f80.name, by decide, Tryd.func80.trans (congrArg some (by kernel_rfl))⟩
  f29 := ⟨Tryd.f81.name, by decide, Tryd.func81.trans (congrArg some (by kernel_rfl))⟩
  f31 := Tryd.func90.trans (congrArg some (by kernel_rfl))
  f32 := Tryd.func91.trans (congrArg some (by kernel_rfl))
  f36 := ⟨Tryd.f89.name, by decide, Tryd.func89.trans (congrArg some (by kernel_rfl))⟩
  f37 := ⟨Tryd.f92.name, by decide, Tryd.func92.trans (congrArg some (by kernel_rfl))⟩
  f38 := ⟨Tryd.f93.name, by decide, Tryd.func93.trans (congrArg some (by kernel_rfl))⟩
  f39 := ⟨Tryd.f94.name, by decide, Tryd.func94.trans (congrArg some (by kernel_rfl))⟩
  f41 := ⟨Tryd.f96.name, by decide, Tryd.func96.trans (congrArg some (by kernel_rfl))⟩
  t0 := Tryd.underlying0
  a0 := Tryd.isAgg0
  z0 := Tryd.sizeOf0
  v0 := Tryd.zeroValue0
  t3 := Tryd.underlying3
  a3 := Tryd.isAgg3
  z3 := Tryd.sizeOf3
  v3 := Tryd.zeroValue3
  t4 := Tryd.underlying4
  a4 := Tryd.isAgg4
  z4 := Tryd.sizeOf4
  v4 := Tryd.zeroValue4
  t5 := Tryd.underlying5
  a5 := Tryd.isAgg5
  z5 := Tryd.sizeOf5
  v5 := Tryd.zeroValue5
  t9 := Tryd.underlying9
  a9 := Tryd.isAgg9
  z9 := Tryd.sizeOf9
  v9 := Tryd.zeroValue9
  t26 := Tryd.underlying23
  a26 := Tryd.isAgg23
  z26 := Tryd.sizeOf23
  v26 := Tryd.zeroValue23
  t27 := Tryd.underlying23
  a27 := Tryd.isAgg23
  z27 := Tryd.sizeOf23
  v27 := Tryd.zeroValue23
  t29 := Tryd.underlying9
  a29 := Tryd.isAgg9
  z29 := Tryd.sizeOf9
  v29 := Tryd.zeroValue9
  t32 := Tryd.underlying108
  a32 := Tryd.isAgg108
  z32 := Tryd.sizeOf108
  v32 := Tryd.zeroValue108
  t35 := Tryd.underlying115
  a35 := Tryd.isAgg115
  z35 := Tryd.sizeOf115
  v35 := Tryd.zeroValue115
  t36 := Tryd.underlying116
  a36 := Tryd.isAgg116
  z36 := Tryd.sizeOf116
  v36 := Tryd.zeroValue116
  t41 := Tryd.underlying121
  a41 := Tryd.isAgg121
  z41 := Tryd.sizeOf121
  v41 := Tryd.zeroValue121
  t44 := Tryd.underlying124
  a44 := Tryd.isAgg124
  z44 := Tryd.sizeOf124
  v44 := Tryd.zeroValue124
  t46 := Tryd.underlying126
  a46 := Tryd.isAgg126
  z46 := Tryd.sizeOf126
  v46 := Tryd.zeroValue126
  t53 := Tryd.underlying136
  a53 := Tryd.isAgg136
  z53 := Tryd.sizeOf136
  v53 := Tryd.zeroValue136
  t57 := Tryd.underlying140
  a57 := Tryd.isAgg140
  z57 := Tryd.sizeOf140
  v57 := Tryd.zeroValue140
  t63 := Tryd.underlying143
  a63 := Tryd.isAgg143
  z63 := Tryd.sizeOf143
  v63 := Tryd.zeroValue143
  t64 := Tryd.underlying144
  a64 := Tryd.isAgg144
  z64 := Tryd.sizeOf144
  v64 := Tryd.zeroValue144 }
open Go.RowKit Go.Maps Go.Sort Go.Shelf


theorem Tryd.sorts44 (m : Nat) : AnyZ.SortsIn Tryd.prog Tryd.sorted44_ren Fence.wide m :=
  ⟨fun blk off cap ss W hH hblk hsz => callsIn_wide.2 (AnyM.slices_Sort_string Tryd.sort57 blk off cap ss W hH hblk hsz),
   fun p cap W => callsIn_wide.2 (AnyM.slices_Sort_string_none Tryd.sort57 p cap W)⟩

theorem Tryd.maps_Keys_45 (mb : Option Nat) (W : World) : CallsIn Fence.wide 5 Tryd.prog 45 #[.map mb] W fun e w' => e = .returned (.func (.func 64) #[] #[.pointer (some ⟨W.heap.size, 0, none⟩)]) ∧ w' = W.alloc (.cells #[.map mb] 73) :=
  AnyZ.keys_in Tryd.keys45 Fence.wide 5 trivial rfl mb W

set_option maxHeartbeats 1000000 in
theorem Tryd.slices_Sorted_keys_44_45 {H : Type} (b nn : Nat) (D0 : DataW H) (R : Value → Option (DataW H × List MemPlace)) (w : World) (hown : w.ownsMap Tryd.prog 9 R b nn D0) (hmax : Maps.size D0 ≤ maxLen) (hbytes : Maps.size D0 * 16 ≤ 140737488355328) :
    CallsIn Fence.wide 5 Tryd.prog 44 #[.func (.func 64) #[] #[.pointer (some ⟨w.heap.size, 0, none⟩)]] (w.alloc (.cells #[.map (some b)] 73)) fun e w' => ∃ (v : Value) (ss : List (List UInt8)), e = .returned v ∧ ss.Perm (strKeys D0) ∧
      w'.ownsRow (w.alloc (.cells #[.map (some b)] 73)).heap.size 9 1 v ss.length ((ss.mergeSort (fun x y => decide (x ≤ y))).map encStr) ∧ (v = .slice none 0 0 ↔ ss = []) ∧ Below (w.alloc (.cells #[.map (some b)] 73)).heap.size (w.alloc (.cells #[.map (some b)] 73)) w' := by
  have hbl := hown.lt
  have hseq : SeqGives Fence.wide 2 Tryd.prog 64 #[.pointer (some ⟨w.heap.size, 0, none⟩)] encStr (fun ss => ss.Perm (strKeys D0)) (Maps.size D0) (w.alloc (.cells #[.map (some b)] 73)) :=
    AnyZ.keys_gives (ρ := Tryd.keys45_ren) { Tryd.keys45 with } Fence.wide _ trivial rfl (by omega) w.heap.size b nn D0 _ (by simp) (by simp) (by
      obtain ⟨es, clock, hb, Ft, hs, hD⟩ := hown
      exact ⟨es, clock, (Below.heap_alloc _ _ b hbl).trans hb, Ft, hs, hD⟩)
  exact AnyZ.sorted_in Tryd.sorted44 Fence.wide 5 trivial trivial trivial trivial rfl (by omega) (Tryd.sorts44 _) (enters_of Tryd.func57 (by kernel_rfl) rfl) 64 #[.pointer (some ⟨w.heap.size, 0, none⟩)] trivial (enters_of Tryd.func64 (by kernel_rfl) rfl) _ _ hmax hbytes _ hseq

set_option maxHeartbeats 1000000 in
theorem Tryd.slices_Sorted_keys_nil_44_45 (w : World) :
    CallsIn Fence.wide 5 Tryd.prog 44 #[.func (.func 64) #[] #[.pointer (some ⟨w.heap.size, 0, none⟩)]] (w.alloc (.cells #[.map none] 73)) fun e w' => ∃ (v : Value) (ss : List (List UInt8)), e = .returned v ∧ ss = [] ∧
      w'.ownsRow (w.alloc (.cells #[.map none] 73)).heap.size 9 1 v ss.length ((ss.mergeSort (fun x y => decide (x ≤ y))).map encStr) ∧ (v = .slice none 0 0 ↔ ss = []) ∧ Below (w.alloc (.cells #[.map none] 73)).heap.size (w.alloc (.cells #[.map none] 73)) w' := by
  have hseq : SeqGives Fence.wide 2 Tryd.prog 64 #[.pointer (some ⟨w.heap.size, 0, none⟩)] encStr (fun ss : List (List UInt8) => ss = []) 0 (w.alloc (.cells #[.map none] 73)) :=
    AnyZ.keys_gives_nil (ρ := Tryd.keys45_ren) { Tryd.keys45 with } Fence.wide _ trivial rfl w.heap.size _ (by simp) (by simp)
  exact AnyZ.sorted_in Tryd.sorted44 Fence.wide 5 trivial trivial trivial trivial rfl (by omega) (Tryd.sorts44 _) (enters_of Tryd.func57 (by kernel_rfl) rfl) 64 #[.pointer (some ⟨w.heap.size, 0, none⟩)] trivial (enters_of Tryd.func64 (by kernel_rfl) rfl) _ 0 (Nat.zero_le _) (by omega) _ hseq



end Go.Proofs
