/- The library's sort of whole numbers, at this program: its contract, as it lies in the library. -/
import Derived.Shelf.Sort.Plain
import Derived.Shelf.Slices.In.SortNone
import Derived.Test.YtbogknjgjbhagaaProg
namespace Go.Proofs.Ytbogknjgjbhagaa
open Go.Shelf
def sort_ren : Go.Shelf.Ren := ⟨fun | 189 => 78 | 125 => 119 | 257 => 118 | 128 => 149 | 129 => 150 | 294 => 140 | 295 => 141 | 296 => 142 | 297 => 143 | 298 => 144 | 299 => 145 | 216 => 146 | 300 => 147 | 301 => 148 | 328 => 151 | 329 => 152 | 330 => 153 | 331 => 154 | 332 => 155 | 215 => 156 | 343 => 157 | n => n, fun | 28 => 30 | 3 => 3 | 46 => 26 | 0 => 0 | 51 => 23 | 53 => 35 | 4 => 4 | 183 => 211 | 182 => 210 | 131 => 216 | 5 => 5 | 9 => 9 | 218 => 220 | 222 => 97 | 228 => 225 | 229 => 226 | n => n, fun | n => n⟩
theorem sort_lays : Go.Proofs.Lays.n189 Try.prog sort_ren := {
  mixed := by kernel_rfl
  f125 := Try.func119.trans (congrArg some (by kernel_rfl))
  f128 := Try.func149.trans (congrArg some (by kernel_rfl))
  f129 := Try.func150.trans (congrArg some (by kernel_rfl))
  f189 := Try.func78.trans (congrArg some (by kernel_rfl))
  f215 := Try.func156.trans (congrArg some (by kernel_rfl))
  f216 := Try.func146.trans (congrArg some (by kernel_rfl))
  f257 := Try.func118.trans (congrArg some (by kernel_rfl))
  f294 := Try.func140.trans (congrArg some (by kernel_rfl))
  f295 := Try.func141.trans (congrArg some (by kernel_rfl))
  f296 := Try.func142.trans (congrArg some (by kernel_rfl))
  f297 := Try.func143.trans (congrArg some (by kernel_rfl))
  f298 := Try.func144.trans (congrArg some (by kernel_rfl))
  f299 := Try.func145.trans (congrArg some (by kernel_rfl))
  f300 := Try.func147.trans (congrArg some (by kernel_rfl))
  f301 := Try.func148.trans (congrArg some (by kernel_rfl))
  f328 := Try.func151.trans (congrArg some (by kernel_rfl))
  f329 := Try.func152.trans (congrArg some (by kernel_rfl))
  f330 := Try.func153.trans (congrArg some (by kernel_rfl))
  f331 := Try.func154.trans (congrArg some (by kernel_rfl))
  f332 := Try.func155.trans (congrArg some (by kernel_rfl))
  f343 := Try.func157.trans (congrArg some (by kernel_rfl))
  t0 := Try.underlying0
  a0 := Try.isAgg0
  z0 := Try.sizeOf0
  v0 := Try.zeroValue0
  t3 := Try.underlying3
  a3 := Try.isAgg3
  z3 := Try.sizeOf3
  v3 := Try.zeroValue3
  t4 := Try.underlying4
  a4 := Try.isAgg4
  z4 := Try.sizeOf4
  v4 := Try.zeroValue4
  t5 := Try.underlying5
  a5 := Try.isAgg5
  z5 := Try.sizeOf5
  v5 := Try.zeroValue5
  t9 := Try.underlying9
  a9 := Try.isAgg9
  z9 := Try.sizeOf9
  v9 := Try.zeroValue9
  t28 := Try.underlying30
  a28 := Try.isAgg30
  z28 := Try.sizeOf30
  v28 := Try.zeroValue30
  t46 := Try.underlying26
  a46 := Try.isAgg26
  z46 := Try.sizeOf26
  v46 := Try.zeroValue26
  t51 := Try.underlying23
  a51 := Try.isAgg23
  z51 := Try.sizeOf23
  v51 := Try.zeroValue23
  t53 := Try.underlying35
  a53 := Try.isAgg35
  z53 := Try.sizeOf35
  v53 := Try.zeroValue35
  t131 := Try.underlying216
  a131 := Try.isAgg216
  z131 := Try.sizeOf216
  v131 := Try.zeroValue216
  t182 := Try.underlying210
  a182 := Try.isAgg210
  z182 := Try.sizeOf210
  v182 := Try.zeroValue210
  t183 := Try.underlying211
  a183 := Try.isAgg211
  z183 := Try.sizeOf211
  v183 := Try.zeroValue211
  t218 := Try.underlying220
  a218 := Try.isAgg220
  z218 := Try.sizeOf220
  v218 := Try.zeroValue220
  t222 := Try.underlying97
  a222 := Try.isAgg97
  z222 := Try.sizeOf97
  v222 := Try.zeroValue97
  t228 := Try.underlying225
  a228 := Try.isAgg225
  z228 := Try.sizeOf225
  v228 := Try.zeroValue225
  t229 := Try.underlying226
  a229 := Try.isAgg226
  z229 := Try.sizeOf226
  v229 := Try.zeroValue226 }
open Go.Sort Go.RowKit in
theorem sort_some (blk off cap : Nat) (zs : List Int) (w : World) (hH : Holds (Value.int .i64) w blk off zs.toArray) (hblk : blk < w.heap.size) (hsz : zs.length < 4611686018427387904) :
    Calls Try.prog 78 #[.slice (some ⟨blk, off, none⟩) zs.length cap] w fun e w' =>
      e = .returned (.tuple #[]) ∧ ∃ n os, w' = grow (putRow (Value.int .i64) (Sort.ahead w n) blk off (zs.mergeSort fun x y => decide (x ≤ y)).toArray) os := Any.slices_Sort_int sort_lays blk off cap zs w hH hblk hsz
open Go.RowKit Go.Sort in
/-- .. and plain. (LAID: no walk: one application.) -/
theorem sort_none (p : Option Addr) (cap : Nat) (w : World) :
    Calls Try.prog 78 #[.slice p 0 cap] w fun e w' => e = .returned (.tuple #[]) ∧ w' = w := Any.slices_Sort_int_none sort_lays p cap w
end Go.Proofs.Ytbogknjgjbhagaa
