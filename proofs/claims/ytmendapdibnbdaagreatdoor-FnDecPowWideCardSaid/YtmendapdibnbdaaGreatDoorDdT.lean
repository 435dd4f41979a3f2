/- Walks of the program's functions, printed by a program of mine (walk.py) over the words of Stride: each function's contract. -/
import Derived.Test.YtmendapdibnbdaaGreatDoorProg
import Derived.Test.YtmendapdibnbdaaGreatDoorStride
import Derived.Test.YtmendapdibnbdaaGreatDoorMag
import Derived.Test.YtmendapdibnbdaaGreatDoorNag
namespace Go.Proofs.YtmendapdibnbdaaGreatDoor.Stride
open Go Go.RowKit Go.Proofs.YtmendapdibnbdaaGreatDoor.Mag
set_option linter.unusedVariables false
set_option linter.unusedSimpArgs false
set_option maxHeartbeats 4000000
set_option maxRecDepth 100000
noncomputable abbrev P : Program := Tryz.prog
def T : Tab := [(2, ⟨.int .i64, 1, 8, .int .i64 0⟩),
  (3, ⟨.int .i64, 1, 8, .int .i64 0⟩),
  (4, ⟨.bool, 1, 1, .bool false⟩),
  (5, ⟨.int .u8, 1, 1, .int .u8 0⟩),
  (9, ⟨.string, 1, 16, .string ⟨#[]⟩⟩),
  (20, ⟨.iface, 1, 16, .nilIface⟩),
  (21, ⟨.int .i32, 1, 4, .int .i32 0⟩),
  (22, ⟨.slice 25 1, 1, 24, .slice none 0 0⟩),
  (25, ⟨.int .u64, 1, 8, .int .u64 0⟩),
  (27, ⟨.slice 90 1, 1, 24, .slice none 0 0⟩),
  (29, ⟨.struct [(0, 1, false), (1, 1, false)], 2, 32, .agg #[.bool false, .slice none 0 0]⟩),
  (44, ⟨.int .i32, 1, 4, .int .i32 0⟩),
  (45, ⟨.int .i64, 1, 8, .int .i64 0⟩),
  (47, ⟨.struct [(0, 1, false), (1, 1, false)], 2, 16, .agg #[.int .u64 0, .int .i64 0]⟩),
  (48, ⟨.array 4 1 false, 4, 32, .agg #[.int .u64 0, .int .u64 0, .int .u64 0, .int .u64 0]⟩),
  (50, ⟨.struct [(0, 4, true)], 4, 32, .agg #[.int .u64 0, .int .u64 0, .int .u64 0, .int .u64 0]⟩),
  (52, ⟨.struct [(0, 1, false), (1, 1, false), (2, 1, false), (3, 2, true), (5, 4, true)], 9, 72, .agg #[.int .i64 0, .int .i32 0, .int .i64 0, .int .u64 0, .int .i64 0, .int .u64 0, .int .u64 0, .int .u64 0, .int .u64 0]⟩),
  (77, ⟨.ptr, 1, 8, .pointer none⟩),
  (81, ⟨.slice 102 1, 1, 24, .slice none 0 0⟩),
  (82, ⟨.slice 102 1, 1, 24, .slice none 0 0⟩),
  (84, ⟨.struct [(0, 1, false), (1, 1, false)], 2, 32, .agg #[.bool false, .slice none 0 0]⟩),
  (90, ⟨.int .u32, 1, 4, .int .u32 0⟩),
  (91, ⟨.int .u64, 1, 8, .int .u64 0⟩),
  (102, ⟨.int .u64, 1, 8, .int .u64 0⟩),
  (107, ⟨.ptr, 1, 8, .pointer none⟩),
  (122, ⟨.ptr, 1, 8, .pointer none⟩),
  (124, ⟨.struct [(0, 1, false)], 1, 8, .agg #[.pointer none]⟩),
  (133, ⟨.ptr, 1, 8, .pointer none⟩),
  (148, ⟨.struct [(0, 1, false)], 1, 24, .agg #[.slice none 0 0]⟩)]

set_option maxRecDepth 100000 in
theorem tab : TabOK P T :=
  ⟨⟨(by kernel_rfl : P.underlying 2 = some (.int .i64)), by kernel_rfl, by kernel_rfl, by kernel_rfl⟩, 
  ⟨⟨(by kernel_rfl : P.underlying 3 = some (.int .i64)), by kernel_rfl, by kernel_rfl, by kernel_rfl⟩, 
  ⟨⟨(by kernel_rfl : P.underlying 4 = some .bool), by kernel_rfl, by kernel_rfl, by kernel_rfl⟩, 
  ⟨⟨(by kernel_rfl : P.underlying 5 = some (.int .u8)), by kernel_rfl, by kernel_rfl, by kernel_rfl⟩, 
  ⟨⟨(by kernel_rfl : P.underlying 9 = some .string), by kernel_rfl, by kernel_rfl, by kernel_rfl⟩, 
  ⟨⟨(by kernel_rfl : (P.underlying 20).map ifaceD = some true), by kernel_rfl, by kernel_rfl, by kernel_rfl⟩, 
  ⟨⟨(by kernel_rfl : P.underlying 21 = some (.int .i32)), by kernel_rfl, by kernel_rfl, by kernel_rfl⟩, 
  ⟨⟨⟨by kernel_rfl, by kernel_rfl⟩, by kernel_rfl, by kernel_rfl, by kernel_rfl⟩, 
  ⟨⟨(by kernel_rfl : P.underlying 25 = some (.int .u64)), by kernel_rfl, by kernel_rfl, by kernel_rfl⟩, 
  ⟨⟨⟨by kernel_rfl, by kernel_rfl⟩, by kernel_rfl, by kernel_rfl, by kernel_rfl⟩, 
  ⟨⟨⟨by kernel_rfl, by kernel_rfl⟩, by kernel_rfl, by kernel_rfl, by kernel_rfl⟩, 
  ⟨⟨(by kernel_rfl : P.underlying 44 = some (.int .i32)), by kernel_rfl, by kernel_rfl, by kernel_rfl⟩, 
  ⟨⟨(by kernel_rfl : P.underlying 45 = some (.int .i64)), by kernel_rfl, by kernel_rfl, by kernel_rfl⟩, 
  ⟨⟨⟨by kernel_rfl, by kernel_rfl⟩, by kernel_rfl, by kernel_rfl, by kernel_rfl⟩, 
  ⟨⟨⟨_, (by kernel_rfl : P.underlying 48 = some (.array 4 25)), by kernel_rfl, by kernel_rfl⟩, by kernel_rfl, by kernel_rfl, by kernel_rfl⟩, 
  ⟨⟨⟨by kernel_rfl, by kernel_rfl⟩, by kernel_rfl, by kernel_rfl, by kernel_rfl⟩, 
  ⟨⟨⟨by kernel_rfl, by kernel_rfl⟩, by kernel_rfl, by kernel_rfl, by kernel_rfl⟩, 
  ⟨⟨(by kernel_rfl : (P.underlying 77).map ptrD = some true), by kernel_rfl, by kernel_rfl, by kernel_rfl⟩, 
  ⟨⟨⟨by kernel_rfl, by kernel_rfl⟩, by kernel_rfl, by kernel_rfl, by kernel_rfl⟩, 
  ⟨⟨⟨by kernel_rfl, by kernel_rfl⟩, by kernel_rfl, by kernel_rfl, by kernel_rfl⟩, 
  ⟨⟨⟨by kernel_rfl, by kernel_rfl⟩, by kernel_rfl, by kernel_rfl, by kernel_rfl⟩, 
  ⟨⟨(by kernel_rfl : P.underlying 90 = some (.int .u32)), by kernel_rfl, by kernel_rfl, by kernel_rfl⟩, 
  ⟨⟨(by kernel_rfl : P.underlying 91 = some (.int .u64)), by kernel_rfl, by kernel_rfl, by kernel_rfl⟩, 
  ⟨⟨(by kernel_rfl : P.underlying 102 = some (.int .u64)), by kernel_rfl, by kernel_rfl, by kernel_rfl⟩, 
  ⟨⟨(by kernel_rfl : (P.underlying 107).map ptrD = some true), by kernel_rfl, by kernel_rfl, by kernel_rfl⟩, 
  ⟨⟨(by kernel_rfl : (P.underlying 122).map ptrD = some true), by kernel_rfl, by kernel_rfl, by kernel_rfl⟩, 
  ⟨⟨⟨by kernel_rfl, by kernel_rfl⟩, by kernel_rfl, by kernel_rfl, by kernel_rfl⟩, 
  ⟨⟨(by kernel_rfl : (P.underlying 133).map ptrD = some true), by kernel_rfl, by kernel_rfl, by kernel_rfl⟩, 
  ⟨⟨⟨by kernel_rfl, by kernel_rfl⟩, by kernel_rfl, by kernel_rfl, by kernel_rfl⟩, trivial⟩⟩⟩⟩⟩⟩⟩⟩⟩⟩⟩⟩⟩⟩⟩⟩⟩⟩⟩⟩⟩⟩⟩⟩⟩⟩⟩⟩⟩

end Go.Proofs.YtmendapdibnbdaaGreatDoor.Stride
