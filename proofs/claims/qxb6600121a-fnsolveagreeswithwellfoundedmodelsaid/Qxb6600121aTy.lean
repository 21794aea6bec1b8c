/-
  CLOSED FACTS ON THIS PROGRAM's TYPES AND FUNCTIONS, by the kernel. Written by program.
-/
import Derived.Test.Qxb6600121aProg
import Derived.Test.Qxb6600121aHeld
namespace Go.Proofs.Qxb6600121a
open Go Go.Proofs
theorem mix : Try.prog.follows .mixedOrders = true := by kernel_rfl
theorem one3 : oneT Try.prog 3 = true := by kernel_rfl
theorem one4 : oneT Try.prog 4 = true := by kernel_rfl
theorem one22 : oneT Try.prog 22 = true := by kernel_rfl
theorem one27 : oneT Try.prog 27 = true := by kernel_rfl
theorem one34 : oneT Try.prog 34 = true := by kernel_rfl
theorem one37 : oneT Try.prog 37 = true := by kernel_rfl
theorem one45 : oneT Try.prog 45 = true := by kernel_rfl
theorem one47 : oneT Try.prog 47 = true := by kernel_rfl
theorem one53 : oneT Try.prog 53 = true := by kernel_rfl
theorem one59 : oneT Try.prog 59 = true := by kernel_rfl
theorem one66 : oneT Try.prog 66 = true := by kernel_rfl
theorem sz3 : szT Try.prog 3 = some 1 := by kernel_rfl
theorem sz4 : szT Try.prog 4 = some 1 := by kernel_rfl
theorem sz22 : szT Try.prog 22 = some 1 := by kernel_rfl
theorem sz27 : szT Try.prog 27 = some 1 := by kernel_rfl
theorem sz34 : szT Try.prog 34 = some 1 := by kernel_rfl
theorem sz37 : szT Try.prog 37 = some 1 := by kernel_rfl
theorem sz45 : szT Try.prog 45 = some 1 := by kernel_rfl
theorem sz47 : szT Try.prog 47 = some 1 := by kernel_rfl
theorem sz53 : szT Try.prog 53 = some 1 := by kernel_rfl
theorem sz59 : szT Try.prog 59 = some 1 := by kernel_rfl
theorem sz66 : szT Try.prog 66 = some 1 := by kernel_rfl
theorem sz33 : szT Try.prog 33 = some 3 := by kernel_rfl
theorem sz54 : szT Try.prog 54 = some 3 := by kernel_rfl
theorem sz68 : szT Try.prog 68 = some 3 := by kernel_rfl
theorem el22 : elT Try.prog 22 = some 33 := by kernel_rfl
theorem el27 : elT Try.prog 27 = some 3 := by kernel_rfl
theorem el34 : elT Try.prog 34 = some 27 := by kernel_rfl
theorem el37 : elT Try.prog 37 = some 4 := by kernel_rfl
theorem el47 : elT Try.prog 47 = some 45 := by kernel_rfl
theorem el53 : elT Try.prog 53 = some 54 := by kernel_rfl
theorem el66 : elT Try.prog 66 = some 68 := by kernel_rfl
theorem in3 : infoT Try.prog 3 = some (some (.int .i64 0), 1, 8) := by kernel_rfl
theorem in4 : infoT Try.prog 4 = some (some (.bool false), 1, 1) := by kernel_rfl
theorem in27 : infoT Try.prog 27 = some (some (.slice none 0 0), 1, 24) := by kernel_rfl
theorem in34 : infoT Try.prog 34 = some (some (.slice none 0 0), 1, 24) := by kernel_rfl
theorem in37 : infoT Try.prog 37 = some (some (.slice none 0 0), 1, 24) := by kernel_rfl
theorem in45 : infoT Try.prog 45 = some (some (.int .i8 0), 1, 1) := by kernel_rfl
theorem in66 : infoT Try.prog 66 = some (some (.slice none 0 0), 1, 24) := by kernel_rfl
theorem in33 : infoT Try.prog 33 = some (some (.agg #[.int .i64 0, .slice none 0 0, .slice none 0 0]), 3, 56) := by kernel_rfl
theorem in54 : infoT Try.prog 54 = some (some (.agg #[.int .i64 0, .slice none 0 0, .slice none 0 0]), 3, 56) := by kernel_rfl
theorem in68 : infoT Try.prog 68 = some (some (.agg #[.int .i64 0, .int .i64 0, .int .i64 0]), 3, 24) := by kernel_rfl
theorem fld33_0 : fldOff Try.prog 33 0 = some 0 := by kernel_rfl
theorem fld33_1 : fldOff Try.prog 33 1 = some 1 := by kernel_rfl
theorem fld33_2 : fldOff Try.prog 33 2 = some 2 := by kernel_rfl
theorem fld54_0 : fldOff Try.prog 54 0 = some 0 := by kernel_rfl
theorem fld54_1 : fldOff Try.prog 54 1 = some 1 := by kernel_rfl
theorem fld54_2 : fldOff Try.prog 54 2 = some 2 := by kernel_rfl
theorem fld61_0 : fldOff Try.prog 61 0 = some 0 := by kernel_rfl
theorem fld61_1 : fldOff Try.prog 61 1 = some 1 := by kernel_rfl
theorem fld61_2 : fldOff Try.prog 61 2 = some 2 := by kernel_rfl
theorem fld61_3 : fldOff Try.prog 61 3 = some 3 := by kernel_rfl
theorem fld61_4 : fldOff Try.prog 61 4 = some 4 := by kernel_rfl
theorem fld61_5 : fldOff Try.prog 61 5 = some 5 := by kernel_rfl
theorem fld61_6 : fldOff Try.prog 61 6 = some 6 := by kernel_rfl
theorem fld61_7 : fldOff Try.prog 61 7 = some 7 := by kernel_rfl
theorem fld61_8 : fldOff Try.prog 61 8 = some 8 := by kernel_rfl
theorem fld61_9 : fldOff Try.prog 61 9 = some 9 := by kernel_rfl
theorem fld61_10 : fldOff Try.prog 61 10 = some 10 := by kernel_rfl
theorem fld61_11 : fldOff Try.prog 61 11 = some 11 := by kernel_rfl
theorem fld61_12 : fldOff Try.prog 61 12 = some 12 := by kernel_rfl
theorem fld61_13 : fldOff Try.prog 61 13 = some 13 := by kernel_rfl
theorem fld65_0 : fldOff Try.prog 65 0 = some 0 := by kernel_rfl
theorem fld65_1 : fldOff Try.prog 65 1 = some 1 := by kernel_rfl
theorem fld68_0 : fldOff Try.prog 68 0 = some 0 := by kernel_rfl
theorem fld68_1 : fldOff Try.prog 68 1 = some 1 := by kernel_rfl
theorem fld68_2 : fldOff Try.prog 68 2 = some 2 := by kernel_rfl
theorem und4 : Try.prog.underlying 4 = some .bool := Try.underlying4
theorem call10 : callable Try.prog 10 = true := by kernel_rfl
theorem call11 : callable Try.prog 11 = true := by kernel_rfl
theorem call12 : callable Try.prog 12 = true := by kernel_rfl
theorem call13 : callable Try.prog 13 = true := by kernel_rfl
theorem call14 : callable Try.prog 14 = true := by kernel_rfl
theorem call15 : callable Try.prog 15 = true := by kernel_rfl
theorem call16 : callable Try.prog 16 = true := by kernel_rfl
theorem call17 : callable Try.prog 17 = true := by kernel_rfl
theorem call18 : callable Try.prog 18 = true := by kernel_rfl
theorem call19 : callable Try.prog 19 = true := by kernel_rfl
theorem call20 : callable Try.prog 20 = true := by kernel_rfl
theorem call21 : callable Try.prog 21 = true := by kernel_rfl
theorem call22 : callable Try.prog 22 = true := by kernel_rfl
theorem call23 : callable Try.prog 23 = true := by kernel_rfl
theorem call24 : callable Try.prog 24 = true := by kernel_rfl
theorem call25 : callable Try.prog 25 = true := by kernel_rfl
theorem call26 : callable Try.prog 26 = true := by kernel_rfl
theorem call27 : callable Try.prog 27 = true := by kernel_rfl
theorem call28 : callable Try.prog 28 = true := by kernel_rfl
theorem call29 : callable Try.prog 29 = true := by kernel_rfl
theorem call30 : callable Try.prog 30 = true := by kernel_rfl
theorem call31 : callable Try.prog 31 = true := by kernel_rfl
theorem call32 : callable Try.prog 32 = true := by kernel_rfl
theorem call33 : callable Try.prog 33 = true := by kernel_rfl
theorem call34 : callable Try.prog 34 = true := by kernel_rfl
theorem call35 : callable Try.prog 35 = true := by kernel_rfl
theorem call36 : callable Try.prog 36 = true := by kernel_rfl
theorem call37 : callable Try.prog 37 = true := by kernel_rfl
theorem call38 : callable Try.prog 38 = true := by kernel_rfl
theorem call39 : callable Try.prog 39 = true := by kernel_rfl
theorem call40 : callable Try.prog 40 = true := by kernel_rfl
theorem call41 : callable Try.prog 41 = true := by kernel_rfl
theorem call42 : callable Try.prog 42 = true := by kernel_rfl
theorem call43 : callable Try.prog 43 = true := by kernel_rfl
theorem call44 : callable Try.prog 44 = true := by kernel_rfl
theorem call45 : callable Try.prog 45 = true := by kernel_rfl
end Go.Proofs.Qxb6600121a
