/- A small language of resolved operations, and what the generic and the generated functions do in it (part 17). -/
import Derived.Test.YtkceiijlnaakjaaGreatDoorFp

namespace Go.Msk
set_option maxRecDepth 100000
def ir_sTold_1 (F : Nat → Nat) : IC := (.blk [⟨some 33, .fad (.tmp 12) 4, none⟩,
 ⟨some 34, .ld (.tmp 33), none⟩,
 ⟨some 35, .bin .lss (.tmp 34) (.const (.int .i64 0)), none⟩,
 ⟨some 36, .mv (.tmp 35), none⟩,
 ⟨some 37, .ldn (.tmp 12) 8, some (36, true)⟩,
 ⟨some 38, .mv (.tmp 1), some (36, true)⟩,
 ⟨some 39, .call (F sHas) [.tmp 37, .tmp 38], some (36, true)⟩,
 ⟨some 40, .pick (.tmp 36) (.tmp 39) (.const (.bool false)), none⟩,
 ⟨some 41, .mv (.tmp 40), none⟩,
 ⟨some 42, .fad (.tmp 12) 4, some (41, false)⟩,
 ⟨some 43, .ld (.tmp 42), some (41, false)⟩,
 ⟨some 44, .bin .geq (.tmp 43) (.const (.int .i64 0)), some (41, false)⟩,
 ⟨some 45, .mv (.tmp 44), some (41, false)⟩,
 ⟨some 46, .mv (.tmp 2), some (45, true)⟩,
 ⟨some 47, .pick (.tmp 45) (.tmp 46) (.const (.bool false)), some (41, false)⟩,
 ⟨some 48, .mv (.tmp 47), some (41, false)⟩,
 ⟨some 49, .ldn (.tmp 12) 8, some (48, true)⟩,
 ⟨some 50, .ldn (.tmp 13) 5, some (48, true)⟩,
 ⟨some 51, .call (F susual_) [.tmp 49, .tmp 50], some (48, true)⟩,
 ⟨some 52, .lnot (.tmp 51), some (48, true)⟩,
 ⟨some 53, .pick (.tmp 48) (.tmp 52) (.const (.bool false)), some (41, false)⟩,
 ⟨some 54, .pick (.tmp 41) (.const (.bool true)) (.tmp 53), none⟩])
def ir_sTold_2 (F : Nat → Nat) : IC := (.seq (.drw [⟨⟨some 55, .ldn (.tmp 12) 8, none⟩, false, []⟩,
 ⟨⟨some 56, .mv (.tmp 1), none⟩, false, []⟩,
 ⟨⟨some 57, .mv (.tmp 2), none⟩, false, []⟩,
 ⟨⟨some 58, .ldn (.tmp 13) 5, none⟩, false, []⟩,
 ⟨⟨some 59, .fad (.tmp 9) 3, none⟩, false, []⟩,
 ⟨⟨some 60, .ld (.tmp 59), none⟩, false, []⟩,
 ⟨⟨some 61, .mv (.tmp 11), none⟩, false, []⟩,
 ⟨⟨some 62, .iad (.tmp 60) (.tmp 61) 5, none⟩, false, []⟩,
 ⟨⟨some 63, .ldn (.tmp 62) 5, none⟩, false, []⟩,
 ⟨⟨some 64, .call (F stold_) [.tmp 55, .tmp 56, .tmp 57, .tmp 58, .tmp 63], none⟩, true, []⟩,
 ⟨⟨some 65, .lnot (.tmp 64), none⟩, false, [9]⟩]
 [])
 (.cond (.tmp 65)
 (.seq (.blk [⟨some 10, .mv (.const (.bool false)), none⟩])
 (.ret))
 (.skip)))
def ir_sTold_3 (F : Nat → Nat) : IC := (.drw [⟨⟨some 66, .ldn (.tmp 12) 8, none⟩, false, []⟩,
 ⟨⟨some 67, .bslice 1 [.int .i64 0, .int .i64 0, .int .i64 0, .int .i64 0, .int .i64 0, .int .i64 0, .int .i64 0, .slice none 0 0] [(0, 8, .tmp 66)], none⟩, true, []⟩,
 ⟨⟨some 68, .fad (.tmp 9) 3, none⟩, false, []⟩,
 ⟨⟨some 69, .ld (.tmp 68), none⟩, false, []⟩,
 ⟨⟨some 70, .mv (.tmp 11), none⟩, false, []⟩,
 ⟨⟨some 71, .iad (.tmp 69) (.tmp 70) 5, none⟩, false, []⟩,
 ⟨⟨some 72, .ldn (.tmp 71) 5, none⟩, false, []⟩,
 ⟨⟨some 73, .bslice 1 [.int .i64 0, .slice none 0 0, .bool false, .slice none 0 0, .slice none 0 0] [(0, 5, .tmp 72)], none⟩, true, []⟩,
 ⟨⟨some 74, .build [.int .i64 0, .slice none 0 0, .bool false, .slice none 0 0, .slice none 0 0] [(3, 1, .tmp 73)], none⟩, false, [7]⟩,
 ⟨⟨some 75, .call (F sUsual) [.tmp 67, .tmp 74], none⟩, true, [1, 7]⟩,
 ⟨⟨some 76, .lnot (.tmp 75), none⟩, false, [1, 7, 9]⟩]
 [])
def ir_sTold_4 (F : Nat → Nat) : IC := (.seq (.blk [⟨some 27, .mv (.tmp 25), none⟩,
 ⟨some 28, .iad (.tmp 23) (.tmp 25) 8, none⟩,
 ⟨some 29, .ldn (.tmp 28) 8, none⟩,
 ⟨some 12, .alloc [.int .i64 0, .int .i64 0, .int .i64 0, .int .i64 0, .int .i64 0, .int .i64 0, .int .i64 0, .slice none 0 0], none⟩,
 ⟨some 11, .mv (.tmp 27), none⟩,
 ⟨none, .st (.tmp 12) 8 (.tmp 29), none⟩])
 (.seq (.blk [⟨some 30, .ldn (.tmp 8) 5, none⟩,
 ⟨some 31, .mv (.tmp 11), none⟩,
 ⟨some 32, .call (F sAt) [.tmp 30, .tmp 31], none⟩,
 ⟨some 13, .alloc [.int .i64 0, .slice none 0 0, .bool false, .slice none 0 0, .slice none 0 0], none⟩,
 ⟨none, .st (.tmp 13) 5 (.tmp 32), none⟩])
 (.seq (.seq (ir_sTold_1 F)
 (.cond (.tmp 54)
 (.seq (ir_sTold_2 F)
 (.exit 1))
 (.skip)))
 (.seq (ir_sTold_3 F)
 (.cond (.tmp 76)
 (.seq (.blk [⟨some 10, .mv (.const (.bool false)), none⟩])
 (.ret))
 (.skip))))))
def ir_sTold_5 (F : Nat → Nat) : IC := (.drw [⟨⟨some 97, .fad (.tmp 9) 4, none⟩, false, []⟩,
 ⟨⟨some 98, .ld (.tmp 97), none⟩, false, []⟩,
 ⟨⟨some 99, .mv (.tmp 15), none⟩, false, []⟩,
 ⟨⟨some 100, .iad (.tmp 98) (.tmp 99) 2, none⟩, false, []⟩,
 ⟨⟨some 101, .fad (.tmp 100) 0, none⟩, false, []⟩,
 ⟨⟨some 102, .ld (.tmp 101), none⟩, false, []⟩,
 ⟨⟨some 103, .fad (.tmp 16) 0, none⟩, false, []⟩,
 ⟨⟨some 104, .ld (.tmp 103), none⟩, false, []⟩,
 ⟨⟨some 105, .bin .neq (.tmp 102) (.tmp 104), none⟩, false, []⟩,
 ⟨⟨some 106, .mv (.tmp 105), none⟩, false, []⟩,
 ⟨⟨some 107, .fad (.tmp 9) 4, some (106, false)⟩, false, []⟩,
 ⟨⟨some 108, .ld (.tmp 107), some (106, false)⟩, false, []⟩,
 ⟨⟨some 109, .mv (.tmp 15), some (106, false)⟩, false, []⟩,
 ⟨⟨some 110, .iad (.tmp 108) (.tmp 109) 2, some (106, false)⟩, false, []⟩,
 ⟨⟨some 111, .fad (.tmp 110) 1, some (106, false)⟩, false, []⟩,
 ⟨⟨some 112, .ld (.tmp 111), some (106, false)⟩, false, []⟩,
 ⟨⟨some 113, .fad (.tmp 16) 1, some (106, false)⟩, false, []⟩,
 ⟨⟨some 114, .ld (.tmp 113), some (106, false)⟩, false, []⟩,
 ⟨⟨some 115, .call (F sWhole) [.tmp 114], some (106, false)⟩, true, []⟩,
 ⟨⟨some 116, .call (F sSame) [.tmp 112, .tmp 115], some (106, false)⟩, true, [18]⟩,
 ⟨⟨some 117, .lnot (.tmp 116), some (106, false)⟩, false, [18, 19]⟩,
 ⟨⟨some 118, .pick (.tmp 106) (.const (.bool true)) (.tmp 117), none⟩, false, [18, 19]⟩]
 [])
def ir_sTold_6 (F : Nat → Nat) : IC := (.seq (.blk [⟨some 90, .mv (.tmp 14), none⟩,
 ⟨some 91, .len (.tmp 90), none⟩,
 ⟨some 92, .mv (.const (.int .i64 0)), none⟩])
 (.block 2 (.loop (.seq (.blk [⟨some 93, .bin .lss (.tmp 92) (.tmp 91), none⟩])
 (.seq (.cond (.tmp 93)
 (.skip)
 (.exit 2))
 (.seq (.block 3 (.seq (.blk [⟨some 94, .mv (.tmp 92), none⟩,
 ⟨some 95, .iad (.tmp 90) (.tmp 92) 2, none⟩,
 ⟨some 96, .ldn (.tmp 95) 2, none⟩,
 ⟨some 16, .alloc [.int .u32 0, .slice none 0 0], none⟩,
 ⟨some 15, .mv (.tmp 94), none⟩,
 ⟨none, .st (.tmp 16) 2 (.tmp 96), none⟩])
 (.seq (ir_sTold_5 F)
 (.cond (.tmp 118)
 (.seq (.blk [⟨some 10, .mv (.const (.bool false)), none⟩])
 (.ret))
 (.skip)))))
 (.blk [⟨some 119, .bin .add (.tmp 92) (.const (.int .i64 1)), none⟩,
 ⟨some 92, .mv (.tmp 119), none⟩])))))))
def ir_sTold (F : Nat → Nat) : IC × List RV × Nat := (.seq (.blk [⟨some 8, .box (.tmp 3), none⟩,
 ⟨some 9, .box (.tmp 4), none⟩,
 ⟨some 10, .mv (.const (.bool false)), none⟩])
 (.seq (.seq (.blk [⟨some 17, .fad (.tmp 9) 3, none⟩,
 ⟨some 18, .ld (.tmp 17), none⟩,
 ⟨some 19, .len (.tmp 18), none⟩,
 ⟨some 20, .mv (.tmp 0), none⟩,
 ⟨some 21, .len (.tmp 20), none⟩,
 ⟨some 22, .bin .neq (.tmp 19) (.tmp 21), none⟩])
 (.cond (.tmp 22)
 (.seq (.blk [⟨some 10, .mv (.const (.bool false)), none⟩])
 (.ret))
 (.skip)))
 (.seq (.seq (.blk [⟨some 23, .mv (.tmp 0), none⟩,
 ⟨some 24, .len (.tmp 23), none⟩,
 ⟨some 25, .mv (.const (.int .i64 0)), none⟩])
 (.block 0 (.loop (.seq (.blk [⟨some 26, .bin .lss (.tmp 25) (.tmp 24), none⟩])
 (.seq (.cond (.tmp 26)
 (.skip)
 (.exit 0))
 (.seq (.block 1 (ir_sTold_4 F))
 (.blk [⟨some 77, .bin .add (.tmp 25) (.const (.int .i64 1)), none⟩,
 ⟨some 25, .mv (.tmp 77), none⟩])))))))
 (.seq (.blk [⟨some 78, .mv (.tmp 0), none⟩,
 ⟨some 79, .fad (.tmp 8) 4, none⟩,
 ⟨some 80, .ld (.tmp 79), none⟩,
 ⟨some 81, .call (F sUnknown) [.tmp 78, .tmp 80], none⟩,
 ⟨some 14, .mv (.tmp 81), none⟩])
 (.seq (.seq (.blk [⟨some 82, .mv (.tmp 2), none⟩,
 ⟨some 83, .lnot (.tmp 82), none⟩])
 (.cond (.tmp 83)
 (.blk [⟨some 14, .mv (.const (.slice none 0 0)), none⟩])
 (.skip)))
 (.seq (.seq (.blk [⟨some 84, .fad (.tmp 9) 4, none⟩,
 ⟨some 85, .ld (.tmp 84), none⟩,
 ⟨some 86, .len (.tmp 85), none⟩,
 ⟨some 87, .mv (.tmp 14), none⟩,
 ⟨some 88, .len (.tmp 87), none⟩,
 ⟨some 89, .bin .neq (.tmp 86) (.tmp 88), none⟩])
 (.cond (.tmp 89)
 (.seq (.blk [⟨some 10, .mv (.const (.bool false)), none⟩])
 (.ret))
 (.skip)))
 (.seq (ir_sTold_6 F)
 (.seq (.blk [⟨some 10, .mv (.const (.bool true)), none⟩])
 (.ret)))))))),
 [.tmp 10], 120)
def ir_stold__1 (F : Nat → Nat) : IC := (.blk [⟨some 30, .fad (.tmp 5) 0, none⟩,
 ⟨some 31, .ld (.tmp 30), none⟩,
 ⟨some 32, .bin .eql (.tmp 31) (.const (.int .i64 8)), none⟩,
 ⟨some 33, .mv (.tmp 32), none⟩,
 ⟨some 34, .fad (.tmp 5) 0, some (33, false)⟩,
 ⟨some 35, .ld (.tmp 34), some (33, false)⟩,
 ⟨some 36, .bin .eql (.tmp 35) (.const (.int .i64 10)), some (33, false)⟩,
 ⟨some 37, .pick (.tmp 33) (.const (.bool true)) (.tmp 36), none⟩,
 ⟨some 38, .mv (.tmp 37), none⟩,
 ⟨some 39, .mv (.tmp 12), some (38, false)⟩,
 ⟨some 40, .pick (.tmp 38) (.const (.bool true)) (.tmp 39), none⟩,
 ⟨some 41, .mv (.tmp 40), none⟩,
 ⟨some 42, .fad (.tmp 9) 2, some (41, true)⟩,
 ⟨some 43, .ld (.tmp 42), some (41, true)⟩,
 ⟨some 44, .mv (.tmp 11), some (41, true)⟩,
 ⟨some 45, .beq true (.tmp 43) (.tmp 44), some (41, true)⟩,
 ⟨some 46, .pick (.tmp 41) (.tmp 45) (.const (.bool false)), none⟩])
def ir_stold__2 (F : Nat → Nat) : IC := (.drw [⟨⟨some 101, .ldn (.tmp 15) 8, none⟩, false, []⟩,
 ⟨⟨some 102, .mv (.tmp 1), none⟩, false, []⟩,
 ⟨⟨some 103, .mv (.tmp 2), none⟩, false, []⟩,
 ⟨⟨some 104, .mv (.tmp 14), none⟩, false, []⟩,
 ⟨⟨some 105, .mv (.tmp 16), none⟩, false, []⟩,
 ⟨⟨some 106, .iad (.tmp 104) (.tmp 105) 5, none⟩, false, []⟩,
 ⟨⟨some 107, .ldn (.tmp 106) 5, none⟩, false, []⟩,
 ⟨⟨some 108, .fad (.tmp 9) 3, none⟩, false, []⟩,
 ⟨⟨some 109, .ld (.tmp 108), none⟩, false, []⟩,
 ⟨⟨some 110, .mv (.tmp 16), none⟩, false, []⟩,
 ⟨⟨some 111, .iad (.tmp 109) (.tmp 110) 5, none⟩, false, []⟩,
 ⟨⟨some 112, .ldn (.tmp 111) 5, none⟩, false, []⟩,
 ⟨⟨some 113, .call (F stold_) [.tmp 101, .tmp 102, .tmp 103, .tmp 107, .tmp 112], none⟩, true, []⟩,
 ⟨⟨some 114, .lnot (.tmp 113), none⟩, false, [12]⟩]
 [])
def ir_stold__3 (F : Nat → Nat) : IC := (.seq (.blk [⟨some 96, .mv (.tmp 14), none⟩,
 ⟨some 97, .len (.tmp 96), none⟩,
 ⟨some 98, .mv (.const (.int .i64 0)), none⟩])
 (.block 1 (.loop (.seq (.blk [⟨some 99, .bin .lss (.tmp 98) (.tmp 97), none⟩])
 (.seq (.cond (.tmp 99)
 (.skip)
 (.exit 1))
 (.seq (.block 2 (.seq (.blk [⟨some 100, .mv (.tmp 98), none⟩,
 ⟨some 16, .mv (.tmp 100), none⟩])
 (.seq (ir_stold__2 F)
 (.cond (.tmp 114)
 (.seq (.blk [⟨some 10, .mv (.const (.bool false)), none⟩])
 (.ret))
 (.skip)))))
 (.blk [⟨some 115, .bin .add (.tmp 98) (.const (.int .i64 1)), none⟩,
 ⟨some 98, .mv (.tmp 115), none⟩])))))))
def ir_stold__4 (F : Nat → Nat) : IC := (.seq (.blk [⟨some 81, .fad (.tmp 8) 3, none⟩,
 ⟨some 82, .ld (.tmp 81), none⟩,
 ⟨some 83, .call (F sThings) [.tmp 82], none⟩,
 ⟨some 14, .mv (.tmp 83), none⟩])
 (.seq (.seq (.blk [⟨some 84, .fad (.tmp 9) 3, none⟩,
 ⟨some 85, .ld (.tmp 84), none⟩,
 ⟨some 86, .len (.tmp 85), none⟩,
 ⟨some 87, .mv (.tmp 14), none⟩,
 ⟨some 88, .len (.tmp 87), none⟩,
 ⟨some 89, .bin .neq (.tmp 86) (.tmp 88), none⟩])
 (.cond (.tmp 89)
 (.seq (.blk [⟨some 10, .mv (.const (.bool false)), none⟩])
 (.ret))
 (.skip)))
 (.seq (.blk [⟨some 90, .ldn (.tmp 5) 8, none⟩,
 ⟨some 15, .alloc [.int .i64 0, .int .i64 0, .int .i64 0, .int .i64 0, .int .i64 0, .int .i64 0, .int .i64 0, .slice none 0 0], none⟩,
 ⟨none, .st (.tmp 15) 8 (.tmp 90), none⟩])
 (.seq (.blk [⟨some 91, .fad (.tmp 5) 6, none⟩,
 ⟨some 92, .ld (.tmp 91), none⟩,
 ⟨some 93, .fad (.tmp 15) 0, none⟩,
 ⟨none, .st (.tmp 93) 1 (.tmp 92), none⟩,
 ⟨some 94, .fad (.tmp 15) 3, none⟩,
 ⟨none, .st (.tmp 94) 1 (.const (.int .i64 (-1))), none⟩,
 ⟨some 95, .fad (.tmp 15) 4, none⟩,
 ⟨none, .st (.tmp 95) 1 (.const (.int .i64 (-1))), none⟩])
 (.seq (ir_stold__3 F)
 (.seq (.blk [⟨some 10, .mv (.const (.bool true)), none⟩])
 (.ret)))))))
def ir_stold__5 (F : Nat → Nat) : IC := (.seq (.blk [⟨some 60, .bin .eql (.tmp 49) (.const (.int .i64 7)), none⟩,
 ⟨some 59, .mv (.tmp 60), none⟩])
 (.cond (.tmp 59)
 (.seq (.blk [⟨some 61, .mkslice (.const (.int .i64 16)) (.const (.int .i64 16)) 1 [.int .u8 0], none⟩,
 ⟨some 13, .mv (.tmp 61), none⟩])
 (.seq (.blk [⟨some 62, .mv (.tmp 13), none⟩,
 ⟨some 63, .fad (.tmp 8) 1, none⟩,
 ⟨some 64, .ld (.tmp 63), none⟩,
 ⟨some 65, .copy (.tmp 62) (.tmp 64) 1, none⟩])
 (.seq (.blk [⟨some 66, .fad (.tmp 9) 1, none⟩,
 ⟨some 67, .ld (.tmp 66), none⟩,
 ⟨some 68, .mv (.tmp 13), none⟩,
 ⟨some 69, .call (F sSame) [.tmp 67, .tmp 68], none⟩,
 ⟨some 10, .mv (.tmp 69), none⟩])
 (.ret))))
 (.seq (.blk [⟨some 71, .bin .eql (.tmp 49) (.const (.int .i64 10)), none⟩,
 ⟨some 70, .mv (.tmp 71), none⟩])
 (.cond (.tmp 70)
 (.seq (.blk [⟨some 72, .fad (.tmp 5) 7, none⟩,
 ⟨some 73, .ld (.tmp 72), none⟩,
 ⟨some 74, .mv (.tmp 1), none⟩,
 ⟨some 75, .mv (.tmp 2), none⟩,
 ⟨some 76, .ldn (.tmp 8) 5, none⟩,
 ⟨some 77, .ldn (.tmp 9) 5, none⟩,
 ⟨some 78, .call (F sTold) [.tmp 73, .tmp 74, .tmp 75, .tmp 76, .tmp 77], none⟩,
 ⟨some 10, .mv (.tmp 78), none⟩])
 (.ret))
 (.seq (.blk [⟨some 80, .bin .eql (.tmp 49) (.const (.int .i64 11)), none⟩,
 ⟨some 79, .mv (.tmp 80), none⟩])
 (.cond (.tmp 79)
 (ir_stold__4 F)
 (.skip)))))))
def ir_stold__6 (F : Nat → Nat) : IC := (.seq (.blk [⟨some 48, .fad (.tmp 5) 0, none⟩,
 ⟨some 49, .ld (.tmp 48), none⟩])
 (.block 0 (.seq (.seq (.blk [⟨some 51, .bin .eql (.tmp 49) (.const (.int .i64 8)), none⟩,
 ⟨some 50, .mv (.tmp 51), none⟩])
 (.cond (.tmp 50)
 (.skip)
 (.blk [⟨some 52, .bin .eql (.tmp 49) (.const (.int .i64 9)), none⟩,
 ⟨some 50, .mv (.tmp 52), none⟩])))
 (.cond (.tmp 50)
 (.seq (.drw [⟨⟨some 53, .fad (.tmp 9) 1, none⟩, false, []⟩,
 ⟨⟨some 54, .ld (.tmp 53), none⟩, false, []⟩,
 ⟨⟨some 55, .fad (.tmp 8) 1, none⟩, false, []⟩,
 ⟨⟨some 56, .ld (.tmp 55), none⟩, false, []⟩,
 ⟨⟨some 57, .call (F sWhole) [.tmp 56], none⟩, true, []⟩,
 ⟨⟨some 58, .call (F sSame) [.tmp 54, .tmp 57], none⟩, true, [4]⟩,
 ⟨⟨some 10, .mv (.tmp 58), none⟩, false, [4, 5]⟩]
 [])
 (.ret))
 (ir_stold__5 F)))))
def ir_stold_ (F : Nat → Nat) : IC × List RV × Nat := (.seq (.blk [⟨some 5, .box (.tmp 0), none⟩,
 ⟨some 8, .box (.tmp 3), none⟩,
 ⟨some 9, .box (.tmp 4), none⟩,
 ⟨some 10, .mv (.const (.bool false)), none⟩])
 (.seq (.blk [⟨some 17, .ldn (.tmp 5) 8, none⟩,
 ⟨some 18, .mv (.tmp 1), none⟩,
 ⟨some 19, .ldn (.tmp 8) 5, none⟩,
 ⟨some 20, .call (F sNull) [.tmp 17, .tmp 18, .tmp 19], none⟩,
 ⟨some 11, .mv (.tmp 20), none⟩])
 (.seq (.blk [⟨some 21, .fad (.tmp 5) 3, none⟩,
 ⟨some 22, .ld (.tmp 21), none⟩,
 ⟨some 23, .bin .geq (.tmp 22) (.const (.int .i64 0)), none⟩,
 ⟨some 24, .mv (.tmp 23), none⟩,
 ⟨some 25, .mv (.tmp 1), some (24, true)⟩,
 ⟨some 26, .fad (.tmp 5) 3, some (24, true)⟩,
 ⟨some 27, .ld (.tmp 26), some (24, true)⟩,
 ⟨some 28, .bin .geq (.tmp 25) (.tmp 27), some (24, true)⟩,
 ⟨some 29, .pick (.tmp 24) (.tmp 28) (.const (.bool false)), none⟩,
 ⟨some 12, .mv (.tmp 29), none⟩])
 (.seq (.seq (ir_stold__1 F)
 (.cond (.tmp 46)
 (.seq (.blk [⟨some 10, .mv (.const (.bool false)), none⟩])
 (.ret))
 (.skip)))
 (.seq (.seq (.blk [⟨some 47, .mv (.tmp 11), none⟩])
 (.cond (.tmp 47)
 (.seq (.blk [⟨some 10, .mv (.const (.bool true)), none⟩])
 (.ret))
 (.skip)))
 (.seq (ir_stold__6 F)
 (.seq (.drw [⟨⟨some 116, .fad (.tmp 9) 0, none⟩, false, []⟩,
 ⟨⟨some 117, .ld (.tmp 116), none⟩, false, []⟩,
 ⟨⟨some 118, .fad (.tmp 5) 0, none⟩, false, []⟩,
 ⟨⟨some 119, .ld (.tmp 118), none⟩, false, []⟩,
 ⟨⟨some 120, .fad (.tmp 8) 0, none⟩, false, []⟩,
 ⟨⟨some 121, .ld (.tmp 120), none⟩, false, []⟩,
 ⟨⟨some 122, .call (F sNumber) [.tmp 119, .tmp 121], none⟩, true, []⟩,
 ⟨⟨some 123, .bin .eql (.tmp 117) (.tmp 122), none⟩, false, [6]⟩,
 ⟨⟨some 10, .mv (.tmp 123), none⟩, false, [6]⟩]
 [])
 (.ret))))))),
 [.tmp 10], 124)
def ir_sUsual_1 (F : Nat → Nat) : IC := (.seq (.blk [⟨some 34, .fad (.tmp 7) 2, none⟩,
 ⟨some 35, .ld (.tmp 34), none⟩,
 ⟨some 36, .fad (.tmp 6) 3, none⟩,
 ⟨some 37, .ld (.tmp 36), none⟩,
 ⟨some 38, .bin .geq (.tmp 37) (.const (.int .i64 0)), none⟩,
 ⟨some 39, .beq true (.tmp 35) (.tmp 38), none⟩,
 ⟨some 40, .mv (.tmp 39), none⟩,
 ⟨some 41, .fad (.tmp 7) 1, some (40, false)⟩,
 ⟨some 42, .ld (.tmp 41), some (40, false)⟩,
 ⟨some 43, .len (.tmp 42), some (40, false)⟩,
 ⟨some 44, .bin .gtr (.tmp 43) (.const (.int .i64 0)), some (40, false)⟩,
 ⟨some 45, .pick (.tmp 40) (.const (.bool true)) (.tmp 44), none⟩])
 (.cond (.tmp 45)
 (.seq (.blk [⟨some 4, .mv (.const (.bool false)), none⟩])
 (.ret))
 (.skip)))
def ir_sUsual_2 (F : Nat → Nat) : IC := (.seq (.blk [⟨some 56, .fad (.tmp 7) 1, none⟩,
 ⟨some 57, .ld (.tmp 56), none⟩,
 ⟨some 58, .len (.tmp 57), none⟩,
 ⟨some 59, .bin .gtr (.tmp 58) (.const (.int .i64 0)), none⟩,
 ⟨some 60, .mv (.tmp 59), none⟩,
 ⟨some 61, .fad (.tmp 7) 3, some (60, false)⟩,
 ⟨some 62, .ld (.tmp 61), some (60, false)⟩,
 ⟨some 63, .len (.tmp 62), some (60, false)⟩,
 ⟨some 64, .bin .gtr (.tmp 63) (.const (.int .i64 0)), some (60, false)⟩,
 ⟨some 65, .pick (.tmp 60) (.const (.bool true)) (.tmp 64), none⟩])
 (.cond (.tmp 65)
 (.seq (.blk [⟨some 4, .mv (.const (.bool false)), none⟩])
 (.ret))
 (.skip)))
def ir_sUsual_3 (F : Nat → Nat) : IC := (.blk [⟨some 68, .fad (.tmp 6) 3, none⟩,
 ⟨some 69, .ld (.tmp 68), none⟩,
 ⟨some 70, .bin .geq (.tmp 69) (.const (.int .i64 0)), none⟩,
 ⟨some 71, .mv (.tmp 70), none⟩,
 ⟨some 72, .fad (.tmp 7) 2, some (71, true)⟩,
 ⟨some 73, .ld (.tmp 72), some (71, true)⟩,
 ⟨some 74, .lnot (.tmp 73), some (71, true)⟩,
 ⟨some 75, .pick (.tmp 71) (.tmp 74) (.const (.bool false)), none⟩,
 ⟨some 76, .mv (.tmp 75), none⟩,
 ⟨some 77, .fad (.tmp 6) 3, some (76, false)⟩,
 ⟨some 78, .ld (.tmp 77), some (76, false)⟩,
 ⟨some 79, .bin .lss (.tmp 78) (.const (.int .i64 0)), some (76, false)⟩,
 ⟨some 80, .mv (.tmp 79), some (76, false)⟩,
 ⟨some 81, .fad (.tmp 6) 7, some (80, true)⟩,
 ⟨some 82, .ld (.tmp 81), some (80, true)⟩,
 ⟨some 83, .ldn (.tmp 7) 5, some (80, true)⟩,
 ⟨some 84, .call (F sUsual) [.tmp 82, .tmp 83], some (80, true)⟩,
 ⟨some 85, .lnot (.tmp 84), some (80, true)⟩,
 ⟨some 86, .pick (.tmp 80) (.tmp 85) (.const (.bool false)), some (76, false)⟩,
 ⟨some 87, .pick (.tmp 76) (.const (.bool true)) (.tmp 86), none⟩])
def ir_sUsual_4 (F : Nat → Nat) : IC := (.seq (.blk [⟨some 67, .bin .eql (.tmp 23) (.const (.int .i64 10)), none⟩,
 ⟨some 66, .mv (.tmp 67), none⟩])
 (.cond (.tmp 66)
 (.seq (ir_sUsual_3 F)
 (.cond (.tmp 87)
 (.seq (.blk [⟨some 4, .mv (.const (.bool false)), none⟩])
 (.ret))
 (.skip)))
 (.seq (.drw [⟨⟨some 24, .fad (.tmp 7) 0, none⟩, false, []⟩,
 ⟨⟨some 25, .ld (.tmp 24), none⟩, false, []⟩,
 ⟨⟨some 26, .fad (.tmp 6) 0, none⟩, false, []⟩,
 ⟨⟨some 27, .ld (.tmp 26), none⟩, false, []⟩,
 ⟨⟨some 28, .fad (.tmp 6) 5, none⟩, false, []⟩,
 ⟨⟨some 29, .ld (.tmp 28), none⟩, false, []⟩,
 ⟨⟨some 30, .call (F sNumber) [.tmp 27, .tmp 29], none⟩, true, []⟩,
 ⟨⟨some 31, .bin .neq (.tmp 25) (.tmp 30), none⟩, false, [6]⟩]
 [])
 (.cond (.tmp 31)
 (.seq (.blk [⟨some 4, .mv (.const (.bool false)), none⟩])
 (.ret))
 (.skip)))))
def ir_sUsual_5 (F : Nat → Nat) : IC := (.seq (.blk [⟨some 47, .bin .eql (.tmp 23) (.const (.int .i64 7)), none⟩,
 ⟨some 46, .mv (.tmp 47), none⟩])
 (.cond (.tmp 46)
 (.seq (.drw [⟨⟨some 48, .fad (.tmp 7) 1, none⟩, false, []⟩,
 ⟨⟨some 49, .ld (.tmp 48), none⟩, false, []⟩,
 ⟨⟨some 50, .mkslice (.const (.int .i64 16)) (.const (.int .i64 16)) 1 [.int .u8 0], none⟩, true, []⟩,
 ⟨⟨some 51, .call (F sSame) [.tmp 49, .tmp 50], none⟩, true, [2]⟩,
 ⟨⟨some 52, .lnot (.tmp 51), none⟩, false, [2, 3]⟩]
 [])
 (.cond (.tmp 52)
 (.seq (.blk [⟨some 4, .mv (.const (.bool false)), none⟩])
 (.ret))
 (.skip)))
 (.seq (.seq (.blk [⟨some 54, .bin .eql (.tmp 23) (.const (.int .i64 9)), none⟩,
 ⟨some 53, .mv (.tmp 54), none⟩])
 (.cond (.tmp 53)
 (.skip)
 (.blk [⟨some 55, .bin .eql (.tmp 23) (.const (.int .i64 11)), none⟩,
 ⟨some 53, .mv (.tmp 55), none⟩])))
 (.cond (.tmp 53)
 (ir_sUsual_2 F)
 (ir_sUsual_4 F)))))
def ir_sUsual_6 (F : Nat → Nat) : IC := (.seq (.blk [⟨some 16, .mv (.tmp 14), none⟩,
 ⟨some 17, .iad (.tmp 12) (.tmp 14) 8, none⟩,
 ⟨some 18, .ldn (.tmp 17) 8, none⟩,
 ⟨some 6, .alloc [.int .i64 0, .int .i64 0, .int .i64 0, .int .i64 0, .int .i64 0, .int .i64 0, .int .i64 0, .slice none 0 0], none⟩,
 ⟨some 5, .mv (.tmp 16), none⟩,
 ⟨none, .st (.tmp 6) 8 (.tmp 18), none⟩])
 (.seq (.blk [⟨some 19, .ldn (.tmp 3) 5, none⟩,
 ⟨some 20, .mv (.tmp 5), none⟩,
 ⟨some 21, .call (F sAt) [.tmp 19, .tmp 20], none⟩,
 ⟨some 7, .alloc [.int .i64 0, .slice none 0 0, .bool false, .slice none 0 0, .slice none 0 0], none⟩,
 ⟨none, .st (.tmp 7) 5 (.tmp 21), none⟩])
 (.seq (.blk [⟨some 22, .fad (.tmp 6) 0, none⟩,
 ⟨some 23, .ld (.tmp 22), none⟩])
 (.block 2 (.seq (.blk [⟨some 33, .bin .eql (.tmp 23) (.const (.int .i64 8)), none⟩,
 ⟨some 32, .mv (.tmp 33), none⟩])
 (.cond (.tmp 32)
 (ir_sUsual_1 F)
 (ir_sUsual_5 F)))))))
def ir_sUsual (F : Nat → Nat) : IC × List RV × Nat := (.seq (.blk [⟨some 3, .box (.tmp 1), none⟩,
 ⟨some 4, .mv (.const (.bool false)), none⟩])
 (.seq (.seq (.blk [⟨some 8, .fad (.tmp 3) 4, none⟩,
 ⟨some 9, .ld (.tmp 8), none⟩,
 ⟨some 10, .len (.tmp 9), none⟩,
 ⟨some 11, .bin .gtr (.tmp 10) (.const (.int .i64 0)), none⟩])
 (.cond (.tmp 11)
 (.seq (.blk [⟨some 4, .mv (.const (.bool false)), none⟩])
 (.ret))
 (.skip)))
 (.seq (.seq (.blk [⟨some 12, .mv (.tmp 0), none⟩,
 ⟨some 13, .len (.tmp 12), none⟩,
 ⟨some 14, .mv (.const (.int .i64 0)), none⟩])
 (.block 0 (.loop (.seq (.blk [⟨some 15, .bin .lss (.tmp 14) (.tmp 13), none⟩])
 (.seq (.cond (.tmp 15)
 (.skip)
 (.exit 0))
 (.seq (.block 1 (ir_sUsual_6 F))
 (.blk [⟨some 88, .bin .add (.tmp 14) (.const (.int .i64 1)), none⟩,
 ⟨some 14, .mv (.tmp 88), none⟩])))))))
 (.seq (.blk [⟨some 4, .mv (.const (.bool true)), none⟩])
 (.ret)))),
 [.tmp 4], 89)
end Go.Msk

namespace Go.Msk
open Go.RowKit
set_option maxRecDepth 100000
def valT (kind : Int) (part : TR → TR → Prop) (null may : Bool) (t g : TR) : Prop :=
  ((kind = 8 ∨ kind = 10 ∨ may = true) → g.null = null) ∧
  (null = false → ((kind = 8 ∨ kind = 9) → g.s = wholeP t.s) ∧ (kind = 7 → g.s = uuidP t.s) ∧ (kind = 10 → part t g) ∧ (kind ≠ 7 → kind ≠ 8 → kind ≠ 9 → kind ≠ 10 → kind ≠ 11 → g.n = numberP kind t.n))
mutual
/-- Does a field say what is so by default? -/
def FD.usualT : FD → TR → Prop
  | .mk kind _ _ null _ dfl _ sub, x =>
    (kind = 8 → x.null = decide (null ≥ 0) ∧ x.s = []) ∧ (kind = 7 → x.s = List.replicate 16 0) ∧ ((kind = 9 ∨ kind = 11) → x.s = [] ∧ x.l = []) ∧
    (kind = 10 → (null ≥ 0 → x.null = true) ∧ (null < 0 → x.u = [] ∧ usualL sub 0 x)) ∧ (kind ≠ 7 → kind ≠ 8 → kind ≠ 9 → kind ≠ 10 → kind ≠ 11 → x.n = numberP kind dfl)
def usualL : List FD → Nat → TR → Prop
  | [], _, _ => True
  | f :: fs, i, x => f.usualT (x.at i) ∧ usualL fs (i + 1) x
end
def mayV (null ver : Int) : Bool := decide (null ≥ 0) && decide (ver ≥ null)
mutual
def FD.toldT (ver : Int) (flex : Bool) : FD → TR → TR → Prop
  | .mk kind frm to null tag dfl of sub, t, g =>
    valT kind (fun y h => toldL ver flex sub 0 y h.l ∧ h.u = (if flex then wholeU (unknownP sub y.u) else [])) (FD.nullV (.mk kind frm to null tag dfl of sub) ver t) (mayV null ver) t g ∧
    (kind = 11 → FD.nullV (.mk kind frm to null tag dfl of sub) ver t = false → of ≠ 11 ∧ g.l.length = (t.l.take 32767).length ∧
      ∀ (i : Nat) (y h : TR), (t.l.take 32767)[i]? = some y → g.l[i]? = some h → valT of (fun y h => toldL ver flex sub 0 y h.l ∧ h.u = (if flex then wholeU (unknownP sub y.u) else [])) false false y h)
def toldL (ver : Int) (flex : Bool) : List FD → Nat → TR → List TR → Prop
  | [], _, _, gl => gl = []
  | f :: fs, i, t, gl => ∃ g r, gl = g :: r ∧ (f.hasV ver = true → f.toldT ver flex (t.at i) g) ∧ (f.hasV ver = false → f.usualT g) ∧ toldL ver flex fs (i + 1) t r
end
def partT (ver : Int) (flex : Bool) (sub : List FD) (y h : TR) : Prop := toldL ver flex sub 0 y h.l ∧ h.u = (if flex then wholeU (unknownP sub y.u) else [])
def TrueR (w : World) : Ending → World → Prop := fun e w' => e = .returned (.bool true) ∧ Mod [] w w'
section
variable {P : Program} {F : Nat → Nat}
attribute [local simp] gOk updo upd ev RK.val? isShift intBin Addr.add_mk args0 Value.cells undef
theorem goSt1 {a x : Operand} {b o : Nat} {r : List RI} {σ : Sl} {w : World} {v : Value} {cs : List Value} {Q : Sl → World → Prop} (ha : ev σ a = .pointer (some ⟨b, o, none⟩)) (hx : ev σ x = v) (hv : v.cells = #[v]) (h1 : v.oneCell' = true) (hb : Blk w b cs) (ho : o < cs.length)
    (h : ∀ w', Blk w' b (cs.set o v) → Mod [b] w w' → wpR P r σ w' Q) : wpR P (⟨none, .st a 1 x, none⟩ :: r) σ w Q := by
  subst hx
  refine wpR_run ?_
  simp only [RK.run, ha, hv]
  refine ⟨rfl, stOk_one hb ho h1, h _ ?_ (Mod.put (by simp))⟩
  have := hb.put (o := o) (vs := [ev σ x]) (by simp; omega)
  have e : splice cs o [ev σ x] = cs.set o (ev σ x) := by
    unfold splice
    rw [List.set_eq_take_append_cons_drop, if_pos ho]
    simp
  rwa [e] at this
def PartT (P : Program) (F : Nat → Nat) (ver : Int) (flex : Bool) (sub : List FD) : Prop :=
  ∀ (w : World) (sv : Value) (css : List (List Value)) (t : TR) (ts : List Value) (g : TR) (gs : List Value), SlC anyB w sv sub.length css.flatten → RepFL anyB w sub css → RepT anyB w t ts → RepT anyB w g gs → partT ver flex sub t g →
    Calls P (F sTold) [sv, .int .i64 ver, .bool flex, .agg ts.toArray, .agg gs.toArray].toArray w (TrueR w)
def FieldT (P : Program) (F : Nat → Nat) (ver : Int) (flex : Bool) (f : FD) : Prop :=
  ∀ (w : World) (cs : List Value) (t : TR) (ts : List Value) (g : TR) (gs : List Value), RepF anyB w f cs → RepT anyB w t ts → RepT anyB w g gs → f.toldT ver flex t g →
    Calls P (F stold_) [.agg cs.toArray, .int .i64 ver, .bool flex, .agg ts.toArray, .agg gs.toArray].toArray w (TrueR w)
structure ToS (w0 : World) (fb tb gb : Nat) (ver : Int) (flex nl may : Bool) (fcs tcs gcs : List Value) (σ : Sl) : Prop where
  bf : Blk w0 fb fcs
  bt : Blk w0 tb tcs
  bg : Blk w0 gb gcs
  s1 : σ 1 = .int .i64 ver
  s2 : σ 2 = .bool flex
  s5 : σ 5 = .pointer (some ⟨fb, 0, none⟩)
  s8 : σ 8 = .pointer (some ⟨tb, 0, none⟩)
  s9 : σ 9 = .pointer (some ⟨gb, 0, none⟩)
  s11 : σ 11 = .bool nl
  s12 : σ 12 = .bool may
theorem ToS.keep {w0 : World} {fb tb gb : Nat} {ver : Int} {flex nl may : Bool} {fcs tcs gcs : List Value} {σ σ' : Sl} (h : ToS w0 fb tb gb ver flex nl may fcs tcs gcs σ) (hs : ∀ s, s < 13 → s ≠ 10 → σ' s = σ s) : ToS w0 fb tb gb ver flex nl may fcs tcs gcs σ' :=
  ⟨h.bf, h.bt, h.bg, (hs 1 (by omega) (by omega)).trans h.s1, (hs 2 (by omega) (by omega)).trans h.s2, (hs 5 (by omega) (by omega)).trans h.s5, (hs 8 (by omega) (by omega)).trans h.s8, (hs 9 (by omega) (by omega)).trans h.s9, (hs 11 (by omega) (by omega)).trans h.s11, (hs 12 (by omega) (by omega)).trans h.s12⟩
theorem told_null {w0 w : World} {fb tb gb : Nat} {ver : Int} {flex nl may gn : Bool} {kind : Int} {fr tcs : List Value} {gc0 gc1 gc3 gc4 : Value} {σ : Sl} {Q : Exit → Sl → World → Prop} (hS : ToS w0 fb tb gb ver flex nl may (.int .i64 kind :: fr) tcs [gc0, gc1, .bool gn, gc3, gc4] σ) (hm0 : Mod [] w0 w)
    (h : (kind = 8 ∨ kind = 10 ∨ may = true) → gn = nl) (hQ : ∀ σ', (∀ s, s < 30 → σ' s = σ s) → σ' 46 = .bool false → Q .normal σ' w) : wpC P (ir_stold__1 F) Q σ w := by
  unfold ir_stold__1
  have c5 := fun k => (hS.bf.mod hm0 (by simp)).cell k
  have c9 := fun k => (hS.bg.mod hm0 (by simp)).cell k
  have e5 := hS.s5
  have e9 := hS.s9
  have e11 := hS.s11
  have e12 := hS.s12
  have frm : ∀ (σ' : Sl), (∀ s, s < 30 → σ' s = σ s) → σ' 46 = .bool false → Q .normal σ' w := hQ
  rw [wpC_blk]
  refine go1 (v := .pointer (some ⟨fb, 0, none⟩)) rfl (by simp [e5]) ?_
  refine go1 (v := .int .i64 kind) rfl (by simp [c5]) ?_
  refine go1 (v := .bool (kind == 8)) rfl (by simp) ?_
  refine go1 (v := .bool (kind == 8)) rfl (by simp) ?_
  have fin : ∀ (a b c d e f g h i j k l m n o p q : Value), (p = .bool false ∨ True) → True := fun _ _ _ _ _ _ _ _ _ _ _ _ _ _ _ _ _ _ => trivial
  clear fin
  by_cases k8 : kind = 8
  · have hgn := h (.inl k8)
    rw [show (kind == 8) = true by simp [k8]]
    iterate 3 (refine go0 (by simp) ?_)
    refine go1 (v := .bool true) rfl (by simp) ?_
    refine go1 (v := .bool true) rfl (by simp) ?_
    refine go0 (by simp) ?_
    refine go1 (v := .bool true) rfl (by simp) ?_
    refine go1 (v := .bool true) rfl (by simp) ?_
    refine go1 (v := .pointer (some ⟨gb, 2, none⟩)) (by simp) (by simp [e9]) ?_
    refine go1 (v := .bool gn) (by simp) (by simp [c9]) ?_
    refine go1 (v := .bool nl) (by simp) (by simp [e11]) ?_
    refine go1 (v := .bool false) (by simp) (by simp [hgn]) ?_
    refine go1 (v := .bool false) rfl (by simp) (goEnd ?_)
    refine frm _ (fun s hs => ?_) (by simp)
    simp only [updo, upd]
    repeat rw [if_neg (by omega)]
  · rw [show (kind == 8) = false by simp [k8]]
    refine go1 (v := .pointer (some ⟨fb, 0, none⟩)) (by simp) (by simp [e5]) ?_
    refine go1 (v := .int .i64 kind) (by simp) (by simp [c5]) ?_
    refine go1 (v := .bool (kind == 10)) (by simp) (by simp) ?_
    refine go1 (v := .bool (kind == 10)) rfl (by simp) ?_
    refine go1 (v := .bool (kind == 10)) rfl (by simp) ?_
    by_cases k10 : kind = 10
    · have hgn := h (.inr (.inl k10))
      rw [show (kind == 10) = true by simp [k10]]
      refine go0 (by simp) ?_
      refine go1 (v := .bool true) rfl (by simp) ?_
      refine go1 (v := .bool true) rfl (by simp) ?_
      refine go1 (v := .pointer (some ⟨gb, 2, none⟩)) (by simp) (by simp [e9]) ?_
      refine go1 (v := .bool gn) (by simp) (by simp [c9]) ?_
      refine go1 (v := .bool nl) (by simp) (by simp [e11]) ?_
      refine go1 (v := .bool false) (by simp) (by simp [hgn]) ?_
      refine go1 (v := .bool false) rfl (by simp) (goEnd ?_)
      refine frm _ (fun s hs => ?_) (by simp)
      simp only [updo, upd]
      repeat rw [if_neg (by omega)]
    · rw [show (kind == 10) = false by simp [k10]]
      refine go1 (v := .bool may) (by simp) (by simp [e12]) ?_
      refine go1 (v := .bool may) rfl (by simp) ?_
      refine go1 (v := .bool may) rfl (by simp) ?_
      cases may with
      | true =>
        have hgn := h (.inr (.inr rfl))
        refine go1 (v := .pointer (some ⟨gb, 2, none⟩)) (by simp) (by simp [e9]) ?_
        refine go1 (v := .bool gn) (by simp) (by simp [c9]) ?_
        refine go1 (v := .bool nl) (by simp) (by simp [e11]) ?_
        refine go1 (v := .bool false) (by simp) (by simp [hgn]) ?_
        refine go1 (v := .bool false) rfl (by simp) (goEnd ?_)
        refine frm _ (fun s hs => ?_) (by simp)
        simp only [updo, upd]
        repeat rw [if_neg (by omega)]
      | false =>
        iterate 4 (refine go0 (by simp) ?_)
        refine go1 (v := .bool false) rfl (by simp) (goEnd ?_)
        refine frm _ (fun s hs => ?_) (by simp)
        simp only [updo, upd]
        repeat rw [if_neg (by omega)]
end
end Go.Msk

namespace Go.Msk
open Go.RowKit
set_option maxRecDepth 100000
section
variable {P : Program} {F : Nat → Nat}
attribute [local simp] gOk updo upd ev RK.val? isShift intBin Addr.add_mk args0 Value.cells undef
theorem told_elem {w0 w : World} {fb tb gb ob j n c n2 c2 : Nat} {ver : Int} {flex nl may : Bool} {fcs tcs ocs xs ys : List Value} {gc0 gc1 gc2 gc4 : Value} {one : FD} {x y : TR} {a a2 : Addr} {σ : Sl} {Q : Exit → Sl → World → Prop}
    (hS : ToS w0 fb tb gb ver flex nl may fcs tcs [gc0, gc1, gc2, .slice (some a2) n2 c2, gc4] σ) (hm0 : Mod [] w0 w) (hob : Blk w ob ocs) (hro : RepF anyB w one ocs) (h14 : σ 14 = .slice (some a) n c) (h15 : σ 15 = .pointer (some ⟨ob, 0, none⟩)) (h16 : σ 16 = .int .i64 (j : Nat)) (hj : j < n) (hj2 : j < n2)
    (hcell : cellsAt w (a.add (j * 5)) 0 5 = some xs) (hcell2 : cellsAt w (a2.add (j * 5)) 0 5 = some ys) (hx : RepT anyB w x xs) (hy : RepT anyB w y ys) (hT : FieldT P F ver flex one) (htd : one.toldT ver flex x y)
    (hQ : ∀ σ' w', (∀ s, s < 101 → σ' s = σ s) → σ' 114 = .bool false → Mod [] w w' → Q .normal σ' w') : wpC P (ir_stold__2 F) Q σ w := by
  unfold ir_stold__2
  show wpD P _ [] _ w.drew _
  have hmd : Mod [] w w.drew := Mod.drew _ _
  have hob' := hob.mod hmd (by simp)
  have hld := cellsAt_of' hob'.cells hro.eight
  have c9 := fun k => (hS.bg.mod (hm0.trans hmd) (by simp)).cell k
  have hc1 := cellsAt_below hmd.below _ _ _ hcell
  have hc2 := cellsAt_below hmd.below _ _ _ hcell2
  have e1 := hS.s1
  have e2 := hS.s2
  have e9 := hS.s9
  refine wpD_of_B (fun i v w' => match i with | 12 => v = .bool true | _ => True) (by
    intro i v w w' h hm
    split at h
    · exact h
    · trivial) ?_
  refine bo1 (v := .agg ocs.toArray) rfl (by simp [h15, hld]) ?_
  refine bo1 (v := .int .i64 ver) rfl (by simp [e1]) ?_
  refine bo1 (v := .bool flex) rfl (by simp [e2]) ?_
  refine bo1 (v := .slice (some a) n c) rfl (by simp [h14]) ?_
  refine bo1 (v := .int .i64 (j : Nat)) rfl (by simp [h16]) ?_
  refine bo1 (v := .pointer (some (a.add (j * 5)))) rfl (by simp [hj]) ?_
  refine bo1 (v := .agg xs.toArray) rfl (by simp [hc1]) ?_
  refine bo1 (v := .pointer (some ⟨gb, 3, none⟩)) rfl (by simp [e9]) ?_
  refine bo1 (v := .slice (some a2) n2 c2) rfl (by simp [c9]) ?_
  refine bo1 (v := .int .i64 (j : Nat)) rfl (by simp [h16]) ?_
  refine bo1 (v := .pointer (some (a2.add (j * 5)))) rfl (by simp [hj2]) ?_
  refine bo1 (v := .agg ys.toArray) rfl (by simp [hc2]) ?_
  refine boCall (vs := [.agg ocs.toArray, .int .i64 ver, .bool flex, .agg xs.toArray, .agg ys.toArray]) rfl (by simp) (fun w' hm' _ => (hT w' ocs x xs y ys (hro.keep (hmd.trans hm')) (hx.keep (hmd.trans hm')) (hy.keep (hmd.trans hm')) htd).mono ?_) ?_
  · rintro e w'' ⟨rfl, hm2⟩
    exact ⟨_, rfl, hm2, rfl⟩
  rintro v ⟨wv, ev'⟩
  have ev' : v = .bool true := ev'
  subst ev'
  refine bo1 (v := .bool false) rfl (by simp) ?_
  intro w' hm' hkn
  refine goEnd (hQ _ w' (fun s hs => ?_) (by simp) (hmd.trans hm'))
  simp only [updo, upd]
  repeat rw [if_neg (by omega)]
theorem told_list (hm : P.follows .mixedOrders = true) (hth : liftF P (F sThings) = some (ir_sThings F)) {w0 w : World} {fb tb gb : Nat} {ver : Int} {flex nl may : Bool} {kind frm to null tag dfl of : Int} {sub : List FD} {sv tsv lv uv gsv glv guv : Value} {css tss gss : List (List Value)} {tn gn : Int} {tb' gb' : Bool} {l gl : List TR} {σ : Sl} {Q : Exit → Sl → World → Prop}
    (hS : ToS w0 fb tb gb ver flex nl may [.int .i64 kind, .int .i64 frm, .int .i64 to, .int .i64 null, .int .i64 tag, .int .i64 dfl, .int .i64 of, sv] [.int .i64 tn, tsv, .bool tb', lv, uv] [.int .i64 gn, gsv, .bool gb', glv, guv] σ) (hm0 : Mod [] w0 w)
    (hsv : SlC anyB w0 sv sub.length css.flatten) (hr : RepFL anyB w0 sub css) (hlv : SlC anyB w0 lv l.length tss.flatten) (hl : RepTL anyB w0 l tss) (hgv : SlC anyB w0 glv gl.length gss.flatten) (hg : RepTL anyB w0 gl gss)
    (hT : FieldT P F ver flex (.mk of frm to (-1) (-1) dfl of sub)) (hlen : gl.length = (l.take 32767).length) (htd : ∀ (i : Nat) (y h : TR), (l.take 32767)[i]? = some y → gl[i]? = some h → (FD.mk of frm to (-1) (-1) dfl of sub).toldT ver flex y h)
    (hQ : ∀ σ' w', σ' 10 = .bool true → Mod [] w0 w' → Q .ret σ' w') : wpC P (ir_stold__4 F) Q σ w := by
  unfold ir_stold__4
  have c8 := fun k => (hS.bt.mod hm0 (by simp)).cell k
  have c9 := fun k => (hS.bg.mod hm0 (by simp)).cell k
  have e8 := hS.s8
  have e9 := hS.s9
  rw [wpC_seq, wpC_blk]
  refine go1 (v := .pointer (some ⟨tb, 3, none⟩)) rfl (by simp [e8]) ?_
  refine go1 (v := lv) rfl (by simp [c8]) ?_
  refine goCall rfl (vs := [lv]) (by simp) (things_call hm hth (hlv.keep hm0) (hl.keep hm0)) ?_
  rintro e w1 ⟨ew, v1, rfl, hv1, hl1⟩
  subst ew
  refine ⟨v1, rfl, go1 (v := v1) rfl (by simp) (goEnd ?_)⟩
  simp only [thenC]
  obtain ⟨b1, k1, ev1⟩ := hv1.shape
  obtain ⟨b2, k2, ev2⟩ := hgv.shape
  rw [wpC_seq, wpC_seq, wpC_blk]
  refine go1 (v := .pointer (some ⟨gb, 3, none⟩)) rfl (by simp [e9]) ?_
  refine go1 (v := glv) rfl (by simp [c9]) ?_
  refine go1 (v := .int .i64 (gl.length : Nat)) rfl (by simp [ev2]) ?_
  refine go1 (v := v1) rfl (by simp) ?_
  refine go1 (v := .int .i64 ((l.take 32767).length : Nat)) rfl (by simp [ev1]) ?_
  refine go1 (v := .bool false) rfl (by simp [hlen]) (goEnd ?_)
  simp only [thenC]
  rw [wpC_cond_f (by simp), wpC_skip]
  simp only [thenC]
  have c5 := fun k => (hS.bf.mod hm0 (by simp)).cell k
  have hld5 := cellsAt_of' (hS.bf.mod hm0 (by simp)).cells (n := 8) rfl
  have e5 := hS.s5
  rw [wpC_seq, wpC_blk]
  refine go1 (v := .agg #[.int .i64 kind, .int .i64 frm, .int .i64 to, .int .i64 null, .int .i64 tag, .int .i64 dfl, .int .i64 of, sv]) rfl (by simp [e5, hld5]) ?_
  refine goAlloc fun w2 hb2 hm2 => ?_
  refine goSt (b := w1.heap.size) (v := .agg #[.int .i64 kind, .int .i64 frm, .int .i64 to, .int .i64 null, .int .i64 tag, .int .i64 dfl, .int .i64 of, sv]) (by simp) (by simp) hb2 (by simp) rfl (by
    intro y hy
    simp only [Value.cells, List.mem_cons, List.not_mem_nil, or_false] at hy
    rcases hy with rfl | rfl | rfl | rfl | rfl | rfl | rfl | rfl
    all_goals first | rfl | exact hsv.one) fun w3 hb3 hm3 => goEnd ?_
  simp only [thenC]
  have hb3 : Blk w3 w1.heap.size [.int .i64 kind, .int .i64 frm, .int .i64 to, .int .i64 null, .int .i64 tag, .int .i64 dfl, .int .i64 of, sv] := by simpa using hb3
  have hm13 : Mod [] w1 w3 := Mod.drop (b := w1.heap.size) (S := []) (hm2.nil.trans hm3) (Nat.le_refl _)
  have c53 := fun k => (hS.bf.mod (hm0.trans hm13) (by simp)).cell k
  rw [wpC_seq, wpC_blk]
  refine go1 (v := .pointer (some ⟨fb, 6, none⟩)) rfl (by simp [e5]) ?_
  refine go1 (v := .int .i64 of) rfl (by simp [c53]) ?_
  refine go1 (v := .pointer (some ⟨w1.heap.size, 0, none⟩)) rfl (by simp) ?_
  refine goSt1 (b := w1.heap.size) (o := 0) (v := .int .i64 of) (by simp) (by simp) rfl rfl hb3 (by simp) fun w4 hb4 hm4 => ?_
  refine go1 (v := .pointer (some ⟨w1.heap.size, 3, none⟩)) rfl (by simp) ?_
  refine goSt1 (b := w1.heap.size) (o := 3) (v := .int .i64 (-1)) (by simp) (by simp) rfl rfl hb4 (by simp) fun w5 hb5 hm5 => ?_
  refine go1 (v := .pointer (some ⟨w1.heap.size, 4, none⟩)) rfl (by simp) ?_
  refine goSt1 (b := w1.heap.size) (o := 4) (v := .int .i64 (-1)) (by simp) (by simp) rfl rfl hb5 (by simp) fun w6 hb6 hm6 => goEnd ?_
  simp only [thenC]
  have hb6 : Blk w6 w1.heap.size [.int .i64 of, .int .i64 frm, .int .i64 to, .int .i64 (-1), .int .i64 (-1), .int .i64 dfl, .int .i64 of, sv] := by simpa using hb6
  have hm16 : Mod [] w1 w6 := Mod.drop (b := w1.heap.size) (S := []) (hm13.nil.trans ((hm4.trans hm5).trans hm6)) (Nat.le_refl _)
  have hm06 := hm0.trans hm16
  unfold ir_stold__3
  rw [wpC_seq, wpC_seq, wpC_blk]
  refine go1 (v := v1) rfl (by simp) ?_
  refine go1 (v := .int .i64 ((l.take 32767).length : Nat)) rfl (by simp [ev1]) ?_
  refine go1 (v := .int .i64 (0 : Nat)) rfl (by simp) (goEnd ?_)
  simp only [thenC]
  have ht32 : (l.take 32767).length ≤ 32767 := by simp; omega
  refine rangeLoop (n := (l.take 32767).length) (fun j σ' w' => ToS w0 fb tb gb ver flex nl may [.int .i64 kind, .int .i64 frm, .int .i64 to, .int .i64 null, .int .i64 tag, .int .i64 dfl, .int .i64 of, sv] [.int .i64 tn, tsv, .bool tb', lv, uv] [.int .i64 gn, gsv, .bool gb', glv, guv] σ' ∧ σ' 98 = .int .i64 (j : Nat) ∧ σ' 97 = .int .i64 ((l.take 32767).length : Nat) ∧ σ' 14 = v1 ∧ σ' 15 = .pointer (some ⟨w1.heap.size, 0, none⟩) ∧ Mod [] w6 w') (by omega) (by omega) (fun j σ w h => ⟨h.2.1, h.2.2.1⟩) ?_ ?_ ?_
  · refine ⟨hS.keep fun s hs h10 => ?_, by simp, by simp, by simp, by simp, Mod.refl _ _⟩
    simp only [updo, upd]
    repeat rw [if_neg (by omega)]
  · rintro j σ7 w7 hj ⟨kS, k98, k97, k14, k15, hm7⟩
    have hm17 := hm16.trans hm7
    rw [wpC_seq, wpC_blk]
    refine go1 (v := .int .i64 (j : Nat)) rfl (by simp [k98]) ?_
    refine go1 (v := .int .i64 (j : Nat)) rfl (by simp) (goEnd ?_)
    simp only [thenC]
    rw [wpC_seq]
    obtain ⟨y, hy⟩ : ∃ y, (l.take 32767)[j]? = some y := ⟨_, List.getElem?_eq_getElem hj⟩
    obtain ⟨z, hz⟩ : ∃ z, gl[j]? = some z := ⟨_, List.getElem?_eq_getElem (by omega)⟩
    obtain ⟨ycs, hycs, hyr⟩ := hl1.nth hy
    obtain ⟨zcs, hzcs, hzr⟩ := hg.nth hz
    obtain ⟨a, ca, ea, hja, hcella⟩ := hv1.flat hl1.length hl1.five hycs
    obtain ⟨a2, ca2, ea2, hja2, hcella2⟩ := hgv.flat hg.length hg.five hzcs
    rw [ea2] at kS
    rw [ea] at k14
    have hrf : RepF anyB w7 (.mk of frm to (-1) (-1) dfl of sub) [.int .i64 of, .int .i64 frm, .int .i64 to, .int .i64 (-1), .int .i64 (-1), .int .i64 dfl, .int .i64 of, sv] := .mk (hsv.keep (hm0.trans hm17)) (hr.keep (hm0.trans hm17))
    refine told_elem (w0 := w0) (fb := fb) (tb := tb) (gb := gb) (ob := w1.heap.size) (j := j) (x := y) (y := z) (kS.keep fun s hs h10 => ?_) (hm0.trans hm17) (hb6.mod hm7 (by simp)) hrf (by simpa using k14) (by simpa using k15) (by simp) hja hja2 (cellsAt_below hm17.below _ _ _ hcella) (cellsAt_below (hm0.trans hm17).below _ _ _ hcella2) (hyr.keep hm17) (hzr.keep (hm0.trans hm17)) hT (htd j y z hy hz) fun σ8 w8 hfr h114 hm8 => ?_
    · simp only [updo, upd]
      repeat rw [if_neg (by omega)]
    simp only [thenC]
    rw [wpC_cond_f (by simp [h114]), wpC_skip]
    have hv : ∀ s, s < 101 → s ≠ 99 → s ≠ 100 → s ≠ 16 → σ8 s = σ7 s := fun s h1 h2 h3 h4 => by
      rw [hfr s h1]; simp only [updo, upd]; repeat rw [if_neg (by omega)]
    rw [ea2]
    refine ⟨by rw [hv 98 (by omega) (by omega) (by omega) (by omega)]; exact k98, kS.keep fun s hs h10 => ?_, by simp, ?_, ?_, ?_, hm7.trans hm8⟩
    · simp only [upd]
      rw [if_neg (by omega), if_neg (by omega)]
      exact hv s (by omega) (by omega) (by omega) (by omega)
    · simp only [upd]; rw [if_neg (by omega), if_neg (by omega), hv 97 (by omega) (by omega) (by omega) (by omega)]; exact k97
    · simp only [upd]; rw [if_neg (by omega), if_neg (by omega), hv 14 (by omega) (by omega) (by omega) (by omega), k14, ea]
    · simp only [upd]; rw [if_neg (by omega), if_neg (by omega), hv 15 (by omega) (by omega) (by omega) (by omega)]; exact k15
  · rintro σ7 w7 ⟨kS, k98, k97, k14, k15, hm7⟩
    simp only [thenC]
    rw [wpC_seq, wpC_blk]
    refine go1 (v := .bool true) rfl (by simp) (goEnd ?_)
    simp only [thenC]
    simp only [wpC]
    exact hQ _ _ (by simp) (hm06.trans hm7)
end
end Go.Msk

namespace Go.Msk
open Go.RowKit
set_option maxRecDepth 100000
section
variable {P : Program} {F : Nat → Nat}
attribute [local simp] gOk updo upd ev RK.val? isShift intBin Addr.add_mk args0 Value.cells undef
theorem told_text (hm : P.follows .mixedOrders = true) (hw : liftF P (F sWhole) = some (ir_sWhole F)) (hs : liftF P (F sSame) = some (ir_sSame F)) {w0 w : World} {fb tb gb : Nat} {ver : Int} {flex nl may : Bool} {fcs : List Value} {t0 tsv t2 t3 t4 g0 gsv g2 g3 g4 : Value} {s : List UInt8} {σ : Sl} {Q : Exit → Sl → World → Prop}
    (hS : ToS w0 fb tb gb ver flex nl may fcs [t0, tsv, t2, t3, t4] [g0, gsv, g2, g3, g4] σ) (hm0 : Mod [] w0 w) (h1 : SlC anyB w0 tsv s.length (u8s s)) (h2 : SlC anyB w0 gsv (wholeP s).length (u8s (wholeP s))) (hQ : ∀ σ' w', σ' 10 = .bool true → Mod [] w0 w' → Q .ret σ' w') :
    wpC P (.seq (.drw [⟨⟨(some (53)), .fad (.tmp 9) 1, none⟩, false, []⟩, ⟨⟨(some (54)), .ld (.tmp 53), none⟩, false, []⟩, ⟨⟨(some (55)), .fad (.tmp 8) 1, none⟩, false, []⟩, ⟨⟨(some (56)), .ld (.tmp 55), none⟩, false, []⟩, ⟨⟨(some (57)), .call (F sWhole) [.tmp 56], none⟩, true, []⟩,
      ⟨⟨(some (58)), .call (F sSame) [.tmp 54, .tmp 57], none⟩, true, [4]⟩, ⟨⟨(some (10)), .mv (.tmp 58), none⟩, false, [4, 5]⟩] []) .ret) Q σ w := by
  rw [wpC_seq]
  show wpD P _ [] _ w.drew _
  have hmd : Mod [] w w.drew := Mod.drew _ _
  have c8 := fun k => (hS.bt.mod (hm0.trans hmd) (by simp)).cell k
  have c9 := fun k => (hS.bg.mod (hm0.trans hmd) (by simp)).cell k
  have e8 := hS.s8
  have e9 := hS.s9
  refine wpD_of_B (fun i v w' => match i with | 4 => SlC anyB w' v (wholeP s).length (u8s (wholeP s)) | 5 => v = .bool true | _ => True) (by
    intro i v w w' h hm
    split at h
    · exact h.keep hm
    · exact h
    · trivial) ?_
  refine bo1 (v := .pointer (some ⟨gb, 1, none⟩)) rfl (by simp [e9]) ?_
  refine bo1 (v := gsv) rfl (by simp [c9]) ?_
  refine bo1 (v := .pointer (some ⟨tb, 1, none⟩)) rfl (by simp [e8]) ?_
  refine bo1 (v := tsv) rfl (by simp [c8]) ?_
  refine boCall (vs := [tsv]) rfl (by simp) (fun w' hm' _ => (whole_call hm hw (h1.keep (hm0.trans (hmd.trans hm')))).mono ?_) ?_
  · rintro e w'' ⟨rfl, v', rfl, hv⟩
    exact ⟨_, rfl, Mod.refl _ _, hv⟩
  rintro v ⟨wv, -⟩
  refine boCall (vs := [gsv, v]) rfl (by simp) (fun w' hm' hkn => ?_) ?_
  · have k4 := known_get (j := 4) (t := 57) hkn (by simp) rfl rfl rfl rfl
    have k4 : SlC anyB w' v (wholeP s).length (u8s (wholeP s)) := by simpa using k4
    refine (same_call hm hs (h2.keep (hm0.trans (hmd.trans hm'))) k4 (by have := wholeP_le s; omega)).mono ?_
    rintro e w'' ⟨rfl, hmm⟩
    exact ⟨_, rfl, hmm, by simp⟩
  rintro v2 ⟨wv', ev'⟩
  have ev' : v2 = .bool true := ev'
  subst ev'
  refine bo1 (v := .bool true) rfl (by simp) ?_
  intro w' hm' hkn
  refine goEnd ?_
  simp only [thenC]
  exact hQ _ w' (by simp) (hm0.trans (hmd.trans hm'))
theorem told_core (hm : P.follows .mixedOrders = true) (ht : liftF P (F stold_) = some (ir_stold_ F)) (hnl : liftF P (F sNull) = some (ir_sNull F)) (hw : liftF P (F sWhole) = some (ir_sWhole F)) (hs : liftF P (F sSame) = some (ir_sSame F)) (hth : liftF P (F sThings) = some (ir_sThings F)) (hnum : liftF P (F sNumber) = some numCode)
    {ver : Int} {flex : Bool} {kind frm to null tag dfl of : Int} {sub : List FD} (hp : PartT P F ver flex sub) (hlist : kind = 11 → of ≠ 11 → FieldT P F ver flex (.mk of frm to (-1) (-1) dfl of sub)) : FieldT P F ver flex (.mk kind frm to null tag dfl of sub) := by
  intro w cs t ts g gs hf hT hG htd
  have hf0 := hf
  have hT0 := hT
  have hG0 := hG
  cases hf with
  | @mk _ _ _ _ _ _ _ _ sv css f1 f2 =>
  cases hT with
  | @mk n s tn l u tsv lv uv tss uss a1 a2 a3 a4 a5 =>
  cases hG with
  | @mk gn gs' gb' gl gu gsv glv guv gss guss b1 b2 b3 b4 b5 =>
  unfold ir_stold_ at ht
  refine call_of ht hm (by simp) ?_
  clear ht
  simp only [FD.toldT] at htd
  obtain ⟨⟨hv1, hv2⟩, hv3⟩ := htd
  generalize hnlv : FD.nullV (.mk kind frm to null tag dfl of sub) ver (.mk n s tn l u) = nl at *
  rw [wpC_seq, wpC_blk]
  refine goBox (v := .agg #[.int .i64 kind, .int .i64 frm, .int .i64 to, .int .i64 null, .int .i64 tag, .int .i64 dfl, .int .i64 of, sv]) (by simp) fun w1 hb1 hm1 => ?_
  refine goBox (v := .agg #[.int .i64 n, tsv, .bool tn, lv, uv]) (by simp) fun w2 hb2 hm2 => ?_
  refine goBox (v := .agg #[.int .i64 gn, gsv, .bool gb', glv, guv]) (by simp) fun w3 hb3 hm3 => ?_
  refine go1 (v := .bool false) rfl (by simp) (goEnd ?_)
  simp only [thenC]
  have hb1 : Blk w1 w.heap.size [.int .i64 kind, .int .i64 frm, .int .i64 to, .int .i64 null, .int .i64 tag, .int .i64 dfl, .int .i64 of, sv] := by simpa using hb1
  have hb2 : Blk w2 w1.heap.size [.int .i64 n, tsv, .bool tn, lv, uv] := by simpa using hb2
  have hb3 : Blk w3 w2.heap.size [.int .i64 gn, gsv, .bool gb', glv, guv] := by simpa using hb3
  have hm13 := hm2.trans hm3
  have hm03 := hm1.trans hm13
  have hb1' := hb1.mod hm13 (by simp)
  have hb2' := hb2.mod hm3 (by simp)
  have hld1 := cellsAt_of' hb1'.cells (n := 8) rfl
  have hld2 := cellsAt_of' hb2'.cells (n := 5) rfl
  rw [wpC_seq, wpC_blk]
  refine go1 (v := .agg #[.int .i64 kind, .int .i64 frm, .int .i64 to, .int .i64 null, .int .i64 tag, .int .i64 dfl, .int .i64 of, sv]) rfl (by simp [hld1]) ?_
  refine go1 (v := .int .i64 ver) rfl (by simp) ?_
  refine go1 (v := .agg #[.int .i64 n, tsv, .bool tn, lv, uv]) rfl (by simp [hld2]) ?_
  refine goCall rfl (vs := [.agg #[.int .i64 kind, .int .i64 frm, .int .i64 to, .int .i64 null, .int .i64 tag, .int .i64 dfl, .int .i64 of, sv], .int .i64 ver, .agg #[.int .i64 n, tsv, .bool tn, lv, uv]]) (by simp) (null_call hm hnl (hf0.keep hm03) (hT0.keep hm03)) ?_
  rintro e w4 ⟨rfl, hm4⟩
  rw [hnlv]
  refine ⟨_, rfl, go1 (v := .bool nl) rfl (by simp) (goEnd ?_)⟩
  simp only [thenC]
  have hm04 := hm03.trans hm4
  have c1 := fun k => (hb1'.mod hm4 (by simp)).cell k
  have hmay : ∀ (σ : Sl), σ 5 = .pointer (some ⟨w.heap.size, 0, none⟩) → σ 1 = .int .i64 ver → ∀ Q : Sl → World → Prop, (∀ σ', (∀ s, s < 21 → s ≠ 12 → σ' s = σ s) → σ' 12 = .bool (mayV null ver) → Q σ' w4) →
      wpR P [⟨some 21, .fad (.tmp 5) 3, none⟩, ⟨some 22, .ld (.tmp 21), none⟩, ⟨some 23, .bin .geq (.tmp 22) (.const (.int .i64 0)), none⟩, ⟨some 24, .mv (.tmp 23), none⟩, ⟨some 25, .mv (.tmp 1), some (24, true)⟩, ⟨some 26, .fad (.tmp 5) 3, some (24, true)⟩, ⟨some 27, .ld (.tmp 26), some (24, true)⟩,
        ⟨some 28, .bin .geq (.tmp 25) (.tmp 27), some (24, true)⟩, ⟨some 29, .pick (.tmp 24) (.tmp 28) (.const (.bool false)), none⟩, ⟨some 12, .mv (.tmp 29), none⟩] σ w4 Q := by
    intro σ h5 h1 Q hQ
    refine go1 (v := .pointer (some ⟨w.heap.size, 3, none⟩)) rfl (by simp [h5]) ?_
    refine go1 (v := .int .i64 null) rfl (by simp [c1]) ?_
    refine go1 (v := .bool (decide (null ≥ 0))) rfl (by simp) ?_
    refine go1 (v := .bool (decide (null ≥ 0))) rfl (by simp) ?_
    by_cases hn : null ≥ 0
    · have : decide (null ≥ 0) = true := by simp [hn]
      rw [this]
      refine go1 (v := .int .i64 ver) (by simp) (by simp [h1]) ?_
      refine go1 (v := .pointer (some ⟨w.heap.size, 3, none⟩)) (by simp) (by simp [h5]) ?_
      refine go1 (v := .int .i64 null) (by simp) (by simp [c1]) ?_
      refine go1 (v := .bool (decide (ver ≥ null))) (by simp) (by simp) ?_
      refine go1 (v := .bool (decide (ver ≥ null))) rfl (by simp) ?_
      refine go1 (v := .bool (decide (ver ≥ null))) rfl (by simp) (goEnd (hQ _ (fun s h1 h2 => ?_) (by simp [mayV, hn])))
      simp only [updo, upd]
      repeat rw [if_neg (by omega)]
    · have : decide (null ≥ 0) = false := by simp; omega
      rw [this]
      iterate 4 (refine go0 (by simp) ?_)
      refine go1 (v := .bool false) rfl (by simp) ?_
      refine go1 (v := .bool false) rfl (by simp) (goEnd (hQ _ (fun s h1 h2 => ?_) (by simp [mayV]; omega)))
      simp only [updo, upd]
      repeat rw [if_neg (by omega)]
  rw [wpC_seq, wpC_blk]
  refine hmay _ (by simp) (by simp) _ fun σ5 hfr5 h512 => ?_
  simp only [thenC]
  generalize mayV null ver = may at h512 hv1
  have hS : ToS w4 w.heap.size w1.heap.size w2.heap.size ver flex nl may [.int .i64 kind, .int .i64 frm, .int .i64 to, .int .i64 null, .int .i64 tag, .int .i64 dfl, .int .i64 of, sv] [.int .i64 n, tsv, .bool tn, lv, uv] [.int .i64 gn, gsv, .bool gb', glv, guv] σ5 :=
    ⟨hb1'.mod hm4 (by simp), hb2'.mod hm4 (by simp), hb3.mod hm4 (by simp), by rw [hfr5 1 (by omega) (by omega)]; simp, by rw [hfr5 2 (by omega) (by omega)]; simp, by rw [hfr5 5 (by omega) (by omega)]; simp, by rw [hfr5 8 (by omega) (by omega)]; simp, by rw [hfr5 9 (by omega) (by omega)]; simp,
      by rw [hfr5 11 (by omega) (by omega)]; simp, h512⟩
  clear hfr5 h512 hmay c1
  rw [wpC_seq, wpC_seq]
  refine told_null hS (Mod.refl _ _) (fun h => hv1 h) fun σ6 hfr6 h646 => ?_
  simp only [thenC]
  have hS6 := hS.keep fun s hs _ => hfr6 s (by omega)
  rw [wpC_cond_f (by simp [h646]), wpC_skip]
  simp only [thenC]
  clear hS hfr6 h646
  have e11 := hS6.s11
  rw [wpC_seq, wpC_seq, wpC_blk]
  refine go1 (v := .bool nl) rfl (by simp [e11]) (goEnd ?_)
  simp only [thenC]
  have hS7 : ToS w4 w.heap.size w1.heap.size w2.heap.size ver flex nl may [.int .i64 kind, .int .i64 frm, .int .i64 to, .int .i64 null, .int .i64 tag, .int .i64 dfl, .int .i64 of, sv] [.int .i64 n, tsv, .bool tn, lv, uv] [.int .i64 gn, gsv, .bool gb', glv, guv] (upd σ6 47 (.bool nl)) :=
    hS6.keep fun s hs _ => by simp only [upd]; rw [if_neg (by omega)]
  show wpC P _ _ (upd σ6 47 (.bool nl)) w4
  generalize hσ7 : upd σ6 47 (.bool nl) = σ7 at hS7 ⊢
  have h47 : σ7 47 = .bool nl := by subst hσ7; simp
  clear hσ7 hS6
  have fin : ∀ w', Mod [] w4 w' → TrueR w (.returned (.bool true)) w' := fun w' h => ⟨rfl, hm04.trans h⟩
  have finQ : ∀ σ' w', σ' 10 = .bool true → Mod [] w4 w' → postC [.tmp 10] (TrueR w) .ret σ' w' := fun σ' w' h1 h2 => post1 h1 (fin w' h2)
  cases nl with
  | true =>
    rw [wpC_cond_t (by simp [h47]), wpC_seq, wpC_blk]
    refine go1 (v := .bool true) rfl (by simp) (goEnd ?_)
    simp only [thenC]
    repeat first | refine retThen ?_ | refine retBlk ?_
    exact ret1 (v := .bool true) (by simp) (fin _ (Mod.refl _ _))
  | false =>
  rw [wpC_cond_f (by simp [h47]), wpC_skip]
  simp only [thenC]
  obtain ⟨x1, x2, x3, x4⟩ := hv2 rfl
  have e5 := hS7.s5
  have e8 := hS7.s8
  have e9 := hS7.s9
  have e1 := hS7.s1
  have e2 := hS7.s2
  have c5 := fun k => hS7.bf.cell k
  have a1' := a1.keep hm04
  have b1' := b1.keep hm04
  rw [wpC_seq]
  unfold ir_stold__6
  rw [wpC_seq, wpC_blk]
  refine go1 (v := .pointer (some ⟨w.heap.size, 0, none⟩)) rfl (by simp [e5]) ?_
  refine go1 (v := .int .i64 kind) rfl (by simp [c5]) (goEnd ?_)
  simp only [thenC]
  rw [wpC_block, wpC_seq, wpC_seq, wpC_blk]
  refine go1 (v := .bool (kind == 8)) rfl (by simp) ?_
  refine go1 (v := .bool (kind == 8)) rfl (by simp) (goEnd ?_)
  simp only [thenC]
  by_cases k8 : kind = 8
  · rw [wpC_cond_t (by simp [k8]), wpC_skip]
    simp only [thenC]
    rw [wpC_cond_t (by simp [k8])]
    refine told_text hm hw hs (hS7.keep fun s hs _ => ?_) (Mod.refl _ _) a1' (by have := x1 (.inl k8); simp only [TR.s] at this; rw [← this]; exact b1') fun σ' w' h1 h2 => ?_
    · simp only [updo, upd]
      repeat rw [if_neg (by omega)]
    · simp only [thenC, inBlockC]
      exact finQ σ' w' h1 h2
  rw [wpC_cond_f (by simp [k8]), wpC_blk]
  refine go1 (v := .bool (kind == 9)) rfl (by simp) ?_
  refine go1 (v := .bool (kind == 9)) rfl (by simp) (goEnd ?_)
  simp only [thenC]
  by_cases k9 : kind = 9
  · rw [wpC_cond_t (by simp [k9])]
    refine told_text hm hw hs (hS7.keep fun s hs _ => ?_) (Mod.refl _ _) a1' (by have := x1 (.inr k9); simp only [TR.s] at this; rw [← this]; exact b1') fun σ' w' h1 h2 => ?_
    · simp only [updo, upd]
      repeat rw [if_neg (by omega)]
    · simp only [thenC, inBlockC]
      exact finQ σ' w' h1 h2
  rw [wpC_cond_f (by simp [k9])]
  unfold ir_stold__5
  rw [wpC_seq, wpC_blk]
  refine go1 (v := .bool (kind == 7)) rfl (by simp) ?_
  refine go1 (v := .bool (kind == 7)) rfl (by simp) (goEnd ?_)
  simp only [thenC]
  by_cases k7 : kind = 7
  · rw [wpC_cond_t (by simp [k7]), wpC_seq, wpC_blk]
    refine wpR_run ?_
    simp only [RK.run, ev]
    refine ⟨by omega, by omega, by omega, by omega, fun T => ?_⟩
    have hbn := Blk.new w4 (u8s (List.replicate 16 0)) T
    rw [show (zrep (16 : Int).toNat [Value.int .u8 0]) = u8s (List.replicate 16 0) from rfl]
    have hmn : Mod [] w4 (w4.alloc (.cells (u8s (List.replicate 16 0)).toArray T)) := Mod.alloc _ _ _
    generalize w4.alloc (.cells (u8s (List.replicate 16 0)).toArray T) = w5 at hbn hmn ⊢
    refine go1 (v := .slice (some ⟨w4.heap.size, 0, none⟩) 16 16) rfl (by simp) (goEnd ?_)
    simp only [thenC]
    have c8 := fun k => (hS7.bt.mod hmn (by simp)).cell k
    rw [wpC_seq, wpC_blk]
    refine go1 (v := .slice (some ⟨w4.heap.size, 0, none⟩) 16 16) rfl (by simp) ?_
    refine go1 (v := .pointer (some ⟨w1.heap.size, 1, none⟩)) rfl (by simp [e8]) ?_
    refine go1 (v := tsv) rfl (by simp [c8]) ?_
    refine wpR_run ?_
    have hs2 : SlC anyB w5 tsv s.length (u8s s) := a1'.keep hmn
    simp only [RK.run, ev, updo, upd, if_true, if_false, show (62 : Nat) ≠ 64 by decide, show (62 : Nat) ≠ 63 by decide, hs2.src]
    have hput := hbn.put (o := 0) (vs := (u8s s).take (Nat.min s.length 16 * 1)) (by simp [u8s_length]; omega)
    rw [uuid_splice] at hput
    have hmput : Mod [w4.heap.size] w5 (putCells w5 ⟨w4.heap.size, 0, none⟩ 0 ((u8s s).take (Nat.min s.length 16 * 1))) := Mod.put (by simp)
    refine ⟨stOk_many hbn (by simp [u8s_length]; omega) (fun y hy => by
      have := List.mem_of_mem_take hy
      simp only [u8s, List.mem_map] at this
      obtain ⟨b, -, rfl⟩ := this; rfl), ?_⟩
    generalize putCells w5 ⟨w4.heap.size, 0, none⟩ 0 ((u8s s).take (Nat.min s.length 16 * 1)) = w6 at hput hmput ⊢
    refine wpR_done ?_
    have hm46 : Mod [] w4 w6 := Mod.drop (b := w4.heap.size) (S := []) (hmn.nil.trans hmput) (Nat.le_refl _)
    have c9 := fun k => (hS7.bg.mod hm46 (by simp)).cell k
    have hl16 : (uuidP s).length = 16 := by simp [uuidP]; omega
    have hd := DRaw.of_blk (n0 := w4.heap.size) hput (Nat.le_refl _)
    have hsl := hd.slc.any
    rw [hl16] at hsl hd
    rw [wpC_seq, wpC_blk]
    refine go1 (v := .pointer (some ⟨w2.heap.size, 1, none⟩)) rfl (by simp [e9]) ?_
    refine go1 (v := gsv) rfl (by simp [c9]) ?_
    refine go1 (v := .slice (some ⟨w4.heap.size, 0, none⟩) 16 16) rfl (by simp) ?_
    have x2 := x2 k7
    simp only [TR.s] at x2
    refine goCall rfl (vs := [gsv, .slice (some ⟨w4.heap.size, 0, none⟩) 16 16]) (by simp) (same_call hm hs (l2 := uuidP s) (b1'.keep hm46) (by rw [hl16]; exact hsl) (by rw [x2]; omega)) ?_
    rintro e w7 ⟨rfl, hm7⟩
    refine ⟨_, rfl, go1 (v := .bool true) rfl (by simp [x2]) (goEnd ?_)⟩
    simp only [thenC]
    repeat first | refine retThen ?_ | refine retBlk ?_
    exact ret1 (v := .bool true) (by simp) (fin _ (hm46.trans hm7))
  rw [wpC_cond_f (by simp [k7]), wpC_seq, wpC_blk]
  refine go1 (v := .bool (kind == 10)) rfl (by simp) ?_
  refine go1 (v := .bool (kind == 10)) rfl (by simp) (goEnd ?_)
  simp only [thenC]
  by_cases k10 : kind = 10
  · rw [wpC_cond_t (by simp [k10]), wpC_seq, wpC_blk]
    have hld8 := cellsAt_of' hS7.bt.cells (n := 5) rfl
    have hld9 := cellsAt_of' hS7.bg.cells (n := 5) rfl
    refine go1 (v := .pointer (some ⟨w.heap.size, 7, none⟩)) rfl (by simp [e5]) ?_
    refine go1 (v := sv) rfl (by simp [c5]) ?_
    refine go1 (v := .int .i64 ver) rfl (by simp [e1]) ?_
    refine go1 (v := .bool flex) rfl (by simp [e2]) ?_
    refine go1 (v := .agg #[.int .i64 n, tsv, .bool tn, lv, uv]) rfl (by simp [e8, hld8]) ?_
    refine go1 (v := .agg #[.int .i64 gn, gsv, .bool gb', glv, guv]) rfl (by simp [e9, hld9]) ?_
    refine goCall rfl (vs := [sv, .int .i64 ver, .bool flex, .agg #[.int .i64 n, tsv, .bool tn, lv, uv], .agg #[.int .i64 gn, gsv, .bool gb', glv, guv]]) (by simp) (hp w4 sv css _ _ _ _ (f1.keep hm04) (f2.keep hm04) (hT0.keep hm04) (hG0.keep hm04) (x3 k10)) ?_
    rintro e w7 ⟨rfl, hm7⟩
    refine ⟨_, rfl, go1 (v := .bool true) rfl (by simp) (goEnd ?_)⟩
    simp only [thenC]
    repeat first | refine retThen ?_ | refine retBlk ?_
    exact ret1 (v := .bool true) (by simp) (fin _ hm7)
  rw [wpC_cond_f (by simp [k10]), wpC_seq, wpC_blk]
  refine go1 (v := .bool (kind == 11)) rfl (by simp) ?_
  refine go1 (v := .bool (kind == 11)) rfl (by simp) (goEnd ?_)
  simp only [thenC]
  by_cases k11 : kind = 11
  · rw [wpC_cond_t (by simp [k11])]
    obtain ⟨y1, y2, y3⟩ := hv3 k11 rfl
    refine told_list hm hth (w0 := w4) (hS7.keep fun s hs _ => ?_) (Mod.refl _ _) (f1.keep hm04) (f2.keep hm04) (a2.keep hm04) (a3.keep hm04) (b2.keep hm04) (b3.keep hm04) (hlist k11 y1) y2 (fun i y h hy hh => ?_) fun σ' w' h1 h2 => ?_
    · simp only [updo, upd]
      repeat rw [if_neg (by omega)]
    · have q1 : FD.nullV (.mk of frm to (-1) (-1) dfl of sub) ver y = false := by simp [FD.nullV, FD.null]
      have q2 : mayV (-1) ver = false := by simp [mayV]
      simp only [FD.toldT]
      rw [q1, q2]
      exact ⟨y3 i y h hy hh, fun hk => absurd hk y1⟩
    · simp only [thenC, inBlockC]
      exact finQ σ' w' h1 h2
  rw [wpC_cond_f (by simp [k11]), wpC_skip]
  simp only [thenC, inBlockC]
  rw [wpC_seq]
  show wpD P _ [] _ w4.drew _
  have hmd : Mod [] w4 w4.drew := Mod.drew _ _
  have d5 := fun k => (hS7.bf.mod hmd (by simp)).cell k
  have d8 := fun k => (hS7.bt.mod hmd (by simp)).cell k
  have d9 := fun k => (hS7.bg.mod hmd (by simp)).cell k
  refine wpD_of_B (fun i v w' => match i with | 6 => v = .int .i64 (numberP kind n) | _ => True) (by
    intro i v w w' h hm
    split at h
    · exact h
    · trivial) ?_
  refine bo1 (v := .pointer (some ⟨w2.heap.size, 0, none⟩)) rfl (by simp [e9]) ?_
  refine bo1 (v := .int .i64 gn) rfl (by simp [d9]) ?_
  refine bo1 (v := .pointer (some ⟨w.heap.size, 0, none⟩)) rfl (by simp [e5]) ?_
  refine bo1 (v := .int .i64 kind) rfl (by simp [d5]) ?_
  refine bo1 (v := .pointer (some ⟨w1.heap.size, 0, none⟩)) rfl (by simp [e8]) ?_
  refine bo1 (v := .int .i64 n) rfl (by simp [d8]) ?_
  refine boCall (vs := [.int .i64 kind, .int .i64 n]) rfl (by simp) (fun w' hm' _ => (number_call hm hnum).mono ?_) ?_
  · rintro e w'' ⟨rfl, rfl⟩
    exact ⟨_, rfl, Mod.refl _ _, rfl⟩
  rintro v ⟨wv, ev'⟩
  have ev' : v = .int .i64 (numberP kind n) := ev'
  subst ev'
  have x4 := x4 k7 k8 k9 k10 k11
  simp only [TR.n] at x4
  refine bo1 (v := .bool true) rfl (by simp [x4]) ?_
  refine bo1 (v := .bool true) rfl (by simp) ?_
  intro w' hm' hkn
  refine goEnd ?_
  simp only [thenC]
  exact ret1 (v := .bool true) (by simp) (fin _ (hmd.trans hm'))
end
end Go.Msk

namespace Go.Msk
open Go.RowKit
set_option maxRecDepth 100000
section
variable {P : Program} {F : Nat → Nat}
attribute [local simp] gOk updo upd ev RK.val? isShift intBin Addr.add_mk args0 Value.cells undef
def UsualC (P : Program) (F : Nat → Nat) (fds : List FD) : Prop :=
  ∀ (w : World) (sv : Value) (css : List (List Value)) (x : TR) (xs : List Value), SlC anyB w sv fds.length css.flatten → RepFL anyB w fds css → RepT anyB w x xs → x.u = [] → usualL fds 0 x → Calls P (F sUsual) [sv, .agg xs.toArray].toArray w (TrueR w)
theorem usual_text {w : World} {fb xb : Nat} {kind frm to null tag dfl of n : Int} {fv xv lv uv : Value} {xn : Bool} {s : List UInt8} {σ : Sl} {Q : Exit → Sl → World → Prop} (hf : Blk w fb [.int .i64 kind, .int .i64 frm, .int .i64 to, .int .i64 null, .int .i64 tag, .int .i64 dfl, .int .i64 of, fv]) (hx : Blk w xb [.int .i64 n, xv, .bool xn, lv, uv])
    (h6 : σ 6 = .pointer (some ⟨fb, 0, none⟩)) (h7 : σ 7 = .pointer (some ⟨xb, 0, none⟩)) (hs : SlC anyB w xv s.length (u8s s)) (h : xn = decide (null ≥ 0) ∧ s = []) (hQ : ∀ σ' w', (∀ k, k < 24 → σ' k = σ k) → Mod [] w w' → Q .normal σ' w') : wpC P (ir_sUsual_1 F) Q σ w := by
  unfold ir_sUsual_1
  obtain ⟨rfl, rfl⟩ := h
  obtain ⟨b, c, es⟩ := hs.shape
  have c6 := fun k => hf.cell k
  have c7 := fun k => hx.cell k
  rw [wpC_seq, wpC_blk]
  refine go1 (v := .pointer (some ⟨xb, 2, none⟩)) rfl (by simp [h7]) ?_
  refine go1 (v := .bool (decide (null ≥ 0))) rfl (by simp [c7]) ?_
  refine go1 (v := .pointer (some ⟨fb, 3, none⟩)) rfl (by simp [h6]) ?_
  refine go1 (v := .int .i64 null) rfl (by simp [c6]) ?_
  refine go1 (v := .bool (decide (null ≥ 0))) rfl (by simp) ?_
  refine go1 (v := .bool false) rfl (by simp) ?_
  refine go1 (v := .bool false) rfl (by simp) ?_
  refine go1 (v := .pointer (some ⟨xb, 1, none⟩)) (by simp) (by simp [h7]) ?_
  refine go1 (v := xv) (by simp) (by simp [c7]) ?_
  refine go1 (v := .int .i64 (0 : Nat)) (by simp) (by simp [es]) ?_
  refine go1 (v := .bool false) (by simp) (by simp) ?_
  refine go1 (v := .bool false) rfl (by simp) (goEnd ?_)
  simp only [thenC]
  rw [wpC_cond_f (by simp), wpC_skip]
  refine hQ _ w (fun k hk => ?_) (Mod.refl _ _)
  simp only [updo, upd]
  repeat rw [if_neg (by omega)]
theorem usual_list {w : World} {xb : Nat} {n : Int} {xv lv uv : Value} {xn : Bool} {s : List UInt8} {l : List TR} {tss : List (List Value)} {σ : Sl} {Q : Exit → Sl → World → Prop} (hx : Blk w xb [.int .i64 n, xv, .bool xn, lv, uv])
    (h7 : σ 7 = .pointer (some ⟨xb, 0, none⟩)) (hs : SlC anyB w xv s.length (u8s s)) (hl : SlC anyB w lv l.length tss.flatten) (h : s = [] ∧ l = []) (hQ : ∀ σ' w', (∀ k, k < 24 → σ' k = σ k) → Mod [] w w' → Q .normal σ' w') : wpC P (ir_sUsual_2 F) Q σ w := by
  unfold ir_sUsual_2
  obtain ⟨rfl, rfl⟩ := h
  obtain ⟨b, c, es⟩ := hs.shape
  obtain ⟨b2, c2, el⟩ := hl.shape
  have c7 := fun k => hx.cell k
  rw [wpC_seq, wpC_blk]
  refine go1 (v := .pointer (some ⟨xb, 1, none⟩)) rfl (by simp [h7]) ?_
  refine go1 (v := xv) rfl (by simp [c7]) ?_
  refine go1 (v := .int .i64 (0 : Nat)) rfl (by simp [es]) ?_
  refine go1 (v := .bool false) rfl (by simp) ?_
  refine go1 (v := .bool false) rfl (by simp) ?_
  refine go1 (v := .pointer (some ⟨xb, 3, none⟩)) (by simp) (by simp [h7]) ?_
  refine go1 (v := lv) (by simp) (by simp [c7]) ?_
  refine go1 (v := .int .i64 (0 : Nat)) (by simp) (by simp [el]) ?_
  refine go1 (v := .bool false) (by simp) (by simp) ?_
  refine go1 (v := .bool false) rfl (by simp) (goEnd ?_)
  simp only [thenC]
  rw [wpC_cond_f (by simp), wpC_skip]
  refine hQ _ w (fun k hk => ?_) (Mod.refl _ _)
  simp only [updo, upd]
  repeat rw [if_neg (by omega)]
theorem usual_sub {w : World} {fb xb : Nat} {kind frm to null tag dfl of n : Int} {sub : List FD} {fv xv lv uv : Value} {xn : Bool} {x : TR} {css : List (List Value)} {σ : Sl} {Q : Exit → Sl → World → Prop} (hf : Blk w fb [.int .i64 kind, .int .i64 frm, .int .i64 to, .int .i64 null, .int .i64 tag, .int .i64 dfl, .int .i64 of, fv]) (hx : Blk w xb [.int .i64 n, xv, .bool xn, lv, uv])
    (h6 : σ 6 = .pointer (some ⟨fb, 0, none⟩)) (h7 : σ 7 = .pointer (some ⟨xb, 0, none⟩)) (hsv : SlC anyB w fv sub.length css.flatten) (hr : RepFL anyB w sub css) (hrx : RepT anyB w x [.int .i64 n, xv, .bool xn, lv, uv]) (hU : UsualC P F sub) (h1 : null ≥ 0 → xn = true) (h2 : null < 0 → x.u = [] ∧ usualL sub 0 x)
    (hQ : ∀ σ' w', (∀ k, k < 24 → σ' k = σ k) → σ' 87 = .bool false → Mod [] w w' → Q .normal σ' w') : wpC P (ir_sUsual_3 F) Q σ w := by
  unfold ir_sUsual_3
  have c6 := fun k => hf.cell k
  have c7 := fun k => hx.cell k
  have hld := cellsAt_of' hx.cells (n := 5) rfl
  rw [wpC_blk]
  refine go1 (v := .pointer (some ⟨fb, 3, none⟩)) rfl (by simp [h6]) ?_
  refine go1 (v := .int .i64 null) rfl (by simp [c6]) ?_
  refine go1 (v := .bool (decide (null ≥ 0))) rfl (by simp) ?_
  refine go1 (v := .bool (decide (null ≥ 0))) rfl (by simp) ?_
  by_cases hn : null ≥ 0
  · have e : decide (null ≥ 0) = true := by simp [hn]
    have e2 := h1 hn
    subst e2
    rw [e]
    refine go1 (v := .pointer (some ⟨xb, 2, none⟩)) (by simp) (by simp [h7]) ?_
    refine go1 (v := .bool true) (by simp) (by simp [c7]) ?_
    refine go1 (v := .bool false) (by simp) (by simp) ?_
    refine go1 (v := .bool false) rfl (by simp) ?_
    refine go1 (v := .bool false) rfl (by simp) ?_
    refine go1 (v := .pointer (some ⟨fb, 3, none⟩)) (by simp) (by simp [h6]) ?_
    refine go1 (v := .int .i64 null) (by simp) (by simp [c6]) ?_
    refine go1 (v := .bool false) (by simp) (by simp; omega) ?_
    refine go1 (v := .bool false) (by simp) (by simp) ?_
    iterate 5 (refine go0 (by simp) ?_)
    refine go1 (v := .bool false) (by simp) (by simp) ?_
    refine go1 (v := .bool false) rfl (by simp) (goEnd ?_)
    refine hQ _ w (fun k hk => ?_) (by simp) (Mod.refl _ _)
    simp only [updo, upd]
    repeat rw [if_neg (by omega)]
  · have e : decide (null ≥ 0) = false := by simp; omega
    obtain ⟨k1, k2⟩ := h2 (by omega)
    rw [e]
    iterate 3 (refine go0 (by simp) ?_)
    refine go1 (v := .bool false) rfl (by simp) ?_
    refine go1 (v := .bool false) rfl (by simp) ?_
    refine go1 (v := .pointer (some ⟨fb, 3, none⟩)) (by simp) (by simp [h6]) ?_
    refine go1 (v := .int .i64 null) (by simp) (by simp [c6]) ?_
    refine go1 (v := .bool true) (by simp) (by simp; omega) ?_
    refine go1 (v := .bool true) (by simp) (by simp) ?_
    refine go1 (v := .pointer (some ⟨fb, 7, none⟩)) (by simp) (by simp [h6]) ?_
    refine go1 (v := fv) (by simp) (by simp [c6]) ?_
    refine go1 (v := .agg #[.int .i64 n, xv, .bool xn, lv, uv]) (by simp) (by simp [h7, hld]) ?_
    refine goCall (by simp) (vs := [fv, .agg #[.int .i64 n, xv, .bool xn, lv, uv]]) (by simp) (hU w fv css x _ hsv hr hrx k1 k2) ?_
    rintro e w' ⟨rfl, hm'⟩
    refine ⟨_, rfl, ?_⟩
    refine go1 (v := .bool false) (by simp) (by simp) ?_
    refine go1 (v := .bool false) (by simp) (by simp) ?_
    refine go1 (v := .bool false) rfl (by simp) (goEnd ?_)
    refine hQ _ w' (fun k hk => ?_) (by simp) hm'
    simp only [updo, upd]
    repeat rw [if_neg (by omega)]
theorem usual_field (hm : P.follows .mixedOrders = true) (hs : liftF P (F sSame) = some (ir_sSame F)) (hnum : liftF P (F sNumber) = some numCode) {w : World} {fb xb : Nat} {f : FD} {x : TR} {fcs xcs : List Value} {σ : Sl} {Q : Exit → Sl → World → Prop} (hf : Blk w fb fcs) (hx : Blk w xb xcs) (hrf : RepF anyB w f fcs) (hrx : RepT anyB w x xcs)
    (h6 : σ 6 = .pointer (some ⟨fb, 0, none⟩)) (h7 : σ 7 = .pointer (some ⟨xb, 0, none⟩)) (hU : UsualC P F f.sub) (h : f.usualT x) (hQ : ∀ σ' w', (∀ k, k < 22 → σ' k = σ k) → Mod [] w w' → Q .normal σ' w') :
    wpC P (.seq (.blk [⟨some 22, .fad (.tmp 6) 0, none⟩, ⟨some 23, .ld (.tmp 22), none⟩]) (.block 2 (.seq (.blk [⟨some 33, .bin .eql (.tmp 23) (.const (.int .i64 8)), none⟩, ⟨some 32, .mv (.tmp 33), none⟩]) (.cond (.tmp 32) (ir_sUsual_1 F) (ir_sUsual_5 F))))) Q σ w := by
  have hrx0 := hrx
  cases hrf with
  | @mk kind frm to null tag dfl of sub sv css f1 f2 =>
  cases hrx with
  | @mk n s xn l u xv lv uv tss uss a1 a2 a3 a4 a5 =>
  simp only [FD.usualT, TR.null, TR.s, TR.l, TR.n] at h
  obtain ⟨q8, q7, q9, q10, qn⟩ := h
  simp only [FD.sub] at hU
  have c6 := fun k => hf.cell k
  have c7 := fun k => hx.cell k
  rw [wpC_seq, wpC_blk]
  refine go1 (v := .pointer (some ⟨fb, 0, none⟩)) rfl (by simp [h6]) ?_
  refine go1 (v := .int .i64 kind) rfl (by simp [c6]) (goEnd ?_)
  simp only [thenC]
  rw [wpC_block, wpC_seq, wpC_blk]
  refine go1 (v := .bool (kind == 8)) rfl (by simp) ?_
  refine go1 (v := .bool (kind == 8)) rfl (by simp) (goEnd ?_)
  simp only [thenC]
  by_cases k8 : kind = 8
  · rw [wpC_cond_t (by simp [k8])]
    refine usual_text hf hx (by simp [h6]) (by simp [h7]) a1 (q8 k8) fun σ' w' hfr hm' => ?_
    simp only [inBlockC]
    refine hQ σ' w' (fun k hk => ?_) hm'
    rw [hfr k (by omega)]
    simp only [updo, upd]
    repeat rw [if_neg (by omega)]
  rw [wpC_cond_f (by simp [k8])]
  unfold ir_sUsual_5
  rw [wpC_seq, wpC_blk]
  refine go1 (v := .bool (kind == 7)) rfl (by simp) ?_
  refine go1 (v := .bool (kind == 7)) rfl (by simp) (goEnd ?_)
  simp only [thenC]
  by_cases k7 : kind = 7
  · rw [wpC_cond_t (by simp [k7]), wpC_seq]
    show wpD P _ [] _ w.drew _
    have hmd : Mod [] w w.drew := Mod.drew _ _
    have d7 := fun k => (hx.mod hmd (by simp)).cell k
    refine wpD_of_B (fun i v w' => match i with | 2 => SlC anyB w' v (List.replicate 16 (0 : UInt8)).length (u8s (List.replicate 16 0)) | 3 => v = .bool true | _ => True) (by
      intro i v w w' h hm
      split at h
      · exact h.keep hm
      · exact h
      · trivial) ?_
    refine bo1 (v := .pointer (some ⟨xb, 1, none⟩)) rfl (by simp [h7]) ?_
    refine bo1 (v := xv) rfl (by simp [d7]) ?_
    refine boN rfl (fun w' hm' _ => ?_) ?_
    · simp only [RK.run, ev]
      refine ⟨by omega, by omega, by omega, by omega, fun T => ?_⟩
      have hbn := Blk.new w' (u8s (List.replicate 16 0)) T
      rw [show (zrep (16 : Int).toNat [Value.int .u8 0]) = u8s (List.replicate 16 0) from rfl]
      refine ⟨Mod.alloc _ _ _, ?_⟩
      have hd := DRaw.of_blk (n0 := w'.heap.size) (l := List.replicate 16 0) hbn (Nat.le_refl _)
      exact hd.slc.any
    rintro v ⟨wv, hv⟩
    refine boCall (vs := [xv, v]) rfl (by simp) (fun w' hm' hkn => ?_) ?_
    · have k2 := known_get (j := 2) (t := 50) hkn (by simp) rfl rfl rfl rfl
      have k2 : SlC anyB w' v (List.replicate 16 (0 : UInt8)).length (u8s (List.replicate 16 0)) := by simpa using k2
      have e7 := q7 k7
      refine (same_call hm hs (a1.keep (hmd.trans hm')) k2 (by rw [e7]; simp)).mono ?_
      rintro e w'' ⟨rfl, hmm⟩
      exact ⟨_, rfl, hmm, by simp [e7]⟩
    rintro v2 ⟨wv', ev'⟩
    have ev' : v2 = .bool true := ev'
    subst ev'
    refine bo1 (v := .bool false) rfl (by simp) ?_
    intro w' hm' hkn
    refine goEnd ?_
    simp only [thenC]
    rw [wpC_cond_f (by simp), wpC_skip]
    simp only [inBlockC]
    refine hQ _ w' (fun k hk => ?_) (hmd.trans hm')
    simp only [updo, upd]
    repeat rw [if_neg (by omega)]
  rw [wpC_cond_f (by simp [k7]), wpC_seq, wpC_seq, wpC_blk]
  refine go1 (v := .bool (kind == 9)) rfl (by simp) ?_
  refine go1 (v := .bool (kind == 9)) rfl (by simp) (goEnd ?_)
  simp only [thenC]
  by_cases k9 : kind = 9
  · rw [wpC_cond_t (by simp [k9]), wpC_skip]
    simp only [thenC]
    rw [wpC_cond_t (by simp [k9])]
    refine usual_list hx (by simp [h7]) a1 a2 (q9 (.inl k9)) fun σ' w' hfr hm' => ?_
    simp only [inBlockC]
    refine hQ σ' w' (fun k hk => ?_) hm'
    rw [hfr k (by omega)]
    simp only [updo, upd]
    repeat rw [if_neg (by omega)]
  rw [wpC_cond_f (by simp [k9]), wpC_blk]
  refine go1 (v := .bool (kind == 11)) rfl (by simp) ?_
  refine go1 (v := .bool (kind == 11)) rfl (by simp) (goEnd ?_)
  simp only [thenC]
  by_cases k11 : kind = 11
  · rw [wpC_cond_t (by simp [k11])]
    refine usual_list hx (by simp [h7]) a1 a2 (q9 (.inr k11)) fun σ' w' hfr hm' => ?_
    simp only [inBlockC]
    refine hQ σ' w' (fun k hk => ?_) hm'
    rw [hfr k (by omega)]
    simp only [updo, upd]
    repeat rw [if_neg (by omega)]
  rw [wpC_cond_f (by simp [k11])]
  unfold ir_sUsual_4
  rw [wpC_seq, wpC_blk]
  refine go1 (v := .bool (kind == 10)) rfl (by simp) ?_
  refine go1 (v := .bool (kind == 10)) rfl (by simp) (goEnd ?_)
  simp only [thenC]
  by_cases k10 : kind = 10
  · rw [wpC_cond_t (by simp [k10]), wpC_seq]
    refine usual_sub hf hx (by simp [h6]) (by simp [h7]) f1 f2 hrx0 hU (q10 k10).1 (q10 k10).2 fun σ' w' hfr h87 hm' => ?_
    simp only [thenC]
    rw [wpC_cond_f (by simp [h87]), wpC_skip]
    simp only [inBlockC]
    refine hQ σ' w' (fun k hk => ?_) hm'
    rw [hfr k (by omega)]
    simp only [updo, upd]
    repeat rw [if_neg (by omega)]
  rw [wpC_cond_f (by simp [k10]), wpC_seq]
  show wpD P _ [] _ w.drew _
  have hmd : Mod [] w w.drew := Mod.drew _ _
  have d6 := fun k => (hf.mod hmd (by simp)).cell k
  have d7 := fun k => (hx.mod hmd (by simp)).cell k
  refine wpD_of_B (fun i v w' => match i with | 6 => v = .int .i64 (numberP kind dfl) | _ => True) (by
    intro i v w w' h hm
    split at h
    · exact h
    · trivial) ?_
  refine bo1 (v := .pointer (some ⟨xb, 0, none⟩)) rfl (by simp [h7]) ?_
  refine bo1 (v := .int .i64 n) rfl (by simp [d7]) ?_
  refine bo1 (v := .pointer (some ⟨fb, 0, none⟩)) rfl (by simp [h6]) ?_
  refine bo1 (v := .int .i64 kind) rfl (by simp [d6]) ?_
  refine bo1 (v := .pointer (some ⟨fb, 5, none⟩)) rfl (by simp [h6]) ?_
  refine bo1 (v := .int .i64 dfl) rfl (by simp [d6]) ?_
  refine boCall (vs := [.int .i64 kind, .int .i64 dfl]) rfl (by simp) (fun w' hm' _ => (number_call hm hnum).mono ?_) ?_
  · rintro e w'' ⟨rfl, rfl⟩
    exact ⟨_, rfl, Mod.refl _ _, rfl⟩
  rintro v ⟨wv, ev'⟩
  have ev' : v = .int .i64 (numberP kind dfl) := ev'
  subst ev'
  refine bo1 (v := .bool false) rfl (by simp [qn k7 k8 k9 k10 k11]) ?_
  intro w' hm' hkn
  refine goEnd ?_
  simp only [thenC]
  rw [wpC_cond_f (by simp), wpC_skip]
  simp only [inBlockC]
  refine hQ _ w' (fun k hk => ?_) (hmd.trans hm')
  simp only [updo, upd]
  repeat rw [if_neg (by omega)]
theorem usualL_nth : ∀ {fds : List FD} {i : Nat} {x : TR} {j : Nat} {f : FD}, usualL fds i x → fds[j]? = some f → f.usualT (x.at (i + j))
  | f0 :: fds, i, x, 0, f, h, hj => by
    simp only [List.getElem?_cons_zero, Option.some.injEq] at hj
    subst hj; exact h.1
  | f0 :: fds, i, x, j + 1, f, h, hj => by
    have := usualL_nth h.2 (by simpa using hj)
    rwa [show i + (j + 1) = i + 1 + j by omega]
theorem usual_call (hm : P.follows .mixedOrders = true) (h : liftF P (F sUsual) = some (ir_sUsual F)) (hat : liftF P (F sAt) = some (ir_sAt F)) (hs : liftF P (F sSame) = some (ir_sSame F)) (hnum : liftF P (F sNumber) = some numCode) {fds : List FD} (hlen : fds.length < 1000) (hU : ∀ f ∈ fds, UsualC P F f.sub) : UsualC P F fds := by
  intro w sv css x xs hsv hr hx hu hd
  unfold ir_sUsual at h
  refine call_of h hm (by simp) ?_
  clear h
  have h5 := hx.five
  obtain ⟨sb, sc, es⟩ := hsv.shape
  rw [wpC_seq, wpC_blk]
  refine goBox (v := .agg xs.toArray) (by simp) fun w1 hb1 hm1 => ?_
  have hb1 : Blk w1 w.heap.size xs := by simpa using hb1
  refine go1 (v := .bool false) rfl (by simp) (goEnd ?_)
  simp only [thenC]
  have c1 := fun k => hb1.cell k
  obtain ⟨uv, euv⟩ : ∃ uv : Value, xs[4]? = some uv ∧ ∃ b c, uv = .slice b 0 c := by
    cases hx with
    | @mk n s xn l u xv lv uv tss uss a1 a2 a3 a4 a5 =>
      simp only [TR.u] at hu
      subst hu
      obtain ⟨b, c, e⟩ := a4.shape
      exact ⟨uv, rfl, b, c, e⟩
  obtain ⟨euv, ub, uc, rfl⟩ := euv
  rw [wpC_seq, wpC_seq, wpC_blk]
  refine go1 (v := .pointer (some ⟨w.heap.size, 4, none⟩)) rfl (by simp) ?_
  refine go1 (v := .slice ub 0 uc) rfl (by simp [c1, euv]) ?_
  refine go1 (v := .int .i64 (0 : Nat)) rfl (by simp) ?_
  refine go1 (v := .bool false) rfl (by simp) (goEnd ?_)
  simp only [thenC]
  rw [wpC_cond_f (by simp), wpC_skip]
  simp only [thenC]
  rw [wpC_seq, wpC_seq, wpC_blk]
  refine go1 (v := sv) rfl (by simp) ?_
  refine go1 (v := .int .i64 (fds.length : Nat)) rfl (by simp [es]) ?_
  refine go1 (v := .int .i64 (0 : Nat)) rfl (by simp) (goEnd ?_)
  simp only [thenC]
  refine rangeLoop (n := fds.length) (fun j σ w' => σ 3 = .pointer (some ⟨w.heap.size, 0, none⟩) ∧ σ 12 = sv ∧ σ 14 = .int .i64 (j : Nat) ∧ σ 13 = .int .i64 (fds.length : Nat) ∧ Mod [] w1 w') (by omega) (by omega) (fun j σ w h => ⟨h.2.2.1, h.2.2.2.1⟩) ?_ ?_ ?_
  · exact ⟨by simp, by simp, by simp, by simp, Mod.refl _ _⟩
  · rintro j σ w2 hj ⟨k3, k12, k14, k13, hm2⟩
    obtain ⟨fd, hfd⟩ : ∃ f, fds[j]? = some f := ⟨fds[j], by simp [hj]⟩
    obtain ⟨cs, hcs, hrep⟩ := hr.nth hfd
    obtain ⟨a, c, ea, hjn, hcell⟩ := hsv.flat hr.length hr.eight hcs
    have hm02 := hm1.trans hm2
    have hcell2 : cellsAt w2 (a.add (j * 8)) 0 8 = some cs := cellsAt_below hm02.below _ _ _ hcell
    rw [es] at ea
    simp only [Value.slice.injEq, true_and] at ea
    obtain ⟨ea, ec⟩ := ea
    subst ea
    unfold ir_sUsual_6
    rw [wpC_seq, wpC_blk]
    refine go1 (v := .int .i64 (j : Nat)) rfl (by simp [k14]) ?_
    refine go1 (v := .pointer (some (a.add (j * 8)))) rfl (by simp [k12, es, k14, hj]) ?_
    refine go1 (v := .agg cs.toArray) rfl (by simp [hcell2]) ?_
    refine goAlloc fun w3 hb3 hm3 => ?_
    refine go1 (v := .int .i64 (j : Nat)) rfl (by simp) ?_
    refine goSt (b := w2.heap.size) (v := .agg cs.toArray) (by simp) (by simp) hb3 (by simpa using hrep.eight) rfl (by simpa using hrep.oneCell) fun w4 hb4 hm4 => goEnd ?_
    simp only [thenC]
    have hb4 : Blk w4 w2.heap.size cs := by simpa using hb4
    have hm24 : Mod [] w2 w4 := Mod.drop (b := w2.heap.size) (S := []) (hm3.nil.trans hm4) (Nat.le_refl _)
    have hm14 : Mod [] w1 w4 := hm2.trans hm24
    have hld := cellsAt_of' (hb1.mod hm14 (by simp)).cells h5
    rw [wpC_seq, wpC_blk]
    refine go1 (v := .agg xs.toArray) rfl (by simp [k3, hld]) ?_
    refine go1 (v := .int .i64 (j : Nat)) rfl (by simp) ?_
    refine goCall rfl (vs := [.agg xs.toArray, .int .i64 (j : Nat)]) (by simp) (at_call hm hat (hx.keep (hm1.trans hm14))) ?_
    rintro e w5 ⟨ys, rfl, hy, hm5⟩
    refine ⟨_, rfl, ?_⟩
    refine goAlloc fun w6 hb6 hm6 => ?_
    refine goSt (b := w5.heap.size) (v := .agg ys.toArray) (by simp) (by simp) hb6 (by simpa using hy.five) rfl (by simpa using hy.oneCell) fun w7 hb7 hm7 => goEnd ?_
    simp only [thenC]
    have hb7 : Blk w7 w5.heap.size ys := by simpa using hb7
    have hm57 : Mod [] w5 w7 := Mod.drop (b := w5.heap.size) (S := []) (hm6.nil.trans hm7) (Nat.le_refl _)
    have hm47 := hm5.trans hm57
    have hm17 := hm14.trans hm47
    refine usual_field hm hs hnum (hb4.mod hm47 (by simp)) hb7 (hrep.keep (hm1.trans hm17)) (hy.keep hm57) (by simp) (by simp) (hU fd (List.mem_of_getElem? hfd)) (by have := usualL_nth hd hfd; simpa using this) fun σ' w' hfr hm' => ?_
    have hv : ∀ s, s < 16 → s ≠ 15 → s ≠ 5 → s ≠ 6 → s ≠ 7 → σ' s = σ s := fun s h1 h2 h3 h4 h5 => by
      rw [hfr s (by omega)]; simp only [updo, upd]; repeat rw [if_neg (by omega)]
    refine ⟨by rw [hv 14 (by omega) (by omega) (by omega) (by omega) (by omega)]; exact k14, ?_, ?_, by simp, ?_, hm17.trans hm'⟩
    · simp only [upd]; rw [if_neg (by omega), if_neg (by omega), hv 3 (by omega) (by omega) (by omega) (by omega) (by omega)]; exact k3
    · simp only [upd]; rw [if_neg (by omega), if_neg (by omega), hv 12 (by omega) (by omega) (by omega) (by omega) (by omega)]; exact k12
    · simp only [upd]; rw [if_neg (by omega), if_neg (by omega), hv 13 (by omega) (by omega) (by omega) (by omega) (by omega)]; exact k13
  · rintro σ w2 ⟨k3, k12, k14, k13, hm2⟩
    simp only [thenC]
    rw [wpC_seq, wpC_blk]
    refine go1 (v := .bool true) rfl (by simp) (goEnd ?_)
    simp only [thenC]
    exact ret1 (v := .bool true) (by simp) ⟨rfl, hm1.trans hm2⟩
end
end Go.Msk
