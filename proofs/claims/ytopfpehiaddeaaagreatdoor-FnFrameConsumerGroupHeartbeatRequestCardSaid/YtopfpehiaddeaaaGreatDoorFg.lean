/- A small language of resolved operations, and what the generic and the generated functions do in it (part 7). -/
import Derived.Test.YtopfpehiaddeaaaGreatDoorFf

namespace Go.Msk
open Go.RowKit
set_option maxRecDepth 100000
def tabU : ByteArray := ⟨#[1, 1, 1, 1, 1, 1, 1, 1, 2, 2, 2, 2, 2, 2, 2, 3, 3, 3, 3, 3, 3, 3, 4, 4, 4, 4, 4, 4, 4, 5, 5, 5, 5, 5, 5, 5, 6, 6, 6, 6, 6, 6, 6, 7, 7, 7, 7, 7, 7, 7, 8, 8, 8, 8, 8, 8, 8, 9, 9, 9, 9, 9, 9, 9, 10, 0, 0, 0, 0, 0, 0, 0, 0, 0, 0, 0, 0, 0, 0, 0, 0, 0, 0, 0, 0, 0, 0, 0, 0, 0, 0, 0, 0, 0, 0, 0, 0, 0, 0, 0, 0, 0, 0, 0, 0, 0, 0, 0, 0, 0, 0, 0, 0, 0, 0, 0, 0, 0, 0, 0, 0, 0, 0, 0, 0, 0, 0, 0, 0, 0, 0, 0, 0, 0, 0, 0, 0, 0, 0, 0, 0, 0, 0, 0, 0, 0, 0, 0, 0, 0, 0, 0, 0, 0, 0, 0, 0, 0, 0, 0, 0, 0, 0, 0, 0, 0, 0, 0, 0, 0, 0, 0, 0, 0, 0, 0, 0, 0, 0, 0, 0, 0, 0, 0, 0, 0, 0, 0, 0, 0, 0, 0, 0, 0, 0, 0, 0, 0, 0, 0, 0, 0, 0, 0, 0, 0, 0, 0, 0, 0, 0, 0, 0, 0, 0, 0, 0, 0, 0, 0, 0, 0, 0, 0, 0, 0, 0, 0, 0, 0, 0, 0, 0, 0, 0, 0, 0, 0, 0, 0, 0, 0, 0, 0, 0, 0, 0, 0, 0, 0, 0, 0, 0, 0, 0, 0]⟩
def tab8 : ByteArray := ⟨#[0, 1, 2, 2, 3, 3, 3, 3, 4, 4, 4, 4, 4, 4, 4, 4, 5, 5, 5, 5, 5, 5, 5, 5, 5, 5, 5, 5, 5, 5, 5, 5, 6, 6, 6, 6, 6, 6, 6, 6, 6, 6, 6, 6, 6, 6, 6, 6, 6, 6, 6, 6, 6, 6, 6, 6, 6, 6, 6, 6, 6, 6, 6, 6, 7, 7, 7, 7, 7, 7, 7, 7, 7, 7, 7, 7, 7, 7, 7, 7, 7, 7, 7, 7, 7, 7, 7, 7, 7, 7, 7, 7, 7, 7, 7, 7, 7, 7, 7, 7, 7, 7, 7, 7, 7, 7, 7, 7, 7, 7, 7, 7, 7, 7, 7, 7, 7, 7, 7, 7, 7, 7, 7, 7, 7, 7, 7, 7, 8, 8, 8, 8, 8, 8, 8, 8, 8, 8, 8, 8, 8, 8, 8, 8, 8, 8, 8, 8, 8, 8, 8, 8, 8, 8, 8, 8, 8, 8, 8, 8, 8, 8, 8, 8, 8, 8, 8, 8, 8, 8, 8, 8, 8, 8, 8, 8, 8, 8, 8, 8, 8, 8, 8, 8, 8, 8, 8, 8, 8, 8, 8, 8, 8, 8, 8, 8, 8, 8, 8, 8, 8, 8, 8, 8, 8, 8, 8, 8, 8, 8, 8, 8, 8, 8, 8, 8, 8, 8, 8, 8, 8, 8, 8, 8, 8, 8, 8, 8, 8, 8, 8, 8, 8, 8, 8, 8, 8, 8, 8, 8, 8, 8, 8, 8, 8, 8, 8, 8, 8, 8, 8, 8, 8, 8, 8, 8]⟩
def ir_kAppendBool (_F : Nat → Nat) : IC × List RV × Nat := (.seq (.blk [⟨some 4, .mv (.const (.slice none 0 0)), none⟩])
 (.seq (.seq (.blk [⟨some 5, .mv (.tmp 1), none⟩])
 (.cond (.tmp 5)
 (.seq (.blk [⟨some 6, .mv (.tmp 0), none⟩,
 ⟨some 7, .bslice 1 [.int .u8 0] [(0, 1, .const (.int .u8 1))], none⟩,
 ⟨some 8, .append (.tmp 6) (.tmp 7) 1 1, none⟩,
 ⟨some 4, .mv (.tmp 8), none⟩])
 (.ret))
 (.skip)))
 (.seq (.blk [⟨some 9, .mv (.tmp 0), none⟩,
 ⟨some 10, .bslice 1 [.int .u8 0] [(0, 1, .const (.int .u8 0))], none⟩,
 ⟨some 11, .append (.tmp 9) (.tmp 10) 1 1, none⟩,
 ⟨some 4, .mv (.tmp 11), none⟩])
 (.ret))),
 [.tmp 4], 12)
def ir_kAppendInt8 (_F : Nat → Nat) : IC × List RV × Nat := (.seq (.blk [⟨some 4, .mv (.const (.slice none 0 0)), none⟩])
 (.seq (.blk [⟨some 5, .mv (.tmp 0), none⟩,
 ⟨some 6, .mv (.tmp 1), none⟩,
 ⟨some 7, .conv .u8 (.tmp 6), none⟩,
 ⟨some 8, .bslice 1 [.int .u8 0] [(0, 1, .tmp 7)], none⟩,
 ⟨some 9, .append (.tmp 5) (.tmp 8) 1 1, none⟩,
 ⟨some 4, .mv (.tmp 9), none⟩])
 (.ret)),
 [.tmp 4], 10)
def ir_kAppendInt16 (F : Nat → Nat) : IC × List RV × Nat := (.seq (.blk [⟨some 4, .mv (.const (.slice none 0 0)), none⟩])
 (.seq (.blk [⟨some 5, .mv (.tmp 0), none⟩,
 ⟨some 6, .mv (.tmp 1), none⟩,
 ⟨some 7, .conv .u16 (.tmp 6), none⟩,
 ⟨some 8, .call (F kAppendUint16) [.tmp 5, .tmp 7], none⟩,
 ⟨some 4, .mv (.tmp 8), none⟩])
 (.ret)),
 [.tmp 4], 9)
def ir_kAppendUint16 (_F : Nat → Nat) : IC × List RV × Nat := (.seq (.blk [⟨some 4, .mv (.const (.slice none 0 0)), none⟩])
 (.seq (.blk [⟨some 5, .mv (.tmp 0), none⟩,
 ⟨some 6, .mv (.tmp 1), none⟩,
 ⟨some 7, .bin .shr (.tmp 6) (.const (.int .u64 8)), none⟩,
 ⟨some 8, .conv .u8 (.tmp 7), none⟩,
 ⟨some 9, .mv (.tmp 1), none⟩,
 ⟨some 10, .conv .u8 (.tmp 9), none⟩,
 ⟨some 11, .bslice 2 [.int .u8 0] [(0, 1, .tmp 8), (1, 1, .tmp 10)], none⟩,
 ⟨some 12, .append (.tmp 5) (.tmp 11) 1 1, none⟩,
 ⟨some 4, .mv (.tmp 12), none⟩])
 (.ret)),
 [.tmp 4], 13)
def ir_kAppendInt32 (F : Nat → Nat) : IC × List RV × Nat := (.seq (.blk [⟨some 4, .mv (.const (.slice none 0 0)), none⟩])
 (.seq (.blk [⟨some 5, .mv (.tmp 0), none⟩,
 ⟨some 6, .mv (.tmp 1), none⟩,
 ⟨some 7, .conv .u32 (.tmp 6), none⟩,
 ⟨some 8, .call (F kAppendUint32) [.tmp 5, .tmp 7], none⟩,
 ⟨some 4, .mv (.tmp 8), none⟩])
 (.ret)),
 [.tmp 4], 9)
def ir_kAppendUint32 (_F : Nat → Nat) : IC × List RV × Nat := (.seq (.blk [⟨some 4, .mv (.const (.slice none 0 0)), none⟩])
 (.seq (.blk [⟨some 5, .mv (.tmp 0), none⟩,
 ⟨some 6, .mv (.tmp 1), none⟩,
 ⟨some 7, .bin .shr (.tmp 6) (.const (.int .u64 24)), none⟩,
 ⟨some 8, .conv .u8 (.tmp 7), none⟩,
 ⟨some 9, .mv (.tmp 1), none⟩,
 ⟨some 10, .bin .shr (.tmp 9) (.const (.int .u64 16)), none⟩,
 ⟨some 11, .conv .u8 (.tmp 10), none⟩,
 ⟨some 12, .mv (.tmp 1), none⟩,
 ⟨some 13, .bin .shr (.tmp 12) (.const (.int .u64 8)), none⟩,
 ⟨some 14, .conv .u8 (.tmp 13), none⟩,
 ⟨some 15, .mv (.tmp 1), none⟩,
 ⟨some 16, .conv .u8 (.tmp 15), none⟩,
 ⟨some 17, .bslice 4 [.int .u8 0] [(0, 1, .tmp 8), (1, 1, .tmp 11), (2, 1, .tmp 14), (3, 1, .tmp 16)], none⟩,
 ⟨some 18, .append (.tmp 5) (.tmp 17) 1 1, none⟩,
 ⟨some 4, .mv (.tmp 18), none⟩])
 (.ret)),
 [.tmp 4], 19)
def ir_kAppendInt64 (F : Nat → Nat) : IC × List RV × Nat := (.seq (.blk [⟨some 4, .mv (.const (.slice none 0 0)), none⟩])
 (.seq (.blk [⟨some 5, .mv (.tmp 0), none⟩,
 ⟨some 6, .mv (.tmp 1), none⟩,
 ⟨some 7, .conv .u64 (.tmp 6), none⟩,
 ⟨some 8, .call (F kAppendUint64) [.tmp 5, .tmp 7], none⟩,
 ⟨some 4, .mv (.tmp 8), none⟩])
 (.ret)),
 [.tmp 4], 9)
def ir_kAppendUint64 (_F : Nat → Nat) : IC × List RV × Nat := (.seq (.blk [⟨some 4, .mv (.const (.slice none 0 0)), none⟩])
 (.seq (.blk [⟨some 5, .mv (.tmp 0), none⟩,
 ⟨some 6, .mv (.tmp 1), none⟩,
 ⟨some 7, .bin .shr (.tmp 6) (.const (.int .u64 56)), none⟩,
 ⟨some 8, .conv .u8 (.tmp 7), none⟩,
 ⟨some 9, .mv (.tmp 1), none⟩,
 ⟨some 10, .bin .shr (.tmp 9) (.const (.int .u64 48)), none⟩,
 ⟨some 11, .conv .u8 (.tmp 10), none⟩,
 ⟨some 12, .mv (.tmp 1), none⟩,
 ⟨some 13, .bin .shr (.tmp 12) (.const (.int .u64 40)), none⟩,
 ⟨some 14, .conv .u8 (.tmp 13), none⟩,
 ⟨some 15, .mv (.tmp 1), none⟩,
 ⟨some 16, .bin .shr (.tmp 15) (.const (.int .u64 32)), none⟩,
 ⟨some 17, .conv .u8 (.tmp 16), none⟩,
 ⟨some 18, .mv (.tmp 1), none⟩,
 ⟨some 19, .bin .shr (.tmp 18) (.const (.int .u64 24)), none⟩,
 ⟨some 20, .conv .u8 (.tmp 19), none⟩,
 ⟨some 21, .mv (.tmp 1), none⟩,
 ⟨some 22, .bin .shr (.tmp 21) (.const (.int .u64 16)), none⟩,
 ⟨some 23, .conv .u8 (.tmp 22), none⟩,
 ⟨some 24, .mv (.tmp 1), none⟩,
 ⟨some 25, .bin .shr (.tmp 24) (.const (.int .u64 8)), none⟩,
 ⟨some 26, .conv .u8 (.tmp 25), none⟩,
 ⟨some 27, .mv (.tmp 1), none⟩,
 ⟨some 28, .conv .u8 (.tmp 27), none⟩,
 ⟨some 29, .bslice 8 [.int .u8 0] [(0, 1, .tmp 8), (1, 1, .tmp 11), (2, 1, .tmp 14), (3, 1, .tmp 17), (4, 1, .tmp 20), (5, 1, .tmp 23), (6, 1, .tmp 26), (7, 1, .tmp 28)], none⟩,
 ⟨some 30, .append (.tmp 5) (.tmp 29) 1 1, none⟩,
 ⟨some 4, .mv (.tmp 30), none⟩])
 (.ret)),
 [.tmp 4], 31)
def ir_kAppendUuid (_F : Nat → Nat) : IC × List RV × Nat := (.seq (.blk [⟨some 3, .box (.tmp 1), none⟩,
 ⟨some 4, .mv (.const (.slice none 0 0)), none⟩])
 (.seq (.blk [⟨some 5, .mv (.tmp 0), none⟩,
 ⟨some 6, .slicea (.tmp 3) 16, none⟩,
 ⟨some 7, .append (.tmp 5) (.tmp 6) 1 1, none⟩,
 ⟨some 4, .mv (.tmp 7), none⟩])
 (.ret)),
 [.tmp 4], 8)
def ir_kAppendUvarint (F : Nat → Nat) : IC × List RV × Nat := (.seq (.blk [⟨some 4, .mv (.const (.slice none 0 0)), none⟩])
 (.seq (.seq (.blk [⟨some 5, .mv (.tmp 1), none⟩,
 ⟨some 6, .call (F kUvarintLen) [.tmp 5], none⟩])
 (.block 0 (.seq (.blk [⟨some 8, .bin .eql (.tmp 6) (.const (.int .i64 5)), none⟩,
 ⟨some 7, .mv (.tmp 8), none⟩])
 (.cond (.tmp 7)
 (.seq (.blk [⟨some 9, .mv (.tmp 0), none⟩,
 ⟨some 10, .mv (.tmp 1), none⟩,
 ⟨some 11, .bin .and (.tmp 10) (.const (.int .u32 127)), none⟩,
 ⟨some 12, .bin .or (.tmp 11) (.const (.int .u32 128)), none⟩,
 ⟨some 13, .conv .u8 (.tmp 12), none⟩,
 ⟨some 14, .mv (.tmp 1), none⟩,
 ⟨some 15, .bin .shr (.tmp 14) (.const (.int .u64 7)), none⟩,
 ⟨some 16, .bin .and (.tmp 15) (.const (.int .u32 127)), none⟩,
 ⟨some 17, .bin .or (.tmp 16) (.const (.int .u32 128)), none⟩,
 ⟨some 18, .conv .u8 (.tmp 17), none⟩,
 ⟨some 19, .mv (.tmp 1), none⟩,
 ⟨some 20, .bin .shr (.tmp 19) (.const (.int .u64 14)), none⟩,
 ⟨some 21, .bin .and (.tmp 20) (.const (.int .u32 127)), none⟩,
 ⟨some 22, .bin .or (.tmp 21) (.const (.int .u32 128)), none⟩,
 ⟨some 23, .conv .u8 (.tmp 22), none⟩,
 ⟨some 24, .mv (.tmp 1), none⟩,
 ⟨some 25, .bin .shr (.tmp 24) (.const (.int .u64 21)), none⟩,
 ⟨some 26, .bin .and (.tmp 25) (.const (.int .u32 127)), none⟩,
 ⟨some 27, .bin .or (.tmp 26) (.const (.int .u32 128)), none⟩,
 ⟨some 28, .conv .u8 (.tmp 27), none⟩,
 ⟨some 29, .mv (.tmp 1), none⟩,
 ⟨some 30, .bin .shr (.tmp 29) (.const (.int .u64 28)), none⟩,
 ⟨some 31, .conv .u8 (.tmp 30), none⟩,
 ⟨some 32, .bslice 5 [.int .u8 0] [(0, 1, .tmp 13), (1, 1, .tmp 18), (2, 1, .tmp 23), (3, 1, .tmp 28), (4, 1, .tmp 31)], none⟩,
 ⟨some 33, .append (.tmp 9) (.tmp 32) 1 1, none⟩,
 ⟨some 4, .mv (.tmp 33), none⟩])
 (.ret))
 (.seq (.blk [⟨some 35, .bin .eql (.tmp 6) (.const (.int .i64 4)), none⟩,
 ⟨some 34, .mv (.tmp 35), none⟩])
 (.cond (.tmp 34)
 (.seq (.blk [⟨some 36, .mv (.tmp 0), none⟩,
 ⟨some 37, .mv (.tmp 1), none⟩,
 ⟨some 38, .bin .and (.tmp 37) (.const (.int .u32 127)), none⟩,
 ⟨some 39, .bin .or (.tmp 38) (.const (.int .u32 128)), none⟩,
 ⟨some 40, .conv .u8 (.tmp 39), none⟩,
 ⟨some 41, .mv (.tmp 1), none⟩,
 ⟨some 42, .bin .shr (.tmp 41) (.const (.int .u64 7)), none⟩,
 ⟨some 43, .bin .and (.tmp 42) (.const (.int .u32 127)), none⟩,
 ⟨some 44, .bin .or (.tmp 43) (.const (.int .u32 128)), none⟩,
 ⟨some 45, .conv .u8 (.tmp 44), none⟩,
 ⟨some 46, .mv (.tmp 1), none⟩,
 ⟨some 47, .bin .shr (.tmp 46) (.const (.int .u64 14)), none⟩,
 ⟨some 48, .bin .and (.tmp 47) (.const (.int .u32 127)), none⟩,
 ⟨some 49, .bin .or (.tmp 48) (.const (.int .u32 128)), none⟩,
 ⟨some 50, .conv .u8 (.tmp 49), none⟩,
 ⟨some 51, .mv (.tmp 1), none⟩,
 ⟨some 52, .bin .shr (.tmp 51) (.const (.int .u64 21)), none⟩,
 ⟨some 53, .conv .u8 (.tmp 52), none⟩,
 ⟨some 54, .bslice 4 [.int .u8 0] [(0, 1, .tmp 40), (1, 1, .tmp 45), (2, 1, .tmp 50), (3, 1, .tmp 53)], none⟩,
 ⟨some 55, .append (.tmp 36) (.tmp 54) 1 1, none⟩,
 ⟨some 4, .mv (.tmp 55), none⟩])
 (.ret))
 (.seq (.blk [⟨some 57, .bin .eql (.tmp 6) (.const (.int .i64 3)), none⟩,
 ⟨some 56, .mv (.tmp 57), none⟩])
 (.cond (.tmp 56)
 (.seq (.blk [⟨some 58, .mv (.tmp 0), none⟩,
 ⟨some 59, .mv (.tmp 1), none⟩,
 ⟨some 60, .bin .and (.tmp 59) (.const (.int .u32 127)), none⟩,
 ⟨some 61, .bin .or (.tmp 60) (.const (.int .u32 128)), none⟩,
 ⟨some 62, .conv .u8 (.tmp 61), none⟩,
 ⟨some 63, .mv (.tmp 1), none⟩,
 ⟨some 64, .bin .shr (.tmp 63) (.const (.int .u64 7)), none⟩,
 ⟨some 65, .bin .and (.tmp 64) (.const (.int .u32 127)), none⟩,
 ⟨some 66, .bin .or (.tmp 65) (.const (.int .u32 128)), none⟩,
 ⟨some 67, .conv .u8 (.tmp 66), none⟩,
 ⟨some 68, .mv (.tmp 1), none⟩,
 ⟨some 69, .bin .shr (.tmp 68) (.const (.int .u64 14)), none⟩,
 ⟨some 70, .conv .u8 (.tmp 69), none⟩,
 ⟨some 71, .bslice 3 [.int .u8 0] [(0, 1, .tmp 62), (1, 1, .tmp 67), (2, 1, .tmp 70)], none⟩,
 ⟨some 72, .append (.tmp 58) (.tmp 71) 1 1, none⟩,
 ⟨some 4, .mv (.tmp 72), none⟩])
 (.ret))
 (.seq (.blk [⟨some 74, .bin .eql (.tmp 6) (.const (.int .i64 2)), none⟩,
 ⟨some 73, .mv (.tmp 74), none⟩])
 (.cond (.tmp 73)
 (.seq (.blk [⟨some 75, .mv (.tmp 0), none⟩,
 ⟨some 76, .mv (.tmp 1), none⟩,
 ⟨some 77, .bin .and (.tmp 76) (.const (.int .u32 127)), none⟩,
 ⟨some 78, .bin .or (.tmp 77) (.const (.int .u32 128)), none⟩,
 ⟨some 79, .conv .u8 (.tmp 78), none⟩,
 ⟨some 80, .mv (.tmp 1), none⟩,
 ⟨some 81, .bin .shr (.tmp 80) (.const (.int .u64 7)), none⟩,
 ⟨some 82, .conv .u8 (.tmp 81), none⟩,
 ⟨some 83, .bslice 2 [.int .u8 0] [(0, 1, .tmp 79), (1, 1, .tmp 82)], none⟩,
 ⟨some 84, .append (.tmp 75) (.tmp 83) 1 1, none⟩,
 ⟨some 4, .mv (.tmp 84), none⟩])
 (.ret))
 (.seq (.blk [⟨some 86, .bin .eql (.tmp 6) (.const (.int .i64 1)), none⟩,
 ⟨some 85, .mv (.tmp 86), none⟩])
 (.cond (.tmp 85)
 (.seq (.blk [⟨some 87, .mv (.tmp 0), none⟩,
 ⟨some 88, .mv (.tmp 1), none⟩,
 ⟨some 89, .conv .u8 (.tmp 88), none⟩,
 ⟨some 90, .bslice 1 [.int .u8 0] [(0, 1, .tmp 89)], none⟩,
 ⟨some 91, .append (.tmp 87) (.tmp 90) 1 1, none⟩,
 ⟨some 4, .mv (.tmp 91), none⟩])
 (.ret))
 (.skip)))))))))))))
 (.seq (.blk [⟨some 92, .mv (.tmp 0), none⟩,
 ⟨some 4, .mv (.tmp 92), none⟩])
 (.ret))),
 [.tmp 4], 93)
def ir_kUvarintLen (F : Nat → Nat) : IC × List RV × Nat := (.seq (.blk [⟨some 2, .mv (.const (.int .i64 0)), none⟩])
 (.seq (.blk [⟨some 3, .mv (.tmp 0), none⟩,
 ⟨some 4, .call (F bLen32) [.tmp 3], none⟩,
 ⟨some 5, .conv .u8 (.tmp 4), none⟩,
 ⟨some 6, .idx (.const (.string tabU)) (.tmp 5), none⟩,
 ⟨some 7, .conv .i64 (.tmp 6), none⟩,
 ⟨some 2, .mv (.tmp 7), none⟩])
 (.ret)),
 [.tmp 2], 8)
def ir_kAppendString (F : Nat → Nat) : IC × List RV × Nat := (.seq (.blk [⟨some 4, .mv (.const (.slice none 0 0)), none⟩])
 (.seq (.blk [⟨some 5, .mv (.tmp 0), none⟩,
 ⟨some 6, .mv (.tmp 1), none⟩,
 ⟨some 7, .slen (.tmp 6), none⟩,
 ⟨some 8, .conv .i16 (.tmp 7), none⟩,
 ⟨some 9, .call (F kAppendInt16) [.tmp 5, .tmp 8], none⟩,
 ⟨some 0, .mv (.tmp 9), none⟩])
 (.seq (.blk [⟨some 10, .mv (.tmp 0), none⟩,
 ⟨some 11, .mv (.tmp 1), none⟩,
 ⟨some 12, .append (.tmp 10) (.tmp 11) 1 1, none⟩,
 ⟨some 4, .mv (.tmp 12), none⟩])
 (.ret))),
 [.tmp 4], 13)
def ir_kAppendCompactString (F : Nat → Nat) : IC × List RV × Nat := (.seq (.blk [⟨some 4, .mv (.const (.slice none 0 0)), none⟩])
 (.seq (.blk [⟨some 5, .mv (.tmp 0), none⟩,
 ⟨some 6, .mv (.tmp 1), none⟩,
 ⟨some 7, .slen (.tmp 6), none⟩,
 ⟨some 8, .conv .u32 (.tmp 7), none⟩,
 ⟨some 9, .bin .add (.const (.int .u32 1)) (.tmp 8), none⟩,
 ⟨some 10, .call (F kAppendUvarint) [.tmp 5, .tmp 9], none⟩,
 ⟨some 0, .mv (.tmp 10), none⟩])
 (.seq (.blk [⟨some 11, .mv (.tmp 0), none⟩,
 ⟨some 12, .mv (.tmp 1), none⟩,
 ⟨some 13, .append (.tmp 11) (.tmp 12) 1 1, none⟩,
 ⟨some 4, .mv (.tmp 13), none⟩])
 (.ret))),
 [.tmp 4], 14)
def ir_kAppendNullableString (F : Nat → Nat) : IC × List RV × Nat := (.seq (.blk [⟨some 4, .mv (.const (.slice none 0 0)), none⟩])
 (.seq (.seq (.blk [⟨some 5, .mv (.tmp 1), none⟩,
 ⟨some 6, .isnil .pt false (.tmp 5), none⟩])
 (.cond (.tmp 6)
 (.seq (.blk [⟨some 7, .mv (.tmp 0), none⟩,
 ⟨some 8, .call (F kAppendInt16) [.tmp 7, .const (.int .i16 (-1))], none⟩,
 ⟨some 4, .mv (.tmp 8), none⟩])
 (.ret))
 (.skip)))
 (.seq (.blk [⟨some 9, .mv (.tmp 0), none⟩,
 ⟨some 10, .mv (.tmp 1), none⟩,
 ⟨some 11, .nilc (.tmp 10), none⟩,
 ⟨some 12, .ld (.tmp 11), none⟩,
 ⟨some 13, .call (F kAppendString) [.tmp 9, .tmp 12], none⟩,
 ⟨some 4, .mv (.tmp 13), none⟩])
 (.ret))),
 [.tmp 4], 14)
def ir_kAppendCompactNullableString (F : Nat → Nat) : IC × List RV × Nat := (.seq (.blk [⟨some 4, .mv (.const (.slice none 0 0)), none⟩])
 (.seq (.seq (.blk [⟨some 5, .mv (.tmp 1), none⟩,
 ⟨some 6, .isnil .pt false (.tmp 5), none⟩])
 (.cond (.tmp 6)
 (.seq (.blk [⟨some 7, .mv (.tmp 0), none⟩,
 ⟨some 8, .call (F kAppendUvarint) [.tmp 7, .const (.int .u32 0)], none⟩,
 ⟨some 4, .mv (.tmp 8), none⟩])
 (.ret))
 (.skip)))
 (.seq (.blk [⟨some 9, .mv (.tmp 0), none⟩,
 ⟨some 10, .mv (.tmp 1), none⟩,
 ⟨some 11, .nilc (.tmp 10), none⟩,
 ⟨some 12, .ld (.tmp 11), none⟩,
 ⟨some 13, .call (F kAppendCompactString) [.tmp 9, .tmp 12], none⟩,
 ⟨some 4, .mv (.tmp 13), none⟩])
 (.ret))),
 [.tmp 4], 14)
def ir_kAppendBytes (F : Nat → Nat) : IC × List RV × Nat := (.seq (.blk [⟨some 4, .mv (.const (.slice none 0 0)), none⟩])
 (.seq (.blk [⟨some 5, .mv (.tmp 0), none⟩,
 ⟨some 6, .mv (.tmp 1), none⟩,
 ⟨some 7, .len (.tmp 6), none⟩,
 ⟨some 8, .conv .i32 (.tmp 7), none⟩,
 ⟨some 9, .call (F kAppendInt32) [.tmp 5, .tmp 8], none⟩,
 ⟨some 0, .mv (.tmp 9), none⟩])
 (.seq (.blk [⟨some 10, .mv (.tmp 0), none⟩,
 ⟨some 11, .mv (.tmp 1), none⟩,
 ⟨some 12, .append (.tmp 10) (.tmp 11) 1 1, none⟩,
 ⟨some 4, .mv (.tmp 12), none⟩])
 (.ret))),
 [.tmp 4], 13)
def ir_kAppendCompactBytes (F : Nat → Nat) : IC × List RV × Nat := (.seq (.blk [⟨some 4, .mv (.const (.slice none 0 0)), none⟩])
 (.seq (.blk [⟨some 5, .mv (.tmp 0), none⟩,
 ⟨some 6, .mv (.tmp 1), none⟩,
 ⟨some 7, .len (.tmp 6), none⟩,
 ⟨some 8, .conv .u32 (.tmp 7), none⟩,
 ⟨some 9, .bin .add (.const (.int .u32 1)) (.tmp 8), none⟩,
 ⟨some 10, .call (F kAppendUvarint) [.tmp 5, .tmp 9], none⟩,
 ⟨some 0, .mv (.tmp 10), none⟩])
 (.seq (.blk [⟨some 11, .mv (.tmp 0), none⟩,
 ⟨some 12, .mv (.tmp 1), none⟩,
 ⟨some 13, .append (.tmp 11) (.tmp 12) 1 1, none⟩,
 ⟨some 4, .mv (.tmp 13), none⟩])
 (.ret))),
 [.tmp 4], 14)
def ir_kAppendArrayLen (F : Nat → Nat) : IC × List RV × Nat := (.seq (.blk [⟨some 4, .mv (.const (.slice none 0 0)), none⟩])
 (.seq (.blk [⟨some 5, .mv (.tmp 0), none⟩,
 ⟨some 6, .mv (.tmp 1), none⟩,
 ⟨some 7, .conv .i32 (.tmp 6), none⟩,
 ⟨some 8, .call (F kAppendInt32) [.tmp 5, .tmp 7], none⟩,
 ⟨some 4, .mv (.tmp 8), none⟩])
 (.ret)),
 [.tmp 4], 9)
def ir_kAppendCompactArrayLen (F : Nat → Nat) : IC × List RV × Nat := (.seq (.blk [⟨some 4, .mv (.const (.slice none 0 0)), none⟩])
 (.seq (.blk [⟨some 5, .mv (.tmp 0), none⟩,
 ⟨some 6, .mv (.tmp 1), none⟩,
 ⟨some 7, .conv .u32 (.tmp 6), none⟩,
 ⟨some 8, .bin .add (.const (.int .u32 1)) (.tmp 7), none⟩,
 ⟨some 9, .call (F kAppendUvarint) [.tmp 5, .tmp 8], none⟩,
 ⟨some 4, .mv (.tmp 9), none⟩])
 (.ret)),
 [.tmp 4], 10)
def ir_kAppendNullableArrayLen (F : Nat → Nat) : IC × List RV × Nat := (.seq (.blk [⟨some 6, .mv (.const (.slice none 0 0)), none⟩])
 (.seq (.seq (.blk [⟨some 7, .mv (.tmp 2), none⟩])
 (.cond (.tmp 7)
 (.seq (.blk [⟨some 8, .mv (.tmp 0), none⟩,
 ⟨some 9, .call (F kAppendInt32) [.tmp 8, .const (.int .i32 (-1))], none⟩,
 ⟨some 6, .mv (.tmp 9), none⟩])
 (.ret))
 (.skip)))
 (.seq (.blk [⟨some 10, .mv (.tmp 0), none⟩,
 ⟨some 11, .mv (.tmp 1), none⟩,
 ⟨some 12, .conv .i32 (.tmp 11), none⟩,
 ⟨some 13, .call (F kAppendInt32) [.tmp 10, .tmp 12], none⟩,
 ⟨some 6, .mv (.tmp 13), none⟩])
 (.ret))),
 [.tmp 6], 14)
def ir_kAppendCompactNullableArrayLen (F : Nat → Nat) : IC × List RV × Nat := (.seq (.blk [⟨some 6, .mv (.const (.slice none 0 0)), none⟩])
 (.seq (.seq (.blk [⟨some 7, .mv (.tmp 2), none⟩])
 (.cond (.tmp 7)
 (.seq (.blk [⟨some 8, .mv (.tmp 0), none⟩,
 ⟨some 9, .call (F kAppendUvarint) [.tmp 8, .const (.int .u32 0)], none⟩,
 ⟨some 6, .mv (.tmp 9), none⟩])
 (.ret))
 (.skip)))
 (.seq (.blk [⟨some 10, .mv (.tmp 0), none⟩,
 ⟨some 11, .mv (.tmp 1), none⟩,
 ⟨some 12, .conv .u32 (.tmp 11), none⟩,
 ⟨some 13, .bin .add (.const (.int .u32 1)) (.tmp 12), none⟩,
 ⟨some 14, .call (F kAppendUvarint) [.tmp 10, .tmp 13], none⟩,
 ⟨some 6, .mv (.tmp 14), none⟩])
 (.ret))),
 [.tmp 6], 15)
def ir_tAppendEach (F : Nat → Nat) : IC × List RV × Nat := (.seq (.blk [⟨some 3, .box (.tmp 1), none⟩,
 ⟨some 4, .mv (.const (.slice none 0 0)), none⟩])
 (.seq (.blk [⟨some 5, .mv (.tmp 0), none⟩,
 ⟨some 6, .mkfunc (.func (F tAppendEach1)) [] [.tmp 3], none⟩,
 ⟨some 7, .call (F tEach) [.tmp 5, .tmp 6], none⟩])
 (.seq (.blk [⟨some 8, .ld (.tmp 3), none⟩,
 ⟨some 4, .mv (.tmp 8), none⟩])
 (.ret))),
 [.tmp 4], 9)
def ir_tAppendEach1 (F : Nat → Nat) : IC × List RV × Nat := (.seq (.blk [⟨some 5, .ld (.tmp 2), none⟩,
 ⟨some 6, .mv (.tmp 0), none⟩,
 ⟨some 7, .call (F kAppendUvarint) [.tmp 5, .tmp 6], none⟩,
 ⟨none, .st (.tmp 2) 1 (.tmp 7), none⟩])
 (.seq (.blk [⟨some 8, .ld (.tmp 2), none⟩,
 ⟨some 9, .mv (.tmp 1), none⟩,
 ⟨some 10, .len (.tmp 9), none⟩,
 ⟨some 11, .conv .u32 (.tmp 10), none⟩,
 ⟨some 12, .call (F kAppendUvarint) [.tmp 8, .tmp 11], none⟩,
 ⟨none, .st (.tmp 2) 1 (.tmp 12), none⟩])
 (.blk [⟨some 13, .ld (.tmp 2), none⟩,
 ⟨some 14, .mv (.tmp 1), none⟩,
 ⟨some 15, .append (.tmp 13) (.tmp 14) 1 1, none⟩,
 ⟨none, .st (.tmp 2) 1 (.tmp 15), none⟩])),
 [], 16)
def ir_bLen32 (_F : Nat → Nat) : IC × List RV × Nat := (.seq (.blk [⟨some 2, .mv (.const (.int .i64 0)), none⟩])
 (.seq (.seq (.blk [⟨some 3, .mv (.tmp 0), none⟩,
 ⟨some 4, .bin .geq (.tmp 3) (.const (.int .u32 65536)), none⟩])
 (.cond (.tmp 4)
 (.seq (.blk [⟨some 5, .mv (.tmp 0), none⟩,
 ⟨some 6, .bin .shr (.tmp 5) (.const (.int .u64 16)), none⟩,
 ⟨some 0, .mv (.tmp 6), none⟩])
 (.blk [⟨some 2, .mv (.const (.int .i64 16)), none⟩]))
 (.skip)))
 (.seq (.seq (.blk [⟨some 7, .mv (.tmp 0), none⟩,
 ⟨some 8, .bin .geq (.tmp 7) (.const (.int .u32 256)), none⟩])
 (.cond (.tmp 8)
 (.seq (.blk [⟨some 9, .mv (.tmp 0), none⟩,
 ⟨some 10, .bin .shr (.tmp 9) (.const (.int .u64 8)), none⟩,
 ⟨some 0, .mv (.tmp 10), none⟩])
 (.blk [⟨some 11, .mv (.tmp 2), none⟩,
 ⟨some 12, .bin .add (.tmp 11) (.const (.int .i64 8)), none⟩,
 ⟨some 2, .mv (.tmp 12), none⟩]))
 (.skip)))
 (.seq (.blk [⟨some 13, .mv (.tmp 2), none⟩,
 ⟨some 14, .mv (.tmp 0), none⟩,
 ⟨some 15, .conv .u8 (.tmp 14), none⟩,
 ⟨some 16, .idx (.const (.string tab8)) (.tmp 15), none⟩,
 ⟨some 17, .conv .i64 (.tmp 16), none⟩,
 ⟨some 18, .bin .add (.tmp 13) (.tmp 17), none⟩,
 ⟨some 2, .mv (.tmp 18), none⟩])
 (.ret)))),
 [.tmp 2], 19)
end Go.Msk

namespace Go.Msk
open Go.RowKit
set_option maxRecDepth 100000
def lim : Nat := 70368744177664
def ownB : Value → Option Nat
  | .slice (some a) _ _ => some a.block
  | _ => none
structure DRaw (w : World) (n0 : Nat) (v : Value) (l : List UInt8) : Prop where
  sl : (v = .slice none 0 0 ∧ l = []) ∨ ∃ B cap rest, v = .slice (some ⟨B, 0, none⟩) l.length cap ∧ l.length ≤ cap ∧ n0 ≤ B ∧ Blk w B (u8s l ++ rest) ∧ rest.length = cap - l.length
theorem DRaw.mod {w w' : World} {n0 : Nat} {v : Value} {l : List UInt8} {S : List Nat} (h : DRaw w n0 v l) (hm : Mod S w w') (hS : ∀ b, ownB v = some b → b ∉ S) : DRaw w' n0 v l :=
  ⟨h.sl.imp id fun ⟨B, cap, rest, h1, h2, h3, h4, h5⟩ => ⟨B, cap, rest, h1, h2, h3, h4.mod hm (hS _ (by rw [h1]; rfl)), h5⟩⟩
theorem DRaw.own {w : World} {n0 : Nat} {v : Value} {l : List UInt8} (h : DRaw w n0 v l) {b : Nat} (hb : ownB v = some b) : n0 ≤ b ∧ b < w.heap.size := by
  rcases h.sl with ⟨rfl, -⟩ | ⟨B, cap, rest, rfl, -, h3, h4, -⟩
  · simp [ownB] at hb
  · simp only [ownB, Option.some.injEq] at hb; subst hb; exact ⟨h3, h4.lt⟩
theorem DRaw.slc {w : World} {n0 : Nat} {v : Value} {l : List UInt8} (h : DRaw w n0 v l) : SlC (fun b => n0 ≤ b) w v l.length (u8s l) := by
  rcases h.sl with ⟨rfl, rfl⟩ | ⟨B, cap, rest, rfl, h2, h3, h4, -⟩
  · exact SlC.nil
  · refine ⟨_, cap, rfl, h2, fun h => by simp at h, fun a ha _ => ?_⟩
    simp only [Option.some.injEq] at ha; subst ha
    refine ⟨h3, h4.lt, ?_⟩
    have := h4.cells.take (u8s l).length
    simpa using this
theorem DRaw.one {w : World} {n0 : Nat} {v : Value} {l : List UInt8} (h : DRaw w n0 v l) : v.cells = #[v] ∧ v.oneCell' = true := by
  rcases h.sl with ⟨rfl, -⟩ | ⟨B, cap, rest, rfl, -⟩ <;> exact ⟨rfl, rfl⟩
structure AppD (n0 : Nat) (w : World) (v : Value) (w' : World) (v' : Value) (l : List UInt8) : Prop where
  raw : DRaw w' n0 v' l
  mod : Mod (ownB v).toList w w'
  own : ∀ b, ownB v' = some b → ownB v = some b ∨ w.heap.size ≤ b
theorem AppD.refl {n0 : Nat} {w : World} {v : Value} {l : List UInt8} (h : DRaw w n0 v l) : AppD n0 w v w v l := ⟨h, Mod.refl _ _, fun _ h => .inl h⟩
theorem AppD.trans {n0 : Nat} {w w1 w2 : World} {v v1 v2 : Value} {l1 l2 : List UInt8} (h : AppD n0 w v w1 v1 l1) (k : AppD n0 w1 v1 w2 v2 l2) : AppD n0 w v w2 v2 l2 := by
  refine ⟨k.raw, ?_, fun b hb => ?_⟩
  · cases ho : ownB v1 with
    | none => have := k.mod; rw [ho] at this; exact h.mod.trans this.nil
    | some b =>
      have km := k.mod
      rw [ho] at km
      rcases h.own b ho with h1 | h1
      · have hm := h.mod
        rw [h1] at hm ⊢
        exact hm.trans km
      · refine Mod.drop (b := b) (S := (ownB v).toList) ?_ h1
        exact (h.mod.mono (by intro x hx; exact List.mem_cons_of_mem _ hx)).trans (km.mono (by simp))
  · rcases k.own b hb with h1 | h1
    · exact h.own b h1
    · exact .inr (Nat.le_trans h.mod.size h1)
theorem AppD.pre {n0 : Nat} {w w1 w2 : World} {v v1 : Value} {l : List UInt8} (hm : Mod [] w w1) (h : AppD n0 w1 v w2 v1 l) : AppD n0 w v w2 v1 l :=
  ⟨h.raw, hm.nil.trans h.mod, fun b hb => (h.own b hb).imp id fun h => Nat.le_trans hm.size h⟩
section
variable {P : Program}
theorem append_run {σ : Sl} {w : World} {x y : Operand} {v : Value} {l k : List UInt8} {n0 : Nat} {K : Value → World → Prop} (hx : ev σ x = v) (hv : DRaw w n0 v l) (hn0 : n0 ≤ w.heap.size) (hy : srcCells w 1 (ev σ y) = some (k.length, u8s k))
    (hl : l.length + k.length ≤ lim) (hK : ∀ v' w', AppD n0 w v w' v' (l ++ k) → K v' w') : (RK.append x y 1 1).run P σ w K := by
  unfold lim at hl
  simp only [RK.run, hx]
  rcases hv.sl with ⟨rfl, rfl⟩ | ⟨B, cap, rest, rfl, h2, h3, h4, hr⟩
  · simp only [hy, appendRun]
    by_cases hk : k.length = 0
    · have : k = [] := List.length_eq_zero_iff.1 hk
      subst this
      simp only [List.length_nil, Nat.add_zero, Nat.le_refl, if_true]
      exact hK _ _ (AppD.refl ⟨.inl ⟨rfl, rfl⟩⟩)
    · rw [if_neg (by omega)]
      refine ⟨by omega, by omega, ?_⟩
      intro T cap rest hc hr
      have hb := Blk.new w.drew (u8s k ++ rest) T
      refine hK _ _ ⟨⟨.inr ⟨w.heap.size, cap, rest, by simp, by simpa using hc, hn0, by simpa using hb, by simpa using hr⟩⟩, (Mod.drew _ _).trans (Mod.alloc _ _ _), fun b hb => ?_⟩
      simp only [ownB, Option.some.injEq] at hb; subst hb; exact .inr (Nat.le_refl _)
  · simp only [hy, appendRun]
    by_cases hc : l.length + k.length ≤ cap
    · rw [if_pos hc]
      simp only [Addr.add_mk, Nat.zero_add, Nat.mul_one]
      have hone : ∀ v ∈ u8s k, v.oneCell' = true := fun v hv => by simp only [u8s, List.mem_map] at hv; obtain ⟨b, -, rfl⟩ := hv; rfl
      refine ⟨stOk_many h4 (by simp only [List.length_append, u8s_length]; omega) hone, hK _ _ ⟨⟨.inr ⟨B, cap, rest.drop k.length, by simp, by simpa using hc, h3, ?_, by simp; omega⟩⟩, by simpa [ownB] using Mod.put (by simp), fun b hb => .inl (by simpa [ownB] using hb)⟩⟩
      have hput := h4.put (o := l.length) (vs := u8s k) (by simp only [List.length_append, u8s_length]; omega)
      have e : splice (u8s l ++ rest) l.length (u8s k) = u8s (l ++ k) ++ rest.drop k.length := by
        rw [splice_end (u8s_length l), u8s_length, show u8s (l ++ k) = u8s l ++ u8s k by simp [u8s], List.append_assoc]
      rwa [e] at hput
    · rw [if_neg hc]
      refine ⟨by omega, by omega, ?_⟩
      have hco : cellsAt w ⟨B, 0, none⟩ 0 (l.length * 1) = some (u8s l) := by
        have := h4.cells.take (u8s l).length
        rw [List.take_left] at this
        exact cellsAt_of' this (by rw [u8s_length, Nat.mul_one])
      simp only [hco]
      intro T cap' rest' hc' hr'
      have hb := Blk.new w.drew (u8s l ++ (u8s k ++ rest')) T
      refine hK _ _ ⟨⟨.inr ⟨w.heap.size, cap', rest', by simp, by simpa using hc', hn0, ?_, by simp; omega⟩⟩, ((Mod.drew [] _).trans (Mod.alloc _ _ _)).nil, fun b hb => ?_⟩
      · have e : u8s (l ++ k) = u8s l ++ u8s k := by simp [u8s]
        rw [e, List.append_assoc]; exact hb
      · simp only [ownB, Option.some.injEq] at hb; subst hb; exact .inr (Nat.le_refl _)
def AppC (P : Program) (f : FuncId) (V : World → Value → Prop) (enc : List UInt8) : Prop :=
  ∀ (n0 : Nat) (w : World) (dv v : Value) (l : List UInt8), DRaw w n0 dv l → n0 ≤ w.heap.size → l.length + enc.length ≤ lim → V w v →
    Calls P f [dv, v].toArray w fun e w' => ∃ dv', e = .returned dv' ∧ AppD n0 w dv w' dv' (l ++ enc)
end
end Go.Msk

namespace Go.Msk
open Go.RowKit
set_option maxRecDepth 100000
def beI : Nat → Int → List UInt8
  | 0, _ => []
  | k + 1, n => UInt8.ofNat ((n / 256 ^ k) % 256).toNat :: beI k n
theorem beI_length : ∀ (k : Nat) (n : Int), (beI k n).length = k
  | 0, _ => rfl
  | k + 1, n => by simp [beI, beI_length k n]
theorem u8v (n : Int) (_h : 0 ≤ n) : Value.int .u8 (IntKind.u8.wrap n) = Value.int .u8 ((UInt8.ofNat (n % 256).toNat).toNat : Int) := by
  have e : IntKind.u8.wrap n = n % 256 := by
    simp only [IntKind.wrap, IntKind.bits, IntKind.signed]; simp
  have h2 : 0 ≤ n % 256 := Int.emod_nonneg _ (by omega)
  have h3 : n % 256 < 256 := Int.emod_lt_of_pos _ (by omega)
  rw [e, Value.int.injEq]
  refine ⟨rfl, ?_⟩
  have : (UInt8.ofNat (n % 256).toNat).toNat = (n % 256).toNat := by simp; omega
  rw [this]; omega
theorem u8vz (n : Int) : Value.int .u8 (IntKind.u8.wrap n) = Value.int .u8 ((UInt8.ofNat (n % 256).toNat).toNat : Int) := by
  have e : IntKind.u8.wrap n = n % 256 := by
    simp only [IntKind.wrap, IntKind.bits, IntKind.signed]; simp
  have h2 : 0 ≤ n % 256 := Int.emod_nonneg _ (by omega)
  have h3 : n % 256 < 256 := Int.emod_lt_of_pos _ (by omega)
  rw [e, Value.int.injEq]
  refine ⟨rfl, ?_⟩
  have : (UInt8.ofNat (n % 256).toNat).toNat = (n % 256).toNat := by simp; omega
  rw [this]; omega
theorem ediv_emod_256 (p x : Int) (hp : 0 < p) : (x / p) % 256 = (x % (p * 256)) / p := by
  have a : x % (p * 256) = x + p * (-(256 * (x / p / 256))) := by
    rw [Int.emod_def, ← Int.ediv_ediv_of_nonneg (by omega), Int.mul_neg, ← Int.sub_eq_add_neg, Int.mul_assoc]
  rw [a, Int.add_mul_ediv_left _ _ (by omega), Int.emod_def (x / p)]
  omega
theorem beI_mod : ∀ (k : Nat) (n m : Int), n % 256 ^ k = m % 256 ^ k → beI k n = beI k m
  | 0, _, _, _ => rfl
  | k + 1, n, m, h => by
    have hp : (0 : Int) < 256 ^ k := Int.pow_pos (by omega)
    rw [Int.pow_succ] at h
    have e1 : (n / 256 ^ k) % 256 = (m / 256 ^ k) % 256 := by
      have q := fun x => ediv_emod_256 (256 ^ k) x hp
      rw [q n, q m, h]
    have e2 : n % 256 ^ k = m % 256 ^ k := by
      have q : ∀ x : Int, (x % (256 ^ k * 256)) % 256 ^ k = x % 256 ^ k := fun x => Int.emod_emod_of_dvd x ⟨256, rfl⟩
      rw [← q n, ← q m, h]
    simp only [beI, e1, beI_mod k n m e2]
section
variable {P : Program} {F : Nat → Nat}
theorem bsliceB_run {σ : Sl} {w : World} {n : Nat} {l : List (Nat × Nat × Operand)} {bs : List UInt8} {K : Value → World → Prop} (hf : fillL (zrep n [.int .u8 0]) (l.map fun (o, k, x) => (o, k, ev σ x)) = some (u8s bs)) (hn : bs.length = n)
    (hK : ∀ v w', srcCells w' 1 v = some (bs.length, u8s bs) → Mod [] w w' → K v w') : (RK.bslice n [.int .u8 0] l).run P σ w K := by
  simp only [RK.run]
  rw [hf]
  intro T
  have hb := Blk.new w (u8s bs) T
  refine hK _ _ ?_ (Mod.alloc _ _ _)
  simp only [srcCells, Nat.mul_one]
  rw [cellsAt_of' hb.cells (by rw [u8s_length, hn])]
  simp [hn]
theorem app_tail {x t n : Nat} {σ : Sl} {w : World} {l : List (Nat × Nat × Operand)} {bs : List UInt8} {v : Value} {k : List UInt8} {n0 : Nat} {R : Ending → World → Prop}
    (hx : σ x = v) (hxt : x < t) (hv : DRaw w n0 v k) (hn0 : n0 ≤ w.heap.size) (hl : k.length + bs.length ≤ lim) (hf : fillL (zrep n [.int .u8 0]) (l.map fun (o, k, x) => (o, k, ev σ x)) = some (u8s bs)) (hn : bs.length = n) (_h4 : 4 < t)
    (hR : ∀ v' w', AppD n0 w v w' v' (k ++ bs) → R (.returned v') w') :
    wpR P [⟨some t, .bslice n [.int .u8 0] l, none⟩, ⟨some (t + 1), .append (.tmp x) (.tmp t) 1 1, none⟩, ⟨some 4, .mv (.tmp (t + 1)), none⟩] σ w
      (thenC (wpC P .ret (postC [.tmp 4] R)) (postC [.tmp 4] R) .normal) := by
  refine wpR_run ?_
  refine bsliceB_run hf hn fun u w1 hu hm1 => ?_
  refine wpR_run ?_
  refine append_run (v := v) (by simp only [ev, updo, upd, show x ≠ t by omega, if_false, hx]) (hv.mod hm1 (by simp)) (Nat.le_trans hn0 hm1.size) (by simpa only [ev, updo, upd, if_true] using hu) hl fun v' w2 hA => ?_
  refine wpR_step (v := v') (by simp only [RK.val?, ev, updo, upd, if_true]) ?_
  refine wpR_done ?_
  simp only [wpC, postC, rvals, List.mapM_cons, List.mapM_nil, RV.val, updo, upd, if_true, Option.bind_eq_bind, Option.bind_some, Option.pure_def, tup_one]
  exact hR v' w2 (hA.pre hm1)
theorem kAppendUint16_call (hm : P.follows .mixedOrders = true) (h : liftF P (F kAppendUint16) = some (ir_kAppendUint16 F)) {n : Int} (hn : 0 ≤ n ∧ n < 65536) : AppC P (F kAppendUint16) (fun _ v => v = .int .u16 n) (beI 2 n) := by
  intro n0 w dv v l hd hn0 hl hv
  subst hv
  unfold ir_kAppendUint16 at h
  refine call_of h hm (by simp) ?_
  have a0 : args0 [dv, .int .u16 n] 0 = dv := rfl
  have a1 : args0 [dv, .int .u16 n] 1 = .int .u16 n := rfl
  generalize args0 [dv, .int .u16 n] = σ at a0 a1 ⊢
  rw [wpC_seq, wpC_blk]
  refine wpR_step (v := .slice none 0 0) rfl ?_
  refine wpR_done ?_
  rw [wpC_seq, wpC_blk]
  refine wpR_step (v := dv) (by simp only [RK.val?, ev, updo, upd]; simp [a0]) ?_
  refine wpR_step (v := .int .u16 n) (by simp only [RK.val?, ev, updo, upd]; simp [a1]) ?_
  refine wpR_step (v := .int .u16 (n / 256)) (by simp only [RK.val?, ev, updo, upd, if_true, isShift, Bool.true_or, intBin]; simp [IntKind.bits, Int.fdiv_eq_ediv_of_nonneg]) ?_
  refine wpR_step (v := .int .u8 (IntKind.u8.wrap (n / 256))) (by simp only [RK.val?, ev, updo, upd, if_true]) ?_
  refine wpR_step (v := .int .u16 n) (by simp only [RK.val?, ev, updo, upd]; simp [a1]) ?_
  refine wpR_step (v := .int .u8 (IntKind.u8.wrap n)) (by simp only [RK.val?, ev, updo, upd, if_true]) ?_
  refine app_tail (v := dv) (k := l) (bs := beI 2 n) (by simp only [updo, upd]; simp) (by omega) hd hn0 hl ?_ (beI_length _ _) (by omega) fun v' w' hA => ⟨v', rfl, hA⟩
  simp only [List.map_cons, List.map_nil, ev, updo, upd]
  simp [zrep, fillL, splice, Value.cells, beI, u8s, u8v n hn.1, u8v (n / 256) (by omega)]
theorem kAppendUint32_call (hm : P.follows .mixedOrders = true) (h : liftF P (F kAppendUint32) = some (ir_kAppendUint32 F)) {n : Int} (hn : 0 ≤ n ∧ n < 4294967296) : AppC P (F kAppendUint32) (fun _ v => v = .int .u32 n) (beI 4 n) := by
  intro n0 w dv v l hd hn0 hl hv
  subst hv
  unfold ir_kAppendUint32 at h
  refine call_of h hm (by simp) ?_
  have a0 : args0 [dv, .int .u32 n] 0 = dv := rfl
  have a1 : args0 [dv, .int .u32 n] 1 = .int .u32 n := rfl
  generalize args0 [dv, .int .u32 n] = σ at a0 a1 ⊢
  rw [wpC_seq, wpC_blk]
  refine wpR_step (v := .slice none 0 0) rfl ?_
  refine wpR_done ?_
  rw [wpC_seq, wpC_blk]
  refine wpR_step (v := dv) (by simp only [RK.val?, ev, updo, upd]; simp [a0]) ?_
  refine wpR_step (v := .int .u32 n) (by simp only [RK.val?, ev, updo, upd]; simp [a1]) ?_
  refine wpR_step (v := .int .u32 (n / 16777216)) (by simp only [RK.val?, ev, updo, upd, if_true, isShift, Bool.true_or, intBin]; simp [IntKind.bits, Int.fdiv_eq_ediv_of_nonneg]) ?_
  refine wpR_step (v := .int .u8 (IntKind.u8.wrap (n / 16777216))) (by simp only [RK.val?, ev, updo, upd, if_true]) ?_
  refine wpR_step (v := .int .u32 n) (by simp only [RK.val?, ev, updo, upd]; simp [a1]) ?_
  refine wpR_step (v := .int .u32 (n / 65536)) (by simp only [RK.val?, ev, updo, upd, if_true, isShift, Bool.true_or, intBin]; simp [IntKind.bits, Int.fdiv_eq_ediv_of_nonneg]) ?_
  refine wpR_step (v := .int .u8 (IntKind.u8.wrap (n / 65536))) (by simp only [RK.val?, ev, updo, upd, if_true]) ?_
  refine wpR_step (v := .int .u32 n) (by simp only [RK.val?, ev, updo, upd]; simp [a1]) ?_
  refine wpR_step (v := .int .u32 (n / 256)) (by simp only [RK.val?, ev, updo, upd, if_true, isShift, Bool.true_or, intBin]; simp [IntKind.bits, Int.fdiv_eq_ediv_of_nonneg]) ?_
  refine wpR_step (v := .int .u8 (IntKind.u8.wrap (n / 256))) (by simp only [RK.val?, ev, updo, upd, if_true]) ?_
  refine wpR_step (v := .int .u32 n) (by simp only [RK.val?, ev, updo, upd]; simp [a1]) ?_
  refine wpR_step (v := .int .u8 (IntKind.u8.wrap n)) (by simp only [RK.val?, ev, updo, upd, if_true]) ?_
  refine app_tail (v := dv) (k := l) (bs := beI 4 n) (by simp only [updo, upd]; simp) (by omega) hd hn0 hl ?_ (beI_length _ _) (by omega) fun v' w' hA => ⟨v', rfl, hA⟩
  simp only [List.map_cons, List.map_nil, ev, updo, upd]
  simp [zrep, fillL, splice, Value.cells, beI, u8s, u8v (n / 16777216) (by omega), u8v (n / 65536) (by omega), u8v (n / 256) (by omega), u8v n hn.1]
theorem byte3 {t sh : Nat} {kk : IntKind} {n d : Int} {σ : Sl} {w : World} {rest : List RI} {Q : Sl → World → Prop} (h1 : σ 1 = .int kk n) (_hn : 0 ≤ n) (_hd : 0 < d) (_ht : 4 < t) (hs : intBin .shr kk n sh = some (.int kk (n / d)))
    (hQ : ∀ σ', Ag t σ σ' → σ' (t + 2) = .int .u8 ((UInt8.ofNat (n / d % 256).toNat).toNat : Int) → wpR P rest σ' w Q) :
    wpR P (⟨some t, .mv (.tmp 1), none⟩ :: ⟨some (t + 1), .bin .shr (.tmp t) (.const (.int .u64 sh)), none⟩ :: ⟨some (t + 2), .conv .u8 (.tmp (t + 1)), none⟩ :: rest) σ w Q := by
  refine wpR_step (v := .int kk n) (congrArg some h1) ?_
  refine wpR_step (v := .int kk (n / d)) (by simp only [RK.val?, ev, updo, upd, if_true, isShift, Bool.true_or, hs]) ?_
  refine wpR_step (v := .int .u8 (IntKind.u8.wrap (n / d))) (by simp only [RK.val?, ev, updo, upd, if_true]) ?_
  refine hQ _ (fun j hj => ?_) ?_
  · simp only [updo, upd, show j ≠ t by omega, show j ≠ t + 1 by omega, show j ≠ t + 2 by omega, if_false]
  · simp only [updo, upd, if_true]; exact u8vz _
theorem kAppendUint64_call (hm : P.follows .mixedOrders = true) (h : liftF P (F kAppendUint64) = some (ir_kAppendUint64 F)) {n : Int} (hn : 0 ≤ n ∧ n < 18446744073709551616) : AppC P (F kAppendUint64) (fun _ v => v = .int .u64 n) (beI 8 n) := by
  intro n0 w dv v l hd hn0 hl hv
  subst hv
  unfold ir_kAppendUint64 at h
  refine call_of h hm (by simp) ?_
  have a0 : args0 [dv, .int .u64 n] 0 = dv := rfl
  have a1 : args0 [dv, .int .u64 n] 1 = .int .u64 n := rfl
  generalize args0 [dv, .int .u64 n] = σ at a0 a1 ⊢
  rw [wpC_seq, wpC_blk]
  refine wpR_step (v := .slice none 0 0) rfl ?_
  refine wpR_done ?_
  rw [wpC_seq, wpC_blk]
  refine wpR_step (v := dv) (by simp only [RK.val?, ev, updo, upd]; simp [a0]) ?_
  have b5 : updo (updo σ (some 4) (.slice none 0 0)) (some 5) dv 5 = dv := by simp only [updo, upd, if_true]
  have b1 : updo (updo σ (some 4) (.slice none 0 0)) (some 5) dv 1 = .int .u64 n := by simp only [updo, upd]; simp [a1]
  generalize updo (updo σ (some 4) (.slice none 0 0)) (some 5) dv = σ0 at b5 b1 ⊢
  have sh : ∀ (k : Nat), k < 64 → intBin .shr .u64 n k = some (.int .u64 (n / 2 ^ k)) := fun k hk => by
    simp only [intBin]
    rw [if_neg (by omega)]
    have : min (k : Int).toNat IntKind.u64.bits = k := by show min (k : Int).toNat 64 = k; omega
    rw [this, Int.fdiv_eq_ediv_of_nonneg _ (by exact Int.le_of_lt (Int.pow_pos (by omega)))]
  refine byte3 (t := 6) (d := 72057594037927936) (b1) hn.1 (by omega) (by omega) (sh 56 (by omega)) fun σ1 k1 v1 => ?_
  have c1 : Ag 6 σ0 σ1 := k1
  refine byte3 (t := 9) (d := 281474976710656) ((c1 1 (by omega)).trans b1) hn.1 (by omega) (by omega) (sh 48 (by omega)) fun σ2 k2 v2 => ?_
  have c2 : Ag 6 σ0 σ2 := fun q hq => (k2 q (by omega)).trans (c1 q hq)
  refine byte3 (t := 12) (d := 1099511627776) ((c2 1 (by omega)).trans b1) hn.1 (by omega) (by omega) (sh 40 (by omega)) fun σ3 k3 v3 => ?_
  have c3 : Ag 6 σ0 σ3 := fun q hq => (k3 q (by omega)).trans (c2 q hq)
  refine byte3 (t := 15) (d := 4294967296) ((c3 1 (by omega)).trans b1) hn.1 (by omega) (by omega) (sh 32 (by omega)) fun σ4 k4 v4 => ?_
  have c4 : Ag 6 σ0 σ4 := fun q hq => (k4 q (by omega)).trans (c3 q hq)
  refine byte3 (t := 18) (d := 16777216) ((c4 1 (by omega)).trans b1) hn.1 (by omega) (by omega) (sh 24 (by omega)) fun σ5 k5 v5 => ?_
  have c5 : Ag 6 σ0 σ5 := fun q hq => (k5 q (by omega)).trans (c4 q hq)
  refine byte3 (t := 21) (d := 65536) ((c5 1 (by omega)).trans b1) hn.1 (by omega) (by omega) (sh 16 (by omega)) fun σ6 k6 v6 => ?_
  have c6 : Ag 6 σ0 σ6 := fun q hq => (k6 q (by omega)).trans (c5 q hq)
  refine byte3 (t := 24) (d := 256) ((c6 1 (by omega)).trans b1) hn.1 (by omega) (by omega) (sh 8 (by omega)) fun σ7 k7 v7 => ?_
  have c7 : Ag 6 σ0 σ7 := fun q hq => (k7 q (by omega)).trans (c6 q hq)
  refine wpR_step (v := .int .u64 n) (congrArg some ((c7 1 (by omega)).trans b1)) ?_
  refine wpR_step (v := .int .u8 (IntKind.u8.wrap n)) (by simp only [RK.val?, ev, updo, upd, if_true]) ?_
  have e8 : σ7 8 = .int .u8 ((UInt8.ofNat (n / 72057594037927936 % 256).toNat).toNat : Int) := (k7 8 (by omega)).trans ((k6 8 (by omega)).trans ((k5 8 (by omega)).trans ((k4 8 (by omega)).trans ((k3 8 (by omega)).trans ((k2 8 (by omega)).trans (v1))))))
  have e11 : σ7 11 = .int .u8 ((UInt8.ofNat (n / 281474976710656 % 256).toNat).toNat : Int) := (k7 11 (by omega)).trans ((k6 11 (by omega)).trans ((k5 11 (by omega)).trans ((k4 11 (by omega)).trans ((k3 11 (by omega)).trans (v2)))))
  have e14 : σ7 14 = .int .u8 ((UInt8.ofNat (n / 1099511627776 % 256).toNat).toNat : Int) := (k7 14 (by omega)).trans ((k6 14 (by omega)).trans ((k5 14 (by omega)).trans ((k4 14 (by omega)).trans (v3))))
  have e17 : σ7 17 = .int .u8 ((UInt8.ofNat (n / 4294967296 % 256).toNat).toNat : Int) := (k7 17 (by omega)).trans ((k6 17 (by omega)).trans ((k5 17 (by omega)).trans (v4)))
  have e20 : σ7 20 = .int .u8 ((UInt8.ofNat (n / 16777216 % 256).toNat).toNat : Int) := (k7 20 (by omega)).trans ((k6 20 (by omega)).trans (v5))
  have e23 : σ7 23 = .int .u8 ((UInt8.ofNat (n / 65536 % 256).toNat).toNat : Int) := (k7 23 (by omega)).trans (v6)
  have e26 : σ7 26 = .int .u8 ((UInt8.ofNat (n / 256 % 256).toNat).toNat : Int) := v7
  refine app_tail (v := dv) (k := l) (bs := beI 8 n) (by simp only [updo, upd]; simp; exact (c7 5 (by omega)).trans b5) (by omega) hd hn0 hl ?_ (beI_length _ _) (by omega) fun v' w' hA => ⟨v', rfl, hA⟩
  simp only [List.map_cons, List.map_nil, ev, updo, upd]
  simp [zrep, fillL, splice, Value.cells, beI, u8s, e8, e11, e14, e17, e20, e23, e26, u8vz n]
theorem kAppendInt8_call (hm : P.follows .mixedOrders = true) (h : liftF P (F kAppendInt8) = some (ir_kAppendInt8 F)) {n : Int} : AppC P (F kAppendInt8) (fun _ v => v = .int .i8 n) (beI 1 n) := by
  intro n0 w dv v l hd hn0 hl hv
  subst hv
  unfold ir_kAppendInt8 at h
  refine call_of h hm (by simp) ?_
  have a0 : args0 [dv, .int .i8 n] 0 = dv := rfl
  have a1 : args0 [dv, .int .i8 n] 1 = .int .i8 n := rfl
  generalize args0 [dv, .int .i8 n] = σ at a0 a1 ⊢
  rw [wpC_seq, wpC_blk]
  refine wpR_step (v := .slice none 0 0) rfl ?_
  refine wpR_done ?_
  rw [wpC_seq, wpC_blk]
  refine wpR_step (v := dv) (by simp only [RK.val?, ev, updo, upd]; simp [a0]) ?_
  refine wpR_step (v := .int .i8 n) (by simp only [RK.val?, ev, updo, upd]; simp [a1]) ?_
  refine wpR_step (v := .int .u8 (IntKind.u8.wrap n)) (by simp only [RK.val?, ev, updo, upd, if_true]) ?_
  refine app_tail (v := dv) (k := l) (bs := beI 1 n) (by simp only [updo, upd]; simp) (by omega) hd hn0 hl ?_ (beI_length _ _) (by omega) fun v' w' hA => ⟨v', rfl, hA⟩
  simp only [List.map_cons, List.map_nil, ev, updo, upd]
  simp [zrep, fillL, splice, Value.cells, beI, u8s, u8vz n]
theorem kAppendBool_call (hm : P.follows .mixedOrders = true) (h : liftF P (F kAppendBool) = some (ir_kAppendBool F)) {b : Bool} : AppC P (F kAppendBool) (fun _ v => v = .bool b) [if b then 1 else 0] := by
  intro n0 w dv v l hd hn0 hl hv
  subst hv
  unfold ir_kAppendBool at h
  refine call_of h hm (by simp) ?_
  have a0 : args0 [dv, .bool b] 0 = dv := rfl
  have a1 : args0 [dv, .bool b] 1 = .bool b := rfl
  generalize args0 [dv, .bool b] = σ at a0 a1 ⊢
  rw [wpC_seq, wpC_blk]
  refine wpR_step (v := .slice none 0 0) rfl ?_
  refine wpR_done ?_
  rw [wpC_seq, wpC_seq, wpC_blk]
  refine wpR_step (v := .bool b) (by simp only [RK.val?, ev, updo, upd]; simp [a1]) ?_
  refine wpR_done ?_
  have fin : ∀ (c : UInt8) (x : Nat) (y : Int), 6 ≤ x → Value.int .u8 y = .int .u8 (c.toNat : Int) → [if b then 1 else 0] = [c] → ∀ σ1 : Sl, σ1 (x - 1) = dv → wpR P [⟨some x, .bslice 1 [.int .u8 0] [(0, 1, .const (.int .u8 y))], none⟩, ⟨some (x + 1), .append (.tmp (x - 1)) (.tmp x) 1 1, none⟩, ⟨some 4, .mv (.tmp (x + 1)), none⟩] σ1 w
      (thenC (wpC P .ret (postC [.tmp 4] fun e w' => ∃ dv', e = .returned dv' ∧ AppD n0 w dv w' dv' (l ++ [if b then 1 else 0]))) (postC [.tmp 4] fun e w' => ∃ dv', e = .returned dv' ∧ AppD n0 w dv w' dv' (l ++ [if b then 1 else 0])) .normal) := by
    intro c x y hx hy hc σ1 h1
    rw [hc]
    refine app_tail (v := dv) (k := l) (bs := [c]) h1 (by omega) hd hn0 (by rw [hc] at hl; exact hl) ?_ rfl (by omega) fun v' w' hA => ⟨v', rfl, hA⟩
    simp only [List.map_cons, List.map_nil, ev, hy]
    simp [zrep, fillL, splice, Value.cells, u8s]
  cases b with
  | true =>
    rw [wpC_cond_t rfl, wpC_seq, wpC_blk]
    refine wpR_step (v := dv) (by simp only [RK.val?, ev, updo, upd]; simp [a0]) ?_
    exact fin 1 7 1 (by omega) rfl rfl _ rfl
  | false =>
    rw [wpC_cond_f rfl, wpC_skip]
    simp only [thenC]
    rw [wpC_seq, wpC_blk]
    refine wpR_step (v := dv) (by simp only [RK.val?, ev, updo, upd]; simp [a0]) ?_
    exact fin 0 10 0 (by omega) rfl rfl _ rfl
end
end Go.Msk

namespace Go.Msk
open Go.RowKit
set_option maxRecDepth 100000
def convCode (k : IntKind) (g : FuncId) : IC × List RV × Nat :=
  (.seq (.blk [⟨some 4, .mv (.const (.slice none 0 0)), none⟩])
    (.seq (.blk [⟨some 5, .mv (.tmp 0), none⟩, ⟨some 6, .mv (.tmp 1), none⟩, ⟨some 7, .conv k (.tmp 6), none⟩, ⟨some 8, .call g [.tmp 5, .tmp 7], none⟩, ⟨some 4, .mv (.tmp 8), none⟩]) .ret), [.tmp 4], 9)
section
variable {P : Program} {F : Nat → Nat}
theorem conv_app (hm : P.follows .mixedOrders = true) {f g : FuncId} {k kk : IntKind} {n : Int} {enc : List UInt8} (h : liftF P f = some (convCode k g)) (hg : AppC P g (fun _ v => v = .int k (k.wrap n)) enc) : AppC P f (fun _ v => v = .int kk n) enc := by
  intro n0 w dv v l hd hn0 hl hv
  subst hv
  unfold convCode at h
  refine call_of h hm (by simp) ?_
  have a0 : args0 [dv, .int kk n] 0 = dv := rfl
  have a1 : args0 [dv, .int kk n] 1 = .int kk n := rfl
  generalize args0 [dv, .int kk n] = σ at a0 a1 ⊢
  rw [wpC_seq, wpC_blk]
  refine wpR_step (v := .slice none 0 0) rfl ?_
  refine wpR_done ?_
  rw [wpC_seq, wpC_blk]
  refine wpR_step (v := dv) (by simp only [RK.val?, ev, updo, upd]; simp [a0]) ?_
  refine wpR_step (v := .int kk n) (by simp only [RK.val?, ev, updo, upd]; simp [a1]) ?_
  refine wpR_step (v := .int k (k.wrap n)) (by simp only [RK.val?, ev, updo, upd, if_true]) ?_
  refine wpR_call (vs := [dv, .int k (k.wrap n)]) (by simp only [List.map_cons, List.map_nil, ev, updo, upd]; simp) (hg n0 w dv _ l hd hn0 hl rfl) ?_
  rintro e w' ⟨dv', rfl, hA⟩
  refine ⟨_, rfl, ?_⟩
  refine wpR_step (v := dv') (by simp only [RK.val?, ev, updo, upd, if_true]) ?_
  refine wpR_done ?_
  simp only [wpC, postC, rvals, List.mapM_cons, List.mapM_nil, RV.val, updo, upd, if_true, Option.bind_eq_bind, Option.bind_some, Option.pure_def, tup_one]
  exact ⟨dv', rfl, hA⟩
theorem AppC.enc {f : FuncId} {V : World → Value → Prop} {e e' : List UInt8} (h : AppC P f V e) (he : e = e') : AppC P f V e' := he ▸ h
theorem wrap_u (n : Int) : IntKind.u16.wrap n = n % 65536 ∧ IntKind.u32.wrap n = n % 4294967296 ∧ IntKind.u64.wrap n = n % 18446744073709551616 := by
  simp [IntKind.wrap, IntKind.bits, IntKind.signed]
theorem kAppendInt16_call (hm : P.follows .mixedOrders = true) (h : liftF P (F kAppendInt16) = some (ir_kAppendInt16 F)) (h2 : liftF P (F kAppendUint16) = some (ir_kAppendUint16 F)) {kk : IntKind} {n : Int} : AppC P (F kAppendInt16) (fun _ v => v = .int kk n) (beI 2 n) := by
  refine conv_app (k := .u16) hm h ?_
  rw [(wrap_u n).1]
  exact (kAppendUint16_call hm h2 ⟨Int.emod_nonneg _ (by omega), Int.emod_lt_of_pos _ (by omega)⟩).enc (beI_mod 2 _ _ (by simp))
theorem kAppendInt32_call (hm : P.follows .mixedOrders = true) (h : liftF P (F kAppendInt32) = some (ir_kAppendInt32 F)) (h2 : liftF P (F kAppendUint32) = some (ir_kAppendUint32 F)) {kk : IntKind} {n : Int} : AppC P (F kAppendInt32) (fun _ v => v = .int kk n) (beI 4 n) := by
  refine conv_app (k := .u32) hm h ?_
  rw [(wrap_u n).2.1]
  exact (kAppendUint32_call hm h2 ⟨Int.emod_nonneg _ (by omega), Int.emod_lt_of_pos _ (by omega)⟩).enc (beI_mod 4 _ _ (by simp))
theorem kAppendInt64_call (hm : P.follows .mixedOrders = true) (h : liftF P (F kAppendInt64) = some (ir_kAppendInt64 F)) (h2 : liftF P (F kAppendUint64) = some (ir_kAppendUint64 F)) {kk : IntKind} {n : Int} : AppC P (F kAppendInt64) (fun _ v => v = .int kk n) (beI 8 n) := by
  refine conv_app (k := .u64) hm h ?_
  rw [(wrap_u n).2.2]
  exact (kAppendUint64_call hm h2 ⟨Int.emod_nonneg _ (by omega), Int.emod_lt_of_pos _ (by omega)⟩).enc (beI_mod 8 _ _ (by simp))
theorem kAppendArrayLen_call (hm : P.follows .mixedOrders = true) (h : liftF P (F kAppendArrayLen) = some (ir_kAppendArrayLen F)) (h1 : liftF P (F kAppendInt32) = some (ir_kAppendInt32 F)) (h2 : liftF P (F kAppendUint32) = some (ir_kAppendUint32 F)) {n : Int} :
    AppC P (F kAppendArrayLen) (fun _ v => v = .int .i64 n) (beI 4 n) := by
  refine conv_app (k := .i32) hm h ?_
  refine (kAppendInt32_call hm h1 h2).enc (beI_mod 4 _ _ ?_)
  simp only [IntKind.wrap, IntKind.bits, IntKind.signed]
  simp
  omega
end
end Go.Msk

namespace Go.Msk
open Go.RowKit
set_option maxRecDepth 100000
def lenU (n : Nat) : Nat := if n < 128 then 1 else if n < 16384 then 2 else if n < 2097152 then 3 else if n < 268435456 then 4 else 5
def t8 (i : Nat) : Nat := (tab8.data.toList.getD i 0).toNat
def tU (i : Nat) : Nat := (tabU.data.toList.getD i 0).toNat
def bl (n : Nat) : Nat := if 65536 ≤ n then (if 256 ≤ n / 65536 then 24 + t8 (n / 16777216) else 16 + t8 (n / 65536)) else if 256 ≤ n then 8 + t8 (n / 256) else t8 n
theorem tabs_ok : ((List.range 256).all fun m => tU (t8 m) == lenU m && (m == 0 || (tU (8 + t8 m) == lenU (m * 256) && tU (16 + t8 m) == lenU (m * 65536) && tU (24 + t8 m) == lenU (m * 16777216)))) = true := by decide +kernel
theorem tU_bl {n : Nat} (hn : n < 4294967296) : tU (bl n) = lenU n := by
  have key := tabs_ok
  rw [List.all_eq_true] at key
  have k : ∀ m, m < 256 → tU (t8 m) = lenU m ∧ (m = 0 ∨ (tU (8 + t8 m) = lenU (m * 256) ∧ tU (16 + t8 m) = lenU (m * 65536) ∧ tU (24 + t8 m) = lenU (m * 16777216))) := fun m hm => by
    have := key m (List.mem_range.2 hm)
    simp only [Bool.and_eq_true, beq_iff_eq, Bool.or_eq_true] at this
    exact ⟨this.1, this.2.imp id fun h => ⟨h.1.1, h.1.2, h.2⟩⟩
  unfold bl
  split
  · split
    · obtain ⟨-, h⟩ := k (n / 16777216) (by omega)
      rw [(h.resolve_left (by omega)).2.2]
      unfold lenU; repeat' split
      all_goals omega
    · obtain ⟨-, h⟩ := k (n / 65536) (by omega)
      rw [(h.resolve_left (by omega)).2.1]
      unfold lenU; repeat' split
      all_goals omega
  · split
    · obtain ⟨-, h⟩ := k (n / 256) (by omega)
      rw [(h.resolve_left (by omega)).1]
      unfold lenU; repeat' split
      all_goals omega
    · exact (k n (by omega)).1
end Go.Msk

namespace Go.Msk
def ir_rBool (_F : Nat → Nat) : IC × List RV × Nat := (.seq (.blk [⟨some 2, .mv (.const (.bool false)), none⟩])
 (.seq (.seq (.blk [⟨some 4, .mv (.tmp 0), none⟩,
 ⟨some 5, .nilc (.tmp 4), none⟩,
 ⟨some 6, .fad (.tmp 5) 0, none⟩,
 ⟨some 7, .ld (.tmp 6), none⟩,
 ⟨some 8, .len (.tmp 7), none⟩,
 ⟨some 9, .bin .lss (.tmp 8) (.const (.int .i64 1)), none⟩])
 (.cond (.tmp 9)
 (.seq (.blk [⟨some 10, .mv (.tmp 0), none⟩,
 ⟨some 11, .nilc (.tmp 10), none⟩,
 ⟨some 12, .fad (.tmp 11) 1, none⟩,
 ⟨none, .st (.tmp 12) 1 (.const (.bool true)), none⟩])
 (.seq (.blk [⟨some 13, .mv (.tmp 0), none⟩,
 ⟨some 14, .nilc (.tmp 13), none⟩,
 ⟨some 15, .fad (.tmp 14) 0, none⟩,
 ⟨none, .st (.tmp 15) 1 (.const (.slice none 0 0)), none⟩])
 (.seq (.blk [⟨some 2, .mv (.const (.bool false)), none⟩])
 (.ret))))
 (.skip)))
 (.seq (.blk [⟨some 16, .mv (.tmp 0), none⟩,
 ⟨some 17, .nilc (.tmp 16), none⟩,
 ⟨some 18, .fad (.tmp 17) 0, none⟩,
 ⟨some 19, .ld (.tmp 18), none⟩,
 ⟨some 20, .iad (.tmp 19) (.const (.int .i64 0)) 1, none⟩,
 ⟨some 21, .ld (.tmp 20), none⟩,
 ⟨some 22, .bin .neq (.tmp 21) (.const (.int .u8 0)), none⟩,
 ⟨some 3, .mv (.tmp 22), none⟩])
 (.seq (.blk [⟨some 23, .mv (.tmp 0), none⟩,
 ⟨some 24, .mv (.tmp 0), none⟩,
 ⟨some 25, .nilc (.tmp 24), none⟩,
 ⟨some 26, .fad (.tmp 25) 0, none⟩,
 ⟨some 27, .ld (.tmp 26), none⟩,
 ⟨some 28, .slice (.tmp 27) (some (.const (.int .i64 1))) none none 1, none⟩,
 ⟨some 29, .nilc (.tmp 23), none⟩,
 ⟨some 30, .fad (.tmp 29) 0, none⟩,
 ⟨none, .st (.tmp 30) 1 (.tmp 28), none⟩])
 (.seq (.blk [⟨some 31, .mv (.tmp 3), none⟩,
 ⟨some 2, .mv (.tmp 31), none⟩])
 (.ret))))),
 [.tmp 2], 32)
def ir_rInt8 (_F : Nat → Nat) : IC × List RV × Nat := (.seq (.blk [⟨some 2, .mv (.const (.int .i8 0)), none⟩])
 (.seq (.seq (.blk [⟨some 4, .mv (.tmp 0), none⟩,
 ⟨some 5, .nilc (.tmp 4), none⟩,
 ⟨some 6, .fad (.tmp 5) 0, none⟩,
 ⟨some 7, .ld (.tmp 6), none⟩,
 ⟨some 8, .len (.tmp 7), none⟩,
 ⟨some 9, .bin .lss (.tmp 8) (.const (.int .i64 1)), none⟩])
 (.cond (.tmp 9)
 (.seq (.blk [⟨some 10, .mv (.tmp 0), none⟩,
 ⟨some 11, .nilc (.tmp 10), none⟩,
 ⟨some 12, .fad (.tmp 11) 1, none⟩,
 ⟨none, .st (.tmp 12) 1 (.const (.bool true)), none⟩])
 (.seq (.blk [⟨some 13, .mv (.tmp 0), none⟩,
 ⟨some 14, .nilc (.tmp 13), none⟩,
 ⟨some 15, .fad (.tmp 14) 0, none⟩,
 ⟨none, .st (.tmp 15) 1 (.const (.slice none 0 0)), none⟩])
 (.seq (.blk [⟨some 2, .mv (.const (.int .i8 0)), none⟩])
 (.ret))))
 (.skip)))
 (.seq (.blk [⟨some 16, .mv (.tmp 0), none⟩,
 ⟨some 17, .nilc (.tmp 16), none⟩,
 ⟨some 18, .fad (.tmp 17) 0, none⟩,
 ⟨some 19, .ld (.tmp 18), none⟩,
 ⟨some 20, .iad (.tmp 19) (.const (.int .i64 0)) 1, none⟩,
 ⟨some 21, .ld (.tmp 20), none⟩,
 ⟨some 3, .mv (.tmp 21), none⟩])
 (.seq (.blk [⟨some 22, .mv (.tmp 0), none⟩,
 ⟨some 23, .mv (.tmp 0), none⟩,
 ⟨some 24, .nilc (.tmp 23), none⟩,
 ⟨some 25, .fad (.tmp 24) 0, none⟩,
 ⟨some 26, .ld (.tmp 25), none⟩,
 ⟨some 27, .slice (.tmp 26) (some (.const (.int .i64 1))) none none 1, none⟩,
 ⟨some 28, .nilc (.tmp 22), none⟩,
 ⟨some 29, .fad (.tmp 28) 0, none⟩,
 ⟨none, .st (.tmp 29) 1 (.tmp 27), none⟩])
 (.seq (.blk [⟨some 30, .mv (.tmp 3), none⟩,
 ⟨some 31, .conv .i8 (.tmp 30), none⟩,
 ⟨some 2, .mv (.tmp 31), none⟩])
 (.ret))))),
 [.tmp 2], 32)
def ir_rUint16 (F : Nat → Nat) : IC × List RV × Nat := (.seq (.blk [⟨some 2, .mv (.const (.int .u16 0)), none⟩])
 (.seq (.seq (.blk [⟨some 4, .mv (.tmp 0), none⟩,
 ⟨some 5, .nilc (.tmp 4), none⟩,
 ⟨some 6, .fad (.tmp 5) 0, none⟩,
 ⟨some 7, .ld (.tmp 6), none⟩,
 ⟨some 8, .len (.tmp 7), none⟩,
 ⟨some 9, .bin .lss (.tmp 8) (.const (.int .i64 2)), none⟩])
 (.cond (.tmp 9)
 (.seq (.blk [⟨some 10, .mv (.tmp 0), none⟩,
 ⟨some 11, .nilc (.tmp 10), none⟩,
 ⟨some 12, .fad (.tmp 11) 1, none⟩,
 ⟨none, .st (.tmp 12) 1 (.const (.bool true)), none⟩])
 (.seq (.blk [⟨some 13, .mv (.tmp 0), none⟩,
 ⟨some 14, .nilc (.tmp 13), none⟩,
 ⟨some 15, .fad (.tmp 14) 0, none⟩,
 ⟨none, .st (.tmp 15) 1 (.const (.slice none 0 0)), none⟩])
 (.seq (.blk [⟨some 2, .mv (.const (.int .u16 0)), none⟩])
 (.ret))))
 (.skip)))
 (.seq (.drw [⟨⟨some 16, .ldn (.global (F gBig)) 0, none⟩, false, []⟩,
 ⟨⟨some 17, .mv (.tmp 0), none⟩, false, []⟩,
 ⟨⟨some 18, .nilc (.tmp 17), none⟩, false, []⟩,
 ⟨⟨some 19, .fad (.tmp 18) 0, none⟩, false, []⟩,
 ⟨⟨some 20, .ld (.tmp 19), none⟩, false, []⟩,
 ⟨⟨some 21, .call (F beUint16) [.tmp 16, .tmp 20], none⟩, true, []⟩,
 ⟨⟨some 3, .mv (.tmp 21), none⟩, false, [5]⟩]
 [])
 (.seq (.blk [⟨some 22, .mv (.tmp 0), none⟩,
 ⟨some 23, .mv (.tmp 0), none⟩,
 ⟨some 24, .nilc (.tmp 23), none⟩,
 ⟨some 25, .fad (.tmp 24) 0, none⟩,
 ⟨some 26, .ld (.tmp 25), none⟩,
 ⟨some 27, .slice (.tmp 26) (some (.const (.int .i64 2))) none none 1, none⟩,
 ⟨some 28, .nilc (.tmp 22), none⟩,
 ⟨some 29, .fad (.tmp 28) 0, none⟩,
 ⟨none, .st (.tmp 29) 1 (.tmp 27), none⟩])
 (.seq (.blk [⟨some 30, .mv (.tmp 3), none⟩,
 ⟨some 2, .mv (.tmp 30), none⟩])
 (.ret))))),
 [.tmp 2], 31)
def ir_rInt64 (F : Nat → Nat) : IC × List RV × Nat := (.seq (.blk [⟨some 2, .mv (.const (.int .i64 0)), none⟩])
 (.seq (.blk [⟨some 3, .mv (.tmp 0), none⟩,
 ⟨some 4, .call (F rReadUint64) [.tmp 3], none⟩,
 ⟨some 5, .conv .i64 (.tmp 4), none⟩,
 ⟨some 2, .mv (.tmp 5), none⟩])
 (.ret)),
 [.tmp 2], 6)
def ir_rReadUint64 (F : Nat → Nat) : IC × List RV × Nat := (.seq (.blk [⟨some 2, .mv (.const (.int .u64 0)), none⟩])
 (.seq (.seq (.blk [⟨some 4, .mv (.tmp 0), none⟩,
 ⟨some 5, .nilc (.tmp 4), none⟩,
 ⟨some 6, .fad (.tmp 5) 0, none⟩,
 ⟨some 7, .ld (.tmp 6), none⟩,
 ⟨some 8, .len (.tmp 7), none⟩,
 ⟨some 9, .bin .lss (.tmp 8) (.const (.int .i64 8)), none⟩])
 (.cond (.tmp 9)
 (.seq (.blk [⟨some 10, .mv (.tmp 0), none⟩,
 ⟨some 11, .nilc (.tmp 10), none⟩,
 ⟨some 12, .fad (.tmp 11) 1, none⟩,
 ⟨none, .st (.tmp 12) 1 (.const (.bool true)), none⟩])
 (.seq (.blk [⟨some 13, .mv (.tmp 0), none⟩,
 ⟨some 14, .nilc (.tmp 13), none⟩,
 ⟨some 15, .fad (.tmp 14) 0, none⟩,
 ⟨none, .st (.tmp 15) 1 (.const (.slice none 0 0)), none⟩])
 (.seq (.blk [⟨some 2, .mv (.const (.int .u64 0)), none⟩])
 (.ret))))
 (.skip)))
 (.seq (.drw [⟨⟨some 16, .ldn (.global (F gBig)) 0, none⟩, false, []⟩,
 ⟨⟨some 17, .mv (.tmp 0), none⟩, false, []⟩,
 ⟨⟨some 18, .nilc (.tmp 17), none⟩, false, []⟩,
 ⟨⟨some 19, .fad (.tmp 18) 0, none⟩, false, []⟩,
 ⟨⟨some 20, .ld (.tmp 19), none⟩, false, []⟩,
 ⟨⟨some 21, .call (F beUint64) [.tmp 16, .tmp 20], none⟩, true, []⟩,
 ⟨⟨some 3, .mv (.tmp 21), none⟩, false, [5]⟩]
 [])
 (.seq (.blk [⟨some 22, .mv (.tmp 0), none⟩,
 ⟨some 23, .mv (.tmp 0), none⟩,
 ⟨some 24, .nilc (.tmp 23), none⟩,
 ⟨some 25, .fad (.tmp 24) 0, none⟩,
 ⟨some 26, .ld (.tmp 25), none⟩,
 ⟨some 27, .slice (.tmp 26) (some (.const (.int .i64 8))) none none 1, none⟩,
 ⟨some 28, .nilc (.tmp 22), none⟩,
 ⟨some 29, .fad (.tmp 28) 0, none⟩,
 ⟨none, .st (.tmp 29) 1 (.tmp 27), none⟩])
 (.seq (.blk [⟨some 30, .mv (.tmp 3), none⟩,
 ⟨some 2, .mv (.tmp 30), none⟩])
 (.ret))))),
 [.tmp 2], 31)
def ir_beUint64 (_F : Nat → Nat) : IC × List RV × Nat := (.seq (.blk [⟨some 2, .box (.tmp 0), none⟩,
 ⟨some 4, .mv (.const (.int .u64 0)), none⟩])
 (.seq (.blk [⟨some 5, .mv (.tmp 1), none⟩,
 ⟨some 6, .iad (.tmp 5) (.const (.int .i64 7)) 1, none⟩,
 ⟨some 7, .ld (.tmp 6), none⟩])
 (.seq (.drw [⟨⟨some 8, .mv (.tmp 1), none⟩, false, []⟩,
 ⟨⟨some 9, .iad (.tmp 8) (.const (.int .i64 7)) 1, none⟩, false, []⟩,
 ⟨⟨some 10, .ld (.tmp 9), none⟩, false, []⟩,
 ⟨⟨some 11, .conv .u64 (.tmp 10), none⟩, false, []⟩,
 ⟨⟨some 12, .mv (.tmp 1), none⟩, false, []⟩,
 ⟨⟨some 13, .iad (.tmp 12) (.const (.int .i64 6)) 1, none⟩, false, []⟩,
 ⟨⟨some 14, .ld (.tmp 13), none⟩, false, []⟩,
 ⟨⟨some 15, .conv .u64 (.tmp 14), none⟩, false, []⟩,
 ⟨⟨some 16, .bin .shl (.tmp 15) (.const (.int .u64 8)), none⟩, false, []⟩,
 ⟨⟨some 17, .bin .or (.tmp 11) (.tmp 16), none⟩, false, []⟩,
 ⟨⟨some 18, .mv (.tmp 1), none⟩, false, []⟩,
 ⟨⟨some 19, .iad (.tmp 18) (.const (.int .i64 5)) 1, none⟩, false, []⟩,
 ⟨⟨some 20, .ld (.tmp 19), none⟩, false, []⟩,
 ⟨⟨some 21, .conv .u64 (.tmp 20), none⟩, false, []⟩,
 ⟨⟨some 22, .bin .shl (.tmp 21) (.const (.int .u64 16)), none⟩, false, []⟩,
 ⟨⟨some 23, .bin .or (.tmp 17) (.tmp 22), none⟩, false, []⟩,
 ⟨⟨some 24, .mv (.tmp 1), none⟩, false, []⟩,
 ⟨⟨some 25, .iad (.tmp 24) (.const (.int .i64 4)) 1, none⟩, false, []⟩,
 ⟨⟨some 26, .ld (.tmp 25), none⟩, false, []⟩,
 ⟨⟨some 27, .conv .u64 (.tmp 26), none⟩, false, []⟩,
 ⟨⟨some 28, .bin .shl (.tmp 27) (.const (.int .u64 24)), none⟩, false, []⟩,
 ⟨⟨some 29, .bin .or (.tmp 23) (.tmp 28), none⟩, false, []⟩,
 ⟨⟨some 30, .mv (.tmp 1), none⟩, false, []⟩,
 ⟨⟨some 31, .iad (.tmp 30) (.const (.int .i64 3)) 1, none⟩, false, []⟩,
 ⟨⟨some 32, .ld (.tmp 31), none⟩, false, []⟩,
 ⟨⟨some 33, .conv .u64 (.tmp 32), none⟩, false, []⟩,
 ⟨⟨some 34, .bin .shl (.tmp 33) (.const (.int .u64 32)), none⟩, false, []⟩,
 ⟨⟨some 35, .bin .or (.tmp 29) (.tmp 34), none⟩, false, []⟩,
 ⟨⟨some 36, .mv (.tmp 1), none⟩, false, []⟩,
 ⟨⟨some 37, .iad (.tmp 36) (.const (.int .i64 2)) 1, none⟩, false, []⟩,
 ⟨⟨some 38, .ld (.tmp 37), none⟩, false, []⟩,
 ⟨⟨some 39, .conv .u64 (.tmp 38), none⟩, false, []⟩,
 ⟨⟨some 40, .bin .shl (.tmp 39) (.const (.int .u64 40)), none⟩, false, []⟩,
 ⟨⟨some 41, .bin .or (.tmp 35) (.tmp 40), none⟩, false, []⟩,
 ⟨⟨some 42, .mv (.tmp 1), none⟩, false, []⟩,
 ⟨⟨some 43, .iad (.tmp 42) (.const (.int .i64 1)) 1, none⟩, false, []⟩,
 ⟨⟨some 44, .ld (.tmp 43), none⟩, false, []⟩,
 ⟨⟨some 45, .conv .u64 (.tmp 44), none⟩, false, []⟩,
 ⟨⟨some 46, .bin .shl (.tmp 45) (.const (.int .u64 48)), none⟩, false, []⟩,
 ⟨⟨some 47, .bin .or (.tmp 41) (.tmp 46), none⟩, false, []⟩,
 ⟨⟨some 48, .mv (.tmp 1), none⟩, false, []⟩,
 ⟨⟨some 49, .iad (.tmp 48) (.const (.int .i64 0)) 1, none⟩, false, []⟩,
 ⟨⟨some 50, .ld (.tmp 49), none⟩, false, []⟩,
 ⟨⟨some 51, .conv .u64 (.tmp 50), none⟩, false, []⟩,
 ⟨⟨some 52, .bin .shl (.tmp 51) (.const (.int .u64 56)), none⟩, false, []⟩,
 ⟨⟨some 53, .bin .or (.tmp 47) (.tmp 52), none⟩, false, []⟩,
 ⟨⟨some 4, .mv (.tmp 53), none⟩, false, []⟩]
 [])
 (.ret))),
 [.tmp 4], 54)
def ir_rUuid (F : Nat → Nat) : IC × List RV × Nat := (.seq (.blk [⟨some 2, .alloc [.int .u8 0, .int .u8 0, .int .u8 0, .int .u8 0, .int .u8 0, .int .u8 0, .int .u8 0, .int .u8 0, .int .u8 0, .int .u8 0, .int .u8 0, .int .u8 0, .int .u8 0, .int .u8 0, .int .u8 0, .int .u8 0], none⟩])
 (.seq (.blk [⟨some 3, .alloc [.int .u8 0, .int .u8 0, .int .u8 0, .int .u8 0, .int .u8 0, .int .u8 0, .int .u8 0, .int .u8 0, .int .u8 0, .int .u8 0, .int .u8 0, .int .u8 0, .int .u8 0, .int .u8 0, .int .u8 0, .int .u8 0], none⟩])
 (.seq (.drw [⟨⟨some 4, .slicea (.tmp 3) 16, none⟩, false, []⟩,
 ⟨⟨some 5, .mv (.tmp 0), none⟩, false, []⟩,
 ⟨⟨some 6, .call (F rSpan) [.tmp 5, .const (.int .i64 16)], none⟩, true, []⟩]
 [⟨some 7, .copy (.tmp 4) (.tmp 6) 1, none⟩])
 (.seq (.blk [⟨some 8, .ldn (.tmp 3) 16, none⟩,
 ⟨none, .st (.tmp 2) 16 (.tmp 8), none⟩])
 (.ret)))),
 [.cells 2 16], 9)
def ir_rUvarint (F : Nat → Nat) : IC × List RV × Nat := (.seq (.blk [⟨some 2, .mv (.const (.int .u32 0)), none⟩])
 (.seq (.blk [⟨some 6, .mv (.tmp 0), none⟩,
 ⟨some 7, .nilc (.tmp 6), none⟩,
 ⟨some 8, .fad (.tmp 7) 0, none⟩,
 ⟨some 9, .ld (.tmp 8), none⟩,
 ⟨some 10, .call (F kUvarint) [.tmp 9], none⟩,
 ⟨some 5, .mv (.tmp 10), none⟩,
 ⟨some 11, .ext (.tmp 5) 0, none⟩,
 ⟨some 12, .ext (.tmp 5) 1, none⟩,
 ⟨some 3, .mv (.tmp 11), none⟩,
 ⟨some 4, .mv (.tmp 12), none⟩])
 (.seq (.seq (.blk [⟨some 13, .mv (.tmp 4), none⟩,
 ⟨some 14, .bin .leq (.tmp 13) (.const (.int .i64 0)), none⟩])
 (.cond (.tmp 14)
 (.seq (.blk [⟨some 15, .mv (.tmp 0), none⟩,
 ⟨some 16, .nilc (.tmp 15), none⟩,
 ⟨some 17, .fad (.tmp 16) 1, none⟩,
 ⟨none, .st (.tmp 17) 1 (.const (.bool true)), none⟩])
 (.seq (.blk [⟨some 18, .mv (.tmp 0), none⟩,
 ⟨some 19, .nilc (.tmp 18), none⟩,
 ⟨some 20, .fad (.tmp 19) 0, none⟩,
 ⟨none, .st (.tmp 20) 1 (.const (.slice none 0 0)), none⟩])
 (.seq (.blk [⟨some 2, .mv (.const (.int .u32 0)), none⟩])
 (.ret))))
 (.skip)))
 (.seq (.blk [⟨some 21, .mv (.tmp 0), none⟩,
 ⟨some 22, .mv (.tmp 0), none⟩,
 ⟨some 23, .nilc (.tmp 22), none⟩,
 ⟨some 24, .fad (.tmp 23) 0, none⟩,
 ⟨some 25, .ld (.tmp 24), none⟩,
 ⟨some 26, .mv (.tmp 4), none⟩,
 ⟨some 27, .slice (.tmp 25) (some (.tmp 26)) none none 1, none⟩,
 ⟨some 28, .nilc (.tmp 21), none⟩,
 ⟨some 29, .fad (.tmp 28) 0, none⟩,
 ⟨none, .st (.tmp 29) 1 (.tmp 27), none⟩])
 (.seq (.blk [⟨some 30, .mv (.tmp 3), none⟩,
 ⟨some 2, .mv (.tmp 30), none⟩])
 (.ret))))),
 [.tmp 2], 31)
def ir_kUvarint (_F : Nat → Nat) : IC × List RV × Nat := (.seq (.blk [⟨some 2, .mv (.const (.int .u32 0)), none⟩,
 ⟨some 3, .mv (.const (.int .i64 0)), none⟩])
 (.scopeTo (.seq (.blk [⟨some 4, .mv (.const (.int .u32 0)), none⟩])
 (.seq (.blk [⟨some 5, .mv (.const (.int .i64 0)), none⟩])
 (.seq (.seq (.blk [⟨some 6, .mv (.tmp 0), none⟩,
 ⟨some 7, .len (.tmp 6), none⟩,
 ⟨some 8, .bin .lss (.tmp 7) (.const (.int .i64 1)), none⟩])
 (.cond (.tmp 8)
 (.goto 0)
 (.skip)))
 (.seq (.blk [⟨some 9, .mv (.tmp 0), none⟩,
 ⟨some 10, .iad (.tmp 9) (.const (.int .i64 0)) 1, none⟩,
 ⟨some 11, .ld (.tmp 10), none⟩,
 ⟨some 12, .bin .and (.tmp 11) (.const (.int .u8 127)), none⟩,
 ⟨some 13, .conv .u32 (.tmp 12), none⟩,
 ⟨some 4, .mv (.tmp 13), none⟩])
 (.seq (.seq (.blk [⟨some 14, .mv (.tmp 0), none⟩,
 ⟨some 15, .iad (.tmp 14) (.const (.int .i64 0)) 1, none⟩,
 ⟨some 16, .ld (.tmp 15), none⟩,
 ⟨some 17, .bin .and (.tmp 16) (.const (.int .u8 128)), none⟩,
 ⟨some 18, .bin .eql (.tmp 17) (.const (.int .u8 0)), none⟩])
 (.cond (.tmp 18)
 (.seq (.blk [⟨some 19, .mv (.tmp 4), none⟩,
 ⟨some 2, .mv (.tmp 19), none⟩,
 ⟨some 3, .mv (.const (.int .i64 1)), none⟩])
 (.ret))
 (.seq (.blk [⟨some 20, .mv (.tmp 0), none⟩,
 ⟨some 21, .len (.tmp 20), none⟩,
 ⟨some 22, .bin .lss (.tmp 21) (.const (.int .i64 2)), none⟩])
 (.cond (.tmp 22)
 (.goto 0)
 (.skip)))))
 (.seq (.blk [⟨some 23, .mv (.tmp 4), none⟩,
 ⟨some 24, .mv (.tmp 0), none⟩,
 ⟨some 25, .iad (.tmp 24) (.const (.int .i64 1)) 1, none⟩,
 ⟨some 26, .ld (.tmp 25), none⟩,
 ⟨some 27, .bin .and (.tmp 26) (.const (.int .u8 127)), none⟩,
 ⟨some 28, .conv .u32 (.tmp 27), none⟩,
 ⟨some 29, .bin .shl (.tmp 28) (.const (.int .u64 7)), none⟩,
 ⟨some 30, .bin .or (.tmp 23) (.tmp 29), none⟩,
 ⟨some 4, .mv (.tmp 30), none⟩])
 (.seq (.seq (.blk [⟨some 31, .mv (.tmp 0), none⟩,
 ⟨some 32, .iad (.tmp 31) (.const (.int .i64 1)) 1, none⟩,
 ⟨some 33, .ld (.tmp 32), none⟩,
 ⟨some 34, .bin .and (.tmp 33) (.const (.int .u8 128)), none⟩,
 ⟨some 35, .bin .eql (.tmp 34) (.const (.int .u8 0)), none⟩])
 (.cond (.tmp 35)
 (.seq (.blk [⟨some 36, .mv (.tmp 4), none⟩,
 ⟨some 2, .mv (.tmp 36), none⟩,
 ⟨some 3, .mv (.const (.int .i64 2)), none⟩])
 (.ret))
 (.seq (.blk [⟨some 37, .mv (.tmp 0), none⟩,
 ⟨some 38, .len (.tmp 37), none⟩,
 ⟨some 39, .bin .lss (.tmp 38) (.const (.int .i64 3)), none⟩])
 (.cond (.tmp 39)
 (.goto 0)
 (.skip)))))
 (.seq (.blk [⟨some 40, .mv (.tmp 4), none⟩,
 ⟨some 41, .mv (.tmp 0), none⟩,
 ⟨some 42, .iad (.tmp 41) (.const (.int .i64 2)) 1, none⟩,
 ⟨some 43, .ld (.tmp 42), none⟩,
 ⟨some 44, .bin .and (.tmp 43) (.const (.int .u8 127)), none⟩,
 ⟨some 45, .conv .u32 (.tmp 44), none⟩,
 ⟨some 46, .bin .shl (.tmp 45) (.const (.int .u64 14)), none⟩,
 ⟨some 47, .bin .or (.tmp 40) (.tmp 46), none⟩,
 ⟨some 4, .mv (.tmp 47), none⟩])
 (.seq (.seq (.blk [⟨some 48, .mv (.tmp 0), none⟩,
 ⟨some 49, .iad (.tmp 48) (.const (.int .i64 2)) 1, none⟩,
 ⟨some 50, .ld (.tmp 49), none⟩,
 ⟨some 51, .bin .and (.tmp 50) (.const (.int .u8 128)), none⟩,
 ⟨some 52, .bin .eql (.tmp 51) (.const (.int .u8 0)), none⟩])
 (.cond (.tmp 52)
 (.seq (.blk [⟨some 53, .mv (.tmp 4), none⟩,
 ⟨some 2, .mv (.tmp 53), none⟩,
 ⟨some 3, .mv (.const (.int .i64 3)), none⟩])
 (.ret))
 (.seq (.blk [⟨some 54, .mv (.tmp 0), none⟩,
 ⟨some 55, .len (.tmp 54), none⟩,
 ⟨some 56, .bin .lss (.tmp 55) (.const (.int .i64 4)), none⟩])
 (.cond (.tmp 56)
 (.goto 0)
 (.skip)))))
 (.seq (.blk [⟨some 57, .mv (.tmp 4), none⟩,
 ⟨some 58, .mv (.tmp 0), none⟩,
 ⟨some 59, .iad (.tmp 58) (.const (.int .i64 3)) 1, none⟩,
 ⟨some 60, .ld (.tmp 59), none⟩,
 ⟨some 61, .bin .and (.tmp 60) (.const (.int .u8 127)), none⟩,
 ⟨some 62, .conv .u32 (.tmp 61), none⟩,
 ⟨some 63, .bin .shl (.tmp 62) (.const (.int .u64 21)), none⟩,
 ⟨some 64, .bin .or (.tmp 57) (.tmp 63), none⟩,
 ⟨some 4, .mv (.tmp 64), none⟩])
 (.seq (.seq (.blk [⟨some 65, .mv (.tmp 0), none⟩,
 ⟨some 66, .iad (.tmp 65) (.const (.int .i64 3)) 1, none⟩,
 ⟨some 67, .ld (.tmp 66), none⟩,
 ⟨some 68, .bin .and (.tmp 67) (.const (.int .u8 128)), none⟩,
 ⟨some 69, .bin .eql (.tmp 68) (.const (.int .u8 0)), none⟩])
 (.cond (.tmp 69)
 (.seq (.blk [⟨some 70, .mv (.tmp 4), none⟩,
 ⟨some 2, .mv (.tmp 70), none⟩,
 ⟨some 3, .mv (.const (.int .i64 4)), none⟩])
 (.ret))
 (.seq (.blk [⟨some 71, .mv (.tmp 0), none⟩,
 ⟨some 72, .len (.tmp 71), none⟩,
 ⟨some 73, .bin .lss (.tmp 72) (.const (.int .i64 5)), none⟩])
 (.cond (.tmp 73)
 (.goto 0)
 (.skip)))))
 (.seq (.blk [⟨some 74, .mv (.tmp 4), none⟩,
 ⟨some 75, .mv (.tmp 0), none⟩,
 ⟨some 76, .iad (.tmp 75) (.const (.int .i64 4)) 1, none⟩,
 ⟨some 77, .ld (.tmp 76), none⟩,
 ⟨some 78, .conv .u32 (.tmp 77), none⟩,
 ⟨some 79, .bin .shl (.tmp 78) (.const (.int .u64 28)), none⟩,
 ⟨some 80, .bin .or (.tmp 74) (.tmp 79), none⟩,
 ⟨some 4, .mv (.tmp 80), none⟩])
 (.seq (.seq (.blk [⟨some 81, .mv (.tmp 0), none⟩,
 ⟨some 82, .iad (.tmp 81) (.const (.int .i64 4)) 1, none⟩,
 ⟨some 83, .ld (.tmp 82), none⟩,
 ⟨some 84, .bin .leq (.tmp 83) (.const (.int .u8 15)), none⟩])
 (.cond (.tmp 84)
 (.seq (.blk [⟨some 85, .mv (.tmp 4), none⟩,
 ⟨some 2, .mv (.tmp 85), none⟩,
 ⟨some 3, .mv (.const (.int .i64 5)), none⟩])
 (.ret))
 (.skip)))
 (.seq (.blk [⟨some 5, .mv (.const (.int .i64 (-5))), none⟩])
 (.seq (.skip)
 (.seq (.blk [⟨some 86, .mv (.tmp 5), none⟩,
 ⟨some 2, .mv (.const (.int .u32 0)), none⟩,
 ⟨some 3, .mv (.tmp 86), none⟩])
 (.ret))))))))))))))))) 0
 (.seq (.skip)
 (.seq (.blk [⟨some 86, .mv (.tmp 5), none⟩,
 ⟨some 2, .mv (.const (.int .u32 0)), none⟩,
 ⟨some 3, .mv (.tmp 86), none⟩])
 (.ret)))),
 [.tmp 2, .tmp 3], 87)
def ir_rCompactString (F : Nat → Nat) : IC × List RV × Nat := (.seq (.blk [⟨some 2, .mv (.const (.string .empty)), none⟩])
 (.seq (.blk [⟨some 4, .mv (.tmp 0), none⟩,
 ⟨some 5, .call (F rUvarint) [.tmp 4], none⟩,
 ⟨some 6, .conv .i64 (.tmp 5), none⟩,
 ⟨some 7, .bin .sub (.tmp 6) (.const (.int .i64 1)), none⟩,
 ⟨some 3, .mv (.tmp 7), none⟩])
 (.seq (.blk [⟨some 8, .mv (.tmp 0), none⟩,
 ⟨some 9, .mv (.tmp 3), none⟩,
 ⟨some 10, .call (F rSpan) [.tmp 8, .tmp 9], none⟩,
 ⟨some 11, .b2s (.tmp 10), none⟩,
 ⟨some 2, .mv (.tmp 11), none⟩])
 (.ret))),
 [.tmp 2], 12)
def ir_rUnsafeCompactString (F : Nat → Nat) : IC × List RV × Nat := (.seq (.blk [⟨some 2, .mv (.const (.string .empty)), none⟩])
 (.seq (.blk [⟨some 4, .mv (.tmp 0), none⟩,
 ⟨some 5, .call (F rUvarint) [.tmp 4], none⟩,
 ⟨some 6, .conv .i64 (.tmp 5), none⟩,
 ⟨some 7, .bin .sub (.tmp 6) (.const (.int .i64 1)), none⟩,
 ⟨some 3, .mv (.tmp 7), none⟩])
 (.seq (.blk [⟨some 8, .mv (.tmp 0), none⟩,
 ⟨some 9, .mv (.tmp 3), none⟩,
 ⟨some 10, .call (F rSpan) [.tmp 8, .tmp 9], none⟩,
 ⟨some 11, .call (F kUnsafeString) [.tmp 10], none⟩,
 ⟨some 2, .mv (.tmp 11), none⟩])
 (.ret))),
 [.tmp 2], 12)
def ir_rCompactNullableString (F : Nat → Nat) : IC × List RV × Nat := (.seq (.blk [⟨some 2, .mv (.const (.pointer none)), none⟩])
 (.seq (.blk [⟨some 5, .mv (.tmp 0), none⟩,
 ⟨some 6, .call (F rUvarint) [.tmp 5], none⟩,
 ⟨some 7, .conv .i64 (.tmp 6), none⟩,
 ⟨some 8, .bin .sub (.tmp 7) (.const (.int .i64 1)), none⟩,
 ⟨some 3, .mv (.tmp 8), none⟩])
 (.seq (.seq (.blk [⟨some 9, .mv (.tmp 3), none⟩,
 ⟨some 10, .bin .lss (.tmp 9) (.const (.int .i64 0)), none⟩])
 (.cond (.tmp 10)
 (.seq (.blk [⟨some 2, .mv (.const (.pointer none)), none⟩])
 (.ret))
 (.skip)))
 (.seq (.blk [⟨some 11, .mv (.tmp 0), none⟩,
 ⟨some 12, .mv (.tmp 3), none⟩,
 ⟨some 13, .call (F rSpan) [.tmp 11, .tmp 12], none⟩,
 ⟨some 14, .b2s (.tmp 13), none⟩,
 ⟨some 4, .alloc [.string .empty], none⟩,
 ⟨none, .st (.tmp 4) 1 (.tmp 14), none⟩])
 (.seq (.blk [⟨some 2, .mv (.tmp 4), none⟩])
 (.ret))))),
 [.tmp 2], 15)
def ir_rUnsafeCompactNullableString (F : Nat → Nat) : IC × List RV × Nat := (.seq (.blk [⟨some 2, .mv (.const (.pointer none)), none⟩])
 (.seq (.blk [⟨some 5, .mv (.tmp 0), none⟩,
 ⟨some 6, .call (F rUvarint) [.tmp 5], none⟩,
 ⟨some 7, .conv .i64 (.tmp 6), none⟩,
 ⟨some 8, .bin .sub (.tmp 7) (.const (.int .i64 1)), none⟩,
 ⟨some 3, .mv (.tmp 8), none⟩])
 (.seq (.seq (.blk [⟨some 9, .mv (.tmp 3), none⟩,
 ⟨some 10, .bin .lss (.tmp 9) (.const (.int .i64 0)), none⟩])
 (.cond (.tmp 10)
 (.seq (.blk [⟨some 2, .mv (.const (.pointer none)), none⟩])
 (.ret))
 (.skip)))
 (.seq (.blk [⟨some 11, .mv (.tmp 0), none⟩,
 ⟨some 12, .mv (.tmp 3), none⟩,
 ⟨some 13, .call (F rSpan) [.tmp 11, .tmp 12], none⟩,
 ⟨some 14, .call (F kUnsafeString) [.tmp 13], none⟩,
 ⟨some 4, .alloc [.string .empty], none⟩,
 ⟨none, .st (.tmp 4) 1 (.tmp 14), none⟩])
 (.seq (.blk [⟨some 2, .mv (.tmp 4), none⟩])
 (.ret))))),
 [.tmp 2], 15)
def ir_rBytes (F : Nat → Nat) : IC × List RV × Nat := (.seq (.blk [⟨some 2, .mv (.const (.slice none 0 0)), none⟩])
 (.seq (.blk [⟨some 4, .mv (.tmp 0), none⟩,
 ⟨some 5, .call (F rInt32) [.tmp 4], none⟩,
 ⟨some 3, .mv (.tmp 5), none⟩])
 (.seq (.seq (.blk [⟨some 6, .mv (.tmp 3), none⟩,
 ⟨some 7, .bin .eql (.tmp 6) (.const (.int .i32 (-1))), none⟩])
 (.cond (.tmp 7)
 (.seq (.blk [⟨some 8, .bslice 0 [.int .u8 0] [], none⟩,
 ⟨some 2, .mv (.tmp 8), none⟩])
 (.ret))
 (.skip)))
 (.seq (.blk [⟨some 9, .mv (.tmp 0), none⟩,
 ⟨some 10, .mv (.tmp 3), none⟩,
 ⟨some 11, .conv .i64 (.tmp 10), none⟩,
 ⟨some 12, .call (F rSpan) [.tmp 9, .tmp 11], none⟩,
 ⟨some 2, .mv (.tmp 12), none⟩])
 (.ret)))),
 [.tmp 2], 13)
def ir_rCompactBytes (F : Nat → Nat) : IC × List RV × Nat := (.seq (.blk [⟨some 2, .mv (.const (.slice none 0 0)), none⟩])
 (.seq (.blk [⟨some 4, .mv (.tmp 0), none⟩,
 ⟨some 5, .call (F rUvarint) [.tmp 4], none⟩,
 ⟨some 6, .conv .i64 (.tmp 5), none⟩,
 ⟨some 7, .bin .sub (.tmp 6) (.const (.int .i64 1)), none⟩,
 ⟨some 3, .mv (.tmp 7), none⟩])
 (.seq (.seq (.blk [⟨some 8, .mv (.tmp 3), none⟩,
 ⟨some 9, .bin .eql (.tmp 8) (.const (.int .i64 (-1))), none⟩])
 (.cond (.tmp 9)
 (.seq (.blk [⟨some 10, .bslice 0 [.int .u8 0] [], none⟩,
 ⟨some 2, .mv (.tmp 10), none⟩])
 (.ret))
 (.skip)))
 (.seq (.blk [⟨some 11, .mv (.tmp 0), none⟩,
 ⟨some 12, .mv (.tmp 3), none⟩,
 ⟨some 13, .call (F rSpan) [.tmp 11, .tmp 12], none⟩,
 ⟨some 2, .mv (.tmp 13), none⟩])
 (.ret)))),
 [.tmp 2], 14)
def ir_rCompactNullableBytes (F : Nat → Nat) : IC × List RV × Nat := (.seq (.blk [⟨some 2, .mv (.const (.slice none 0 0)), none⟩])
 (.seq (.blk [⟨some 5, .mv (.tmp 0), none⟩,
 ⟨some 6, .call (F rUvarint) [.tmp 5], none⟩,
 ⟨some 7, .conv .i64 (.tmp 6), none⟩,
 ⟨some 8, .bin .sub (.tmp 7) (.const (.int .i64 1)), none⟩,
 ⟨some 3, .mv (.tmp 8), none⟩])
 (.seq (.seq (.blk [⟨some 9, .mv (.tmp 3), none⟩,
 ⟨some 10, .bin .lss (.tmp 9) (.const (.int .i64 0)), none⟩])
 (.cond (.tmp 10)
 (.seq (.blk [⟨some 2, .mv (.const (.slice none 0 0)), none⟩])
 (.ret))
 (.skip)))
 (.seq (.blk [⟨some 11, .mv (.tmp 0), none⟩,
 ⟨some 12, .mv (.tmp 3), none⟩,
 ⟨some 13, .call (F rSpan) [.tmp 11, .tmp 12], none⟩,
 ⟨some 4, .mv (.tmp 13), none⟩])
 (.seq (.blk [⟨some 14, .mv (.tmp 4), none⟩,
 ⟨some 2, .mv (.tmp 14), none⟩])
 (.ret))))),
 [.tmp 2], 15)
def ir_rCompactArrayLen (F : Nat → Nat) : IC × List RV × Nat := (.seq (.blk [⟨some 2, .mv (.const (.int .i32 0)), none⟩])
 (.seq (.blk [⟨some 4, .mv (.tmp 0), none⟩,
 ⟨some 5, .call (F rUvarint) [.tmp 4], none⟩,
 ⟨some 6, .conv .i32 (.tmp 5), none⟩,
 ⟨some 7, .bin .sub (.tmp 6) (.const (.int .i32 1)), none⟩,
 ⟨some 3, .mv (.tmp 7), none⟩])
 (.seq (.seq (.blk [⟨some 8, .mv (.tmp 0), none⟩,
 ⟨some 9, .nilc (.tmp 8), none⟩,
 ⟨some 10, .fad (.tmp 9) 0, none⟩,
 ⟨some 11, .ld (.tmp 10), none⟩,
 ⟨some 12, .len (.tmp 11), none⟩,
 ⟨some 13, .mv (.tmp 3), none⟩,
 ⟨some 14, .conv .i64 (.tmp 13), none⟩,
 ⟨some 15, .bin .lss (.tmp 12) (.tmp 14), none⟩])
 (.cond (.tmp 15)
 (.seq (.blk [⟨some 16, .mv (.tmp 0), none⟩,
 ⟨some 17, .nilc (.tmp 16), none⟩,
 ⟨some 18, .fad (.tmp 17) 1, none⟩,
 ⟨none, .st (.tmp 18) 1 (.const (.bool true)), none⟩])
 (.seq (.blk [⟨some 19, .mv (.tmp 0), none⟩,
 ⟨some 20, .nilc (.tmp 19), none⟩,
 ⟨some 21, .fad (.tmp 20) 0, none⟩,
 ⟨none, .st (.tmp 21) 1 (.const (.slice none 0 0)), none⟩])
 (.seq (.blk [⟨some 2, .mv (.const (.int .i32 0)), none⟩])
 (.ret))))
 (.skip)))
 (.seq (.blk [⟨some 22, .mv (.tmp 3), none⟩,
 ⟨some 2, .mv (.tmp 22), none⟩])
 (.ret)))),
 [.tmp 2], 23)
end Go.Msk

namespace Go.Msk
open Go.RowKit
set_option maxRecDepth 100000
def uvR : Nat → List UInt8 → Option (Nat × Nat)
  | 0, _ => none
  | _ + 1, [] => none
  | n + 1, b :: r =>
    if b.toNat < 128 then (if n = 0 ∧ 15 < b.toNat then none else some (b.toNat, 1))
    else match uvR n r with
      | some (v, k) => some (b.toNat % 128 + 128 * v, k + 1)
      | none => none
theorem and127 (b : UInt8) : intBin .and .u8 (b.toNat : Int) 127 = some (.int .u8 ((b.toNat % 128 : Nat) : Int)) := by
  have key : ∀ n, n < 256 → intBin .and .u8 (n : Nat) 127 = some (.int .u8 ((n % 128 : Nat) : Int)) := by
    intro n hn
    simp only [intBin]
    congr 2
    have h : ∀ n : Fin 256, IntKind.u8.wrap ((BitVec.ofInt IntKind.u8.bits (n.val : Int) &&& BitVec.ofInt IntKind.u8.bits 127).toNat : Int) = ((n.val % 128 : Nat) : Int) := by decide +kernel
    exact h ⟨n, hn⟩
  exact key _ (byte_lt b)
theorem and128 (b : UInt8) : intBin .and .u8 (b.toNat : Int) 128 = some (.int .u8 (if b.toNat < 128 then 0 else 128)) := by
  have key : ∀ n, n < 256 → intBin .and .u8 (n : Nat) 128 = some (.int .u8 (if n < 128 then 0 else 128)) := by
    intro n hn
    simp only [intBin]
    congr 2
    have h : ∀ n : Fin 256, IntKind.u8.wrap ((BitVec.ofInt IntKind.u8.bits (n.val : Int) &&& BitVec.ofInt IntKind.u8.bits 128).toNat : Int) = (if n.val < 128 then 0 else 128) := by decide +kernel
    exact h ⟨n, hn⟩
  exact key _ (byte_lt b)
theorem u32_nat {n : Nat} (h : n < 4294967296) : IntKind.u32.wrap (n : Int) = n := by
  simp [IntKind.wrap, IntKind.bits, IntKind.signed]; omega
theorem shl_u32 {x s : Nat} (hs : s ≤ 32) (hx : x * 2 ^ s < 4294967296) : intBin .shl .u32 (x : Int) (s : Int) = some (.int .u32 ((x * 2 ^ s : Nat) : Int)) :=
  bin_shl (k := .u32) rfl (by simpa [IntKind.bits] using hs) (by simpa [IntKind.bits] using hx)
theorem or_u32 {x y s : Nat} (hx : x < 2 ^ s) (hs : s ≤ 32) (hy : y * 2 ^ s < 4294967296) : intBin .or .u32 (x : Int) ((y * 2 ^ s : Nat) : Int) = some (.int .u32 ((x + y * 2 ^ s : Nat) : Int)) := by
  have h2 : (2 : Nat) ^ s ≤ 2 ^ 32 := Nat.pow_le_pow_right (by omega) hs
  have e := bin_or (k := .u32) rfl (x := x) (y := y * 2 ^ s) (by simp only [IntKind.bits]; omega) (by simpa [IntKind.bits] using hy)
  rw [e, Nat.or_comm, Nat.or_comm, or_add y x s hx, Nat.add_comm]
section
variable {P : Program}
structure UvS (a : Addr) (len cap : Nat) (x : Nat) (σ : Sl) : Prop where
  s0 : σ 0 = .slice (some a) len cap
  s4 : σ 4 = .int .u32 x
  s5 : σ 5 = .int .i64 0
theorem uv_level {t i sh x len cap : Nat} {a : Addr} {l : List UInt8} {b : UInt8} {ii i2 ss : Int} {σ : Sl} {w : World} {rest : IC} {Q : Exit → Sl → World → Prop} (ht : 6 ≤ t) (hb : IsBytes w (some a) len cap l) (hi : l[i]? = some b) (hx : x < 2 ^ sh) (hsh : sh ≤ 21)
    (eii : ii = i) (ei2 : i2 = i + 2) (ess : ss = sh) (hS : UvS a len cap x σ)
    (hret : b.toNat < 128 → ∀ σ', σ' 2 = .int .u32 ((x + b.toNat * 2 ^ sh : Nat) : Int) → σ' 3 = .int .i64 (i + 1) → Q .ret σ' w)
    (hgo : ¬ b.toNat < 128 → len < i + 2 → ∀ σ', σ' 5 = .int .i64 0 → Q (.goto 0) σ' w)
    (hnext : ¬ b.toNat < 128 → ¬ len < i + 2 → ∀ σ', UvS a len cap (x + (b.toNat % 128) * 2 ^ sh) σ' → wpC P rest Q σ' w) :
    wpC P (.seq (.blk [⟨some t, .mv (.tmp 4), none⟩, ⟨some (t + 1), .mv (.tmp 0), none⟩, ⟨some (t + 2), .iad (.tmp (t + 1)) (.const (.int .i64 ii)) 1, none⟩, ⟨some (t + 3), .ld (.tmp (t + 2)), none⟩,
        ⟨some (t + 4), .bin .and (.tmp (t + 3)) (.const (.int .u8 127)), none⟩, ⟨some (t + 5), .conv .u32 (.tmp (t + 4)), none⟩, ⟨some (t + 6), .bin .shl (.tmp (t + 5)) (.const (.int .u64 ss)), none⟩, ⟨some (t + 7), .bin .or (.tmp t) (.tmp (t + 6)), none⟩, ⟨some 4, .mv (.tmp (t + 7)), none⟩])
      (.seq (.seq (.blk [⟨some (t + 8), .mv (.tmp 0), none⟩, ⟨some (t + 9), .iad (.tmp (t + 8)) (.const (.int .i64 ii)) 1, none⟩, ⟨some (t + 10), .ld (.tmp (t + 9)), none⟩, ⟨some (t + 11), .bin .and (.tmp (t + 10)) (.const (.int .u8 128)), none⟩, ⟨some (t + 12), .bin .eql (.tmp (t + 11)) (.const (.int .u8 0)), none⟩])
        (.cond (.tmp (t + 12)) (.seq (.blk [⟨some (t + 13), .mv (.tmp 4), none⟩, ⟨some 2, .mv (.tmp (t + 13)), none⟩, ⟨some 3, .mv (.const (.int .i64 (i + 1))), none⟩]) .ret)
          (.seq (.blk [⟨some (t + 14), .mv (.tmp 0), none⟩, ⟨some (t + 15), .len (.tmp (t + 14)), none⟩, ⟨some (t + 16), .bin .lss (.tmp (t + 15)) (.const (.int .i64 i2)), none⟩]) (.cond (.tmp (t + 16)) (.goto 0) .skip)))) rest)) Q σ w := by
  subst eii ei2 ess
  have hlt := hb.lt hi
  have hg := hb.get hi
  have hbl := byte_lt b
  have hp : (2 : Nat) ^ sh ≤ 2 ^ 21 := Nat.pow_le_pow_right (by omega) hsh
  have hm1 : (b.toNat % 128) * 2 ^ sh ≤ 127 * 2 ^ 21 := Nat.mul_le_mul (by omega) hp
  have h1 : (b.toNat % 128) * 2 ^ sh < 4294967296 := by omega
  have h2 : x + (b.toNat % 128) * 2 ^ sh < 4294967296 := by omega
  have e1 : IntKind.u32.wrap ((b.toNat % 128 : Nat) : Int) = ((b.toNat % 128 : Nat) : Int) := u32_nat (by omega)
  rw [wpC_seq, wpC_blk]
  refine wpR_step (v := .int .u32 x) (congrArg some hS.s4) ?_
  refine wpR_step (v := .slice (some a) len cap) (by simp only [RK.val?, ev, updo, upd, show (0 : Nat) ≠ t by omega, if_false, hS.s0]) ?_
  refine wpR_step (v := .pointer (some (a.add i))) (by simp only [RK.val?, ev, updo, upd, if_true]; rw [if_pos (by omega)]; simp) ?_
  refine wpR_step (v := .int .u8 b.toNat) (by simp only [RK.val?, ev, updo, upd, if_true]; exact hg) ?_
  refine wpR_step (v := .int .u8 ((b.toNat % 128 : Nat) : Int)) (by simp only [RK.val?, ev, updo, upd, if_true, decide_true, Bool.or_true]; exact and127 b) ?_
  refine wpR_step (v := .int .u32 ((b.toNat % 128 : Nat) : Int)) (by simp only [RK.val?, ev, updo, upd, if_true, e1]) ?_
  refine wpR_step (v := .int .u32 (((b.toNat % 128) * 2 ^ sh : Nat) : Int)) (by simp only [RK.val?, ev, updo, upd, if_true, isShift, Bool.true_or]; exact shl_u32 (by omega) h1) ?_
  refine wpR_step (v := .int .u32 ((x + (b.toNat % 128) * 2 ^ sh : Nat) : Int)) (by
    simp only [RK.val?, ev, updo, upd, show t ≠ t + 6 by omega, show t ≠ t + 5 by omega, show t ≠ t + 4 by omega, show t ≠ t + 3 by omega, show t ≠ t + 2 by omega, show t ≠ t + 1 by omega, if_false, if_true, decide_true, Bool.or_true]
    exact or_u32 hx (by omega) h1) ?_
  refine wpR_step (v := .int .u32 ((x + (b.toNat % 128) * 2 ^ sh : Nat) : Int)) (by simp only [RK.val?, ev, updo, upd, if_true]) ?_
  refine wpR_done ?_
  generalize hσ1 : updo _ (some 4) _ = σ1
  have k0 : σ1 0 = .slice (some a) len cap := by
    rw [← hσ1]; simp only [updo, upd, show (0 : Nat) ≠ 4 by omega, show (0 : Nat) ≠ t + 7 by omega, show (0 : Nat) ≠ t + 6 by omega, show (0 : Nat) ≠ t + 5 by omega, show (0 : Nat) ≠ t + 4 by omega, show (0 : Nat) ≠ t + 3 by omega, show (0 : Nat) ≠ t + 2 by omega, show (0 : Nat) ≠ t + 1 by omega, show (0 : Nat) ≠ t by omega, if_false, hS.s0]
  have k4 : σ1 4 = .int .u32 ((x + (b.toNat % 128) * 2 ^ sh : Nat) : Int) := by rw [← hσ1]; rfl
  have k5 : σ1 5 = .int .i64 0 := by
    rw [← hσ1]; simp only [updo, upd, show (5 : Nat) ≠ 4 by omega, show (5 : Nat) ≠ t + 7 by omega, show (5 : Nat) ≠ t + 6 by omega, show (5 : Nat) ≠ t + 5 by omega, show (5 : Nat) ≠ t + 4 by omega, show (5 : Nat) ≠ t + 3 by omega, show (5 : Nat) ≠ t + 2 by omega, show (5 : Nat) ≠ t + 1 by omega, show (5 : Nat) ≠ t by omega, if_false, hS.s5]
  clear hσ1
  rw [wpC_seq, wpC_seq, wpC_blk]
  refine wpR_step (v := .slice (some a) len cap) (congrArg some k0) ?_
  refine wpR_step (v := .pointer (some (a.add i))) (by simp only [RK.val?, ev, updo, upd, if_true]; rw [if_pos (by omega)]; simp) ?_
  refine wpR_step (v := .int .u8 b.toNat) (by simp only [RK.val?, ev, updo, upd, if_true]; exact hg) ?_
  refine wpR_step (v := .int .u8 (if b.toNat < 128 then 0 else 128)) (by simp only [RK.val?, ev, updo, upd, if_true, decide_true, Bool.or_true]; exact and128 b) ?_
  refine wpR_step (v := .bool (decide (b.toNat < 128))) (by
    simp only [RK.val?, ev, updo, upd, if_true, decide_true, Bool.or_true, intBin]
    by_cases hbb : b.toNat < 128 <;> simp [hbb]) ?_
  refine wpR_done ?_
  by_cases hbb : b.toNat < 128
  · rw [wpC_cond_t (by simp only [ev, updo, upd, if_true, hbb, decide_true]), wpC_seq, wpC_blk]
    refine wpR_step (v := .int .u32 ((x + (b.toNat % 128) * 2 ^ sh : Nat) : Int)) (by
      simp only [RK.val?, ev, updo, upd, show (4 : Nat) ≠ t + 8 by omega, show (4 : Nat) ≠ t + 9 by omega, show (4 : Nat) ≠ t + 10 by omega, show (4 : Nat) ≠ t + 11 by omega, show (4 : Nat) ≠ t + 12 by omega, if_false, k4]) ?_
    refine wpR_step (v := .int .u32 ((x + (b.toNat % 128) * 2 ^ sh : Nat) : Int)) (by simp only [RK.val?, ev, updo, upd, if_true]) ?_
    refine wpR_step (v := .int .i64 (i + 1)) rfl ?_
    refine wpR_done ?_
    refine hret hbb _ ?_ rfl
    rw [Nat.mod_eq_of_lt hbb]; rfl
  · rw [wpC_cond_f (by simp only [ev, updo, upd, if_true, hbb, decide_false]), wpC_seq, wpC_blk]
    refine wpR_step (v := .slice (some a) len cap) (by
      simp only [RK.val?, ev, updo, upd, show (0 : Nat) ≠ t + 8 by omega, show (0 : Nat) ≠ t + 9 by omega, show (0 : Nat) ≠ t + 10 by omega, show (0 : Nat) ≠ t + 11 by omega, show (0 : Nat) ≠ t + 12 by omega, if_false, k0]) ?_
    refine wpR_step (v := .int .i64 len) (by simp only [RK.val?, ev, updo, upd, if_true]) ?_
    refine wpR_step (v := .bool (decide (len < i + 2))) (by
      simp only [RK.val?, ev, updo, upd, if_true, decide_true, Bool.or_true, intBin]
      congr 2
      exact decide_eq_decide.2 (by omega)) ?_
    refine wpR_done ?_
    have g : ∀ j, j < 6 → (updo (updo (updo (updo (updo (updo (updo (updo σ1 (some (t + 8)) (.slice (some a) len cap)) (some (t + 9)) (.pointer (some (a.add i)))) (some (t + 10)) (.int .u8 b.toNat)) (some (t + 11)) (.int .u8 (if b.toNat < 128 then 0 else 128))) (some (t + 12)) (.bool (decide (b.toNat < 128)))) (some (t + 14)) (.slice (some a) len cap)) (some (t + 15)) (.int .i64 len)) (some (t + 16)) (.bool (decide (len < i + 2)))) j = σ1 j := by
      intro j hj
      simp only [updo, upd, show j ≠ t + 8 by omega, show j ≠ t + 9 by omega, show j ≠ t + 10 by omega, show j ≠ t + 11 by omega, show j ≠ t + 12 by omega, show j ≠ t + 14 by omega, show j ≠ t + 15 by omega, show j ≠ t + 16 by omega, if_false]
    by_cases hl2 : len < i + 2
    · rw [wpC_cond_t (by simp only [ev, updo, upd, if_true, hl2, decide_true])]
      exact hgo hbb hl2 _ ((g 5 (by omega)).trans k5)
    · rw [wpC_cond_f (by simp only [ev, updo, upd, if_true, hl2, decide_false]), wpC_skip]
      exact hnext hbb hl2 _ ⟨(g 0 (by omega)).trans k0, (g 4 (by omega)).trans k4, (g 5 (by omega)).trans k5⟩
end
end Go.Msk
