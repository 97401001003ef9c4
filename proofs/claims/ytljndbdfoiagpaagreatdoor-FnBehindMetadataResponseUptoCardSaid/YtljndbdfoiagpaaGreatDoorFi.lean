/- A small language of resolved operations, and what the generic and the generated functions do in it (part 9). -/
import Derived.Test.YtljndbdfoiagpaaGreatDoorFh

namespace Go.Msk
open Go.RowKit
set_option maxRecDepth 100000
def tabU : ByteArray := ⟨#[1, 1, 1, 1, 1, 1, 1, 1, 2, 2, 2, 2, 2, 2, 2, 3, 3, 3, 3, 3, 3, 3, 4, 4, 4, 4, 4, 4, 4, 5, 5, 5, 5, 5, 5, 5, 6, 6, 6, 6, 6, 6, 6, 7, 7, 7, 7, 7, 7, 7, 8, 8, 8, 8, 8, 8, 8, 9, 9, 9, 9, 9, 9, 9, 10, 0, 0, 0, 0, 0, 0, 0, 0, 0, 0, 0, 0, 0, 0, 0, 0, 0, 0, 0, 0, 0, 0, 0, 0, 0, 0, 0, 0, 0, 0, 0, 0, 0, 0, 0, 0, 0, 0, 0, 0, 0, 0, 0, 0, 0, 0, 0, 0, 0, 0, 0, 0, 0, 0, 0, 0, 0, 0, 0, 0, 0, 0, 0, 0, 0, 0, 0, 0, 0, 0, 0, 0, 0, 0, 0, 0, 0, 0, 0, 0, 0, 0, 0, 0, 0, 0, 0, 0, 0, 0, 0, 0, 0, 0, 0, 0, 0, 0, 0, 0, 0, 0, 0, 0, 0, 0, 0, 0, 0, 0, 0, 0, 0, 0, 0, 0, 0, 0, 0, 0, 0, 0, 0, 0, 0, 0, 0, 0, 0, 0, 0, 0, 0, 0, 0, 0, 0, 0, 0, 0, 0, 0, 0, 0, 0, 0, 0, 0, 0, 0, 0, 0, 0, 0, 0, 0, 0, 0, 0, 0, 0, 0, 0, 0, 0, 0, 0, 0, 0, 0, 0, 0, 0, 0, 0, 0, 0, 0, 0, 0, 0, 0, 0, 0, 0, 0, 0, 0, 0, 0, 0]⟩
def tab8 : ByteArray := ⟨#[0, 1, 2, 2, 3, 3, 3, 3, 4, 4, 4, 4, 4, 4, 4, 4, 5, 5, 5, 5, 5, 5, 5, 5, 5, 5, 5, 5, 5, 5, 5, 5, 6, 6, 6, 6, 6, 6, 6, 6, 6, 6, 6, 6, 6, 6, 6, 6, 6, 6, 6, 6, 6, 6, 6, 6, 6, 6, 6, 6, 6, 6, 6, 6, 7, 7, 7, 7, 7, 7, 7, 7, 7, 7, 7, 7, 7, 7, 7, 7, 7, 7, 7, 7, 7, 7, 7, 7, 7, 7, 7, 7, 7, 7, 7, 7, 7, 7, 7, 7, 7, 7, 7, 7, 7, 7, 7, 7, 7, 7, 7, 7, 7, 7, 7, 7, 7, 7, 7, 7, 7, 7, 7, 7, 7, 7, 7, 7, 8, 8, 8, 8, 8, 8, 8, 8, 8, 8, 8, 8, 8, 8, 8, 8, 8, 8, 8, 8, 8, 8, 8, 8, 8, 8, 8, 8, 8, 8, 8, 8, 8, 8, 8, 8, 8, 8, 8, 8, 8, 8, 8, 8, 8, 8, 8, 8, 8, 8, 8, 8, 8, 8, 8, 8, 8, 8, 8, 8, 8, 8, 8, 8, 8, 8, 8, 8, 8, 8, 8, 8, 8, 8, 8, 8, 8, 8, 8, 8, 8, 8, 8, 8, 8, 8, 8, 8, 8, 8, 8, 8, 8, 8, 8, 8, 8, 8, 8, 8, 8, 8, 8, 8, 8, 8, 8, 8, 8, 8, 8, 8, 8, 8, 8, 8, 8, 8, 8, 8, 8, 8, 8, 8, 8, 8, 8, 8]⟩
def ir_kAppendBool (_F : Nat → Nat) : IC × List RV × Nat := (.seq (.blk [⟨some 4, .mv (.const (.slice none 0 0)), none⟩])
 (.seq (.seq (.blk [⟨some 5, .mv (.tmp 1), none⟩])
 (.cond (.tmp 5)
 (.seq (.blk [⟨some 6, .mv (.tmp 0), none⟩,
 ⟨some 7, .bslice 1 [.int .u8 0] [(0, 1, .const (.int .u8 1))], none⟩,
 ⟨some 8, .append (.tmp 6) (.tmp 7) 1 1, none⟩,
 ⟨some 4, .mv (.tmp 8), none⟩])
 (.ret))
 (.skip)))
 (.seq (.blk [⟨some 9, .mv (.tmp 0), none⟩,
 ⟨some 10, .bslice 1 [.int .u8 0] [(0, 1, .const (.int .u8 0))], none⟩,
 ⟨some 11, .append (.tmp 9) (.tmp 10) 1 1, none⟩,
 ⟨some 4, .mv (.tmp 11), none⟩])
 (.ret))),
 [.tmp 4], 12)
def ir_kAppendInt8 (_F : Nat → Nat) : IC × List RV × Nat := (.seq (.blk [⟨some 4, .mv (.const (.slice none 0 0)), none⟩])
 (.seq (.blk [⟨some 5, .mv (.tmp 0), none⟩,
 ⟨some 6, .mv (.tmp 1), none⟩,
 ⟨some 7, .conv .u8 (.tmp 6), none⟩,
 ⟨some 8, .bslice 1 [.int .u8 0] [(0, 1, .tmp 7)], none⟩,
 ⟨some 9, .append (.tmp 5) (.tmp 8) 1 1, none⟩,
 ⟨some 4, .mv (.tmp 9), none⟩])
 (.ret)),
 [.tmp 4], 10)
def ir_kAppendInt16 (F : Nat → Nat) : IC × List RV × Nat := (.seq (.blk [⟨some 4, .mv (.const (.slice none 0 0)), none⟩])
 (.seq (.blk [⟨some 5, .mv (.tmp 0), none⟩,
 ⟨some 6, .mv (.tmp 1), none⟩,
 ⟨some 7, .conv .u16 (.tmp 6), none⟩,
 ⟨some 8, .call (F kAppendUint16) [.tmp 5, .tmp 7], none⟩,
 ⟨some 4, .mv (.tmp 8), none⟩])
 (.ret)),
 [.tmp 4], 9)
def ir_kAppendUint16 (_F : Nat → Nat) : IC × List RV × Nat := (.seq (.blk [⟨some 4, .mv (.const (.slice none 0 0)), none⟩])
 (.seq (.blk [⟨some 5, .mv (.tmp 0), none⟩,
 ⟨some 6, .mv (.tmp 1), none⟩,
 ⟨some 7, .bin .shr (.tmp 6) (.const (.int .u64 8)), none⟩,
 ⟨some 8, .conv .u8 (.tmp 7), none⟩,
 ⟨some 9, .mv (.tmp 1), none⟩,
 ⟨some 10, .conv .u8 (.tmp 9), none⟩,
 ⟨some 11, .bslice 2 [.int .u8 0] [(0, 1, .tmp 8), (1, 1, .tmp 10)], none⟩,
 ⟨some 12, .append (.tmp 5) (.tmp 11) 1 1, none⟩,
 ⟨some 4, .mv (.tmp 12), none⟩])
 (.ret)),
 [.tmp 4], 13)
def ir_kAppendInt32 (F : Nat → Nat) : IC × List RV × Nat := (.seq (.blk [⟨some 4, .mv (.const (.slice none 0 0)), none⟩])
 (.seq (.blk [⟨some 5, .mv (.tmp 0), none⟩,
 ⟨some 6, .mv (.tmp 1), none⟩,
 ⟨some 7, .conv .u32 (.tmp 6), none⟩,
 ⟨some 8, .call (F kAppendUint32) [.tmp 5, .tmp 7], none⟩,
 ⟨some 4, .mv (.tmp 8), none⟩])
 (.ret)),
 [.tmp 4], 9)
def ir_kAppendUint32 (_F : Nat → Nat) : IC × List RV × Nat := (.seq (.blk [⟨some 4, .mv (.const (.slice none 0 0)), none⟩])
 (.seq (.blk [⟨some 5, .mv (.tmp 0), none⟩,
 ⟨some 6, .mv (.tmp 1), none⟩,
 ⟨some 7, .bin .shr (.tmp 6) (.const (.int .u64 24)), none⟩,
 ⟨some 8, .conv .u8 (.tmp 7), none⟩,
 ⟨some 9, .mv (.tmp 1), none⟩,
 ⟨some 10, .bin .shr (.tmp 9) (.const (.int .u64 16)), none⟩,
 ⟨some 11, .conv .u8 (.tmp 10), none⟩,
 ⟨some 12, .mv (.tmp 1), none⟩,
 ⟨some 13, .bin .shr (.tmp 12) (.const (.int .u64 8)), none⟩,
 ⟨some 14, .conv .u8 (.tmp 13), none⟩,
 ⟨some 15, .mv (.tmp 1), none⟩,
 ⟨some 16, .conv .u8 (.tmp 15), none⟩,
 ⟨some 17, .bslice 4 [.int .u8 0] [(0, 1, .tmp 8), (1, 1, .tmp 11), (2, 1, .tmp 14), (3, 1, .tmp 16)], none⟩,
 ⟨some 18, .append (.tmp 5) (.tmp 17) 1 1, none⟩,
 ⟨some 4, .mv (.tmp 18), none⟩])
 (.ret)),
 [.tmp 4], 19)
def ir_kAppendInt64 (F : Nat → Nat) : IC × List RV × Nat := (.seq (.blk [⟨some 4, .mv (.const (.slice none 0 0)), none⟩])
 (.seq (.blk [⟨some 5, .mv (.tmp 0), none⟩,
 ⟨some 6, .mv (.tmp 1), none⟩,
 ⟨some 7, .conv .u64 (.tmp 6), none⟩,
 ⟨some 8, .call (F kAppendUint64) [.tmp 5, .tmp 7], none⟩,
 ⟨some 4, .mv (.tmp 8), none⟩])
 (.ret)),
 [.tmp 4], 9)
def ir_kAppendUint64 (_F : Nat → Nat) : IC × List RV × Nat := (.seq (.blk [⟨some 4, .mv (.const (.slice none 0 0)), none⟩])
 (.seq (.blk [⟨some 5, .mv (.tmp 0), none⟩,
 ⟨some 6, .mv (.tmp 1), none⟩,
 ⟨some 7, .bin .shr (.tmp 6) (.const (.int .u64 56)), none⟩,
 ⟨some 8, .conv .u8 (.tmp 7), none⟩,
 ⟨some 9, .mv (.tmp 1), none⟩,
 ⟨some 10, .bin .shr (.tmp 9) (.const (.int .u64 48)), none⟩,
 ⟨some 11, .conv .u8 (.tmp 10), none⟩,
 ⟨some 12, .mv (.tmp 1), none⟩,
 ⟨some 13, .bin .shr (.tmp 12) (.const (.int .u64 40)), none⟩,
 ⟨some 14, .conv .u8 (.tmp 13), none⟩,
 ⟨some 15, .mv (.tmp 1), none⟩,
 ⟨some 16, .bin .shr (.tmp 15) (.const (.int .u64 32)), none⟩,
 ⟨some 17, .conv .u8 (.tmp 16), none⟩,
 ⟨some 18, .mv (.tmp 1), none⟩,
 ⟨some 19, .bin .shr (.tmp 18) (.const (.int .u64 24)), none⟩,
 ⟨some 20, .conv .u8 (.tmp 19), none⟩,
 ⟨some 21, .mv (.tmp 1), none⟩,
 ⟨some 22, .bin .shr (.tmp 21) (.const (.int .u64 16)), none⟩,
 ⟨some 23, .conv .u8 (.tmp 22), none⟩,
 ⟨some 24, .mv (.tmp 1), none⟩,
 ⟨some 25, .bin .shr (.tmp 24) (.const (.int .u64 8)), none⟩,
 ⟨some 26, .conv .u8 (.tmp 25), none⟩,
 ⟨some 27, .mv (.tmp 1), none⟩,
 ⟨some 28, .conv .u8 (.tmp 27), none⟩,
 ⟨some 29, .bslice 8 [.int .u8 0] [(0, 1, .tmp 8), (1, 1, .tmp 11), (2, 1, .tmp 14), (3, 1, .tmp 17), (4, 1, .tmp 20), (5, 1, .tmp 23), (6, 1, .tmp 26), (7, 1, .tmp 28)], none⟩,
 ⟨some 30, .append (.tmp 5) (.tmp 29) 1 1, none⟩,
 ⟨some 4, .mv (.tmp 30), none⟩])
 (.ret)),
 [.tmp 4], 31)
def ir_kAppendUuid (_F : Nat → Nat) : IC × List RV × Nat := (.seq (.blk [⟨some 3, .box (.tmp 1), none⟩,
 ⟨some 4, .mv (.const (.slice none 0 0)), none⟩])
 (.seq (.blk [⟨some 5, .mv (.tmp 0), none⟩,
 ⟨some 6, .slicea (.tmp 3) 16, none⟩,
 ⟨some 7, .append (.tmp 5) (.tmp 6) 1 1, none⟩,
 ⟨some 4, .mv (.tmp 7), none⟩])
 (.ret)),
 [.tmp 4], 8)
def ir_kAppendUvarint (F : Nat → Nat) : IC × List RV × Nat := (.seq (.blk [⟨some 4, .mv (.const (.slice none 0 0)), none⟩])
 (.seq (.seq (.blk [⟨some 5, .mv (.tmp 1), none⟩,
 ⟨some 6, .call (F kUvarintLen) [.tmp 5], none⟩])
 (.block 0 (.seq (.blk [⟨some 8, .bin .eql (.tmp 6) (.const (.int .i64 5)), none⟩,
 ⟨some 7, .mv (.tmp 8), none⟩])
 (.cond (.tmp 7)
 (.seq (.blk [⟨some 9, .mv (.tmp 0), none⟩,
 ⟨some 10, .mv (.tmp 1), none⟩,
 ⟨some 11, .bin .and (.tmp 10) (.const (.int .u32 127)), none⟩,
 ⟨some 12, .bin .or (.tmp 11) (.const (.int .u32 128)), none⟩,
 ⟨some 13, .conv .u8 (.tmp 12), none⟩,
 ⟨some 14, .mv (.tmp 1), none⟩,
 ⟨some 15, .bin .shr (.tmp 14) (.const (.int .u64 7)), none⟩,
 ⟨some 16, .bin .and (.tmp 15) (.const (.int .u32 127)), none⟩,
 ⟨some 17, .bin .or (.tmp 16) (.const (.int .u32 128)), none⟩,
 ⟨some 18, .conv .u8 (.tmp 17), none⟩,
 ⟨some 19, .mv (.tmp 1), none⟩,
 ⟨some 20, .bin .shr (.tmp 19) (.const (.int .u64 14)), none⟩,
 ⟨some 21, .bin .and (.tmp 20) (.const (.int .u32 127)), none⟩,
 ⟨some 22, .bin .or (.tmp 21) (.const (.int .u32 128)), none⟩,
 ⟨some 23, .conv .u8 (.tmp 22), none⟩,
 ⟨some 24, .mv (.tmp 1), none⟩,
 ⟨some 25, .bin .shr (.tmp 24) (.const (.int .u64 21)), none⟩,
 ⟨some 26, .bin .and (.tmp 25) (.const (.int .u32 127)), none⟩,
 ⟨some 27, .bin .or (.tmp 26) (.const (.int .u32 128)), none⟩,
 ⟨some 28, .conv .u8 (.tmp 27), none⟩,
 ⟨some 29, .mv (.tmp 1), none⟩,
 ⟨some 30, .bin .shr (.tmp 29) (.const (.int .u64 28)), none⟩,
 ⟨some 31, .conv .u8 (.tmp 30), none⟩,
 ⟨some 32, .bslice 5 [.int .u8 0] [(0, 1, .tmp 13), (1, 1, .tmp 18), (2, 1, .tmp 23), (3, 1, .tmp 28), (4, 1, .tmp 31)], none⟩,
 ⟨some 33, .append (.tmp 9) (.tmp 32) 1 1, none⟩,
 ⟨some 4, .mv (.tmp 33), none⟩])
 (.ret))
 (.seq (.blk [⟨some 35, .bin .eql (.tmp 6) (.const (.int .i64 4)), none⟩,
 ⟨some 34, .mv (.tmp 35), none⟩])
 (.cond (.tmp 34)
 (.seq (.blk [⟨some 36, .mv (.tmp 0), none⟩,
 ⟨some 37, .mv (.tmp 1), none⟩,
 ⟨some 38, .bin .and (.tmp 37) (.const (.int .u32 127)), none⟩,
 ⟨some 39, .bin .or (.tmp 38) (.const (.int .u32 128)), none⟩,
 ⟨some 40, .conv .u8 (.tmp 39), none⟩,
 ⟨some 41, .mv (.tmp 1), none⟩,
 ⟨some 42, .bin .shr (.tmp 41) (.const (.int .u64 7)), none⟩,
 ⟨some 43, .bin .and (.tmp 42) (.const (.int .u32 127)), none⟩,
 ⟨some 44, .bin .or (.tmp 43) (.const (.int .u32 128)), none⟩,
 ⟨some 45, .conv .u8 (.tmp 44), none⟩,
 ⟨some 46, .mv (.tmp 1), none⟩,
 ⟨some 47, .bin .shr (.tmp 46) (.const (.int .u64 14)), none⟩,
 ⟨some 48, .bin .and (.tmp 47) (.const (.int .u32 127)), none⟩,
 ⟨some 49, .bin .or (.tmp 48) (.const (.int .u32 128)), none⟩,
 ⟨some 50, .conv .u8 (.tmp 49), none⟩,
 ⟨some 51, .mv (.tmp 1), none⟩,
 ⟨some 52, .bin .shr (.tmp 51) (.const (.int .u64 21)), none⟩,
 ⟨some 53, .conv .u8 (.tmp 52), none⟩,
 ⟨some 54, .bslice 4 [.int .u8 0] [(0, 1, .tmp 40), (1, 1, .tmp 45), (2, 1, .tmp 50), (3, 1, .tmp 53)], none⟩,
 ⟨some 55, .append (.tmp 36) (.tmp 54) 1 1, none⟩,
 ⟨some 4, .mv (.tmp 55), none⟩])
 (.ret))
 (.seq (.blk [⟨some 57, .bin .eql (.tmp 6) (.const (.int .i64 3)), none⟩,
 ⟨some 56, .mv (.tmp 57), none⟩])
 (.cond (.tmp 56)
 (.seq (.blk [⟨some 58, .mv (.tmp 0), none⟩,
 ⟨some 59, .mv (.tmp 1), none⟩,
 ⟨some 60, .bin .and (.tmp 59) (.const (.int .u32 127)), none⟩,
 ⟨some 61, .bin .or (.tmp 60) (.const (.int .u32 128)), none⟩,
 ⟨some 62, .conv .u8 (.tmp 61), none⟩,
 ⟨some 63, .mv (.tmp 1), none⟩,
 ⟨some 64, .bin .shr (.tmp 63) (.const (.int .u64 7)), none⟩,
 ⟨some 65, .bin .and (.tmp 64) (.const (.int .u32 127)), none⟩,
 ⟨some 66, .bin .or (.tmp 65) (.const (.int .u32 128)), none⟩,
 ⟨some 67, .conv .u8 (.tmp 66), none⟩,
 ⟨some 68, .mv (.tmp 1), none⟩,
 ⟨some 69, .bin .shr (.tmp 68) (.const (.int .u64 14)), none⟩,
 ⟨some 70, .conv .u8 (.tmp 69), none⟩,
 ⟨some 71, .bslice 3 [.int .u8 0] [(0, 1, .tmp 62), (1, 1, .tmp 67), (2, 1, .tmp 70)], none⟩,
 ⟨some 72, .append (.tmp 58) (.tmp 71) 1 1, none⟩,
 ⟨some 4, .mv (.tmp 72), none⟩])
 (.ret))
 (.seq (.blk [⟨some 74, .bin .eql (.tmp 6) (.const (.int .i64 2)), none⟩,
 ⟨some 73, .mv (.tmp 74), none⟩])
 (.cond (.tmp 73)
 (.seq (.blk [⟨some 75, .mv (.tmp 0), none⟩,
 ⟨some 76, .mv (.tmp 1), none⟩,
 ⟨some 77, .bin .and (.tmp 76) (.const (.int .u32 127)), none⟩,
 ⟨some 78, .bin .or (.tmp 77) (.const (.int .u32 128)), none⟩,
 ⟨some 79, .conv .u8 (.tmp 78), none⟩,
 ⟨some 80, .mv (.tmp 1), none⟩,
 ⟨some 81, .bin .shr (.tmp 80) (.const (.int .u64 7)), none⟩,
 ⟨some 82, .conv .u8 (.tmp 81), none⟩,
 ⟨some 83, .bslice 2 [.int .u8 0] [(0, 1, .tmp 79), (1, 1, .tmp 82)], none⟩,
 ⟨some 84, .append (.tmp 75) (.tmp 83) 1 1, none⟩,
 ⟨some 4, .mv (.tmp 84), none⟩])
 (.ret))
 (.seq (.blk [⟨some 86, .bin .eql (.tmp 6) (.const (.int .i64 1)), none⟩,
 ⟨some 85, .mv (.tmp 86), none⟩])
 (.cond (.tmp 85)
 (.seq (.blk [⟨some 87, .mv (.tmp 0), none⟩,
 ⟨some 88, .mv (.tmp 1), none⟩,
 ⟨some 89, .conv .u8 (.tmp 88), none⟩,
 ⟨some 90, .bslice 1 [.int .u8 0] [(0, 1, .tmp 89)], none⟩,
 ⟨some 91, .append (.tmp 87) (.tmp 90) 1 1, none⟩,
 ⟨some 4, .mv (.tmp 91), none⟩])
 (.ret))
 (.skip)))))))))))))
 (.seq (.blk [⟨some 92, .mv (.tmp 0), none⟩,
 ⟨some 4, .mv (.tmp 92), none⟩])
 (.ret))),
 [.tmp 4], 93)
def ir_kUvarintLen (F : Nat → Nat) : IC × List RV × Nat := (.seq (.blk [⟨some 2, .mv (.const (.int .i64 0)), none⟩])
 (.seq (.blk [⟨some 3, .mv (.tmp 0), none⟩,
 ⟨some 4, .call (F bLen32) [.tmp 3], none⟩,
 ⟨some 5, .conv .u8 (.tmp 4), none⟩,
 ⟨some 6, .idx (.const (.string tabU)) (.tmp 5), none⟩,
 ⟨some 7, .conv .i64 (.tmp 6), none⟩,
 ⟨some 2, .mv (.tmp 7), none⟩])
 (.ret)),
 [.tmp 2], 8)
def ir_kAppendString (F : Nat → Nat) : IC × List RV × Nat := (.seq (.blk [⟨some 4, .mv (.const (.slice none 0 0)), none⟩])
 (.seq (.blk [⟨some 5, .mv (.tmp 0), none⟩,
 ⟨some 6, .mv (.tmp 1), none⟩,
 ⟨some 7, .slen (.tmp 6), none⟩,
 ⟨some 8, .conv .i16 (.tmp 7), none⟩,
 ⟨some 9, .call (F kAppendInt16) [.tmp 5, .tmp 8], none⟩,
 ⟨some 0, .mv (.tmp 9), none⟩])
 (.seq (.blk [⟨some 10, .mv (.tmp 0), none⟩,
 ⟨some 11, .mv (.tmp 1), none⟩,
 ⟨some 12, .append (.tmp 10) (.tmp 11) 1 1, none⟩,
 ⟨some 4, .mv (.tmp 12), none⟩])
 (.ret))),
 [.tmp 4], 13)
def ir_kAppendCompactString (F : Nat → Nat) : IC × List RV × Nat := (.seq (.blk [⟨some 4, .mv (.const (.slice none 0 0)), none⟩])
 (.seq (.blk [⟨some 5, .mv (.tmp 0), none⟩,
 ⟨some 6, .mv (.tmp 1), none⟩,
 ⟨some 7, .slen (.tmp 6), none⟩,
 ⟨some 8, .conv .u32 (.tmp 7), none⟩,
 ⟨some 9, .bin .add (.const (.int .u32 1)) (.tmp 8), none⟩,
 ⟨some 10, .call (F kAppendUvarint) [.tmp 5, .tmp 9], none⟩,
 ⟨some 0, .mv (.tmp 10), none⟩])
 (.seq (.blk [⟨some 11, .mv (.tmp 0), none⟩,
 ⟨some 12, .mv (.tmp 1), none⟩,
 ⟨some 13, .append (.tmp 11) (.tmp 12) 1 1, none⟩,
 ⟨some 4, .mv (.tmp 13), none⟩])
 (.ret))),
 [.tmp 4], 14)
def ir_kAppendNullableString (F : Nat → Nat) : IC × List RV × Nat := (.seq (.blk [⟨some 4, .mv (.const (.slice none 0 0)), none⟩])
 (.seq (.seq (.blk [⟨some 5, .mv (.tmp 1), none⟩,
 ⟨some 6, .isnil .pt false (.tmp 5), none⟩])
 (.cond (.tmp 6)
 (.seq (.blk [⟨some 7, .mv (.tmp 0), none⟩,
 ⟨some 8, .call (F kAppendInt16) [.tmp 7, .const (.int .i16 (-1))], none⟩,
 ⟨some 4, .mv (.tmp 8), none⟩])
 (.ret))
 (.skip)))
 (.seq (.blk [⟨some 9, .mv (.tmp 0), none⟩,
 ⟨some 10, .mv (.tmp 1), none⟩,
 ⟨some 11, .nilc (.tmp 10), none⟩,
 ⟨some 12, .ld (.tmp 11), none⟩,
 ⟨some 13, .call (F kAppendString) [.tmp 9, .tmp 12], none⟩,
 ⟨some 4, .mv (.tmp 13), none⟩])
 (.ret))),
 [.tmp 4], 14)
def ir_kAppendCompactNullableString (F : Nat → Nat) : IC × List RV × Nat := (.seq (.blk [⟨some 4, .mv (.const (.slice none 0 0)), none⟩])
 (.seq (.seq (.blk [⟨some 5, .mv (.tmp 1), none⟩,
 ⟨some 6, .isnil .pt false (.tmp 5), none⟩])
 (.cond (.tmp 6)
 (.seq (.blk [⟨some 7, .mv (.tmp 0), none⟩,
 ⟨some 8, .call (F kAppendUvarint) [.tmp 7, .const (.int .u32 0)], none⟩,
 ⟨some 4, .mv (.tmp 8), none⟩])
 (.ret))
 (.skip)))
 (.seq (.blk [⟨some 9, .mv (.tmp 0), none⟩,
 ⟨some 10, .mv (.tmp 1), none⟩,
 ⟨some 11, .nilc (.tmp 10), none⟩,
 ⟨some 12, .ld (.tmp 11), none⟩,
 ⟨some 13, .call (F kAppendCompactString) [.tmp 9, .tmp 12], none⟩,
 ⟨some 4, .mv (.tmp 13), none⟩])
 (.ret))),
 [.tmp 4], 14)
def ir_kAppendBytes (F : Nat → Nat) : IC × List RV × Nat := (.seq (.blk [⟨some 4, .mv (.const (.slice none 0 0)), none⟩])
 (.seq (.blk [⟨some 5, .mv (.tmp 0), none⟩,
 ⟨some 6, .mv (.tmp 1), none⟩,
 ⟨some 7, .len (.tmp 6), none⟩,
 ⟨some 8, .conv .i32 (.tmp 7), none⟩,
 ⟨some 9, .call (F kAppendInt32) [.tmp 5, .tmp 8], none⟩,
 ⟨some 0, .mv (.tmp 9), none⟩])
 (.seq (.blk [⟨some 10, .mv (.tmp 0), none⟩,
 ⟨some 11, .mv (.tmp 1), none⟩,
 ⟨some 12, .append (.tmp 10) (.tmp 11) 1 1, none⟩,
 ⟨some 4, .mv (.tmp 12), none⟩])
 (.ret))),
 [.tmp 4], 13)
def ir_kAppendCompactBytes (F : Nat → Nat) : IC × List RV × Nat := (.seq (.blk [⟨some 4, .mv (.const (.slice none 0 0)), none⟩])
 (.seq (.blk [⟨some 5, .mv (.tmp 0), none⟩,
 ⟨some 6, .mv (.tmp 1), none⟩,
 ⟨some 7, .len (.tmp 6), none⟩,
 ⟨some 8, .conv .u32 (.tmp 7), none⟩,
 ⟨some 9, .bin .add (.const (.int .u32 1)) (.tmp 8), none⟩,
 ⟨some 10, .call (F kAppendUvarint) [.tmp 5, .tmp 9], none⟩,
 ⟨some 0, .mv (.tmp 10), none⟩])
 (.seq (.blk [⟨some 11, .mv (.tmp 0), none⟩,
 ⟨some 12, .mv (.tmp 1), none⟩,
 ⟨some 13, .append (.tmp 11) (.tmp 12) 1 1, none⟩,
 ⟨some 4, .mv (.tmp 13), none⟩])
 (.ret))),
 [.tmp 4], 14)
def ir_kAppendArrayLen (F : Nat → Nat) : IC × List RV × Nat := (.seq (.blk [⟨some 4, .mv (.const (.slice none 0 0)), none⟩])
 (.seq (.blk [⟨some 5, .mv (.tmp 0), none⟩,
 ⟨some 6, .mv (.tmp 1), none⟩,
 ⟨some 7, .conv .i32 (.tmp 6), none⟩,
 ⟨some 8, .call (F kAppendInt32) [.tmp 5, .tmp 7], none⟩,
 ⟨some 4, .mv (.tmp 8), none⟩])
 (.ret)),
 [.tmp 4], 9)
def ir_kAppendCompactArrayLen (F : Nat → Nat) : IC × List RV × Nat := (.seq (.blk [⟨some 4, .mv (.const (.slice none 0 0)), none⟩])
 (.seq (.blk [⟨some 5, .mv (.tmp 0), none⟩,
 ⟨some 6, .mv (.tmp 1), none⟩,
 ⟨some 7, .conv .u32 (.tmp 6), none⟩,
 ⟨some 8, .bin .add (.const (.int .u32 1)) (.tmp 7), none⟩,
 ⟨some 9, .call (F kAppendUvarint) [.tmp 5, .tmp 8], none⟩,
 ⟨some 4, .mv (.tmp 9), none⟩])
 (.ret)),
 [.tmp 4], 10)
def ir_kAppendNullableArrayLen (F : Nat → Nat) : IC × List RV × Nat := (.seq (.blk [⟨some 6, .mv (.const (.slice none 0 0)), none⟩])
 (.seq (.seq (.blk [⟨some 7, .mv (.tmp 2), none⟩])
 (.cond (.tmp 7)
 (.seq (.blk [⟨some 8, .mv (.tmp 0), none⟩,
 ⟨some 9, .call (F kAppendInt32) [.tmp 8, .const (.int .i32 (-1))], none⟩,
 ⟨some 6, .mv (.tmp 9), none⟩])
 (.ret))
 (.skip)))
 (.seq (.blk [⟨some 10, .mv (.tmp 0), none⟩,
 ⟨some 11, .mv (.tmp 1), none⟩,
 ⟨some 12, .conv .i32 (.tmp 11), none⟩,
 ⟨some 13, .call (F kAppendInt32) [.tmp 10, .tmp 12], none⟩,
 ⟨some 6, .mv (.tmp 13), none⟩])
 (.ret))),
 [.tmp 6], 14)
def ir_kAppendCompactNullableArrayLen (F : Nat → Nat) : IC × List RV × Nat := (.seq (.blk [⟨some 6, .mv (.const (.slice none 0 0)), none⟩])
 (.seq (.seq (.blk [⟨some 7, .mv (.tmp 2), none⟩])
 (.cond (.tmp 7)
 (.seq (.blk [⟨some 8, .mv (.tmp 0), none⟩,
 ⟨some 9, .call (F kAppendUvarint) [.tmp 8, .const (.int .u32 0)], none⟩,
 ⟨some 6, .mv (.tmp 9), none⟩])
 (.ret))
 (.skip)))
 (.seq (.blk [⟨some 10, .mv (.tmp 0), none⟩,
 ⟨some 11, .mv (.tmp 1), none⟩,
 ⟨some 12, .conv .u32 (.tmp 11), none⟩,
 ⟨some 13, .bin .add (.const (.int .u32 1)) (.tmp 12), none⟩,
 ⟨some 14, .call (F kAppendUvarint) [.tmp 10, .tmp 13], none⟩,
 ⟨some 6, .mv (.tmp 14), none⟩])
 (.ret))),
 [.tmp 6], 15)
def ir_tAppendEach (F : Nat → Nat) : IC × List RV × Nat := (.seq (.blk [⟨some 3, .box (.tmp 1), none⟩,
 ⟨some 4, .mv (.const (.slice none 0 0)), none⟩])
 (.seq (.blk [⟨some 5, .mv (.tmp 0), none⟩,
 ⟨some 6, .mkfunc (.func (F tAppendEach1)) [] [.tmp 3], none⟩,
 ⟨some 7, .call (F tEach) [.tmp 5, .tmp 6], none⟩])
 (.seq (.blk [⟨some 8, .ld (.tmp 3), none⟩,
 ⟨some 4, .mv (.tmp 8), none⟩])
 (.ret))),
 [.tmp 4], 9)
def ir_tAppendEach1 (F : Nat → Nat) : IC × List RV × Nat := (.seq (.blk [⟨some 5, .ld (.tmp 2), none⟩,
 ⟨some 6, .mv (.tmp 0), none⟩,
 ⟨some 7, .call (F kAppendUvarint) [.tmp 5, .tmp 6], none⟩,
 ⟨none, .st (.tmp 2) 1 (.tmp 7), none⟩])
 (.seq (.blk [⟨some 8, .ld (.tmp 2), none⟩,
 ⟨some 9, .mv (.tmp 1), none⟩,
 ⟨some 10, .len (.tmp 9), none⟩,
 ⟨some 11, .conv .u32 (.tmp 10), none⟩,
 ⟨some 12, .call (F kAppendUvarint) [.tmp 8, .tmp 11], none⟩,
 ⟨none, .st (.tmp 2) 1 (.tmp 12), none⟩])
 (.blk [⟨some 13, .ld (.tmp 2), none⟩,
 ⟨some 14, .mv (.tmp 1), none⟩,
 ⟨some 15, .append (.tmp 13) (.tmp 14) 1 1, none⟩,
 ⟨none, .st (.tmp 2) 1 (.tmp 15), none⟩])),
 [], 16)
def ir_bLen32 (_F : Nat → Nat) : IC × List RV × Nat := (.seq (.blk [⟨some 2, .mv (.const (.int .i64 0)), none⟩])
 (.seq (.seq (.blk [⟨some 3, .mv (.tmp 0), none⟩,
 ⟨some 4, .bin .geq (.tmp 3) (.const (.int .u32 65536)), none⟩])
 (.cond (.tmp 4)
 (.seq (.blk [⟨some 5, .mv (.tmp 0), none⟩,
 ⟨some 6, .bin .shr (.tmp 5) (.const (.int .u64 16)), none⟩,
 ⟨some 0, .mv (.tmp 6), none⟩])
 (.blk [⟨some 2, .mv (.const (.int .i64 16)), none⟩]))
 (.skip)))
 (.seq (.seq (.blk [⟨some 7, .mv (.tmp 0), none⟩,
 ⟨some 8, .bin .geq (.tmp 7) (.const (.int .u32 256)), none⟩])
 (.cond (.tmp 8)
 (.seq (.blk [⟨some 9, .mv (.tmp 0), none⟩,
 ⟨some 10, .bin .shr (.tmp 9) (.const (.int .u64 8)), none⟩,
 ⟨some 0, .mv (.tmp 10), none⟩])
 (.blk [⟨some 11, .mv (.tmp 2), none⟩,
 ⟨some 12, .bin .add (.tmp 11) (.const (.int .i64 8)), none⟩,
 ⟨some 2, .mv (.tmp 12), none⟩]))
 (.skip)))
 (.seq (.blk [⟨some 13, .mv (.tmp 2), none⟩,
 ⟨some 14, .mv (.tmp 0), none⟩,
 ⟨some 15, .conv .u8 (.tmp 14), none⟩,
 ⟨some 16, .idx (.const (.string tab8)) (.tmp 15), none⟩,
 ⟨some 17, .conv .i64 (.tmp 16), none⟩,
 ⟨some 18, .bin .add (.tmp 13) (.tmp 17), none⟩,
 ⟨some 2, .mv (.tmp 18), none⟩])
 (.ret)))),
 [.tmp 2], 19)
end Go.Msk

namespace Go.Msk
open Go.RowKit
set_option maxRecDepth 100000
def lim : Nat := 70368744177664
def ownB : Value → Option Nat
  | .slice (some a) _ _ => some a.block
  | _ => none
structure DRaw (w : World) (n0 : Nat) (v : Value) (l : List UInt8) : Prop where
  sl : (v = .slice none 0 0 ∧ l = []) ∨ ∃ B cap rest, v = .slice (some ⟨B, 0, none⟩) l.length cap ∧ l.length ≤ cap ∧ n0 ≤ B ∧ Blk w B (u8s l ++ rest) ∧ rest.length = cap - l.length
theorem DRaw.mod {w w' : World} {n0 : Nat} {v : Value} {l : List UInt8} {S : List Nat} (h : DRaw w n0 v l) (hm : Mod S w w') (hS : ∀ b, ownB v = some b → b ∉ S) : DRaw w' n0 v l :=
  ⟨h.sl.imp id fun ⟨B, cap, rest, h1, h2, h3, h4, h5⟩ => ⟨B, cap, rest, h1, h2, h3, h4.mod hm (hS _ (by rw [h1]; rfl)), h5⟩⟩
theorem DRaw.own {w : World} {n0 : Nat} {v : Value} {l : List UInt8} (h : DRaw w n0 v l) {b : Nat} (hb : ownB v = some b) : n0 ≤ b ∧ b < w.heap.size := by
  rcases h.sl with ⟨rfl, -⟩ | ⟨B, cap, rest, rfl, -, h3, h4, -⟩
  · simp [ownB] at hb
  · simp only [ownB, Option.some.injEq] at hb; subst hb; exact ⟨h3, h4.lt⟩
theorem DRaw.slc {w : World} {n0 : Nat} {v : Value} {l : List UInt8} (h : DRaw w n0 v l) : SlC (fun b => n0 ≤ b) w v l.length (u8s l) := by
  rcases h.sl with ⟨rfl, rfl⟩ | ⟨B, cap, rest, rfl, h2, h3, h4, -⟩
  · exact SlC.nil
  · refine ⟨_, cap, rfl, h2, fun h => by simp at h, fun a ha _ => ?_⟩
    simp only [Option.some.injEq] at ha; subst ha
    refine ⟨h3, h4.lt, ?_⟩
    have := h4.cells.take (u8s l).length
    simpa using this
theorem DRaw.one {w : World} {n0 : Nat} {v : Value} {l : List UInt8} (h : DRaw w n0 v l) : v.cells = #[v] ∧ v.oneCell' = true := by
  rcases h.sl with ⟨rfl, -⟩ | ⟨B, cap, rest, rfl, -⟩ <;> exact ⟨rfl, rfl⟩
structure AppD (n0 : Nat) (w : World) (v : Value) (w' : World) (v' : Value) (l : List UInt8) : Prop where
  raw : DRaw w' n0 v' l
  mod : Mod (ownB v).toList w w'
  own : ∀ b, ownB v' = some b → ownB v = some b ∨ w.heap.size ≤ b
theorem AppD.refl {n0 : Nat} {w : World} {v : Value} {l : List UInt8} (h : DRaw w n0 v l) : AppD n0 w v w v l := ⟨h, Mod.refl _ _, fun _ h => .inl h⟩
theorem AppD.trans {n0 : Nat} {w w1 w2 : World} {v v1 v2 : Value} {l1 l2 : List UInt8} (h : AppD n0 w v w1 v1 l1) (k : AppD n0 w1 v1 w2 v2 l2) : AppD n0 w v w2 v2 l2 := by
  refine ⟨k.raw, ?_, fun b hb => ?_⟩
  · cases ho : ownB v1 with
    | none => have := k.mod; rw [ho] at this; exact h.mod.trans this.nil
    | some b =>
      have km := k.mod
      rw [ho] at km
      rcases h.own b ho with h1 | h1
      · have hm := h.mod
        rw [h1] at hm ⊢
        exact hm.trans km
      · refine Mod.drop (b := b) (S := (ownB v).toList) ?_ h1
        exact (h.mod.mono (by intro x hx; exact List.mem_cons_of_mem _ hx)).trans (km.mono (by simp))
  · rcases k.own b hb with h1 | h1
    · exact h.own b h1
    · exact .inr (Nat.le_trans h.mod.size h1)
theorem AppD.pre {n0 : Nat} {w w1 w2 : World} {v v1 : Value} {l : List UInt8} (hm : Mod [] w w1) (h : AppD n0 w1 v w2 v1 l) : AppD n0 w v w2 v1 l :=
  ⟨h.raw, hm.nil.trans h.mod, fun b hb => (h.own b hb).imp id fun h => Nat.le_trans hm.size h⟩
section
variable {P : Program}
theorem append_run {σ : Sl} {w : World} {x y : Operand} {v : Value} {l k : List UInt8} {n0 : Nat} {K : Value → World → Prop} (hx : ev σ x = v) (hv : DRaw w n0 v l) (hn0 : n0 ≤ w.heap.size) (hy : srcCells w 1 (ev σ y) = some (k.length, u8s k))
    (hl : l.length + k.length ≤ lim) (hK : ∀ v' w', AppD n0 w v w' v' (l ++ k) → K v' w') : (RK.append x y 1 1).run P σ w K := by
  unfold lim at hl
  simp only [RK.run, hx]
  rcases hv.sl with ⟨rfl, rfl⟩ | ⟨B, cap, rest, rfl, h2, h3, h4, hr⟩
  · simp only [hy, appendRun]
    by_cases hk : k.length = 0
    · have : k = [] := List.length_eq_zero_iff.1 hk
      subst this
      simp only [List.length_nil, Nat.add_zero, Nat.le_refl, if_true]
      exact hK _ _ (AppD.refl ⟨.inl ⟨rfl, rfl⟩⟩)
    · rw [if_neg (by omega)]
      refine ⟨by omega, by omega, ?_⟩
      intro T cap rest hc hr
      have hb := Blk.new w.drew (u8s k ++ rest) T
      refine hK _ _ ⟨⟨.inr ⟨w.heap.size, cap, rest, by simp, by simpa using hc, hn0, by simpa using hb, by simpa using hr⟩⟩, (Mod.drew _ _).trans (Mod.alloc _ _ _), fun b hb => ?_⟩
      simp only [ownB, Option.some.injEq] at hb; subst hb; exact .inr (Nat.le_refl _)
  · simp only [hy, appendRun]
    by_cases hc : l.length + k.length ≤ cap
    · rw [if_pos hc]
      simp only [Addr.add_mk, Nat.zero_add, Nat.mul_one]
      have hone : ∀ v ∈ u8s k, v.oneCell' = true := fun v hv => by simp only [u8s, List.mem_map] at hv; obtain ⟨b, -, rfl⟩ := hv; rfl
      refine ⟨stOk_many h4 (by simp only [List.length_append, u8s_length]; omega) hone, hK _ _ ⟨⟨.inr ⟨B, cap, rest.drop k.length, by simp, by simpa using hc, h3, ?_, by simp; omega⟩⟩, by simpa [ownB] using Mod.put (by simp), fun b hb => .inl (by simpa [ownB] using hb)⟩⟩
      have hput := h4.put (o := l.length) (vs := u8s k) (by simp only [List.length_append, u8s_length]; omega)
      have e : splice (u8s l ++ rest) l.length (u8s k) = u8s (l ++ k) ++ rest.drop k.length := by
        rw [splice_end (u8s_length l), u8s_length, show u8s (l ++ k) = u8s l ++ u8s k by simp [u8s], List.append_assoc]
      rwa [e] at hput
    · rw [if_neg hc]
      refine ⟨by omega, by omega, ?_⟩
      have hco : cellsAt w ⟨B, 0, none⟩ 0 (l.length * 1) = some (u8s l) := by
        have := h4.cells.take (u8s l).length
        rw [List.take_left] at this
        exact cellsAt_of' this (by rw [u8s_length, Nat.mul_one])
      simp only [hco]
      intro T cap' rest' hc' hr'
      have hb := Blk.new w.drew (u8s l ++ (u8s k ++ rest')) T
      refine hK _ _ ⟨⟨.inr ⟨w.heap.size, cap', rest', by simp, by simpa using hc', hn0, ?_, by simp; omega⟩⟩, ((Mod.drew [] _).trans (Mod.alloc _ _ _)).nil, fun b hb => ?_⟩
      · have e : u8s (l ++ k) = u8s l ++ u8s k := by simp [u8s]
        rw [e, List.append_assoc]; exact hb
      · simp only [ownB, Option.some.injEq] at hb; subst hb; exact .inr (Nat.le_refl _)
def AppC (P : Program) (f : FuncId) (V : World → Value → Prop) (enc : List UInt8) : Prop :=
  ∀ (n0 : Nat) (w : World) (dv v : Value) (l : List UInt8), DRaw w n0 dv l → n0 ≤ w.heap.size → l.length + enc.length ≤ lim → V w v →
    Calls P f [dv, v].toArray w fun e w' => ∃ dv', e = .returned dv' ∧ AppD n0 w dv w' dv' (l ++ enc)
end
end Go.Msk

namespace Go.Msk
open Go.RowKit
set_option maxRecDepth 100000
def beI : Nat → Int → List UInt8
  | 0, _ => []
  | k + 1, n => UInt8.ofNat ((n / 256 ^ k) % 256).toNat :: beI k n
theorem beI_length : ∀ (k : Nat) (n : Int), (beI k n).length = k
  | 0, _ => rfl
  | k + 1, n => by simp [beI, beI_length k n]
theorem u8v (n : Int) (_h : 0 ≤ n) : Value.int .u8 (IntKind.u8.wrap n) = Value.int .u8 ((UInt8.ofNat (n % 256).toNat).toNat : Int) := by
  have e : IntKind.u8.wrap n = n % 256 := by
    simp only [IntKind.wrap, IntKind.bits, IntKind.signed]; simp
  have h2 : 0 ≤ n % 256 := Int.emod_nonneg _ (by omega)
  have h3 : n % 256 < 256 := Int.emod_lt_of_pos _ (by omega)
  rw [e, Value.int.injEq]
  refine ⟨rfl, ?_⟩
  have : (UInt8.ofNat (n % 256).toNat).toNat = (n % 256).toNat := by simp; omega
  rw [this]; omega
theorem u8vz (n : Int) : Value.int .u8 (IntKind.u8.wrap n) = Value.int .u8 ((UInt8.ofNat (n % 256).toNat).toNat : Int) := by
  have e : IntKind.u8.wrap n = n % 256 := by
    simp only [IntKind.wrap, IntKind.bits, IntKind.signed]; simp
  have h2 : 0 ≤ n % 256 := Int.emod_nonneg _ (by omega)
  have h3 : n % 256 < 256 := Int.emod_lt_of_pos _ (by omega)
  rw [e, Value.int.injEq]
  refine ⟨rfl, ?_⟩
  have : (UInt8.ofNat (n % 256).toNat).toNat = (n % 256).toNat := by simp; omega
  rw [this]; omega
theorem ediv_emod_256 (p x : Int) (hp : 0 < p) : (x / p) % 256 = (x % (p * 256)) / p := by
  have a : x % (p * 256) = x + p * (-(256 * (x / p / 256))) := by
    rw [Int.emod_def, ← Int.ediv_ediv_of_nonneg (by omega), Int.mul_neg, ← Int.sub_eq_add_neg, Int.mul_assoc]
  rw [a, Int.add_mul_ediv_left _ _ (by omega), Int.emod_def (x / p)]
  omega
theorem beI_mod : ∀ (k : Nat) (n m : Int), n % 256 ^ k = m % 256 ^ k → beI k n = beI k m
  | 0, _, _, _ => rfl
  | k + 1, n, m, h => by
    have hp : (0 : Int) < 256 ^ k := Int.pow_pos (by omega)
    rw [Int.pow_succ] at h
    have e1 : (n / 256 ^ k) % 256 = (m / 256 ^ k) % 256 := by
      have q := fun x => ediv_emod_256 (256 ^ k) x hp
      rw [q n, q m, h]
    have e2 : n % 256 ^ k = m % 256 ^ k := by
      have q : ∀ x : Int, (x % (256 ^ k * 256)) % 256 ^ k = x % 256 ^ k := fun x => Int.emod_emod_of_dvd x ⟨256, rfl⟩
      rw [← q n, ← q m, h]
    simp only [beI, e1, beI_mod k n m e2]
section
variable {P : Program} {F : Nat → Nat}
theorem bsliceB_run {σ : Sl} {w : World} {n : Nat} {l : List (Nat × Nat × Operand)} {bs : List UInt8} {K : Value → World → Prop} (hf : fillL (zrep n [.int .u8 0]) (l.map fun (o, k, x) => (o, k, ev σ x)) = some (u8s bs)) (hn : bs.length = n)
    (hK : ∀ v w', srcCells w' 1 v = some (bs.length, u8s bs) → Mod [] w w' → K v w') : (RK.bslice n [.int .u8 0] l).run P σ w K := by
  simp only [RK.run]
  rw [hf]
  intro T
  have hb := Blk.new w (u8s bs) T
  refine hK _ _ ?_ (Mod.alloc _ _ _)
  simp only [srcCells, Nat.mul_one]
  rw [cellsAt_of' hb.cells (by rw [u8s_length, hn])]
  simp [hn]
theorem app_tail {x t n : Nat} {σ : Sl} {w : World} {l : List (Nat × Nat × Operand)} {bs : List UInt8} {v : Value} {k : List UInt8} {n0 : Nat} {R : Ending → World → Prop}
    (hx : σ x = v) (hxt : x < t) (hv : DRaw w n0 v k) (hn0 : n0 ≤ w.heap.size) (hl : k.length + bs.length ≤ lim) (hf : fillL (zrep n [.int .u8 0]) (l.map fun (o, k, x) => (o, k, ev σ x)) = some (u8s bs)) (hn : bs.length = n) (_h4 : 4 < t)
    (hR : ∀ v' w', AppD n0 w v w' v' (k ++ bs) → R (.returned v') w') :
    wpR P [⟨some t, .bslice n [.int .u8 0] l, none⟩, ⟨some (t + 1), .append (.tmp x) (.tmp t) 1 1, none⟩, ⟨some 4, .mv (.tmp (t + 1)), none⟩] σ w
      (thenC (wpC P .ret (postC [.tmp 4] R)) (postC [.tmp 4] R) .normal) := by
  refine wpR_run ?_
  refine bsliceB_run hf hn fun u w1 hu hm1 => ?_
  refine wpR_run ?_
  refine append_run (v := v) (by simp only [ev, updo, upd, show x ≠ t by omega, if_false, hx]) (hv.mod hm1 (by simp)) (Nat.le_trans hn0 hm1.size) (by simpa only [ev, updo, upd, if_true] using hu) hl fun v' w2 hA => ?_
  refine wpR_step (v := v') (by simp only [RK.val?, ev, updo, upd, if_true]) ?_
  refine wpR_done ?_
  simp only [wpC, postC, rvals, List.mapM_cons, List.mapM_nil, RV.val, updo, upd, if_true, Option.bind_eq_bind, Option.bind_some, Option.pure_def, tup_one]
  exact hR v' w2 (hA.pre hm1)
theorem kAppendUint16_call (hm : P.follows .mixedOrders = true) (h : liftF P (F kAppendUint16) = some (ir_kAppendUint16 F)) {n : Int} (hn : 0 ≤ n ∧ n < 65536) : AppC P (F kAppendUint16) (fun _ v => v = .int .u16 n) (beI 2 n) := by
  intro n0 w dv v l hd hn0 hl hv
  subst hv
  unfold ir_kAppendUint16 at h
  refine call_of h hm (by simp) ?_
  have a0 : args0 [dv, .int .u16 n] 0 = dv := rfl
  have a1 : args0 [dv, .int .u16 n] 1 = .int .u16 n := rfl
  generalize args0 [dv, .int .u16 n] = σ at a0 a1 ⊢
  rw [wpC_seq, wpC_blk]
  refine wpR_step (v := .slice none 0 0) rfl ?_
  refine wpR_done ?_
  rw [wpC_seq, wpC_blk]
  refine wpR_step (v := dv) (by simp only [RK.val?, ev, updo, upd]; simp [a0]) ?_
  refine wpR_step (v := .int .u16 n) (by simp only [RK.val?, ev, updo, upd]; simp [a1]) ?_
  refine wpR_step (v := .int .u16 (n / 256)) (by simp only [RK.val?, ev, updo, upd, if_true, isShift, Bool.true_or, intBin]; simp [IntKind.bits, Int.fdiv_eq_ediv_of_nonneg]) ?_
  refine wpR_step (v := .int .u8 (IntKind.u8.wrap (n / 256))) (by simp only [RK.val?, ev, updo, upd, if_true]) ?_
  refine wpR_step (v := .int .u16 n) (by simp only [RK.val?, ev, updo, upd]; simp [a1]) ?_
  refine wpR_step (v := .int .u8 (IntKind.u8.wrap n)) (by simp only [RK.val?, ev, updo, upd, if_true]) ?_
  refine app_tail (v := dv) (k := l) (bs := beI 2 n) (by simp only [updo, upd]; simp) (by omega) hd hn0 hl ?_ (beI_length _ _) (by omega) fun v' w' hA => ⟨v', rfl, hA⟩
  simp only [List.map_cons, List.map_nil, ev, updo, upd]
  simp [zrep, fillL, splice, Value.cells, beI, u8s, u8v n hn.1, u8v (n / 256) (by omega)]
theorem kAppendUint32_call (hm : P.follows .mixedOrders = true) (h : liftF P (F kAppendUint32) = some (ir_kAppendUint32 F)) {n : Int} (hn : 0 ≤ n ∧ n < 4294967296) : AppC P (F kAppendUint32) (fun _ v => v = .int .u32 n) (beI 4 n) := by
  intro n0 w dv v l hd hn0 hl hv
  subst hv
  unfold ir_kAppendUint32 at h
  refine call_of h hm (by simp) ?_
  have a0 : args0 [dv, .int .u32 n] 0 = dv := rfl
  have a1 : args0 [dv, .int .u32 n] 1 = .int .u32 n := rfl
  generalize args0 [dv, .int .u32 n] = σ at a0 a1 ⊢
  rw [wpC_seq, wpC_blk]
  refine wpR_step (v := .slice none 0 0) rfl ?_
  refine wpR_done ?_
  rw [wpC_seq, wpC_blk]
  refine wpR_step (v := dv) (by simp only [RK.val?, ev, updo, upd]; simp [a0]) ?_
  refine wpR_step (v := .int .u32 n) (by simp only [RK.val?, ev, updo, upd]; simp [a1]) ?_
  refine wpR_step (v := .int .u32 (n / 16777216)) (by simp only [RK.val?, ev, updo, upd, if_true, isShift, Bool.true_or, intBin]; simp [IntKind.bits, Int.fdiv_eq_ediv_of_nonneg]) ?_
  refine wpR_step (v := .int .u8 (IntKind.u8.wrap (n / 16777216))) (by simp only [RK.val?, ev, updo, upd, if_true]) ?_
  refine wpR_step (v := .int .u32 n) (by simp only [RK.val?, ev, updo, upd]; simp [a1]) ?_
  refine wpR_step (v := .int .u32 (n / 65536)) (by simp only [RK.val?, ev, updo, upd, if_true, isShift, Bool.true_or, intBin]; simp [IntKind.bits, Int.fdiv_eq_ediv_of_nonneg]) ?_
  refine wpR_step (v := .int .u8 (IntKind.u8.wrap (n / 65536))) (by simp only [RK.val?, ev, updo, upd, if_true]) ?_
  refine wpR_step (v := .int .u32 n) (by simp only [RK.val?, ev, updo, upd]; simp [a1]) ?_
  refine wpR_step (v := .int .u32 (n / 256)) (by simp only [RK.val?, ev, updo, upd, if_true, isShift, Bool.true_or, intBin]; simp [IntKind.bits, Int.fdiv_eq_ediv_of_nonneg]) ?_
  refine wpR_step (v := .int .u8 (IntKind.u8.wrap (n / 256))) (by simp only [RK.val?, ev, updo, upd, if_true]) ?_
  refine wpR_step (v := .int .u32 n) (by simp only [RK.val?, ev, updo, upd]; simp [a1]) ?_
  refine wpR_step (v := .int .u8 (IntKind.u8.wrap n)) (by simp only [RK.val?, ev, updo, upd, if_true]) ?_
  refine app_tail (v := dv) (k := l) (bs := beI 4 n) (by simp only [updo, upd]; simp) (by omega) hd hn0 hl ?_ (beI_length _ _) (by omega) fun v' w' hA => ⟨v', rfl, hA⟩
  simp only [List.map_cons, List.map_nil, ev, updo, upd]
  simp [zrep, fillL, splice, Value.cells, beI, u8s, u8v (n / 16777216) (by omega), u8v (n / 65536) (by omega), u8v (n / 256) (by omega), u8v n hn.1]
theorem byte3 {t sh : Nat} {kk : IntKind} {n d : Int} {σ : Sl} {w : World} {rest : List RI} {Q : Sl → World → Prop} (h1 : σ 1 = .int kk n) (_hn : 0 ≤ n) (_hd : 0 < d) (_ht : 4 < t) (hs : intBin .shr kk n sh = some (.int kk (n / d)))
    (hQ : ∀ σ', Ag t σ σ' → σ' (t + 2) = .int .u8 ((UInt8.ofNat (n / d % 256).toNat).toNat : Int) → wpR P rest σ' w Q) :
    wpR P (⟨some t, .mv (.tmp 1), none⟩ :: ⟨some (t + 1), .bin .shr (.tmp t) (.const (.int .u64 sh)), none⟩ :: ⟨some (t + 2), .conv .u8 (.tmp (t + 1)), none⟩ :: rest) σ w Q := by
  refine wpR_step (v := .int kk n) (congrArg some h1) ?_
  refine wpR_step (v := .int kk (n / d)) (by simp only [RK.val?, ev, updo, upd, if_true, isShift, Bool.true_or, hs]) ?_
  refine wpR_step (v := .int .u8 (IntKind.u8.wrap (n / d))) (by simp only [RK.val?, ev, updo, upd, if_true]) ?_
  refine hQ _ (fun j hj => ?_) ?_
  · simp only [updo, upd, show j ≠ t by omega, show j ≠ t + 1 by omega, show j ≠ t + 2 by omega, if_false]
  · simp only [updo, upd, if_true]; exact u8vz _
theorem kAppendUint64_call (hm : P.follows .mixedOrders = true) (h : liftF P (F kAppendUint64) = some (ir_kAppendUint64 F)) {n : Int} (hn : 0 ≤ n ∧ n < 18446744073709551616) : AppC P (F kAppendUint64) (fun _ v => v = .int .u64 n) (beI 8 n) := by
  intro n0 w dv v l hd hn0 hl hv
  subst hv
  unfold ir_kAppendUint64 at h
  refine call_of h hm (by simp) ?_
  have a0 : args0 [dv, .int .u64 n] 0 = dv := rfl
  have a1 : args0 [dv, .int .u64 n] 1 = .int .u64 n := rfl
  generalize args0 [dv, .int .u64 n] = σ at a0 a1 ⊢
  rw [wpC_seq, wpC_blk]
  refine wpR_step (v := .slice none 0 0) rfl ?_
  refine wpR_done ?_
  rw [wpC_seq, wpC_blk]
  refine wpR_step (v := dv) (by simp only [RK.val?, ev, updo, upd]; simp [a0]) ?_
  have b5 : updo (updo σ (some 4) (.slice none 0 0)) (some 5) dv 5 = dv := by simp only [updo, upd, if_true]
  have b1 : updo (updo σ (some 4) (.slice none 0 0)) (some 5) dv 1 = .int .u64 n := by simp only [updo, upd]; simp [a1]
  generalize updo (updo σ (some 4) (.slice none 0 0)) (some 5) dv = σ0 at b5 b1 ⊢
  have sh : ∀ (k : Nat), k < 64 → intBin .shr .u64 n k = some (.int .u64 (n / 2 ^ k)) := fun k hk => by
    simp only [intBin]
    rw [if_neg (by omega)]
    have : min (k : Int).toNat IntKind.u64.bits = k := by show min (k : Int).toNat 64 = k; omega
    rw [this, Int.fdiv_eq_ediv_of_nonneg _ (by exact Int.le_of_lt (Int.pow_pos (by omega)))]
  refine byte3 (t := 6) (d := 72057594037927936) (b1) hn.1 (by omega) (by omega) (sh 56 (by omega)) fun σ1 k1 v1 => ?_
  have c1 : Ag 6 σ0 σ1 := k1
  refine byte3 (t := 9) (d := 281474976710656) ((c1 1 (by omega)).trans b1) hn.1 (by omega) (by omega) (sh 48 (by omega)) fun σ2 k2 v2 => ?_
  have c2 : Ag 6 σ0 σ2 := fun q hq => (k2 q (by omega)).trans (c1 q hq)
  refine byte3 (t := 12) (d := 1099511627776) ((c2 1 (by omega)).trans b1) hn.1 (by omega) (by omega) (sh 40 (by omega)) fun σ3 k3 v3 => ?_
  have c3 : Ag 6 σ0 σ3 := fun q hq => (k3 q (by omega)).trans (c2 q hq)
  refine byte3 (t := 15) (d := 4294967296) ((c3 1 (by omega)).trans b1) hn.1 (by omega) (by omega) (sh 32 (by omega)) fun σ4 k4 v4 => ?_
  have c4 : Ag 6 σ0 σ4 := fun q hq => (k4 q (by omega)).trans (c3 q hq)
  refine byte3 (t := 18) (d := 16777216) ((c4 1 (by omega)).trans b1) hn.1 (by omega) (by omega) (sh 24 (by omega)) fun σ5 k5 v5 => ?_
  have c5 : Ag 6 σ0 σ5 := fun q hq => (k5 q (by omega)).trans (c4 q hq)
  refine byte3 (t := 21) (d := 65536) ((c5 1 (by omega)).trans b1) hn.1 (by omega) (by omega) (sh 16 (by omega)) fun σ6 k6 v6 => ?_
  have c6 : Ag 6 σ0 σ6 := fun q hq => (k6 q (by omega)).trans (c5 q hq)
  refine byte3 (t := 24) (d := 256) ((c6 1 (by omega)).trans b1) hn.1 (by omega) (by omega) (sh 8 (by omega)) fun σ7 k7 v7 => ?_
  have c7 : Ag 6 σ0 σ7 := fun q hq => (k7 q (by omega)).trans (c6 q hq)
  refine wpR_step (v := .int .u64 n) (congrArg some ((c7 1 (by omega)).trans b1)) ?_
  refine wpR_step (v := .int .u8 (IntKind.u8.wrap n)) (by simp only [RK.val?, ev, updo, upd, if_true]) ?_
  have e8 : σ7 8 = .int .u8 ((UInt8.ofNat (n / 72057594037927936 % 256).toNat).toNat : Int) := (k7 8 (by omega)).trans ((k6 8 (by omega)).trans ((k5 8 (by omega)).trans ((k4 8 (by omega)).trans ((k3 8 (by omega)).trans ((k2 8 (by omega)).trans (v1))))))
  have e11 : σ7 11 = .int .u8 ((UInt8.ofNat (n / 281474976710656 % 256).toNat).toNat : Int) := (k7 11 (by omega)).trans ((k6 11 (by omega)).trans ((k5 11 (by omega)).trans ((k4 11 (by omega)).trans ((k3 11 (by omega)).trans (v2)))))
  have e14 : σ7 14 = .int .u8 ((UInt8.ofNat (n / 1099511627776 % 256).toNat).toNat : Int) := (k7 14 (by omega)).trans ((k6 14 (by omega)).trans ((k5 14 (by omega)).trans ((k4 14 (by omega)).trans (v3))))
  have e17 : σ7 17 = .int .u8 ((UInt8.ofNat (n / 4294967296 % 256).toNat).toNat : Int) := (k7 17 (by omega)).trans ((k6 17 (by omega)).trans ((k5 17 (by omega)).trans (v4)))
  have e20 : σ7 20 = .int .u8 ((UInt8.ofNat (n / 16777216 % 256).toNat).toNat : Int) := (k7 20 (by omega)).trans ((k6 20 (by omega)).trans (v5))
  have e23 : σ7 23 = .int .u8 ((UInt8.ofNat (n / 65536 % 256).toNat).toNat : Int) := (k7 23 (by omega)).trans (v6)
  have e26 : σ7 26 = .int .u8 ((UInt8.ofNat (n / 256 % 256).toNat).toNat : Int) := v7
  refine app_tail (v := dv) (k := l) (bs := beI 8 n) (by simp only [updo, upd]; simp; exact (c7 5 (by omega)).trans b5) (by omega) hd hn0 hl ?_ (beI_length _ _) (by omega) fun v' w' hA => ⟨v', rfl, hA⟩
  simp only [List.map_cons, List.map_nil, ev, updo, upd]
  simp [zrep, fillL, splice, Value.cells, beI, u8s, e8, e11, e14, e17, e20, e23, e26, u8vz n]
theorem kAppendInt8_call (hm : P.follows .mixedOrders = true) (h : liftF P (F kAppendInt8) = some (ir_kAppendInt8 F)) {n : Int} : AppC P (F kAppendInt8) (fun _ v => v = .int .i8 n) (beI 1 n) := by
  intro n0 w dv v l hd hn0 hl hv
  subst hv
  unfold ir_kAppendInt8 at h
  refine call_of h hm (by simp) ?_
  have a0 : args0 [dv, .int .i8 n] 0 = dv := rfl
  have a1 : args0 [dv, .int .i8 n] 1 = .int .i8 n := rfl
  generalize args0 [dv, .int .i8 n] = σ at a0 a1 ⊢
  rw [wpC_seq, wpC_blk]
  refine wpR_step (v := .slice none 0 0) rfl ?_
  refine wpR_done ?_
  rw [wpC_seq, wpC_blk]
  refine wpR_step (v := dv) (by simp only [RK.val?, ev, updo, upd]; simp [a0]) ?_
  refine wpR_step (v := .int .i8 n) (by simp only [RK.val?, ev, updo, upd]; simp [a1]) ?_
  refine wpR_step (v := .int .u8 (IntKind.u8.wrap n)) (by simp only [RK.val?, ev, updo, upd, if_true]) ?_
  refine app_tail (v := dv) (k := l) (bs := beI 1 n) (by simp only [updo, upd]; simp) (by omega) hd hn0 hl ?_ (beI_length _ _) (by omega) fun v' w' hA => ⟨v', rfl, hA⟩
  simp only [List.map_cons, List.map_nil, ev, updo, upd]
  simp [zrep, fillL, splice, Value.cells, beI, u8s, u8vz n]
theorem kAppendBool_call (hm : P.follows .mixedOrders = true) (h : liftF P (F kAppendBool) = some (ir_kAppendBool F)) {b : Bool} : AppC P (F kAppendBool) (fun _ v => v = .bool b) [if b then 1 else 0] := by
  intro n0 w dv v l hd hn0 hl hv
  subst hv
  unfold ir_kAppendBool at h
  refine call_of h hm (by simp) ?_
  have a0 : args0 [dv, .bool b] 0 = dv := rfl
  have a1 : args0 [dv, .bool b] 1 = .bool b := rfl
  generalize args0 [dv, .bool b] = σ at a0 a1 ⊢
  rw [wpC_seq, wpC_blk]
  refine wpR_step (v := .slice none 0 0) rfl ?_
  refine wpR_done ?_
  rw [wpC_seq, wpC_seq, wpC_blk]
  refine wpR_step (v := .bool b) (by simp only [RK.val?, ev, updo, upd]; simp [a1]) ?_
  refine wpR_done ?_
  have fin : ∀ (c : UInt8) (x : Nat) (y : Int), 6 ≤ x → Value.int .u8 y = .int .u8 (c.toNat : Int) → [if b then 1 else 0] = [c] → ∀ σ1 : Sl, σ1 (x - 1) = dv → wpR P [⟨some x, .bslice 1 [.int .u8 0] [(0, 1, .const (.int .u8 y))], none⟩, ⟨some (x + 1), .append (.tmp (x - 1)) (.tmp x) 1 1, none⟩, ⟨some 4, .mv (.tmp (x + 1)), none⟩] σ1 w
      (thenC (wpC P .ret (postC [.tmp 4] fun e w' => ∃ dv', e = .returned dv' ∧ AppD n0 w dv w' dv' (l ++ [if b then 1 else 0]))) (postC [.tmp 4] fun e w' => ∃ dv', e = .returned dv' ∧ AppD n0 w dv w' dv' (l ++ [if b then 1 else 0])) .normal) := by
    intro c x y hx hy hc σ1 h1
    rw [hc]
    refine app_tail (v := dv) (k := l) (bs := [c]) h1 (by omega) hd hn0 (by rw [hc] at hl; exact hl) ?_ rfl (by omega) fun v' w' hA => ⟨v', rfl, hA⟩
    simp only [List.map_cons, List.map_nil, ev, hy]
    simp [zrep, fillL, splice, Value.cells, u8s]
  cases b with
  | true =>
    rw [wpC_cond_t rfl, wpC_seq, wpC_blk]
    refine wpR_step (v := dv) (by simp only [RK.val?, ev, updo, upd]; simp [a0]) ?_
    exact fin 1 7 1 (by omega) rfl rfl _ rfl
  | false =>
    rw [wpC_cond_f rfl, wpC_skip]
    simp only [thenC]
    rw [wpC_seq, wpC_blk]
    refine wpR_step (v := dv) (by simp only [RK.val?, ev, updo, upd]; simp [a0]) ?_
    exact fin 0 10 0 (by omega) rfl rfl _ rfl
end
end Go.Msk

namespace Go.Msk
open Go.RowKit
set_option maxRecDepth 100000
def convCode (k : IntKind) (g : FuncId) : IC × List RV × Nat :=
  (.seq (.blk [⟨some 4, .mv (.const (.slice none 0 0)), none⟩])
    (.seq (.blk [⟨some 5, .mv (.tmp 0), none⟩, ⟨some 6, .mv (.tmp 1), none⟩, ⟨some 7, .conv k (.tmp 6), none⟩, ⟨some 8, .call g [.tmp 5, .tmp 7], none⟩, ⟨some 4, .mv (.tmp 8), none⟩]) .ret), [.tmp 4], 9)
section
variable {P : Program} {F : Nat → Nat}
theorem conv_app (hm : P.follows .mixedOrders = true) {f g : FuncId} {k kk : IntKind} {n : Int} {enc : List UInt8} (h : liftF P f = some (convCode k g)) (hg : AppC P g (fun _ v => v = .int k (k.wrap n)) enc) : AppC P f (fun _ v => v = .int kk n) enc := by
  intro n0 w dv v l hd hn0 hl hv
  subst hv
  unfold convCode at h
  refine call_of h hm (by simp) ?_
  have a0 : args0 [dv, .int kk n] 0 = dv := rfl
  have a1 : args0 [dv, .int kk n] 1 = .int kk n := rfl
  generalize args0 [dv, .int kk n] = σ at a0 a1 ⊢
  rw [wpC_seq, wpC_blk]
  refine wpR_step (v := .slice none 0 0) rfl ?_
  refine wpR_done ?_
  rw [wpC_seq, wpC_blk]
  refine wpR_step (v := dv) (by simp only [RK.val?, ev, updo, upd]; simp [a0]) ?_
  refine wpR_step (v := .int kk n) (by simp only [RK.val?, ev, updo, upd]; simp [a1]) ?_
  refine wpR_step (v := .int k (k.wrap n)) (by simp only [RK.val?, ev, updo, upd, if_true]) ?_
  refine wpR_call (vs := [dv, .int k (k.wrap n)]) (by simp only [List.map_cons, List.map_nil, ev, updo, upd]; simp) (hg n0 w dv _ l hd hn0 hl rfl) ?_
  rintro e w' ⟨dv', rfl, hA⟩
  refine ⟨_, rfl, ?_⟩
  refine wpR_step (v := dv') (by simp only [RK.val?, ev, updo, upd, if_true]) ?_
  refine wpR_done ?_
  simp only [wpC, postC, rvals, List.mapM_cons, List.mapM_nil, RV.val, updo, upd, if_true, Option.bind_eq_bind, Option.bind_some, Option.pure_def, tup_one]
  exact ⟨dv', rfl, hA⟩
theorem AppC.enc {f : FuncId} {V : World → Value → Prop} {e e' : List UInt8} (h : AppC P f V e) (he : e = e') : AppC P f V e' := he ▸ h
theorem wrap_u (n : Int) : IntKind.u16.wrap n = n % 65536 ∧ IntKind.u32.wrap n = n % 4294967296 ∧ IntKind.u64.wrap n = n % 18446744073709551616 := by
  simp [IntKind.wrap, IntKind.bits, IntKind.signed]
theorem kAppendInt16_call (hm : P.follows .mixedOrders = true) (h : liftF P (F kAppendInt16) = some (ir_kAppendInt16 F)) (h2 : liftF P (F kAppendUint16) = some (ir_kAppendUint16 F)) {kk : IntKind} {n : Int} : AppC P (F kAppendInt16) (fun _ v => v = .int kk n) (beI 2 n) := by
  refine conv_app (k := .u16) hm h ?_
  rw [(wrap_u n).1]
  exact (kAppendUint16_call hm h2 ⟨Int.emod_nonneg _ (by omega), Int.emod_lt_of_pos _ (by omega)⟩).enc (beI_mod 2 _ _ (by simp))
theorem kAppendInt32_call (hm : P.follows .mixedOrders = true) (h : liftF P (F kAppendInt32) = some (ir_kAppendInt32 F)) (h2 : liftF P (F kAppendUint32) = some (ir_kAppendUint32 F)) {kk : IntKind} {n : Int} : AppC P (F kAppendInt32) (fun _ v => v = .int kk n) (beI 4 n) := by
  refine conv_app (k := .u32) hm h ?_
  rw [(wrap_u n).2.1]
  exact (kAppendUint32_call hm h2 ⟨Int.emod_nonneg _ (by omega), Int.emod_lt_of_pos _ (by omega)⟩).enc (beI_mod 4 _ _ (by simp))
theorem kAppendInt64_call (hm : P.follows .mixedOrders = true) (h : liftF P (F kAppendInt64) = some (ir_kAppendInt64 F)) (h2 : liftF P (F kAppendUint64) = some (ir_kAppendUint64 F)) {kk : IntKind} {n : Int} : AppC P (F kAppendInt64) (fun _ v => v = .int kk n) (beI 8 n) := by
  refine conv_app (k := .u64) hm h ?_
  rw [(wrap_u n).2.2]
  exact (kAppendUint64_call hm h2 ⟨Int.emod_nonneg _ (by omega), Int.emod_lt_of_pos _ (by omega)⟩).enc (beI_mod 8 _ _ (by simp))
theorem kAppendArrayLen_call (hm : P.follows .mixedOrders = true) (h : liftF P (F kAppendArrayLen) = some (ir_kAppendArrayLen F)) (h1 : liftF P (F kAppendInt32) = some (ir_kAppendInt32 F)) (h2 : liftF P (F kAppendUint32) = some (ir_kAppendUint32 F)) {n : Int} :
    AppC P (F kAppendArrayLen) (fun _ v => v = .int .i64 n) (beI 4 n) := by
  refine conv_app (k := .i32) hm h ?_
  refine (kAppendInt32_call hm h1 h2).enc (beI_mod 4 _ _ ?_)
  simp only [IntKind.wrap, IntKind.bits, IntKind.signed]
  simp
  omega
end
end Go.Msk

namespace Go.Msk
open Go.RowKit
set_option maxRecDepth 100000
def lenU (n : Nat) : Nat := if n < 128 then 1 else if n < 16384 then 2 else if n < 2097152 then 3 else if n < 268435456 then 4 else 5
def t8 (i : Nat) : Nat := (tab8.data.toList.getD i 0).toNat
def tU (i : Nat) : Nat := (tabU.data.toList.getD i 0).toNat
def bl (n : Nat) : Nat := if 65536 ≤ n then (if 256 ≤ n / 65536 then 24 + t8 (n / 16777216) else 16 + t8 (n / 65536)) else if 256 ≤ n then 8 + t8 (n / 256) else t8 n
theorem tabs_ok : ((List.range 256).all fun m => tU (t8 m) == lenU m && (m == 0 || (tU (8 + t8 m) == lenU (m * 256) && tU (16 + t8 m) == lenU (m * 65536) && tU (24 + t8 m) == lenU (m * 16777216)))) = true := by decide +kernel
theorem tU_bl {n : Nat} (hn : n < 4294967296) : tU (bl n) = lenU n := by
  have key := tabs_ok
  rw [List.all_eq_true] at key
  have k : ∀ m, m < 256 → tU (t8 m) = lenU m ∧ (m = 0 ∨ (tU (8 + t8 m) = lenU (m * 256) ∧ tU (16 + t8 m) = lenU (m * 65536) ∧ tU (24 + t8 m) = lenU (m * 16777216))) := fun m hm => by
    have := key m (List.mem_range.2 hm)
    simp only [Bool.and_eq_true, beq_iff_eq, Bool.or_eq_true] at this
    exact ⟨this.1, this.2.imp id fun h => ⟨h.1.1, h.1.2, h.2⟩⟩
  unfold bl
  split
  · split
    · obtain ⟨-, h⟩ := k (n / 16777216) (by omega)
      rw [(h.resolve_left (by omega)).2.2]
      unfold lenU; repeat' split
      all_goals omega
    · obtain ⟨-, h⟩ := k (n / 65536) (by omega)
      rw [(h.resolve_left (by omega)).2.1]
      unfold lenU; repeat' split
      all_goals omega
  · split
    · obtain ⟨-, h⟩ := k (n / 256) (by omega)
      rw [(h.resolve_left (by omega)).1]
      unfold lenU; repeat' split
      all_goals omega
    · exact (k n (by omega)).1
end Go.Msk

namespace Go.Msk
open Go.RowKit
set_option maxRecDepth 100000
theorem and127_u32 {n : Nat} (h : n < 4294967296) : intBin .and .u32 (n : Int) 127 = some (.int .u32 ((n % 128 : Nat) : Int)) := by
  simp only [intBin]
  congr 2
  have e1 : (BitVec.ofInt IntKind.u32.bits (n : Int) &&& BitVec.ofInt IntKind.u32.bits 127).toNat = n % 128 := by
    show (BitVec.ofInt 32 (n : Int) &&& BitVec.ofInt 32 127).toNat = n % 128
    rw [BitVec.toNat_and]
    have a : (BitVec.ofInt 32 (n : Int)).toNat = n := by simp []; omega
    have b : (BitVec.ofInt 32 127).toNat = 2 ^ 7 - 1 := by decide
    rw [a, b, Nat.and_two_pow_sub_one_eq_mod]
  rw [e1, u32_nat (by omega)]
theorem or128_u32 {x : Nat} (h : x < 128) : intBin .or .u32 (x : Int) 128 = some (.int .u32 ((x + 128 : Nat) : Int)) := by
  have := or_u32 (x := x) (y := 1) (s := 7) (by omega) (by omega) (by omega)
  simpa using this
theorem shr_u32 (n k : Nat) (hk : k < 32) : intBin .shr .u32 (n : Int) (k : Nat) = some (.int .u32 ((n / 2 ^ k : Nat) : Int)) := by
  simp only [intBin]
  rw [if_neg (by omega)]
  have : min (k : Int).toNat IntKind.u32.bits = k := by show min (k : Int).toNat 32 = k; omega
  rw [this, Int.fdiv_eq_ediv_of_nonneg _ (by exact Int.le_of_lt (Int.pow_pos (by omega)))]
  congr 2
def uvE (n : Nat) : List UInt8 := if n < 128 then [UInt8.ofNat n] else UInt8.ofNat (n % 128 + 128) :: uvE (n / 128)
termination_by n
decreasing_by omega
theorem uvE_small {n : Nat} (h : n < 128) : uvE n = [UInt8.ofNat n] := by rw [uvE, if_pos h]
theorem uvE_big {n : Nat} (h : 128 ≤ n) : uvE n = UInt8.ofNat (n % 128 + 128) :: uvE (n / 128) := by rw [uvE, if_neg (by omega)]
theorem uvE_length {n : Nat} (h : n < 4294967296) : (uvE n).length = lenU n := by
  have go : ∀ n, n < 128 → (uvE n).length = 1 := fun n h => by rw [uvE_small h]; rfl
  unfold lenU
  split
  · exact go n (by omega)
  · rw [uvE_big (by omega)]
    split
    · simp [go (n / 128) (by omega)]
    · rw [uvE_big (by omega)]
      split
      · simp [go (n / 128 / 128) (by omega)]
      · rw [uvE_big (by omega)]
        split
        · simp [go (n / 128 / 128 / 128) (by omega)]
        · rw [uvE_big (by omega)]
          simp [go (n / 128 / 128 / 128 / 128) (by omega)]
theorem u8_conv {x : Nat} (h : x < 256) : Value.int .u8 (IntKind.u8.wrap (x : Int)) = .int .u8 ((UInt8.ofNat x).toNat : Int) := by
  rw [u8vz]
  have : ((x : Int) % 256).toNat = x := by omega
  rw [this]
section
variable {P : Program} {F : Nat → Nat}
theorem grpS {t k n : Nat} {σ : Sl} {w : World} {rest : List RI} {Q : Sl → World → Prop} (h1 : σ 1 = .int .u32 (n : Nat)) (hn : n < 4294967296) (hk : k < 32) (_ht : 4 < t)
    (hQ : ∀ σ', Ag t σ σ' → σ' (t + 4) = .int .u8 ((UInt8.ofNat (n / 2 ^ k % 128 + 128)).toNat : Int) → wpR P rest σ' w Q) :
    wpR P (⟨some t, .mv (.tmp 1), none⟩ :: ⟨some (t + 1), .bin .shr (.tmp t) (.const (.int .u64 (k : Nat))), none⟩ :: ⟨some (t + 2), .bin .and (.tmp (t + 1)) (.const (.int .u32 127)), none⟩ :: ⟨some (t + 3), .bin .or (.tmp (t + 2)) (.const (.int .u32 128)), none⟩ ::
      ⟨some (t + 4), .conv .u8 (.tmp (t + 3)), none⟩ :: rest) σ w Q := by
  have hd : n / 2 ^ k < 4294967296 := Nat.lt_of_le_of_lt (Nat.div_le_self _ _) hn
  refine wpR_step (v := .int .u32 (n : Nat)) (congrArg some h1) ?_
  refine wpR_step (v := .int .u32 ((n / 2 ^ k : Nat) : Int)) (by simp only [RK.val?, ev, updo, upd, if_true, isShift, Bool.true_or, shr_u32 n k hk]) ?_
  refine wpR_step (v := .int .u32 ((n / 2 ^ k % 128 : Nat) : Int)) (by simp only [RK.val?, ev, updo, upd, if_true, isShift, decide_true, Bool.or_true, and127_u32 hd]) ?_
  refine wpR_step (v := .int .u32 ((n / 2 ^ k % 128 + 128 : Nat) : Int)) (by simp only [RK.val?, ev, updo, upd, if_true, isShift, decide_true, Bool.or_true, or128_u32 (Nat.mod_lt _ (by omega))]) ?_
  refine wpR_step (v := .int .u8 (IntKind.u8.wrap ((n / 2 ^ k % 128 + 128 : Nat) : Int))) (by simp only [RK.val?, ev, updo, upd, if_true]) ?_
  refine hQ _ (fun j hj => ?_) ?_
  · simp only [updo, upd, show j ≠ t by omega, show j ≠ t + 1 by omega, show j ≠ t + 2 by omega, show j ≠ t + 3 by omega, show j ≠ t + 4 by omega, if_false]
  · simp only [updo, upd, if_true]
    exact u8_conv (by omega)
theorem grpF {t n : Nat} {σ : Sl} {w : World} {rest : List RI} {Q : Sl → World → Prop} (h1 : σ 1 = .int .u32 (n : Nat)) (hn : n < 4294967296) (_ht : 4 < t)
    (hQ : ∀ σ', Ag t σ σ' → σ' (t + 3) = .int .u8 ((UInt8.ofNat (n % 128 + 128)).toNat : Int) → wpR P rest σ' w Q) :
    wpR P (⟨some t, .mv (.tmp 1), none⟩ :: ⟨some (t + 1), .bin .and (.tmp t) (.const (.int .u32 127)), none⟩ :: ⟨some (t + 2), .bin .or (.tmp (t + 1)) (.const (.int .u32 128)), none⟩ ::
      ⟨some (t + 3), .conv .u8 (.tmp (t + 2)), none⟩ :: rest) σ w Q := by
  refine wpR_step (v := .int .u32 (n : Nat)) (congrArg some h1) ?_
  refine wpR_step (v := .int .u32 ((n % 128 : Nat) : Int)) (by simp only [RK.val?, ev, updo, upd, if_true, isShift, decide_true, Bool.or_true, and127_u32 hn]) ?_
  refine wpR_step (v := .int .u32 ((n % 128 + 128 : Nat) : Int)) (by simp only [RK.val?, ev, updo, upd, if_true, isShift, decide_true, Bool.or_true, or128_u32 (Nat.mod_lt _ (by omega))]) ?_
  refine wpR_step (v := .int .u8 (IntKind.u8.wrap ((n % 128 + 128 : Nat) : Int))) (by simp only [RK.val?, ev, updo, upd, if_true]) ?_
  refine hQ _ (fun j hj => ?_) ?_
  · simp only [updo, upd, show j ≠ t by omega, show j ≠ t + 1 by omega, show j ≠ t + 2 by omega, show j ≠ t + 3 by omega, if_false]
  · simp only [updo, upd, if_true]
    exact u8_conv (by omega)
theorem grpL {t k n : Nat} {σ : Sl} {w : World} {rest : List RI} {Q : Sl → World → Prop} (h1 : σ 1 = .int .u32 (n : Nat)) (hk : k < 32) (hs : n / 2 ^ k < 256) (_ht : 4 < t)
    (hQ : ∀ σ', Ag t σ σ' → σ' (t + 2) = .int .u8 ((UInt8.ofNat (n / 2 ^ k)).toNat : Int) → wpR P rest σ' w Q) :
    wpR P (⟨some t, .mv (.tmp 1), none⟩ :: ⟨some (t + 1), .bin .shr (.tmp t) (.const (.int .u64 (k : Nat))), none⟩ :: ⟨some (t + 2), .conv .u8 (.tmp (t + 1)), none⟩ :: rest) σ w Q := by
  refine wpR_step (v := .int .u32 (n : Nat)) (congrArg some h1) ?_
  refine wpR_step (v := .int .u32 ((n / 2 ^ k : Nat) : Int)) (by simp only [RK.val?, ev, updo, upd, if_true, isShift, Bool.true_or, shr_u32 n k hk]) ?_
  refine wpR_step (v := .int .u8 (IntKind.u8.wrap ((n / 2 ^ k : Nat) : Int))) (by simp only [RK.val?, ev, updo, upd, if_true]) ?_
  refine hQ _ (fun j hj => ?_) ?_
  · simp only [updo, upd, show j ≠ t by omega, show j ≠ t + 1 by omega, show j ≠ t + 2 by omega, if_false]
  · simp only [updo, upd, if_true]
    exact u8_conv hs
end
end Go.Msk

namespace Go.Msk
open Go.RowKit
set_option maxRecDepth 100000
section
variable {P : Program}
theorem go1 {k : RK} {d : Option Nat} {g : Option (Nat × Bool)} {r : List RI} {σ : Sl} {w : World} {v : Value} {Q : Sl → World → Prop} (hg : gOk g σ = true) (hv : k.val? σ w = some v) (h : wpR P r (updo σ d v) w Q) : wpR P (⟨d, k, g⟩ :: r) σ w Q := by
  simp only [wpR, RI.wp, hg, if_true]
  exact run_of_val hv h
theorem go0 {k : RK} {d : Option Nat} {g : Nat × Bool} {r : List RI} {σ : Sl} {w : World} {Q : Sl → World → Prop} (hg : gOk (some g) σ = false) (h : wpR P r (updo σ d undef) w Q) : wpR P (⟨d, k, some g⟩ :: r) σ w Q := by
  simp only [wpR, RI.wp, hg]; exact h
theorem goC {k : RK} {d : Option Nat} {g : Option (Nat × Bool)} {r : List RI} {σ : Sl} {w : World} {Q : Sl → World → Prop} (hg : gOk g σ = true) (h : k.run P σ w fun v w' => wpR P r (updo σ d v) w' Q) : wpR P (⟨d, k, g⟩ :: r) σ w Q := by
  simp only [wpR, RI.wp, hg, if_true]; exact h
theorem goBox {x : Operand} {d : Option Nat} {r : List RI} {σ : Sl} {w : World} {v : Value} {Q : Sl → World → Prop} (hx : ev σ x = v)
    (h : ∀ w', Blk w' w.heap.size v.cells.toList → Mod [] w w' → wpR P r (updo σ d (.pointer (some ⟨w.heap.size, 0, none⟩))) w' Q) : wpR P (⟨d, .box x, none⟩ :: r) σ w Q := by
  subst hx
  refine wpR_run ?_
  intro T
  exact h _ (Blk.new w _ T) (Mod.alloc _ _ _)
theorem goAlloc {z : List Value} {d : Option Nat} {r : List RI} {σ : Sl} {w : World} {Q : Sl → World → Prop}
    (h : ∀ w', Blk w' w.heap.size z → Mod [] w w' → wpR P r (updo σ d (.pointer (some ⟨w.heap.size, 0, none⟩))) w' Q) : wpR P (⟨d, .alloc z, none⟩ :: r) σ w Q := by
  refine wpR_run ?_
  intro T
  exact h _ (Blk.new w _ T) (Mod.alloc _ _ _)
theorem goOne {x : Operand} {n : Nat} {z cs : List Value} {d : Option Nat} {r : List RI} {σ : Sl} {w : World} {Q : Sl → World → Prop} (hx : (ev σ x).cells.toList = cs) (hn : cs.length = n) (hz : z.length = n)
    (h : ∀ w', Blk w' w.heap.size cs → Mod [] w w' → wpR P r (updo σ d (.slice (some ⟨w.heap.size, 0, none⟩) 1 1)) w' Q) : wpR P (⟨d, .bslice 1 z [(0, n, x)], none⟩ :: r) σ w Q := by
  refine wpR_run ?_
  have hl : (ev σ x).cells.size = n := by rw [← hn, ← hx]; simp
  have e1 : fillL (zrep 1 z) [(0, n, ev σ x)] = some cs := by
    simp only [fillL, zrep, List.replicate, List.flatten_cons, List.flatten_nil, List.append_nil]
    rw [if_pos ⟨hl, by omega⟩, hx]
    simp [splice, hn, hz]
  simp only [RK.run, List.map_cons, List.map_nil, e1]
  intro T
  exact h _ (Blk.new w _ T) (Mod.alloc _ _ _)
theorem goSt {a x : Operand} {n b : Nat} {r : List RI} {σ : Sl} {w : World} {v : Value} {cs : List Value} {Q : Sl → World → Prop} (ha : ev σ a = .pointer (some ⟨b, 0, none⟩)) (hx : ev σ x = v) (hb : Blk w b cs) (hn : v.cells.size = n) (hl : cs.length = n)
    (h1 : ∀ y ∈ v.cells.toList, y.oneCell' = true) (h : ∀ w', Blk w' b v.cells.toList → Mod [b] w w' → wpR P r σ w' Q) : wpR P (⟨none, .st a n x, none⟩ :: r) σ w Q := by
  subst hx
  refine wpR_run ?_
  have hl' : (ev σ x).cells.toList.length = n := by simpa using hn
  simp only [RK.run, ha]
  refine ⟨hn, stOk_many hb (by omega) h1, h _ ?_ (Mod.put (by simp))⟩
  have := hb.put (o := 0) (vs := (ev σ x).cells.toList) (by omega)
  have e : splice cs 0 (ev σ x).cells.toList = (ev σ x).cells.toList := by simp [splice, hl, hl']
  rwa [e] at this
theorem goCall {f : FuncId} {args : List Operand} {d : Option Nat} {g : Option (Nat × Bool)} {r : List RI} {σ : Sl} {w : World} {Q : Sl → World → Prop} {R : Ending → World → Prop} {vs : List Value} (hg : gOk g σ = true) (ha : args.map (ev σ) = vs) (hc : Calls P f vs.toArray w R)
    (hk : ∀ e w', R e w' → ∃ v, e = .returned v ∧ wpR P r (updo σ d v) w' Q) : wpR P (⟨d, .call f args, g⟩ :: r) σ w Q := by
  subst ha
  refine goC hg ?_
  exact hc.mono fun e w' he => hk e w' he
theorem goEnd {Q : Sl → World → Prop} {σ : Sl} {w : World} (h : Q σ w) : wpR P [] σ w Q := h
theorem bo1 {l : List DI} {Φ : Nat → Value → World → Prop} {w0 : World} {E : Sl → Prop} {n : Nat} {k : RK} {d : Option Nat} {g : Option (Nat × Bool)} {ds : List Nat} {r : List DI} {σ : Sl} {v : Value} (hg : gOk g σ = true) (hv : k.val? σ w0 = some v)
    (h : walkB P l Φ w0 E (n + 1) r (updo σ d v)) : walkB P l Φ w0 E n (⟨⟨d, k, g⟩, false, ds⟩ :: r) σ := by
  simp only [walkB, hg, if_true, hv, Bool.false_eq_true, if_false]
  exact h
theorem boN {l : List DI} {Φ : Nat → Value → World → Prop} {w0 : World} {E : Sl → Prop} {n : Nat} {k : RK} {d : Option Nat} {g : Option (Nat × Bool)} {ds : List Nat} {r : List DI} {σ : Sl} (hg : gOk g σ = true)
    (hn : ∀ w, Mod [] w0 w → known l Φ ds σ w → k.run P σ w fun v w' => Mod [] w w' ∧ Φ n v w') (h : ∀ v, (∃ w, Φ n v w) → walkB P l Φ w0 E (n + 1) r (updo σ d v)) : walkB P l Φ w0 E n (⟨⟨d, k, g⟩, true, ds⟩ :: r) σ := by
  simp only [walkB, hg, if_true]
  exact ⟨hn, h⟩
theorem boCall {l : List DI} {Φ : Nat → Value → World → Prop} {w0 : World} {E : Sl → Prop} {n : Nat} {f : FuncId} {args : List Operand} {d : Option Nat} {g : Option (Nat × Bool)} {ds : List Nat} {r : List DI} {σ : Sl} {vs : List Value} (hg : gOk g σ = true) (ha : args.map (ev σ) = vs)
    (hn : ∀ w, Mod [] w0 w → known l Φ ds σ w → Calls P f vs.toArray w fun e w' => ∃ v, e = .returned v ∧ Mod [] w w' ∧ Φ n v w') (h : ∀ v, (∃ w, Φ n v w) → walkB P l Φ w0 E (n + 1) r (updo σ d v)) :
    walkB P l Φ w0 E n (⟨⟨d, .call f args, g⟩, true, ds⟩ :: r) σ := by
  subst ha
  exact boN hg (fun w hm hk => hn w hm hk) h
theorem known_get {l : List DI} {Φ : Nat → Value → World → Prop} {js : List Nat} {σ : Sl} {w : World} {j t : Nat} {d : DI} (h : known l Φ js σ w) (hj : j ∈ js) (hd : l[j]? = some d) (hn : d.node = true) (hg : gOk d.ri.guard σ = true) (ht : d.ri.dst = some t) : Φ j (σ t) w :=
  h j hj d hd hn hg t ht
theorem ret1 {t : Nat} {R : Ending → World → Prop} {σ : Sl} {w : World} {v : Value} (hv : σ t = v) (h : R (.returned v) w) : wpC P .ret (postC [.tmp t] R) σ w := by
  subst hv
  simp only [wpC, postC, rvals, List.mapM_cons, List.mapM_nil, RV.val, Option.bind_eq_bind, Option.bind_some, Option.pure_def, tup_one]
  exact h
theorem post1 {t : Nat} {R : Ending → World → Prop} {σ : Sl} {w : World} {v : Value} (hv : σ t = v) (h : R (.returned v) w) : postC [.tmp t] R .ret σ w := by
  subst hv
  simp only [postC, rvals, List.mapM_cons, List.mapM_nil, RV.val, Option.bind_eq_bind, Option.bind_some, Option.pure_def, tup_one]
  exact h
theorem retN {t n b : Nat} {R : Ending → World → Prop} {σ : Sl} {w : World} {cs : List Value} (ht : σ t = .pointer (some ⟨b, 0, none⟩)) (hb : Blk w b cs) (hn : cs.length = n) (h : R (.returned (.agg cs.toArray)) w) : wpC P .ret (postC [.cells t n] R) σ w := by
  have hc := cellsAt_of' hb.cells hn
  simp only [wpC, postC, rvals, List.mapM_cons, List.mapM_nil, RV.val, ht, hc, Option.map_some, Option.bind_eq_bind, Option.bind_some, Option.pure_def, tup_one]
  exact h
theorem wpR_mono {Q Q' : Sl → World → Prop} (hQ : ∀ σ w, Q σ w → Q' σ w) : ∀ (l : List RI) (σ : Sl) (w : World), wpR P l σ w Q → wpR P l σ w Q'
  | [], σ, w, h => hQ σ w h
  | i :: r, σ, w, h => by
    simp only [wpR, RI.wp] at h ⊢
    split at h
    · rename_i hg; rw [if_pos hg]; exact run_mono h fun v w' hk => wpR_mono hQ r _ _ hk
    · rename_i hg; rw [if_neg hg]; exact wpR_mono hQ r _ _ h
theorem walk_mono {l : List DI} {R : World → World → Prop} {Φ : Nat → Value → World → Prop} {N : Nat → World → Prop} {w0 : World} {E E' : Sl → Prop} (hE : ∀ σ, E σ → E' σ) : ∀ (r : List DI) (k : Nat) (σ : Sl),
    walk P l R Φ N w0 E k r σ → walk P l R Φ N w0 E' k r σ
  | [], _, σ, h => hE σ h
  | d :: r, k, σ, h => by
    simp only [walk] at h ⊢
    split at h
    · rename_i hg; rw [if_pos hg]
      split at h
      · rename_i hn; rw [if_pos hn]; exact ⟨h.1, fun v hv => walk_mono hE r _ _ (h.2 v hv)⟩
      · rename_i hn; rw [if_neg hn]; obtain ⟨v, h1, h2⟩ := h; exact ⟨v, h1, walk_mono hE r _ _ h2⟩
    · rename_i hg; rw [if_neg hg]; exact walk_mono hE r _ _ h
theorem wpD_mono {l : List DI} {s : List RI} {σ : Sl} {w : World} {Q Q' : Sl → World → Prop} (hQ : ∀ σ w, Q σ w → Q' σ w) (h : wpD P l s σ w Q) : wpD P l s σ w Q' := by
  obtain ⟨R, Φ, N, h1, h2, h3, h4, h5⟩ := h
  exact ⟨R, Φ, N, h1, h2, h3, h4, walk_mono (fun σ h w hr hk => wpR_mono hQ s σ w (h w hr hk)) _ _ _ h5⟩
theorem thenC_mono {N N' : Sl → World → Prop} {Q Q' : Exit → Sl → World → Prop} (hN : ∀ σ w, N σ w → N' σ w) (hQ : ∀ e σ w, Q e σ w → Q' e σ w) : ∀ e σ w, thenC N Q e σ w → thenC N' Q' e σ w := by
  intro e σ w h
  cases e with
  | normal => exact hN σ w h
  | _ => exact hQ _ σ w h
theorem wpC_mono {Q Q' : Exit → Sl → World → Prop} (hQ : ∀ e σ w, Q e σ w → Q' e σ w) {c : IC} {σ : Sl} {w : World} (h : wpC P c Q σ w) : wpC P c Q' σ w := by
  induction c generalizing Q Q' σ w with
  | skip => exact hQ _ _ _ h
  | ret => exact hQ _ _ _ h
  | blk l => exact wpR_mono (hQ .normal) l σ w h
  | drw l s => exact wpD_mono (hQ .normal) h
  | seq a b iha ihb => exact iha (thenC_mono (fun σ w h => ihb hQ h) hQ) h
  | cond c a b iha ihb =>
    simp only [wpC] at h ⊢
    split at h
    · exact iha hQ h
    · exact ihb hQ h
    · exact h.elim
  | block id a ih =>
    refine ih (fun e σ w h => ?_) h
    cases e with
    | exit i => simp only [inBlockC] at h ⊢; split at h <;> rename_i hi <;> simp only [hi, if_true, if_false] <;> exact hQ _ _ _ h
    | _ => exact hQ _ _ _ h
  | loop a ih =>
    obtain ⟨I, μ, h0, h1⟩ := h
    exact ⟨I, μ, h0, fun σ w hi => ih (thenC_mono (fun _ _ h => h) hQ) (h1 σ w hi)⟩
  | exit id => exact hQ _ _ _ h
  | goto l => exact hQ _ _ _ h
  | scope a ih =>
    refine ih (fun e σ w h => ?_) h
    cases e with
    | goto l => exact h.elim
    | _ => exact hQ _ _ _ h
  | scopeTo a l r iha ihr =>
    refine iha (fun e σ w h => ?_) h
    cases e with
    | goto l' => exact ⟨h.1, ihr (fun e σ w h => by cases e with | goto l => exact h.elim | _ => exact hQ _ _ _ h) h.2⟩
    | _ => exact hQ _ _ _ h
  | rnd d1 d2 => exact fun c T => hQ _ _ _ (h c T)
  | bad => exact h
theorem retThen {N : Sl → World → Prop} {Q : Exit → Sl → World → Prop} {σ : Sl} {w : World} (h : wpC P .ret Q σ w) : wpC P .ret (thenC N Q) σ w := h
theorem retBlk {id : Nat} {Q : Exit → Sl → World → Prop} {σ : Sl} {w : World} (h : wpC P .ret Q σ w) : wpC P .ret (inBlockC id Q) σ w := h
def rngP (bid bid1 c nx j : Nat) (I : Nat → Sl → World → Prop) (Q : Exit → Sl → World → Prop) : Exit → Sl → World → Prop
  | .normal, σ, w => σ c = .int .i64 (j : Nat) ∧ I (j + 1) (upd (upd σ nx (.int .i64 ((j + 1 : Nat) : Int))) c (.int .i64 ((j + 1 : Nat) : Int))) w
  | .exit i, σ, w => if i = bid1 then σ c = .int .i64 (j : Nat) ∧ I (j + 1) (upd (upd σ nx (.int .i64 ((j + 1 : Nat) : Int))) c (.int .i64 ((j + 1 : Nat) : Int))) w else if i = bid then Q .normal σ w else Q (.exit i) σ w
  | e, σ, w => Q e σ w
theorem i64_nat {n : Nat} (h : n < 9223372036854775808) : IntKind.i64.wrap (n : Int) = n := by
  simp only [IntKind.wrap, IntKind.bits, IntKind.signed]
  simp
  omega
theorem retRng {bid bid1 c nx j : Nat} {I : Nat → Sl → World → Prop} {Q : Exit → Sl → World → Prop} {σ : Sl} {w : World} (h : wpC P .ret Q σ w) : wpC P .ret (rngP bid bid1 c nx j I Q) σ w := h
theorem rangeLoop {c nl nx b bid bid1 n : Nat} {body : IC} {Q : Exit → Sl → World → Prop} {σ : Sl} {w : World} (I : Nat → Sl → World → Prop) (hn : n < 9223372036854775807) (_hne : bid ≠ bid1)
    (hI : ∀ j σ w, I j σ w → σ c = .int .i64 (j : Nat) ∧ σ nl = .int .i64 (n : Nat)) (h0 : I 0 σ w)
    (hstep : ∀ j σ w, j < n → I j σ w → wpC P body (rngP bid bid1 c nx j I Q) (upd σ b (.bool true)) w)
    (hend : ∀ σ w, I n σ w → Q .normal (upd σ b (.bool false)) w) :
    wpC P (.block bid (.loop (.seq (.blk [⟨some b, .bin .lss (.tmp c) (.tmp nl), none⟩]) (.seq (.cond (.tmp b) .skip (.exit bid)) (.seq (.block bid1 body) (.blk [⟨some nx, .bin .add (.tmp c) (.const (.int .i64 1)), none⟩, ⟨some c, .mv (.tmp nx), none⟩])))))) Q σ w := by
  rw [wpC_block, wpC_loop]
  refine ⟨fun σ w => ∃ j, j ≤ n ∧ I j σ w, fun σ _ => n - (match σ c with | .int _ j => j.toNat | _ => 0), ⟨0, Nat.zero_le _, h0⟩, ?_⟩
  rintro σ w ⟨j, hj, hi⟩
  obtain ⟨ec, el⟩ := hI j σ w hi
  rw [wpC_seq, wpC_blk]
  refine go1 (v := .bool (decide ((j : Int) < n))) rfl (by simp [RK.val?, ev, ec, el, intBin]) ?_
  refine goEnd ?_
  simp only [thenC, updo]
  rw [wpC_seq]
  by_cases hlt : j < n
  · have e1 : decide ((j : Int) < n) = true := by simp [hlt]
    rw [e1, wpC_cond_t (by simp [ev, upd]), wpC_skip]
    simp only [thenC]
    rw [wpC_seq, wpC_block]
    refine wpC_mono ?_ (hstep j σ w hlt hi)
    have key : ∀ σ' w', (σ' c = .int .i64 (j : Nat) ∧ I (j + 1) (upd (upd σ' nx (.int .i64 ((j + 1 : Nat) : Int))) c (.int .i64 ((j + 1 : Nat) : Int))) w') →
        wpC P (.blk [⟨some nx, .bin .add (.tmp c) (.const (.int .i64 1)), none⟩, ⟨some c, .mv (.tmp nx), none⟩])
          (thenC (fun σ' w' => (∃ j, j ≤ n ∧ I j σ' w') ∧ (n - (match σ' c with | .int _ j => j.toNat | _ => 0)) < (n - (match σ c with | .int _ j => j.toNat | _ => 0))) (inBlockC bid Q)) σ' w' := by
      rintro σ' w' ⟨k1, k2⟩
      rw [wpC_blk]
      refine go1 (v := .int .i64 ((j + 1 : Nat) : Int)) rfl (by
        simp only [RK.val?, ev, k1, isShift, decide_true, Bool.or_true, if_true, intBin]
        rw [show (j : Int) + 1 = ((j + 1 : Nat) : Int) by omega, i64_nat (by omega)]) ?_
      refine go1 (v := .int .i64 ((j + 1 : Nat) : Int)) rfl (by simp [RK.val?, ev, updo, upd]) ?_
      refine goEnd ?_
      simp only [thenC, updo]
      refine ⟨⟨j + 1, by omega, k2⟩, ?_⟩
      simp only [upd_same, ec, Int.toNat_natCast]
      have : n - (j + 1) < n - j := by omega
      exact this
    intro e σ' w' he
    cases e with
    | normal => exact key σ' w' he
    | exit i =>
      simp only [rngP] at he
      simp only [inBlockC]
      split at he
      · rename_i e1; rw [if_pos e1]; exact key σ' w' he
      · rename_i e1
        rw [if_neg e1]
        simp only [thenC, inBlockC]
        exact he
    | _ => exact he
  · have e1 : decide ((j : Int) < n) = false := by simp; omega
    have : j = n := by omega
    subst this
    rw [e1, wpC_cond_f (by simp [ev, upd])]
    simp only [wpC, thenC, inBlockC, if_true]
    exact hend σ w hi
end
end Go.Msk
