/- A small language of resolved operations, and what the generic and the generated functions do in it (part 4). -/
import Derived.Test.YtfoljfjkifiboaaFc
import Derived.Laws.BitsAllLaws
import Derived.Laws.BitsLemmas
import Derived.Laws.Bits64

namespace Go.Msk
abbrev gBig : Nat := 0
abbrev gErr : Nat := 1
abbrev rBool : Nat := 2
abbrev rInt8 : Nat := 3
abbrev rInt16 : Nat := 4
abbrev rUint16 : Nat := 5
abbrev rInt32 : Nat := 6
abbrev rInt64 : Nat := 7
abbrev rUuid : Nat := 8
abbrev rReadUint64 : Nat := 10
abbrev rUvarint : Nat := 12
abbrev rSpan : Nat := 13
abbrev rUnsafeString : Nat := 14
abbrev rString : Nat := 15
abbrev rUnsafeCompactString : Nat := 16
abbrev rCompactString : Nat := 17
abbrev rUnsafeNullableString : Nat := 18
abbrev rNullableString : Nat := 19
abbrev rUnsafeCompactNullableString : Nat := 20
abbrev rCompactNullableString : Nat := 21
abbrev rBytes : Nat := 22
abbrev rCompactBytes : Nat := 23
abbrev rNullableBytes : Nat := 24
abbrev rCompactNullableBytes : Nat := 25
abbrev rArrayLen : Nat := 26
abbrev rCompactArrayLen : Nat := 27
abbrev rComplete : Nat := 28
abbrev rOk : Nat := 29
abbrev kUnsafeString : Nat := 30
abbrev kUvarint : Nat := 31
abbrev kAppendBool : Nat := 32
abbrev kAppendInt8 : Nat := 33
abbrev kAppendInt16 : Nat := 34
abbrev kAppendUint16 : Nat := 35
abbrev kAppendInt32 : Nat := 36
abbrev kAppendUint32 : Nat := 37
abbrev kAppendInt64 : Nat := 38
abbrev kAppendUint64 : Nat := 39
abbrev kAppendUuid : Nat := 41
abbrev kAppendUvarint : Nat := 42
abbrev kUvarintLen : Nat := 43
abbrev kAppendString : Nat := 44
abbrev kAppendCompactString : Nat := 45
abbrev kAppendNullableString : Nat := 46
abbrev kAppendCompactNullableString : Nat := 47
abbrev kAppendBytes : Nat := 48
abbrev kAppendCompactBytes : Nat := 49
abbrev kAppendArrayLen : Nat := 52
abbrev kAppendCompactArrayLen : Nat := 53
abbrev kAppendNullableArrayLen : Nat := 54
abbrev kAppendCompactNullableArrayLen : Nat := 55
abbrev beUint16 : Nat := 56
abbrev beUint32 : Nat := 57
abbrev beUint64 : Nat := 58
abbrev tSet : Nat := 59
abbrev tLen : Nat := 60
abbrev tEach : Nat := 61
abbrev tEach1 : Nat := 62
abbrev tAppendEach : Nat := 63
abbrev tAppendEach1 : Nat := 64
abbrev tRead : Nat := 65
abbrev iAt : Nat := 66
abbrev iSixteen : Nat := 67
abbrev lGiven : Nat := 75
abbrev lGot : Nat := 76
abbrev sWhole : Nat := 81
abbrev sThings : Nat := 82
abbrev sAt : Nat := 83
abbrev sUvarint : Nat := 84
abbrev sFixed : Nat := 85
abbrev sWidth : Nat := 86
abbrev sCounted : Nat := 87
abbrev sValue : Nat := 88
abbrev sField : Nat := 89
abbrev susual_ : Nat := 90
abbrev sKnown : Nat := 91
abbrev sUnknown : Nat := 92
abbrev sPart : Nat := 93
abbrev sWrite : Nat := 94
abbrev sSame : Nat := 95
abbrev sFit : Nat := 96
abbrev sFitted : Nat := 97
abbrev sKept : Nat := 105
abbrev sHas : Nat := 106
abbrev sNull : Nat := 107
abbrev bLen32 : Nat := 109
abbrev sortSlice : Nat := 113
abbrev tyU32s : Nat := 120
def ir_rInt16 (F : Nat → Nat) : IC × List RV × Nat := (.seq (.blk [⟨some 2, .mv (.const (.int .i16 0)), none⟩])
 (.seq (.seq (.blk [⟨some 4, .mv (.tmp 0), none⟩,
 ⟨some 5, .nilc (.tmp 4), none⟩,
 ⟨some 6, .fad (.tmp 5) 0, none⟩,
 ⟨some 7, .ld (.tmp 6), none⟩,
 ⟨some 8, .len (.tmp 7), none⟩,
 ⟨some 9, .bin .lss (.tmp 8) (.const (.int .i64 2)), none⟩])
 (.cond (.tmp 9)
 (.seq (.blk [⟨some 10, .mv (.tmp 0), none⟩,
 ⟨some 11, .nilc (.tmp 10), none⟩,
 ⟨some 12, .fad (.tmp 11) 1, none⟩,
 ⟨none, .st (.tmp 12) 1 (.const (.bool true)), none⟩])
 (.seq (.blk [⟨some 13, .mv (.tmp 0), none⟩,
 ⟨some 14, .nilc (.tmp 13), none⟩,
 ⟨some 15, .fad (.tmp 14) 0, none⟩,
 ⟨none, .st (.tmp 15) 1 (.const (.slice none 0 0)), none⟩])
 (.seq (.blk [⟨some 2, .mv (.const (.int .i16 0)), none⟩])
 (.ret))))
 (.skip)))
 (.seq (.drw [⟨⟨some 16, .ldn (.global (F gBig)) 0, none⟩, false, []⟩,
 ⟨⟨some 17, .mv (.tmp 0), none⟩, false, []⟩,
 ⟨⟨some 18, .nilc (.tmp 17), none⟩, false, []⟩,
 ⟨⟨some 19, .fad (.tmp 18) 0, none⟩, false, []⟩,
 ⟨⟨some 20, .ld (.tmp 19), none⟩, false, []⟩,
 ⟨⟨some 21, .call (F beUint16) [.tmp 16, .tmp 20], none⟩, true, []⟩,
 ⟨⟨some 22, .conv .i16 (.tmp 21), none⟩, false, [5]⟩,
 ⟨⟨some 3, .mv (.tmp 22), none⟩, false, [5]⟩]
 [])
 (.seq (.blk [⟨some 23, .mv (.tmp 0), none⟩,
 ⟨some 24, .mv (.tmp 0), none⟩,
 ⟨some 25, .nilc (.tmp 24), none⟩,
 ⟨some 26, .fad (.tmp 25) 0, none⟩,
 ⟨some 27, .ld (.tmp 26), none⟩,
 ⟨some 28, .slice (.tmp 27) (some (.const (.int .i64 2))) none none 1, none⟩,
 ⟨some 29, .nilc (.tmp 23), none⟩,
 ⟨some 30, .fad (.tmp 29) 0, none⟩,
 ⟨none, .st (.tmp 30) 1 (.tmp 28), none⟩])
 (.seq (.blk [⟨some 31, .mv (.tmp 3), none⟩,
 ⟨some 2, .mv (.tmp 31), none⟩])
 (.ret))))),
 [.tmp 2], 32)
def ir_rSpan (_F : Nat → Nat) : IC × List RV × Nat := (.seq (.blk [⟨some 4, .mv (.const (.slice none 0 0)), none⟩])
 (.seq (.seq (.blk [⟨some 6, .mv (.tmp 0), none⟩,
 ⟨some 7, .nilc (.tmp 6), none⟩,
 ⟨some 8, .fad (.tmp 7) 0, none⟩,
 ⟨some 9, .ld (.tmp 8), none⟩,
 ⟨some 10, .len (.tmp 9), none⟩,
 ⟨some 11, .mv (.tmp 1), none⟩,
 ⟨some 12, .bin .lss (.tmp 10) (.tmp 11), none⟩,
 ⟨some 13, .mv (.tmp 12), none⟩,
 ⟨some 14, .mv (.tmp 1), some (13, false)⟩,
 ⟨some 15, .bin .lss (.tmp 14) (.const (.int .i64 0)), some (13, false)⟩,
 ⟨some 16, .pick (.tmp 13) (.const (.bool true)) (.tmp 15), none⟩])
 (.cond (.tmp 16)
 (.seq (.blk [⟨some 17, .mv (.tmp 0), none⟩,
 ⟨some 18, .nilc (.tmp 17), none⟩,
 ⟨some 19, .fad (.tmp 18) 1, none⟩,
 ⟨none, .st (.tmp 19) 1 (.const (.bool true)), none⟩])
 (.seq (.blk [⟨some 20, .mv (.tmp 0), none⟩,
 ⟨some 21, .nilc (.tmp 20), none⟩,
 ⟨some 22, .fad (.tmp 21) 0, none⟩,
 ⟨none, .st (.tmp 22) 1 (.const (.slice none 0 0)), none⟩])
 (.seq (.blk [⟨some 4, .mv (.const (.slice none 0 0)), none⟩])
 (.ret))))
 (.skip)))
 (.seq (.blk [⟨some 23, .mv (.tmp 0), none⟩,
 ⟨some 24, .nilc (.tmp 23), none⟩,
 ⟨some 25, .fad (.tmp 24) 0, none⟩,
 ⟨some 26, .ld (.tmp 25), none⟩,
 ⟨some 27, .mv (.tmp 1), none⟩,
 ⟨some 28, .mv (.tmp 1), none⟩,
 ⟨some 29, .slice (.tmp 26) none (some (.tmp 27)) (some (.tmp 28)) 1, none⟩,
 ⟨some 5, .mv (.tmp 29), none⟩])
 (.seq (.blk [⟨some 30, .mv (.tmp 0), none⟩,
 ⟨some 31, .mv (.tmp 0), none⟩,
 ⟨some 32, .nilc (.tmp 31), none⟩,
 ⟨some 33, .fad (.tmp 32) 0, none⟩,
 ⟨some 34, .ld (.tmp 33), none⟩,
 ⟨some 35, .mv (.tmp 1), none⟩,
 ⟨some 36, .slice (.tmp 34) (some (.tmp 35)) none none 1, none⟩,
 ⟨some 37, .nilc (.tmp 30), none⟩,
 ⟨some 38, .fad (.tmp 37) 0, none⟩,
 ⟨none, .st (.tmp 38) 1 (.tmp 36), none⟩])
 (.seq (.blk [⟨some 39, .mv (.tmp 5), none⟩,
 ⟨some 4, .mv (.tmp 39), none⟩])
 (.ret))))),
 [.tmp 4], 40)
def ir_beUint16 (_F : Nat → Nat) : IC × List RV × Nat := (.seq (.blk [⟨some 2, .box (.tmp 0), none⟩,
 ⟨some 4, .mv (.const (.int .u16 0)), none⟩])
 (.seq (.blk [⟨some 5, .mv (.tmp 1), none⟩,
 ⟨some 6, .iad (.tmp 5) (.const (.int .i64 1)) 1, none⟩,
 ⟨some 7, .ld (.tmp 6), none⟩])
 (.seq (.drw [⟨⟨some 8, .mv (.tmp 1), none⟩, false, []⟩,
 ⟨⟨some 9, .iad (.tmp 8) (.const (.int .i64 1)) 1, none⟩, false, []⟩,
 ⟨⟨some 10, .ld (.tmp 9), none⟩, false, []⟩,
 ⟨⟨some 11, .conv .u16 (.tmp 10), none⟩, false, []⟩,
 ⟨⟨some 12, .mv (.tmp 1), none⟩, false, []⟩,
 ⟨⟨some 13, .iad (.tmp 12) (.const (.int .i64 0)) 1, none⟩, false, []⟩,
 ⟨⟨some 14, .ld (.tmp 13), none⟩, false, []⟩,
 ⟨⟨some 15, .conv .u16 (.tmp 14), none⟩, false, []⟩,
 ⟨⟨some 16, .bin .shl (.tmp 15) (.const (.int .u64 8)), none⟩, false, []⟩,
 ⟨⟨some 17, .bin .or (.tmp 11) (.tmp 16), none⟩, false, []⟩,
 ⟨⟨some 4, .mv (.tmp 17), none⟩, false, []⟩]
 [])
 (.ret))),
 [.tmp 4], 18)
def ir_rInt32 (F : Nat → Nat) : IC × List RV × Nat := (.seq (.blk [⟨some 2, .mv (.const (.int .i32 0)), none⟩])
 (.seq (.seq (.blk [⟨some 4, .mv (.tmp 0), none⟩,
 ⟨some 5, .nilc (.tmp 4), none⟩,
 ⟨some 6, .fad (.tmp 5) 0, none⟩,
 ⟨some 7, .ld (.tmp 6), none⟩,
 ⟨some 8, .len (.tmp 7), none⟩,
 ⟨some 9, .bin .lss (.tmp 8) (.const (.int .i64 4)), none⟩])
 (.cond (.tmp 9)
 (.seq (.blk [⟨some 10, .mv (.tmp 0), none⟩,
 ⟨some 11, .nilc (.tmp 10), none⟩,
 ⟨some 12, .fad (.tmp 11) 1, none⟩,
 ⟨none, .st (.tmp 12) 1 (.const (.bool true)), none⟩])
 (.seq (.blk [⟨some 13, .mv (.tmp 0), none⟩,
 ⟨some 14, .nilc (.tmp 13), none⟩,
 ⟨some 15, .fad (.tmp 14) 0, none⟩,
 ⟨none, .st (.tmp 15) 1 (.const (.slice none 0 0)), none⟩])
 (.seq (.blk [⟨some 2, .mv (.const (.int .i32 0)), none⟩])
 (.ret))))
 (.skip)))
 (.seq (.drw [⟨⟨some 16, .ldn (.global (F gBig)) 0, none⟩, false, []⟩,
 ⟨⟨some 17, .mv (.tmp 0), none⟩, false, []⟩,
 ⟨⟨some 18, .nilc (.tmp 17), none⟩, false, []⟩,
 ⟨⟨some 19, .fad (.tmp 18) 0, none⟩, false, []⟩,
 ⟨⟨some 20, .ld (.tmp 19), none⟩, false, []⟩,
 ⟨⟨some 21, .call (F beUint32) [.tmp 16, .tmp 20], none⟩, true, []⟩,
 ⟨⟨some 22, .conv .i32 (.tmp 21), none⟩, false, [5]⟩,
 ⟨⟨some 3, .mv (.tmp 22), none⟩, false, [5]⟩]
 [])
 (.seq (.blk [⟨some 23, .mv (.tmp 0), none⟩,
 ⟨some 24, .mv (.tmp 0), none⟩,
 ⟨some 25, .nilc (.tmp 24), none⟩,
 ⟨some 26, .fad (.tmp 25) 0, none⟩,
 ⟨some 27, .ld (.tmp 26), none⟩,
 ⟨some 28, .slice (.tmp 27) (some (.const (.int .i64 4))) none none 1, none⟩,
 ⟨some 29, .nilc (.tmp 23), none⟩,
 ⟨some 30, .fad (.tmp 29) 0, none⟩,
 ⟨none, .st (.tmp 30) 1 (.tmp 28), none⟩])
 (.seq (.blk [⟨some 31, .mv (.tmp 3), none⟩,
 ⟨some 2, .mv (.tmp 31), none⟩])
 (.ret))))),
 [.tmp 2], 32)
def ir_beUint32 (_F : Nat → Nat) : IC × List RV × Nat := (.seq (.blk [⟨some 2, .box (.tmp 0), none⟩,
 ⟨some 4, .mv (.const (.int .u32 0)), none⟩])
 (.seq (.blk [⟨some 5, .mv (.tmp 1), none⟩,
 ⟨some 6, .iad (.tmp 5) (.const (.int .i64 3)) 1, none⟩,
 ⟨some 7, .ld (.tmp 6), none⟩])
 (.seq (.drw [⟨⟨some 8, .mv (.tmp 1), none⟩, false, []⟩,
 ⟨⟨some 9, .iad (.tmp 8) (.const (.int .i64 3)) 1, none⟩, false, []⟩,
 ⟨⟨some 10, .ld (.tmp 9), none⟩, false, []⟩,
 ⟨⟨some 11, .conv .u32 (.tmp 10), none⟩, false, []⟩,
 ⟨⟨some 12, .mv (.tmp 1), none⟩, false, []⟩,
 ⟨⟨some 13, .iad (.tmp 12) (.const (.int .i64 2)) 1, none⟩, false, []⟩,
 ⟨⟨some 14, .ld (.tmp 13), none⟩, false, []⟩,
 ⟨⟨some 15, .conv .u32 (.tmp 14), none⟩, false, []⟩,
 ⟨⟨some 16, .bin .shl (.tmp 15) (.const (.int .u64 8)), none⟩, false, []⟩,
 ⟨⟨some 17, .bin .or (.tmp 11) (.tmp 16), none⟩, false, []⟩,
 ⟨⟨some 18, .mv (.tmp 1), none⟩, false, []⟩,
 ⟨⟨some 19, .iad (.tmp 18) (.const (.int .i64 1)) 1, none⟩, false, []⟩,
 ⟨⟨some 20, .ld (.tmp 19), none⟩, false, []⟩,
 ⟨⟨some 21, .conv .u32 (.tmp 20), none⟩, false, []⟩,
 ⟨⟨some 22, .bin .shl (.tmp 21) (.const (.int .u64 16)), none⟩, false, []⟩,
 ⟨⟨some 23, .bin .or (.tmp 17) (.tmp 22), none⟩, false, []⟩,
 ⟨⟨some 24, .mv (.tmp 1), none⟩, false, []⟩,
 ⟨⟨some 25, .iad (.tmp 24) (.const (.int .i64 0)) 1, none⟩, false, []⟩,
 ⟨⟨some 26, .ld (.tmp 25), none⟩, false, []⟩,
 ⟨⟨some 27, .conv .u32 (.tmp 26), none⟩, false, []⟩,
 ⟨⟨some 28, .bin .shl (.tmp 27) (.const (.int .u64 24)), none⟩, false, []⟩,
 ⟨⟨some 29, .bin .or (.tmp 23) (.tmp 28), none⟩, false, []⟩,
 ⟨⟨some 4, .mv (.tmp 29), none⟩, false, []⟩]
 [])
 (.ret))),
 [.tmp 4], 30)
def ir_rString (F : Nat → Nat) : IC × List RV × Nat := (.seq (.blk [⟨some 2, .mv (.const (.string .empty)), none⟩])
 (.seq (.blk [⟨some 4, .mv (.tmp 0), none⟩,
 ⟨some 5, .call (F rInt16) [.tmp 4], none⟩,
 ⟨some 3, .mv (.tmp 5), none⟩])
 (.seq (.blk [⟨some 6, .mv (.tmp 0), none⟩,
 ⟨some 7, .mv (.tmp 3), none⟩,
 ⟨some 8, .conv .i64 (.tmp 7), none⟩,
 ⟨some 9, .call (F rSpan) [.tmp 6, .tmp 8], none⟩,
 ⟨some 10, .b2s (.tmp 9), none⟩,
 ⟨some 2, .mv (.tmp 10), none⟩])
 (.ret))),
 [.tmp 2], 11)
def ir_rUnsafeString (F : Nat → Nat) : IC × List RV × Nat := (.seq (.blk [⟨some 2, .mv (.const (.string .empty)), none⟩])
 (.seq (.blk [⟨some 4, .mv (.tmp 0), none⟩,
 ⟨some 5, .call (F rInt16) [.tmp 4], none⟩,
 ⟨some 3, .mv (.tmp 5), none⟩])
 (.seq (.blk [⟨some 6, .mv (.tmp 0), none⟩,
 ⟨some 7, .mv (.tmp 3), none⟩,
 ⟨some 8, .conv .i64 (.tmp 7), none⟩,
 ⟨some 9, .call (F rSpan) [.tmp 6, .tmp 8], none⟩,
 ⟨some 10, .call (F kUnsafeString) [.tmp 9], none⟩,
 ⟨some 2, .mv (.tmp 10), none⟩])
 (.ret))),
 [.tmp 2], 11)
def ir_kUnsafeString (_F : Nat → Nat) : IC × List RV × Nat := (.seq (.blk [⟨some 2, .mv (.const (.string .empty)), none⟩])
 (.seq (.blk [⟨some 3, .mv (.tmp 0), none⟩,
 ⟨some 4, .b2s (.tmp 3), none⟩,
 ⟨some 2, .mv (.tmp 4), none⟩])
 (.ret)),
 [.tmp 2], 5)
def ir_rArrayLen (F : Nat → Nat) : IC × List RV × Nat := (.seq (.blk [⟨some 2, .mv (.const (.int .i32 0)), none⟩])
 (.seq (.blk [⟨some 4, .mv (.tmp 0), none⟩,
 ⟨some 5, .call (F rInt32) [.tmp 4], none⟩,
 ⟨some 3, .mv (.tmp 5), none⟩])
 (.seq (.seq (.blk [⟨some 6, .mv (.tmp 0), none⟩,
 ⟨some 7, .nilc (.tmp 6), none⟩,
 ⟨some 8, .fad (.tmp 7) 0, none⟩,
 ⟨some 9, .ld (.tmp 8), none⟩,
 ⟨some 10, .len (.tmp 9), none⟩,
 ⟨some 11, .mv (.tmp 3), none⟩,
 ⟨some 12, .conv .i64 (.tmp 11), none⟩,
 ⟨some 13, .bin .lss (.tmp 10) (.tmp 12), none⟩])
 (.cond (.tmp 13)
 (.seq (.blk [⟨some 14, .mv (.tmp 0), none⟩,
 ⟨some 15, .nilc (.tmp 14), none⟩,
 ⟨some 16, .fad (.tmp 15) 1, none⟩,
 ⟨none, .st (.tmp 16) 1 (.const (.bool true)), none⟩])
 (.seq (.blk [⟨some 17, .mv (.tmp 0), none⟩,
 ⟨some 18, .nilc (.tmp 17), none⟩,
 ⟨some 19, .fad (.tmp 18) 0, none⟩,
 ⟨none, .st (.tmp 19) 1 (.const (.slice none 0 0)), none⟩])
 (.seq (.blk [⟨some 2, .mv (.const (.int .i32 0)), none⟩])
 (.ret))))
 (.skip)))
 (.seq (.blk [⟨some 20, .mv (.tmp 3), none⟩,
 ⟨some 2, .mv (.tmp 20), none⟩])
 (.ret)))),
 [.tmp 2], 21)
def ir_rOk (_F : Nat → Nat) : IC × List RV × Nat := (.seq (.blk [⟨some 2, .mv (.const (.bool false)), none⟩])
 (.seq (.blk [⟨some 3, .mv (.tmp 0), none⟩,
 ⟨some 4, .nilc (.tmp 3), none⟩,
 ⟨some 5, .fad (.tmp 4) 1, none⟩,
 ⟨some 6, .ld (.tmp 5), none⟩,
 ⟨some 7, .lnot (.tmp 6), none⟩,
 ⟨some 2, .mv (.tmp 7), none⟩])
 (.ret)),
 [.tmp 2], 8)
def ir_rComplete (F : Nat → Nat) : IC × List RV × Nat := (.seq (.blk [⟨some 2, .mv (.const (.nilIface)), none⟩])
 (.seq (.seq (.blk [⟨some 3, .mv (.tmp 0), none⟩,
 ⟨some 4, .nilc (.tmp 3), none⟩,
 ⟨some 5, .fad (.tmp 4) 1, none⟩,
 ⟨some 6, .ld (.tmp 5), none⟩])
 (.cond (.tmp 6)
 (.seq (.blk [⟨some 7, .ld (.global (F gErr)), none⟩,
 ⟨some 2, .mv (.tmp 7), none⟩])
 (.ret))
 (.skip)))
 (.seq (.blk [⟨some 2, .mv (.const (.nilIface)), none⟩])
 (.ret))),
 [.tmp 2], 8)
def ir_rNullableBytes (F : Nat → Nat) : IC × List RV × Nat := (.seq (.blk [⟨some 2, .mv (.const (.slice none 0 0)), none⟩])
 (.seq (.blk [⟨some 5, .mv (.tmp 0), none⟩,
 ⟨some 6, .call (F rInt32) [.tmp 5], none⟩,
 ⟨some 3, .mv (.tmp 6), none⟩])
 (.seq (.seq (.blk [⟨some 7, .mv (.tmp 3), none⟩,
 ⟨some 8, .bin .lss (.tmp 7) (.const (.int .i32 0)), none⟩])
 (.cond (.tmp 8)
 (.seq (.blk [⟨some 2, .mv (.const (.slice none 0 0)), none⟩])
 (.ret))
 (.skip)))
 (.seq (.blk [⟨some 9, .mv (.tmp 0), none⟩,
 ⟨some 10, .mv (.tmp 3), none⟩,
 ⟨some 11, .conv .i64 (.tmp 10), none⟩,
 ⟨some 12, .call (F rSpan) [.tmp 9, .tmp 11], none⟩,
 ⟨some 4, .mv (.tmp 12), none⟩])
 (.seq (.blk [⟨some 13, .mv (.tmp 4), none⟩,
 ⟨some 2, .mv (.tmp 13), none⟩])
 (.ret))))),
 [.tmp 2], 14)
def ir_rNullableString (F : Nat → Nat) : IC × List RV × Nat := (.seq (.blk [⟨some 2, .mv (.const (.pointer none)), none⟩])
 (.seq (.blk [⟨some 5, .mv (.tmp 0), none⟩,
 ⟨some 6, .call (F rInt16) [.tmp 5], none⟩,
 ⟨some 3, .mv (.tmp 6), none⟩])
 (.seq (.seq (.blk [⟨some 7, .mv (.tmp 3), none⟩,
 ⟨some 8, .bin .lss (.tmp 7) (.const (.int .i16 0)), none⟩])
 (.cond (.tmp 8)
 (.seq (.blk [⟨some 2, .mv (.const (.pointer none)), none⟩])
 (.ret))
 (.skip)))
 (.seq (.blk [⟨some 9, .mv (.tmp 0), none⟩,
 ⟨some 10, .mv (.tmp 3), none⟩,
 ⟨some 11, .conv .i64 (.tmp 10), none⟩,
 ⟨some 12, .call (F rSpan) [.tmp 9, .tmp 11], none⟩,
 ⟨some 13, .b2s (.tmp 12), none⟩,
 ⟨some 4, .alloc [.string .empty], none⟩,
 ⟨none, .st (.tmp 4) 1 (.tmp 13), none⟩])
 (.seq (.blk [⟨some 2, .mv (.tmp 4), none⟩])
 (.ret))))),
 [.tmp 2], 14)
def ir_rUnsafeNullableString (F : Nat → Nat) : IC × List RV × Nat := (.seq (.blk [⟨some 2, .mv (.const (.pointer none)), none⟩])
 (.seq (.blk [⟨some 5, .mv (.tmp 0), none⟩,
 ⟨some 6, .call (F rInt16) [.tmp 5], none⟩,
 ⟨some 3, .mv (.tmp 6), none⟩])
 (.seq (.seq (.blk [⟨some 7, .mv (.tmp 3), none⟩,
 ⟨some 8, .bin .lss (.tmp 7) (.const (.int .i16 0)), none⟩])
 (.cond (.tmp 8)
 (.seq (.blk [⟨some 2, .mv (.const (.pointer none)), none⟩])
 (.ret))
 (.skip)))
 (.seq (.blk [⟨some 9, .mv (.tmp 0), none⟩,
 ⟨some 10, .mv (.tmp 3), none⟩,
 ⟨some 11, .conv .i64 (.tmp 10), none⟩,
 ⟨some 12, .call (F rSpan) [.tmp 9, .tmp 11], none⟩,
 ⟨some 13, .call (F kUnsafeString) [.tmp 12], none⟩,
 ⟨some 4, .alloc [.string .empty], none⟩,
 ⟨none, .st (.tmp 4) 1 (.tmp 13), none⟩])
 (.seq (.blk [⟨some 2, .mv (.tmp 4), none⟩])
 (.ret))))),
 [.tmp 2], 14)
end Go.Msk

namespace Go.Msk
theorem or_add (a b i : Nat) (h : b < 2 ^ i) : b ||| (a * 2 ^ i) = a * 2 ^ i + b := by
  rw [Nat.or_comm, ← Nat.shiftLeft_eq, Nat.shiftLeft_add_eq_or_of_lt h]
theorem ofInt_or (n x y : Nat) (hx : x < 2 ^ n) (hy : y < 2 ^ n) : (BitVec.ofInt n (x : Int) ||| BitVec.ofInt n (y : Int)).toNat = x ||| y := by
  rw [BitVec.toNat_or]
  simp only [BitVec.ofInt_natCast, BitVec.toNat_ofNat]
  rw [Nat.mod_eq_of_lt hx, Nat.mod_eq_of_lt hy]
def unsignedB : IntKind → Bool
  | .u8 | .u16 | .u32 | .u64 => true
  | _ => false
theorem wrap_nat (k : IntKind) (hk : unsignedB k = true) (n : Nat) (h : n < 2 ^ k.bits) : k.wrap (n : Int) = n := by
  cases k <;> simp [unsignedB] at hk <;> simp only [IntKind.bits] at h <;> simp [IntKind.wrap, IntKind.bits, IntKind.signed] <;> omega
theorem bin_or {k : IntKind} (hk : unsignedB k = true) {x y : Nat} (hx : x < 2 ^ k.bits) (hy : y < 2 ^ k.bits) :
    intBin .or k (x : Int) (y : Int) = some (.int k ((x ||| y : Nat) : Int)) := by
  simp only [intBin]
  rw [ofInt_or _ _ _ hx hy, wrap_nat k hk _ (Nat.or_lt_two_pow hx hy)]
def beNat (l : List UInt8) : Nat := l.foldl (fun n b => n * 256 + b.toNat) 0
@[simp] theorem intBin_lss (k : IntKind) (x y : Int) : intBin .lss k x y = some (.bool (decide (x < y))) := rfl
@[simp] theorem intBin_leq (k : IntKind) (x y : Int) : intBin .leq k x y = some (.bool (decide (x ≤ y))) := rfl
@[simp] theorem intBin_gtr (k : IntKind) (x y : Int) : intBin .gtr k x y = some (.bool (decide (x > y))) := rfl
@[simp] theorem intBin_geq (k : IntKind) (x y : Int) : intBin .geq k x y = some (.bool (decide (x ≥ y))) := rfl
@[simp] theorem intBin_eql (k : IntKind) (x y : Int) : intBin .eql k x y = some (.bool (x == y)) := rfl
@[simp] theorem intBin_neq (k : IntKind) (x y : Int) : intBin .neq k x y = some (.bool (x != y)) := rfl
@[simp] theorem intBin_add (k : IntKind) (x y : Int) : intBin .add k x y = some (.int k (k.wrap (x + y))) := rfl
@[simp] theorem intBin_sub (k : IntKind) (x y : Int) : intBin .sub k x y = some (.int k (k.wrap (x - y))) := rfl
theorem wrap_zero (k : IntKind) : k.wrap 0 = 0 := by cases k <;> rfl
end Go.Msk

namespace Go.Msk
open Go.RowKit
set_option maxRecDepth 100000
def rdN (k : Nat) (s : RS) : Nat × RS :=
  if k ≤ s.src.length then (beNat (s.src.take k), { s with src := s.src.drop k }) else (0, RS.fail)
section
variable {P : Program} {F : Nat → Nat} {w : World}
attribute [local simp] bnd wpC wpR RI.wp gOk RK.run thenC inBlockC updo upd ev args0 postC rvals RV.val tup_one isShift
def rdSpan (l : Int) (s : RS) : Option (List UInt8) × RS :=
  if s.src.length < l ∨ l < 0 then (none, RS.fail) else (if s.isnil then none else some (s.src.take l.toNat), { s with src := s.src.drop l.toNat })
def OctX (S : List Nat) (w : World) (v : Value) (o : Option (List UInt8)) : Prop :=
  IsOct w v o ∧ ∀ a n c, v = .slice (some a) n c → a.block ∉ S ∧ a.block < w.heap.size
def str (l : List UInt8) : Value := .string ⟨l.toArray⟩
def rdString (s : RS) : List UInt8 × RS :=
  let (n, s1) := rdN 2 s
  let (o, s2) := rdSpan (IntKind.i16.wrap n) s1
  (o.getD [], s2)
def rdArrayLen (s : RS) : Int × RS :=
  let n := IntKind.i32.wrap (rdN 4 s).1
  if ((rdN 4 s).2.src.length : Int) < n then (0, RS.fail) else (n, (rdN 4 s).2)
def rdNullableBytes (s : RS) : Option (List UInt8) × RS :=
  let n := IntKind.i32.wrap (rdN 4 s).1
  if n < 0 then (none, (rdN 4 s).2) else rdSpan n (rdN 4 s).2
def rdNullableString (s : RS) : Option (List UInt8) × RS :=
  let n := IntKind.i16.wrap (rdN 2 s).1
  if n < 0 then (none, (rdN 2 s).2) else (some ((rdSpan n (rdN 2 s).2).1.getD []), (rdSpan n (rdN 2 s).2).2)
end
end Go.Msk

namespace Go.Msk
open Go.RowKit
def SlC (ok : Nat → Prop) (w : World) (v : Value) (n : Nat) (cells : List Value) : Prop :=
  ∃ base cap, v = .slice base n cap ∧ n ≤ cap ∧ (base = none → cap = 0) ∧ ∀ a, base = some a → 0 < cap → ok a.block ∧ a.block < w.heap.size ∧ Cells w a cells
theorem SlC.mod {ok ok' : Nat → Prop} {S : List Nat} {w w' : World} {v : Value} {n : Nat} {cells : List Value} (h : SlC ok w v n cells) (hm : Mod S w w') (hS : ∀ b ∈ S, ¬ ok b) (ho : ∀ b, b < w.heap.size → ok b → ok' b) : SlC ok' w' v n cells := by
  obtain ⟨base, cap, h1, h2, h3, h4⟩ := h
  refine ⟨base, cap, h1, h2, h3, fun a ha hc => ?_⟩
  obtain ⟨k1, k2, k3⟩ := h4 a ha hc
  exact ⟨ho _ k2 k1, Nat.lt_of_lt_of_le k2 hm.size, k3.mod hm (.inr fun hc => hS _ hc k1)⟩
theorem SlC.nil {ok : Nat → Prop} {w : World} : SlC ok w (.slice none 0 0) 0 [] := ⟨none, 0, rfl, Nat.le_refl _, fun _ => rfl, fun a h => by simp at h⟩
theorem SlC.one {ok : Nat → Prop} {w : World} {v : Value} {n : Nat} {cells : List Value} (h : SlC ok w v n cells) : v.oneCell' = true := by
  obtain ⟨base, cap, rfl, -⟩ := h; rfl
inductive EntL (ok : Nat → Prop) (w : World) : List MapEntry → List (Nat × List UInt8) → Prop
  | nil : EntL ok w [] []
  | cons {e : MapEntry} {k : Nat} {l : List UInt8} {es : List MapEntry} {m : List (Nat × List UInt8)} : e.key = .int .u32 k → k < 4294967296 → SlC ok w e.val l.length (u8s l) → EntL ok w es m → EntL ok w (e :: es) ((k, l) :: m)
structure MapRep (ok : Nat → Prop) (w : World) (r : Nat) (m : List (Nat × List UInt8)) : Prop where
  ex : ∃ es clock, w.heap[r]? = some (.map es clock) ∧ EntL ok w es.toList m ∧ (es.toList.map (·.born)).Nodup ∧ ∀ e ∈ es.toList, e.born < clock
  keys : (m.map (·.1)).Nodup
theorem EntL.mod {ok ok' : Nat → Prop} {S : List Nat} {w w' : World} {es : List MapEntry} {m : List (Nat × List UInt8)} (h : EntL ok w es m) (hm : Mod S w w') (hS : ∀ b ∈ S, ¬ ok b) (ho : ∀ b, b < w.heap.size → ok b → ok' b) : EntL ok' w' es m := by
  induction h with
  | nil => exact .nil
  | cons h1 h2 h3 _ ih => exact .cons h1 h2 (h3.mod hm hS ho) ih
theorem MapRep.lt {ok : Nat → Prop} {w : World} {r : Nat} {m : List (Nat × List UInt8)} (h : MapRep ok w r m) : r < w.heap.size := by
  obtain ⟨es, clock, h, -⟩ := h.ex
  exact (Array.getElem?_eq_some_iff.1 h).1
theorem MapRep.mod {ok ok' : Nat → Prop} {S : List Nat} {w w' : World} {r : Nat} {m : List (Nat × List UInt8)} (h : MapRep ok w r m) (hm : Mod S w w') (hr : r ∉ S) (hS : ∀ b ∈ S, ¬ ok b) (ho : ∀ b, b < w.heap.size → ok b → ok' b) : MapRep ok' w' r m := by
  have hlt := h.lt
  obtain ⟨es, clock, h1, h2, h3, h4⟩ := h.ex
  exact ⟨⟨es, clock, by rw [hm.block r hlt hr]; exact h1, h2.mod hm hS ho, h3, h4⟩, h.keys⟩
inductive GV where
  | num (v : Value)
  | nstr (o : Option (List UInt8))
  | byt (o : Option (List UInt8))
  | arr (l : List UInt8)
  | lst (isnil : Bool) (sz : Nat) (l : List GV)
  | rcd (l : List GV)
  | tag (m : List (Nat × List UInt8))
  deriving Inhabited
mutual
/-- The cells read as the value; what they refer to lies in none of the blocks O. -/
inductive Rep (O : List Nat) (w : World) : GV → List Value → Prop
  | num {v : Value} : v.oneCell' = true → Rep O w (.num v) [v]
  | nstr0 : Rep O w (.nstr none) [.pointer none]
  | nstr1 {b : Nat} {l : List UInt8} : b ∉ O → w.cell? ⟨b, 0, none⟩ = some (str l) → Rep O w (.nstr (some l)) [.pointer (some ⟨b, 0, none⟩)]
  | byt {v : Value} {o : Option (List UInt8)} : OctX O w v o → Rep O w (.byt o) [v]
  | arr {l : List UInt8} : Rep O w (.arr l) (u8s l)
  | lst0 {sz : Nat} : Rep O w (.lst true sz []) [.slice none 0 0]
  | lst1 {a : Addr} {n c sz : Nat} {l : List GV} {css : List (List Value)} : a.block ∉ O → a.block < w.heap.size → n = l.length → n ≤ c → (∀ cs ∈ css, cs.length = sz) → RepL O w l css →
      Cells w a css.flatten → Rep O w (.lst false sz l) [.slice (some a) n c]
  | rcd {l : List GV} {css : List (List Value)} : RepL O w l css → Rep O w (.rcd l) css.flatten
  | tag0 : Rep O w (.tag []) [.map none]
  | tag1 {r : Nat} {m : List (Nat × List UInt8)} : r ∉ O → MapRep (fun b => b ∉ O) w r m → Rep O w (.tag m) [.map (some r)]
inductive RepL (O : List Nat) (w : World) : List GV → List (List Value) → Prop
  | nil : RepL O w [] []
  | cons {g : GV} {l : List GV} {cs : List Value} {css : List (List Value)} : Rep O w g cs → RepL O w l css → RepL O w (g :: l) (cs :: css)
end
theorem OctX.mod {O T : List Nat} {w w' : World} {v : Value} {o : Option (List UInt8)} (h : OctX O w v o) (hm : Mod T w w') (hT : ∀ x ∈ T, x ∈ O) : OctX O w' v o := by
  obtain ⟨h1, h2⟩ := h
  refine ⟨?_, fun a n c e => ⟨(h2 a n c e).1, Nat.lt_of_lt_of_le (h2 a n c e).2 hm.size⟩⟩
  cases o with
  | none => exact h1
  | some l =>
    obtain ⟨a, n, c, rfl, hb⟩ := h1
    exact ⟨a, n, c, rfl, hb.mod hm (fun a' e hc => by cases e; exact (h2 a n c rfl).1 (hT _ hc))⟩
theorem OctX.weaken {O O' : List Nat} {w : World} {v : Value} {o : Option (List UInt8)} (h : OctX O w v o) (hO : ∀ x ∈ O', x ∈ O) : OctX O' w v o :=
  ⟨h.1, fun a n c e => ⟨fun hc => (h.2 a n c e).1 (hO _ hc), (h.2 a n c e).2⟩⟩
theorem cell_mod {T : List Nat} {w w' : World} {a : Addr} {v : Value} (h : w.cell? a = some v) (hm : Mod T w w') (hT : a.block ∉ T) : w'.cell? a = some v := by
  rw [World.cell?_of_block (w := w) (hm.block _ (World.block_lt_of_cell? w a h) hT)]; exact h
theorem Rep.mod {O T : List Nat} {w w' : World} (hm : Mod T w w') (hT : ∀ x ∈ T, x ∈ O) {g : GV} {cs : List Value} (h : Rep O w g cs) : Rep O w' g cs := by
  refine Rep.rec (motive_1 := fun g cs _ => Rep O w' g cs) (motive_2 := fun l css _ => RepL O w' l css) ?_ ?_ ?_ ?_ ?_ ?_ ?_ ?_ ?_ ?_ ?_ ?_ h
  · intro v hv; exact .num hv
  · exact .nstr0
  · intro b l hb hc; exact .nstr1 hb (cell_mod hc hm (fun h => hb (hT _ h)))
  · intro v o ho; exact .byt (ho.mod hm hT)
  · intro l; exact .arr
  · intro sz; exact .lst0
  · intro a n c sz l css ha hlt hn hc hsz _ hcells ih
    exact .lst1 ha (Nat.lt_of_lt_of_le hlt hm.size) hn hc hsz ih (hcells.mod hm (.inr fun h => ha (hT _ h)))
  · intro l css _ ih; exact .rcd ih
  · exact .tag0
  · intro r m hr h; exact .tag1 hr (h.mod hm (fun hx => hr (hT _ hx)) (fun b hb hx => hx (hT _ hb)) fun _ _ h => h)
  · exact .nil
  · intro g l cs css _ _ ih1 ih2; exact .cons ih1 ih2
theorem RepL.mod {O T : List Nat} {w w' : World} (hm : Mod T w w') (hT : ∀ x ∈ T, x ∈ O) {l : List GV} {css : List (List Value)} (h : RepL O w l css) : RepL O w' l css := by
  induction l generalizing css with
  | nil => cases h; exact .nil
  | cons g l ih => cases h with | cons h1 h2 => exact .cons (h1.mod hm hT) (ih h2)
theorem Rep.weaken {O O' : List Nat} {w : World} (hO : ∀ x ∈ O', x ∈ O) {g : GV} {cs : List Value} (h : Rep O w g cs) : Rep O' w g cs := by
  refine Rep.rec (motive_1 := fun g cs _ => Rep O' w g cs) (motive_2 := fun l css _ => RepL O' w l css) ?_ ?_ ?_ ?_ ?_ ?_ ?_ ?_ ?_ ?_ ?_ ?_ h
  · intro v hv; exact .num hv
  · exact .nstr0
  · intro b l hb hc; exact .nstr1 (fun h => hb (hO _ h)) hc
  · intro v o ho; exact .byt (ho.weaken hO)
  · intro l; exact .arr
  · intro sz; exact .lst0
  · intro a n c sz l css ha hlt hn hc hsz _ hcells ih
    exact .lst1 (fun h => ha (hO _ h)) hlt hn hc hsz ih hcells
  · intro l css _ ih; exact .rcd ih
  · exact .tag0
  · intro r m hr h; exact .tag1 (fun hx => hr (hO _ hx)) (h.mod (Mod.refl [] _) (by simp) (by simp) fun b _ hb hx => hb (hO _ hx))
  · exact .nil
  · intro g l cs css _ _ ih1 ih2; exact .cons ih1 ih2
theorem RepL.weaken {O O' : List Nat} {w : World} (hO : ∀ x ∈ O', x ∈ O) {l : List GV} {css : List (List Value)} (h : RepL O w l css) : RepL O' w l css := by
  induction l generalizing css with
  | nil => cases h; exact .nil
  | cons g l ih => cases h with | cons h1 h2 => exact .cons (h1.weaken hO) (ih h2)
theorem Rep.oneCell {O : List Nat} {w : World} {g : GV} {cs : List Value} (h : Rep O w g cs) : ∀ v ∈ cs, v.oneCell' = true := by
  refine Rep.rec (motive_1 := fun g cs _ => ∀ v ∈ cs, v.oneCell' = true) (motive_2 := fun l css _ => ∀ v ∈ css.flatten, v.oneCell' = true) ?_ ?_ ?_ ?_ ?_ ?_ ?_ ?_ ?_ ?_ ?_ ?_ h
  · intro v hv u hu; simp at hu; subst hu; exact hv
  · intro v hv; simp at hv; subst hv; rfl
  · intro b l _ _ v hv; simp at hv; subst hv; rfl
  · intro v o ho u hu
    simp at hu; subst hu
    cases o with
    | none => have := ho.1; simp only [IsOct] at this; subst this; rfl
    | some l => obtain ⟨a, n, c, rfl, -⟩ := ho.1; rfl
  · intro l v hv; simp [u8s] at hv; obtain ⟨b, -, rfl⟩ := hv; rfl
  · intro sz v hv; simp at hv; subst hv; rfl
  · intro a n c sz l css _ _ _ _ _ _ _ _ v hv; simp at hv; subst hv; rfl
  · intro l css _ ih; exact ih
  · intro v hv; simp at hv; subst hv; rfl
  · intro r m _ _ v hv; simp at hv; subst hv; rfl
  · intro v hv; simp at hv
  · intro g l cs css _ _ ih1 ih2 v hv
    simp only [List.flatten_cons, List.mem_append] at hv
    rcases hv with hv | hv
    · exact ih1 v hv
    · exact ih2 v hv
theorem RepL.append {O : List Nat} {w : World} {l l' : List GV} {css css' : List (List Value)} (h : RepL O w l css) (h' : RepL O w l' css') : RepL O w (l ++ l') (css ++ css') := by
  induction l generalizing css with
  | nil => cases h; exact h'
  | cons g l ih => cases h with | cons h1 h2 => exact .cons h1 (ih h2)
end Go.Msk

namespace Go.Msk
open Go.RowKit
set_option maxRecDepth 100000
def seqs : List IC → IC
  | [] => .skip
  | [a] => a
  | a :: b :: r => .seq a (seqs (b :: r))
def wpL (P : Program) : List IC → (Exit → Sl → World → Prop) → Sl → World → Prop
  | [], Q, σ, w => Q .normal σ w
  | a :: r, Q, σ, w => wpC P a (thenC (wpL P r Q) Q) σ w
theorem thenC_same (Q : Exit → Sl → World → Prop) : thenC (Q .normal) Q = Q := by
  funext e σ w; cases e <;> rfl
theorem wpL_append {P : Program} : ∀ (l r : List IC) (Q : Exit → Sl → World → Prop) (σ : Sl) (w : World), wpL P (l ++ r) Q σ w = wpL P l (thenC (wpL P r Q) Q) σ w
  | [], r, Q, σ, w => rfl
  | a :: l, r, Q, σ, w => by
    have h : wpL P (l ++ r) Q = wpL P l (thenC (wpL P r Q) Q) := by funext σ w; exact wpL_append l r Q σ w
    have h2 : thenC (wpL P l (thenC (wpL P r Q) Q)) (thenC (wpL P r Q) Q) = thenC (wpL P l (thenC (wpL P r Q) Q)) Q := by
      funext e σ w; cases e <;> rfl
    show wpC P a (thenC (wpL P (l ++ r) Q) Q) σ w = wpC P a (thenC (wpL P l (thenC (wpL P r Q) Q)) (thenC (wpL P r Q) Q)) σ w
    rw [h, h2]
theorem wpC_seqs {P : Program} : ∀ (l : List IC) (Q : Exit → Sl → World → Prop) (σ : Sl) (w : World), wpC P (seqs l) Q σ w = wpL P l Q σ w
  | [], Q, σ, w => rfl
  | [a], Q, σ, w => by
    show wpC P a Q σ w = wpC P a (thenC (Q .normal) Q) σ w
    rw [thenC_same]
  | a :: b :: r, Q, σ, w => by
    have h : wpC P (seqs (b :: r)) Q = wpL P (b :: r) Q := by funext σ w; exact wpC_seqs (b :: r) Q σ w
    show wpC P a (thenC (wpC P (seqs (b :: r)) Q) Q) σ w = _
    rw [h]; rfl
def Ag (n : Nat) (σ σ' : Sl) : Prop := ∀ t, t < n → σ' t = σ t
theorem Ag.refl (n : Nat) (σ : Sl) : Ag n σ σ := fun _ _ => rfl
theorem Ag.trans {n : Nat} {a b c : Sl} (h : Ag n a b) (k : Ag n b c) : Ag n a c := fun t ht => (k t ht).trans (h t ht)
inductive VC where
  | all
  | ge (n : Int)
  | rng (a b : Int)
  deriving Inhabited, DecidableEq, Repr
def VC.holds (v : Int) : VC → Bool
  | .all => true
  | .ge n => decide (v ≥ n)
  | .rng a b => decide (v ≥ a) && decide (v ≤ b)
end Go.Msk

namespace Go.Msk
open Go.RowKit
set_option maxRecDepth 100000
structure RE where
  b : Nat
  vs : Nat
  fx : Nat
  un : Nat
  ret : Nat
  hasFx : Bool
  ok : FuncId
  cpl : FuncId
  deriving Inhabited
inductive VR where
  | call (f : FuncId)
  | uns (a b : VR)
  | flx (a b : VR)
  deriving Inhabited
def VR.sel (u x : Bool) : VR → FuncId
  | .call f => f
  | .uns a b => if u then a.sel u x else b.sel u x
  | .flx a b => if x then a.sel u x else b.sel u x
def VR.nt (h : Bool) : VR → Nat
  | .call _ => 1
  | .uns a b => 1 + (a.nt h + b.nt h)
  | .flx a b => if h then 1 + (a.nt h + b.nt h) else b.nt h
def VR.gen (E : RE) (x : Nat) : VR → Nat → IC
  | .call f, t => .blk [⟨some t, .call f [.tmp E.b], none⟩, ⟨some x, .mv (.tmp t), none⟩]
  | .uns a b, t => .seq (.blk [⟨some t, .mv (.tmp E.un), none⟩]) (.cond (.tmp t) (a.gen E x (t + 1)) (b.gen E x (t + 1 + a.nt E.hasFx)))
  | .flx a b, t => if E.hasFx then .seq (.blk [⟨some t, .mv (.tmp E.fx), none⟩]) (.cond (.tmp t) (a.gen E x (t + 1)) (b.gen E x (t + 1 + a.nt E.hasFx))) else b.gen E x t
def VR.genS (E : RE) (x : Nat) : VR → Nat → IC
  | .call f, t => .blk [⟨some t, .call f [.tmp E.b], none⟩, ⟨none, .st (.tmp x) 1 (.tmp t), none⟩]
  | .uns a b, t => .seq (.blk [⟨some t, .mv (.tmp E.un), none⟩]) (.cond (.tmp t) (a.genS E x (t + 1)) (b.genS E x (t + 1 + a.nt E.hasFx)))
  | .flx a b, t => if E.hasFx then .seq (.blk [⟨some t, .mv (.tmp E.fx), none⟩]) (.cond (.tmp t) (a.genS E x (t + 1)) (b.genS E x (t + 1 + a.nt E.hasFx))) else b.genS E x t
section
variable {P : Program} {E : RE}
def stF (sp x t off n : Nat) : IC :=
  .blk [⟨some t, .mv (.tmp sp), none⟩, ⟨some (t + 1), .mv (.tmp x), none⟩, ⟨some (t + 2), .nilc (.tmp t), none⟩, ⟨some (t + 3), .fad (.tmp (t + 2)) off, none⟩, ⟨none, .st (.tmp (t + 3)) n (.tmp (t + 1)), none⟩]
def ldF (sp x t off : Nat) : IC :=
  .blk [⟨some t, .mv (.tmp sp), none⟩, ⟨some (t + 1), .nilc (.tmp t), none⟩, ⟨some (t + 2), .fad (.tmp (t + 1)) off, none⟩, ⟨some (t + 3), .ld (.tmp (t + 2)), none⟩, ⟨some x, .mv (.tmp (t + 3)), none⟩]
def cpF (y x t : Nat) : IC := .blk [⟨some t, .mv (.tmp y), none⟩, ⟨some x, .mv (.tmp t), none⟩]
theorem cpF_wp {y x t : Nat} {σ : Sl} {w : World} {Q : Exit → Sl → World → Prop} (_lx : x < t)
    (hQ : ∀ σ', (∀ j, j < t → j ≠ x → σ' j = σ j) → σ' x = σ y → Q .normal σ' w) : wpC P (cpF y x t) Q σ w := by
  simp only [cpF, wpC, wpR, RI.wp, gOk, if_true, RK.run, ev, updo]
  refine hQ _ ?_ ?_
  · intro j hj hne
    simp only [upd, hne, show j ≠ t by omega, if_false]
  · simp [upd]
def cF (x : Nat) (v : Value) : IC := .blk [⟨some x, .mv (.const v), none⟩]
def okF (E : RE) (t : Nat) : IC :=
  .seq (.blk [⟨some t, .call E.ok [.tmp E.b], none⟩, ⟨some (t + 1), .lnot (.tmp t), none⟩])
    (.cond (.tmp (t + 1)) (.seq (.blk [⟨some (t + 2), .call E.cpl [.tmp E.b], none⟩, ⟨some E.ret, .mv (.tmp (t + 2)), none⟩]) .ret) .skip)
end
end Go.Msk

namespace Go.Msk
open Go.RowKit
set_option maxRecDepth 100000
def loopF (nv nb t : Nat) (elem : List IC) : IC :=
  .seq (cF (nv + 3) (.int .i32 0)) (.block nb (.loop (.seq
    (.seq (.blk [⟨some t, .mv (.tmp (nv + 3)), none⟩, ⟨some (t + 1), .mv (.tmp (nv + 2)), none⟩, ⟨some (t + 2), .bin .lss (.tmp t) (.tmp (t + 1)), none⟩])
      (.cond (.tmp (t + 2)) .skip (.exit nb)))
    (.seq (.block (nb + 1) (seqs elem))
      (.blk [⟨some (t + 3), .mv (.tmp (nv + 3)), none⟩, ⟨some (t + 4), .bin .add (.tmp (t + 3)) (.const (.int .i32 1)), none⟩, ⟨some (nv + 3), .mv (.tmp (t + 4)), none⟩])))))
section
variable {P : Program}
theorem zrep_length (n : Nat) (z : List Value) : (zrep n z).length = n * z.length := by simp [zrep]
theorem flatten_length {css : List (List Value)} {sz : Nat} (h : ∀ cs ∈ css, cs.length = sz) : css.flatten.length = css.length * sz := by
  induction css with
  | nil => simp
  | cons c css ih =>
    simp only [List.flatten_cons, List.length_append, List.length_cons, ih fun cs hcs => h cs (List.mem_cons_of_mem _ hcs), h c List.mem_cons_self]
    rw [Nat.succ_mul]; omega
end
end Go.Msk

namespace Go.Msk
open Go.RowKit
set_option maxRecDepth 100000
inductive PK where
  | bool | i8 | i16 | u16 | i32 | i64 | u32 | uuid | str | nstr | byt | nbyt
  deriving Inhabited, DecidableEq, Repr
inductive Df where
  | int (k : IntKind) (n : Int)
  | bool (b : Bool)
  | str (l : List UInt8)
  | nstr
  | byt
  | uuid
  deriving Inhabited
def Df.gv : Df → GV
  | .int k n => .num (.int k n)
  | .bool b => .num (.bool b)
  | .str l => .num (Msk.str l)
  | .nstr => .nstr none
  | .byt => .byt none
  | .uuid => .arr (List.replicate 16 0)
def Df.cells : Df → List Value
  | .int k n => [.int k n]
  | .bool b => [.bool b]
  | .str l => [Msk.str l]
  | .nstr => [.pointer none]
  | .byt => [.slice none 0 0]
  | .uuid => u8s (List.replicate 16 0)
def Df.zero : Df → List Value
  | .int k _ => [.int k 0]
  | .bool _ => [.bool false]
  | .str _ => [.string .empty]
  | .nstr => [.pointer none]
  | .byt => [.slice none 0 0]
  | .uuid => u8s (List.replicate 16 0)
def Df.size : Df → Nat
  | .uuid => 16
  | _ => 1
structure LB where
  b : Nat
  nul : Option Int := none
  deriving Inhabited
def LB.nt (l : LB) : Nat := match l.nul with
  | none => 0
  | some _ => 7
inductive Sc where
  | nil
  | prm (vc : VC) (init : Option Value) (r : VR) (p : PK) (d : Df) (rest : Sc)
  | enm (vc : VC) (init : Value) (r : VR) (p : PK) (d : Df) (rest : Sc)
  | lsp (vc : VC) (len : VR) (bytes : LB) (d : Df) (init : Option Value) (r : VR) (p : PK) (rest : Sc)
  | lss (vc : VC) (len : VR) (bytes : LB) (z : List Value) (dfl : FuncId) (body : Sc) (rest : Sc)
  | sub (vc : VC) (dfl : FuncId) (body : Sc) (rest : Sc)
  | tags (f : FuncId)
  | uid (vc : VC) (f : FuncId) (rest : Sc)
  | vst (vc : VC) (V : Int) (r1 r2 : VR) (rest : Sc)
  deriving Inhabited
def Sc.dgv : Sc → List GV
  | .nil => []
  | .prm _ _ _ _ d rest => d.gv :: rest.dgv
  | .enm _ _ _ _ d rest => d.gv :: rest.dgv
  | .lsp _ _ _ _ _ _ _ rest => .lst true 0 [] :: rest.dgv
  | .lss _ _ _ _ _ _ rest => .lst true 0 [] :: rest.dgv
  | .sub _ _ body rest => .rcd body.dgv :: rest.dgv
  | .tags _ => [.tag []]
  | .uid _ _ rest => .arr (List.replicate 16 0) :: rest.dgv
  | .vst _ _ _ _ rest => .nstr none :: rest.dgv
def Sc.dcs : Sc → List (List Value)
  | .nil => []
  | .prm _ _ _ _ d rest => d.cells :: rest.dcs
  | .enm _ _ _ _ d rest => d.cells :: rest.dcs
  | .lsp _ _ _ _ _ _ _ rest => [.slice none 0 0] :: rest.dcs
  | .lss _ _ _ _ _ _ rest => [.slice none 0 0] :: rest.dcs
  | .sub _ _ body rest => body.dcs.flatten :: rest.dcs
  | .tags _ => [[.map none]]
  | .uid _ _ rest => u8s (List.replicate 16 0) :: rest.dcs
  | .vst _ _ _ _ rest => [.pointer none] :: rest.dcs
def Sc.size (sc : Sc) : Nat := sc.dcs.flatten.length
def VC.nt : VC → Nat
  | .all => 0
  | .ge _ => 2
  | .rng _ _ => 6
def VC.wrap (E : RE) (t : Nat) (f : Nat → IC) : VC → IC
  | .all => f t
  | .ge n => .seq (.blk [⟨some t, .mv (.tmp E.vs), none⟩, ⟨some (t + 1), .bin .geq (.tmp t) (.const (.int .i16 n)), none⟩]) (.cond (.tmp (t + 1)) (f (t + 2)) .skip)
  | .rng a b => .seq (.blk [⟨some t, .mv (.tmp E.vs), none⟩, ⟨some (t + 1), .bin .geq (.tmp t) (.const (.int .i16 a)), none⟩, ⟨some (t + 2), .mv (.tmp (t + 1)), none⟩,
      ⟨some (t + 3), .mv (.tmp E.vs), some (t + 2, true)⟩, ⟨some (t + 4), .bin .leq (.tmp (t + 3)) (.const (.int .i16 b)), some (t + 2, true)⟩,
      ⟨some (t + 5), .pick (.tmp (t + 2)) (.tmp (t + 4)) (.const (.bool false)), none⟩]) (.cond (.tmp (t + 5)) (f (t + 6)) .skip)
structure Dec where
  len : Bool → RS → Int × RS
  prim : PK → Bool → RS → GV × RS
  tags : RS → List (Nat × List UInt8) × RS
def Sc.nv : Sc → Nat
  | .nil => 0
  | .prm _ _ _ _ _ rest => 1 + rest.nv
  | .enm _ _ _ _ _ rest => 3 + rest.nv
  | .lsp _ _ _ _ _ _ _ rest => 5 + rest.nv
  | .lss _ _ _ _ _ body rest => 6 + body.nv + rest.nv
  | .sub _ _ body rest => 2 + body.nv + rest.nv
  | .tags _ => 0
  | .uid _ _ rest => 1 + rest.nv
  | .vst _ _ _ _ rest => 2 + rest.nv
def Sc.nb : Sc → Nat
  | .nil => 0
  | .prm _ _ _ _ _ rest => rest.nb
  | .enm _ _ _ _ _ rest => rest.nb
  | .lsp _ _ _ _ _ _ _ rest => 2 + rest.nb
  | .lss _ _ _ _ _ body rest => 2 + body.nb + rest.nb
  | .sub _ _ body rest => body.nb + rest.nb
  | .tags _ => 0
  | .uid _ _ rest => rest.nb
  | .vst _ _ _ _ rest => rest.nb
def Sc.nt (h : Bool) : Sc → Nat
  | .nil => 0
  | .prm vc _ r _ _ rest => vc.nt + r.nt h + 4 + rest.nt h
  | .enm vc _ r _ _ rest => vc.nt + r.nt h + 6 + rest.nt h
  | .lsp vc len bytes _ _ r _ rest => vc.nt + len.nt h + r.nt h + 29 + bytes.nt + rest.nt h
  | .lss vc len bytes _ _ body rest => vc.nt + len.nt h + body.nt h + 31 + bytes.nt + rest.nt h
  | .sub vc _ body rest => vc.nt + 6 + body.nt h + rest.nt h
  | .tags _ => if h then 5 else 0
  | .uid vc _ rest => vc.nt + 5 + rest.nt h
  | .vst vc _ r1 r2 rest => vc.nt + (2 + r1.nt h + r2.nt h + 4) + rest.nt h
def initF (init : Option Value) (x : Nat) : List IC :=
  match init with
  | some v => [cF x v]
  | none => []
def stE (nv t n : Nat) : IC :=
  .blk [⟨some t, .mv (.tmp (nv + 1)), none⟩, ⟨some (t + 1), .mv (.tmp (nv + 3)), none⟩, ⟨some (t + 2), .mv (.tmp (nv + 4)), none⟩, ⟨some (t + 3), .iad (.tmp t) (.tmp (t + 1)) n, none⟩, ⟨none, .st (.tmp (t + 3)) n (.tmp (t + 2)), none⟩]
def roomF (nv t bytes : Nat) (z : List Value) : List IC :=
  [.blk [⟨some t, .mv (.tmp (nv + 1)), none⟩, ⟨some (t + 1), .slice (.tmp t) none (some (.const (.int .i64 0))) none z.length, none⟩, ⟨some (nv + 1), .mv (.tmp (t + 1)), none⟩],
   .seq (.blk [⟨some (t + 2), .mv (.tmp (nv + 2)), none⟩, ⟨some (t + 3), .bin .gtr (.tmp (t + 2)) (.const (.int .i32 0)), none⟩])
     (.cond (.tmp (t + 3)) (.blk [⟨some (t + 4), .mv (.tmp (nv + 1)), none⟩, ⟨some (t + 5), .mv (.tmp (nv + 2)), none⟩, ⟨some (t + 6), .appendz (.tmp (t + 4)) (.tmp (t + 5)) bytes z, none⟩, ⟨some (nv + 1), .mv (.tmp (t + 6)), none⟩]) .skip)]
def setF (E : RE) (V : Int) (nv t : Nat) (z : List Value) : IC :=
  .seq (.blk [⟨some t, .mv (.tmp E.vs), none⟩, ⟨some (t + 1), .bin .lss (.tmp t) (.const (.int .i16 V)), none⟩, ⟨some (t + 2), .mv (.tmp (t + 1)), none⟩,
      ⟨some (t + 3), .mv (.tmp (nv + 2)), some (t + 2, false)⟩, ⟨some (t + 4), .bin .eql (.tmp (t + 3)) (.const (.int .i32 0)), some (t + 2, false)⟩,
      ⟨some (t + 5), .pick (.tmp (t + 2)) (.const (.bool true)) (.tmp (t + 4)), none⟩])
    (.cond (.tmp (t + 5)) (.blk [⟨some (t + 6), .bslice 0 z [], none⟩, ⟨some (nv + 1), .mv (.tmp (t + 6)), none⟩]) .skip)
def LB.setL (l : LB) (E : RE) (nv t : Nat) (z : List Value) : List IC := match l.nul with
  | none => []
  | some V => [setF E V nv t z]
def lstR (E : RE) (sp off nv nb : Nat) (bytes : Nat) (z : List Value) (ne : Nat) (elem : Nat → List IC) (t : Nat) : List IC :=
  okF E t ::
    (roomF nv (t + 3) bytes z ++
     [loopF nv nb (t + 10) (elem (t + 15)),
      cpF (nv + 1) nv (t + 15 + ne), stF sp nv (t + 16 + ne) off 1])
def lstF (E : RE) (sp off nv nb : Nat) (len : VR) (bytes : LB) (z : List Value) (ne : Nat) (elem : Nat → List IC) (t : Nat) : IC :=
  seqs ([ldF sp nv t off, cpF nv (nv + 1) (t + 4), cF (nv + 2) (.int .i32 0), len.gen E (nv + 2) (t + 5)] ++ (bytes.setL E nv (t + 5 + len.nt E.hasFx) z ++ lstR E sp off nv nb bytes.b z ne elem (t + 5 + len.nt E.hasFx + bytes.nt)))
def elF (nv t n : Nat) (dfl : FuncId) : List IC :=
  [.blk [⟨some t, .mv (.tmp (nv + 1)), none⟩, ⟨some (t + 1), .mv (.tmp (nv + 3)), none⟩, ⟨some (t + 2), .iad (.tmp t) (.tmp (t + 1)) n, none⟩, ⟨some (nv + 4), .mv (.tmp (t + 2)), none⟩],
   .blk [⟨some (t + 3), .mv (.tmp (nv + 4)), none⟩, ⟨some (t + 4), .call dfl [.tmp (t + 3)], none⟩], cpF (nv + 4) (nv + 5) (t + 5)]
def rdF (sp rb t off : Nat) (f : FuncId) : IC :=
  .blk [⟨some t, .mv (.tmp sp), none⟩, ⟨some (t + 1), .call f [.tmp rb], none⟩, ⟨some (t + 2), .nilc (.tmp t), none⟩, ⟨some (t + 3), .fad (.tmp (t + 2)) off, none⟩, ⟨none, .st (.tmp (t + 3)) 1 (.tmp (t + 1)), none⟩]
def uidR (sp rb nv t off : Nat) (f : FuncId) : IC :=
  .seq (.blk [⟨some t, .call f [.tmp rb], none⟩, ⟨some nv, .alloc (u8s (List.replicate 16 0)), none⟩, ⟨none, .st (.tmp nv) 16 (.tmp t), none⟩])
    (.blk [⟨some (t + 1), .mv (.tmp sp), none⟩, ⟨some (t + 2), .ldn (.tmp nv) 16, none⟩, ⟨some (t + 3), .nilc (.tmp (t + 1)), none⟩, ⟨some (t + 4), .fad (.tmp (t + 3)) off, none⟩, ⟨none, .st (.tmp (t + 4)) 16 (.tmp (t + 2)), none⟩])
def vstF (E : RE) (sp off nv : Nat) (V : Int) (r1 r2 : VR) (t : Nat) : IC :=
  seqs [cF nv (.pointer none), .seq (.blk [⟨some t, .mv (.tmp E.vs), none⟩, ⟨some (t + 1), .bin .lss (.tmp t) (.const (.int .i16 V)), none⟩])
    (.cond (.tmp (t + 1)) (seqs [.blk [⟨some (nv + 1), .alloc [.string .empty], none⟩], r1.genS E (nv + 1) (t + 2), .blk [⟨some nv, .mv (.tmp (nv + 1)), none⟩]]) (r2.gen E nv (t + 2 + r1.nt E.hasFx))),
    stF sp nv (t + 2 + r1.nt E.hasFx + r2.nt E.hasFx) off 1]
def Sc.gen (E : RE) : Sc → (sp off nv nt nb : Nat) → List IC
  | .nil, _, _, _, _, _ => []
  | .prm vc init r _ d rest, sp, off, nv, nt, nb =>
    vc.wrap E nt (fun t => seqs (initF init nv ++ [r.gen E nv t, stF sp nv (t + r.nt E.hasFx) off d.size])) ::
      rest.gen E sp (off + d.size) (nv + 1) (nt + (vc.nt + r.nt E.hasFx + 4)) nb
  | .enm vc init r _ d rest, sp, off, nv, nt, nb =>
    vc.wrap E nt (fun t => seqs [cF nv init, seqs [r.gen E (nv + 1) t, cpF (nv + 1) nv (t + r.nt E.hasFx)], cpF nv (nv + 2) (t + r.nt E.hasFx + 1), stF sp (nv + 2) (t + r.nt E.hasFx + 2) off d.size]) ::
      rest.gen E sp (off + d.size) (nv + 3) (nt + (vc.nt + r.nt E.hasFx + 6)) nb
  | .lsp vc len bytes d init r _ rest, sp, off, nv, nt, nb =>
    vc.wrap E nt (lstF E sp off nv nb len bytes d.zero (r.nt E.hasFx + 4) fun t => initF init (nv + 4) ++ [r.gen E (nv + 4) t, stE nv (t + r.nt E.hasFx) d.size]) ::
      rest.gen E sp (off + 1) (nv + 5) (nt + (vc.nt + len.nt E.hasFx + r.nt E.hasFx + 29 + bytes.nt)) (nb + 2)
  | .lss vc len bytes z dfl body rest, sp, off, nv, nt, nb =>
    vc.wrap E nt (lstF E sp off nv nb len bytes z (6 + body.nt E.hasFx) fun t => elF nv t z.length dfl ++ body.gen E (nv + 5) 0 (nv + 6) (t + 6) (nb + 2)) ::
      rest.gen E sp (off + 1) (nv + (6 + body.nv)) (nt + (vc.nt + len.nt E.hasFx + body.nt E.hasFx + 31 + bytes.nt)) (nb + (2 + body.nb))
  | .sub vc dfl body rest, sp, off, nv, nt, nb =>
    vc.wrap E nt (fun t => seqs (
      [.blk [⟨some t, .mv (.tmp sp), none⟩, ⟨some (t + 1), .nilc (.tmp t), none⟩, ⟨some (t + 2), .fad (.tmp (t + 1)) off, none⟩, ⟨some nv, .mv (.tmp (t + 2)), none⟩],
       .blk [⟨some (t + 3), .mv (.tmp nv), none⟩, ⟨some (t + 4), .call dfl [.tmp (t + 3)], none⟩], cpF nv (nv + 1) (t + 5)] ++ body.gen E (nv + 1) 0 (nv + 2) (t + 6) nb)) ::
      rest.gen E sp (off + body.size) (nv + (2 + body.nv)) (nt + (vc.nt + 6 + body.nt E.hasFx)) (nb + body.nb)
  | .tags f, sp, off, _, nt, _ => if E.hasFx then [.seq (.blk [⟨some nt, .mv (.tmp E.fx), none⟩]) (.cond (.tmp nt) (rdF sp E.b (nt + 1) off f) .skip)] else []
  | .uid vc f rest, sp, off, nv, nt, nb => vc.wrap E nt (fun t => uidR sp E.b nv t off f) :: rest.gen E sp (off + 16) (nv + 1) (nt + (vc.nt + 5)) nb
  | .vst vc V r1 r2 rest, sp, off, nv, nt, nb => vc.wrap E nt (fun t => vstF E sp off nv V r1 r2 t) :: rest.gen E sp (off + 1) (nv + 2) (nt + (vc.nt + (2 + r1.nt E.hasFx + r2.nt E.hasFx + 4))) nb
end Go.Msk

namespace Go.Msk
open Go.RowKit
set_option maxRecDepth 100000
def over : List (Option Value) → List Value → List Value
  | some v :: m, _ :: cs => v :: over m cs
  | none :: m, c :: cs => c :: over m cs
  | _, cs => cs
def DfC (P : Program) (f : FuncId) (z d : List Value) : Prop :=
  ∀ (w : World) (B : Nat) (pre post : List Value), Blk w B (pre ++ (z ++ post)) →
    Calls P f [.pointer (some ⟨B, pre.length, none⟩)].toArray w fun e w' => e = .returned (.tuple #[]) ∧ Blk w' B (pre ++ (d ++ post)) ∧ Mod [B] w w'
def PK.size : PK → Nat
  | .uuid => 16
  | _ => 1
section
variable {P : Program} {E : RE} {D : Dec}
end
end Go.Msk

namespace Go.Msk
open Go.RowKit
set_option maxRecDepth 100000
theorem splice_mid {pre old post vs : List Value} {o : Nat} (h : pre.length = o) (hl : vs.length = old.length) : splice (pre ++ (old ++ post)) o vs = pre ++ (vs ++ post) := by
  subst h
  simp [splice, hl]
section
variable {P : Program} {E : RE} {D : Dec}
def Sc.lists : Sc → Bool
  | .nil => false
  | .tags _ => false
  | .prm _ _ _ _ _ rest => rest.lists
  | .enm _ _ _ _ _ rest => rest.lists
  | .uid _ _ rest => rest.lists
  | .vst _ _ _ _ rest => rest.lists
  | .lsp _ _ _ _ _ _ _ _ => true
  | .lss _ _ _ _ _ _ _ => true
  | .sub _ _ body rest => body.lists || rest.lists
end
end Go.Msk

namespace Go.Msk
open Go.RowKit
set_option maxRecDepth 100000
structure Top where
  rv : Option FuncId
  flex : Option Int
  dfl : FuncId
  ok : FuncId
  cpl : FuncId
  sc : Sc
  deriving Inhabited
def Top.env (T : Top) : RE := ⟨7, 8, 9, 2, 6, T.flex.isSome, T.ok, T.cpl⟩
def Top.nv (T : Top) : Nat := if T.flex.isSome then 11 else 10
def Top.t0 (T : Top) : Nat := T.nv + T.sc.nv
def Top.t1 (T : Top) : Nat := T.t0 + (if T.rv.isSome then 8 else 4)
def Top.t2 (T : Top) : Nat := T.t1 + (if T.flex.isSome then 8 else 5)
def Top.flexF (T : Top) : List IC :=
  match T.flex with
  | some n => [.blk [⟨some (T.t1 + 5), .mv (.tmp 8), none⟩, ⟨some (T.t1 + 6), .bin .geq (.tmp (T.t1 + 5)) (.const (.int .i16 n)), none⟩, ⟨some 9, .mv (.tmp (T.t1 + 6)), none⟩], .blk [⟨some (T.t1 + 7), .mv (.tmp 9), none⟩]]
  | none => []
def Top.verF (T : Top) : List IC :=
  match T.rv with
  | some f => [rdF 0 7 (T.t0 + 4) 0 f]
  | none => []
def Top.gen (T : Top) : IC × List RV × Nat :=
  (seqs ([cF 6 .nilIface, .blk [⟨some T.t0, .mv (.tmp 0), none⟩, ⟨some (T.t0 + 1), .call T.dfl [.tmp T.t0], none⟩],
     .blk [⟨some (T.t0 + 2), .mv (.tmp 1), none⟩, ⟨some (T.t0 + 3), .build [.slice none 0 0, .bool false] [(0, 1, .tmp (T.t0 + 2))], none⟩, ⟨some 7, .alloc [.slice none 0 0, .bool false], none⟩, ⟨none, .st (.tmp 7) 2 (.tmp (T.t0 + 3)), none⟩]] ++
    (T.verF ++ ([ldF 0 8 T.t1 0, .blk [⟨some (T.t1 + 4), .mv (.tmp 8), none⟩]] ++ (T.flexF ++ ([cpF 0 (T.nv - 1) T.t2] ++
    (T.sc.gen T.env (T.nv - 1) 1 T.nv (T.t2 + 1) 0 ++
     [.blk [⟨some (T.t2 + 1 + T.sc.nt T.flex.isSome), .call T.cpl [.tmp 7], none⟩, ⟨some 6, .mv (.tmp (T.t2 + 1 + T.sc.nt T.flex.isSome)), none⟩], .ret])))))),
   [.tmp 6], T.t2 + 2 + T.sc.nt T.flex.isSome)
def Top.x (T : Top) (ver : Int) : Bool := match T.flex with | some n => decide (ver ≥ n) | none => false
section
variable {P : Program} {D : Dec}
theorem callF_wp {t x : Nat} {f : FuncId} {σ : Sl} {w : World} {v : Value} {R : Ending → World → Prop} {Q : Exit → Sl → World → Prop} (hx : σ x = v) (hc : Calls P f [v].toArray w R)
    (hQ : ∀ e w', R e w' → ∃ u, e = .returned u ∧ ∀ σ', Ag t σ σ' → Q .normal σ' w') : wpC P (.blk [⟨some t, .mv (.tmp x), none⟩, ⟨some (t + 1), .call f [.tmp t], none⟩]) Q σ w := by
  simp only [wpC, wpR, RI.wp, gOk, if_true, RK.run, ev, updo, List.map_cons, List.map_nil, upd_same, hx]
  refine hc.mono fun e w' hR => ?_
  obtain ⟨u, rfl, h⟩ := hQ e w' hR
  refine ⟨u, rfl, h _ fun j hj => ?_⟩
  simp only [upd, show j ≠ t by omega, show j ≠ t + 1 by omega, if_false]
theorem mvF_wp {t x : Nat} {σ : Sl} {w : World} {Q : Exit → Sl → World → Prop} (hQ : ∀ σ', Ag t σ σ' → Q .normal σ' w) : wpC P (.blk [⟨some t, .mv (.tmp x), none⟩]) Q σ w := by
  simp only [wpC, wpR, RI.wp, gOk, if_true, RK.run, ev, updo]
  exact hQ _ fun j hj => by simp only [upd, show j ≠ t by omega, if_false]
end
end Go.Msk

namespace Go.Msk
def ir_rBool (_F : Nat → Nat) : IC × List RV × Nat := (.seq (.blk [⟨some 2, .mv (.const (.bool false)), none⟩])
 (.seq (.seq (.blk [⟨some 4, .mv (.tmp 0), none⟩,
 ⟨some 5, .nilc (.tmp 4), none⟩,
 ⟨some 6, .fad (.tmp 5) 0, none⟩,
 ⟨some 7, .ld (.tmp 6), none⟩,
 ⟨some 8, .len (.tmp 7), none⟩,
 ⟨some 9, .bin .lss (.tmp 8) (.const (.int .i64 1)), none⟩])
 (.cond (.tmp 9)
 (.seq (.blk [⟨some 10, .mv (.tmp 0), none⟩,
 ⟨some 11, .nilc (.tmp 10), none⟩,
 ⟨some 12, .fad (.tmp 11) 1, none⟩,
 ⟨none, .st (.tmp 12) 1 (.const (.bool true)), none⟩])
 (.seq (.blk [⟨some 13, .mv (.tmp 0), none⟩,
 ⟨some 14, .nilc (.tmp 13), none⟩,
 ⟨some 15, .fad (.tmp 14) 0, none⟩,
 ⟨none, .st (.tmp 15) 1 (.const (.slice none 0 0)), none⟩])
 (.seq (.blk [⟨some 2, .mv (.const (.bool false)), none⟩])
 (.ret))))
 (.skip)))
 (.seq (.blk [⟨some 16, .mv (.tmp 0), none⟩,
 ⟨some 17, .nilc (.tmp 16), none⟩,
 ⟨some 18, .fad (.tmp 17) 0, none⟩,
 ⟨some 19, .ld (.tmp 18), none⟩,
 ⟨some 20, .iad (.tmp 19) (.const (.int .i64 0)) 1, none⟩,
 ⟨some 21, .ld (.tmp 20), none⟩,
 ⟨some 22, .bin .neq (.tmp 21) (.const (.int .u8 0)), none⟩,
 ⟨some 3, .mv (.tmp 22), none⟩])
 (.seq (.blk [⟨some 23, .mv (.tmp 0), none⟩,
 ⟨some 24, .mv (.tmp 0), none⟩,
 ⟨some 25, .nilc (.tmp 24), none⟩,
 ⟨some 26, .fad (.tmp 25) 0, none⟩,
 ⟨some 27, .ld (.tmp 26), none⟩,
 ⟨some 28, .slice (.tmp 27) (some (.const (.int .i64 1))) none none 1, none⟩,
 ⟨some 29, .nilc (.tmp 23), none⟩,
 ⟨some 30, .fad (.tmp 29) 0, none⟩,
 ⟨none, .st (.tmp 30) 1 (.tmp 28), none⟩])
 (.seq (.blk [⟨some 31, .mv (.tmp 3), none⟩,
 ⟨some 2, .mv (.tmp 31), none⟩])
 (.ret))))),
 [.tmp 2], 32)
def ir_rInt8 (_F : Nat → Nat) : IC × List RV × Nat := (.seq (.blk [⟨some 2, .mv (.const (.int .i8 0)), none⟩])
 (.seq (.seq (.blk [⟨some 4, .mv (.tmp 0), none⟩,
 ⟨some 5, .nilc (.tmp 4), none⟩,
 ⟨some 6, .fad (.tmp 5) 0, none⟩,
 ⟨some 7, .ld (.tmp 6), none⟩,
 ⟨some 8, .len (.tmp 7), none⟩,
 ⟨some 9, .bin .lss (.tmp 8) (.const (.int .i64 1)), none⟩])
 (.cond (.tmp 9)
 (.seq (.blk [⟨some 10, .mv (.tmp 0), none⟩,
 ⟨some 11, .nilc (.tmp 10), none⟩,
 ⟨some 12, .fad (.tmp 11) 1, none⟩,
 ⟨none, .st (.tmp 12) 1 (.const (.bool true)), none⟩])
 (.seq (.blk [⟨some 13, .mv (.tmp 0), none⟩,
 ⟨some 14, .nilc (.tmp 13), none⟩,
 ⟨some 15, .fad (.tmp 14) 0, none⟩,
 ⟨none, .st (.tmp 15) 1 (.const (.slice none 0 0)), none⟩])
 (.seq (.blk [⟨some 2, .mv (.const (.int .i8 0)), none⟩])
 (.ret))))
 (.skip)))
 (.seq (.blk [⟨some 16, .mv (.tmp 0), none⟩,
 ⟨some 17, .nilc (.tmp 16), none⟩,
 ⟨some 18, .fad (.tmp 17) 0, none⟩,
 ⟨some 19, .ld (.tmp 18), none⟩,
 ⟨some 20, .iad (.tmp 19) (.const (.int .i64 0)) 1, none⟩,
 ⟨some 21, .ld (.tmp 20), none⟩,
 ⟨some 3, .mv (.tmp 21), none⟩])
 (.seq (.blk [⟨some 22, .mv (.tmp 0), none⟩,
 ⟨some 23, .mv (.tmp 0), none⟩,
 ⟨some 24, .nilc (.tmp 23), none⟩,
 ⟨some 25, .fad (.tmp 24) 0, none⟩,
 ⟨some 26, .ld (.tmp 25), none⟩,
 ⟨some 27, .slice (.tmp 26) (some (.const (.int .i64 1))) none none 1, none⟩,
 ⟨some 28, .nilc (.tmp 22), none⟩,
 ⟨some 29, .fad (.tmp 28) 0, none⟩,
 ⟨none, .st (.tmp 29) 1 (.tmp 27), none⟩])
 (.seq (.blk [⟨some 30, .mv (.tmp 3), none⟩,
 ⟨some 31, .conv .i8 (.tmp 30), none⟩,
 ⟨some 2, .mv (.tmp 31), none⟩])
 (.ret))))),
 [.tmp 2], 32)
def ir_rUint16 (F : Nat → Nat) : IC × List RV × Nat := (.seq (.blk [⟨some 2, .mv (.const (.int .u16 0)), none⟩])
 (.seq (.seq (.blk [⟨some 4, .mv (.tmp 0), none⟩,
 ⟨some 5, .nilc (.tmp 4), none⟩,
 ⟨some 6, .fad (.tmp 5) 0, none⟩,
 ⟨some 7, .ld (.tmp 6), none⟩,
 ⟨some 8, .len (.tmp 7), none⟩,
 ⟨some 9, .bin .lss (.tmp 8) (.const (.int .i64 2)), none⟩])
 (.cond (.tmp 9)
 (.seq (.blk [⟨some 10, .mv (.tmp 0), none⟩,
 ⟨some 11, .nilc (.tmp 10), none⟩,
 ⟨some 12, .fad (.tmp 11) 1, none⟩,
 ⟨none, .st (.tmp 12) 1 (.const (.bool true)), none⟩])
 (.seq (.blk [⟨some 13, .mv (.tmp 0), none⟩,
 ⟨some 14, .nilc (.tmp 13), none⟩,
 ⟨some 15, .fad (.tmp 14) 0, none⟩,
 ⟨none, .st (.tmp 15) 1 (.const (.slice none 0 0)), none⟩])
 (.seq (.blk [⟨some 2, .mv (.const (.int .u16 0)), none⟩])
 (.ret))))
 (.skip)))
 (.seq (.drw [⟨⟨some 16, .ldn (.global (F gBig)) 0, none⟩, false, []⟩,
 ⟨⟨some 17, .mv (.tmp 0), none⟩, false, []⟩,
 ⟨⟨some 18, .nilc (.tmp 17), none⟩, false, []⟩,
 ⟨⟨some 19, .fad (.tmp 18) 0, none⟩, false, []⟩,
 ⟨⟨some 20, .ld (.tmp 19), none⟩, false, []⟩,
 ⟨⟨some 21, .call (F beUint16) [.tmp 16, .tmp 20], none⟩, true, []⟩,
 ⟨⟨some 3, .mv (.tmp 21), none⟩, false, [5]⟩]
 [])
 (.seq (.blk [⟨some 22, .mv (.tmp 0), none⟩,
 ⟨some 23, .mv (.tmp 0), none⟩,
 ⟨some 24, .nilc (.tmp 23), none⟩,
 ⟨some 25, .fad (.tmp 24) 0, none⟩,
 ⟨some 26, .ld (.tmp 25), none⟩,
 ⟨some 27, .slice (.tmp 26) (some (.const (.int .i64 2))) none none 1, none⟩,
 ⟨some 28, .nilc (.tmp 22), none⟩,
 ⟨some 29, .fad (.tmp 28) 0, none⟩,
 ⟨none, .st (.tmp 29) 1 (.tmp 27), none⟩])
 (.seq (.blk [⟨some 30, .mv (.tmp 3), none⟩,
 ⟨some 2, .mv (.tmp 30), none⟩])
 (.ret))))),
 [.tmp 2], 31)
def ir_rInt64 (F : Nat → Nat) : IC × List RV × Nat := (.seq (.blk [⟨some 2, .mv (.const (.int .i64 0)), none⟩])
 (.seq (.blk [⟨some 3, .mv (.tmp 0), none⟩,
 ⟨some 4, .call (F rReadUint64) [.tmp 3], none⟩,
 ⟨some 5, .conv .i64 (.tmp 4), none⟩,
 ⟨some 2, .mv (.tmp 5), none⟩])
 (.ret)),
 [.tmp 2], 6)
def ir_rReadUint64 (F : Nat → Nat) : IC × List RV × Nat := (.seq (.blk [⟨some 2, .mv (.const (.int .u64 0)), none⟩])
 (.seq (.seq (.blk [⟨some 4, .mv (.tmp 0), none⟩,
 ⟨some 5, .nilc (.tmp 4), none⟩,
 ⟨some 6, .fad (.tmp 5) 0, none⟩,
 ⟨some 7, .ld (.tmp 6), none⟩,
 ⟨some 8, .len (.tmp 7), none⟩,
 ⟨some 9, .bin .lss (.tmp 8) (.const (.int .i64 8)), none⟩])
 (.cond (.tmp 9)
 (.seq (.blk [⟨some 10, .mv (.tmp 0), none⟩,
 ⟨some 11, .nilc (.tmp 10), none⟩,
 ⟨some 12, .fad (.tmp 11) 1, none⟩,
 ⟨none, .st (.tmp 12) 1 (.const (.bool true)), none⟩])
 (.seq (.blk [⟨some 13, .mv (.tmp 0), none⟩,
 ⟨some 14, .nilc (.tmp 13), none⟩,
 ⟨some 15, .fad (.tmp 14) 0, none⟩,
 ⟨none, .st (.tmp 15) 1 (.const (.slice none 0 0)), none⟩])
 (.seq (.blk [⟨some 2, .mv (.const (.int .u64 0)), none⟩])
 (.ret))))
 (.skip)))
 (.seq (.drw [⟨⟨some 16, .ldn (.global (F gBig)) 0, none⟩, false, []⟩,
 ⟨⟨some 17, .mv (.tmp 0), none⟩, false, []⟩,
 ⟨⟨some 18, .nilc (.tmp 17), none⟩, false, []⟩,
 ⟨⟨some 19, .fad (.tmp 18) 0, none⟩, false, []⟩,
 ⟨⟨some 20, .ld (.tmp 19), none⟩, false, []⟩,
 ⟨⟨some 21, .call (F beUint64) [.tmp 16, .tmp 20], none⟩, true, []⟩,
 ⟨⟨some 3, .mv (.tmp 21), none⟩, false, [5]⟩]
 [])
 (.seq (.blk [⟨some 22, .mv (.tmp 0), none⟩,
 ⟨some 23, .mv (.tmp 0), none⟩,
 ⟨some 24, .nilc (.tmp 23), none⟩,
 ⟨some 25, .fad (.tmp 24) 0, none⟩,
 ⟨some 26, .ld (.tmp 25), none⟩,
 ⟨some 27, .slice (.tmp 26) (some (.const (.int .i64 8))) none none 1, none⟩,
 ⟨some 28, .nilc (.tmp 22), none⟩,
 ⟨some 29, .fad (.tmp 28) 0, none⟩,
 ⟨none, .st (.tmp 29) 1 (.tmp 27), none⟩])
 (.seq (.blk [⟨some 30, .mv (.tmp 3), none⟩,
 ⟨some 2, .mv (.tmp 30), none⟩])
 (.ret))))),
 [.tmp 2], 31)
def ir_beUint64 (_F : Nat → Nat) : IC × List RV × Nat := (.seq (.blk [⟨some 2, .box (.tmp 0), none⟩,
 ⟨some 4, .mv (.const (.int .u64 0)), none⟩])
 (.seq (.blk [⟨some 5, .mv (.tmp 1), none⟩,
 ⟨some 6, .iad (.tmp 5) (.const (.int .i64 7)) 1, none⟩,
 ⟨some 7, .ld (.tmp 6), none⟩])
 (.seq (.drw [⟨⟨some 8, .mv (.tmp 1), none⟩, false, []⟩,
 ⟨⟨some 9, .iad (.tmp 8) (.const (.int .i64 7)) 1, none⟩, false, []⟩,
 ⟨⟨some 10, .ld (.tmp 9), none⟩, false, []⟩,
 ⟨⟨some 11, .conv .u64 (.tmp 10), none⟩, false, []⟩,
 ⟨⟨some 12, .mv (.tmp 1), none⟩, false, []⟩,
 ⟨⟨some 13, .iad (.tmp 12) (.const (.int .i64 6)) 1, none⟩, false, []⟩,
 ⟨⟨some 14, .ld (.tmp 13), none⟩, false, []⟩,
 ⟨⟨some 15, .conv .u64 (.tmp 14), none⟩, false, []⟩,
 ⟨⟨some 16, .bin .shl (.tmp 15) (.const (.int .u64 8)), none⟩, false, []⟩,
 ⟨⟨some 17, .bin .or (.tmp 11) (.tmp 16), none⟩, false, []⟩,
 ⟨⟨some 18, .mv (.tmp 1), none⟩, false, []⟩,
 ⟨⟨some 19, .iad (.tmp 18) (.const (.int .i64 5)) 1, none⟩, false, []⟩,
 ⟨⟨some 20, .ld (.tmp 19), none⟩, false, []⟩,
 ⟨⟨some 21, .conv .u64 (.tmp 20), none⟩, false, []⟩,
 ⟨⟨some 22, .bin .shl (.tmp 21) (.const (.int .u64 16)), none⟩, false, []⟩,
 ⟨⟨some 23, .bin .or (.tmp 17) (.tmp 22), none⟩, false, []⟩,
 ⟨⟨some 24, .mv (.tmp 1), none⟩, false, []⟩,
 ⟨⟨some 25, .iad (.tmp 24) (.const (.int .i64 4)) 1, none⟩, false, []⟩,
 ⟨⟨some 26, .ld (.tmp 25), none⟩, false, []⟩,
 ⟨⟨some 27, .conv .u64 (.tmp 26), none⟩, false, []⟩,
 ⟨⟨some 28, .bin .shl (.tmp 27) (.const (.int .u64 24)), none⟩, false, []⟩,
 ⟨⟨some 29, .bin .or (.tmp 23) (.tmp 28), none⟩, false, []⟩,
 ⟨⟨some 30, .mv (.tmp 1), none⟩, false, []⟩,
 ⟨⟨some 31, .iad (.tmp 30) (.const (.int .i64 3)) 1, none⟩, false, []⟩,
 ⟨⟨some 32, .ld (.tmp 31), none⟩, false, []⟩,
 ⟨⟨some 33, .conv .u64 (.tmp 32), none⟩, false, []⟩,
 ⟨⟨some 34, .bin .shl (.tmp 33) (.const (.int .u64 32)), none⟩, false, []⟩,
 ⟨⟨some 35, .bin .or (.tmp 29) (.tmp 34), none⟩, false, []⟩,
 ⟨⟨some 36, .mv (.tmp 1), none⟩, false, []⟩,
 ⟨⟨some 37, .iad (.tmp 36) (.const (.int .i64 2)) 1, none⟩, false, []⟩,
 ⟨⟨some 38, .ld (.tmp 37), none⟩, false, []⟩,
 ⟨⟨some 39, .conv .u64 (.tmp 38), none⟩, false, []⟩,
 ⟨⟨some 40, .bin .shl (.tmp 39) (.const (.int .u64 40)), none⟩, false, []⟩,
 ⟨⟨some 41, .bin .or (.tmp 35) (.tmp 40), none⟩, false, []⟩,
 ⟨⟨some 42, .mv (.tmp 1), none⟩, false, []⟩,
 ⟨⟨some 43, .iad (.tmp 42) (.const (.int .i64 1)) 1, none⟩, false, []⟩,
 ⟨⟨some 44, .ld (.tmp 43), none⟩, false, []⟩,
 ⟨⟨some 45, .conv .u64 (.tmp 44), none⟩, false, []⟩,
 ⟨⟨some 46, .bin .shl (.tmp 45) (.const (.int .u64 48)), none⟩, false, []⟩,
 ⟨⟨some 47, .bin .or (.tmp 41) (.tmp 46), none⟩, false, []⟩,
 ⟨⟨some 48, .mv (.tmp 1), none⟩, false, []⟩,
 ⟨⟨some 49, .iad (.tmp 48) (.const (.int .i64 0)) 1, none⟩, false, []⟩,
 ⟨⟨some 50, .ld (.tmp 49), none⟩, false, []⟩,
 ⟨⟨some 51, .conv .u64 (.tmp 50), none⟩, false, []⟩,
 ⟨⟨some 52, .bin .shl (.tmp 51) (.const (.int .u64 56)), none⟩, false, []⟩,
 ⟨⟨some 53, .bin .or (.tmp 47) (.tmp 52), none⟩, false, []⟩,
 ⟨⟨some 4, .mv (.tmp 53), none⟩, false, []⟩]
 [])
 (.ret))),
 [.tmp 4], 54)
def ir_rUuid (F : Nat → Nat) : IC × List RV × Nat := (.seq (.blk [⟨some 2, .alloc [.int .u8 0, .int .u8 0, .int .u8 0, .int .u8 0, .int .u8 0, .int .u8 0, .int .u8 0, .int .u8 0, .int .u8 0, .int .u8 0, .int .u8 0, .int .u8 0, .int .u8 0, .int .u8 0, .int .u8 0, .int .u8 0], none⟩])
 (.seq (.blk [⟨some 3, .alloc [.int .u8 0, .int .u8 0, .int .u8 0, .int .u8 0, .int .u8 0, .int .u8 0, .int .u8 0, .int .u8 0, .int .u8 0, .int .u8 0, .int .u8 0, .int .u8 0, .int .u8 0, .int .u8 0, .int .u8 0, .int .u8 0], none⟩])
 (.seq (.drw [⟨⟨some 4, .slicea (.tmp 3) 16, none⟩, false, []⟩,
 ⟨⟨some 5, .mv (.tmp 0), none⟩, false, []⟩,
 ⟨⟨some 6, .call (F rSpan) [.tmp 5, .const (.int .i64 16)], none⟩, true, []⟩]
 [⟨some 7, .copy (.tmp 4) (.tmp 6) 1, none⟩])
 (.seq (.blk [⟨some 8, .ldn (.tmp 3) 16, none⟩,
 ⟨none, .st (.tmp 2) 16 (.tmp 8), none⟩])
 (.ret)))),
 [.cells 2 16], 9)
def ir_rUvarint (F : Nat → Nat) : IC × List RV × Nat := (.seq (.blk [⟨some 2, .mv (.const (.int .u32 0)), none⟩])
 (.seq (.blk [⟨some 6, .mv (.tmp 0), none⟩,
 ⟨some 7, .nilc (.tmp 6), none⟩,
 ⟨some 8, .fad (.tmp 7) 0, none⟩,
 ⟨some 9, .ld (.tmp 8), none⟩,
 ⟨some 10, .call (F kUvarint) [.tmp 9], none⟩,
 ⟨some 5, .mv (.tmp 10), none⟩,
 ⟨some 11, .ext (.tmp 5) 0, none⟩,
 ⟨some 12, .ext (.tmp 5) 1, none⟩,
 ⟨some 3, .mv (.tmp 11), none⟩,
 ⟨some 4, .mv (.tmp 12), none⟩])
 (.seq (.seq (.blk [⟨some 13, .mv (.tmp 4), none⟩,
 ⟨some 14, .bin .leq (.tmp 13) (.const (.int .i64 0)), none⟩])
 (.cond (.tmp 14)
 (.seq (.blk [⟨some 15, .mv (.tmp 0), none⟩,
 ⟨some 16, .nilc (.tmp 15), none⟩,
 ⟨some 17, .fad (.tmp 16) 1, none⟩,
 ⟨none, .st (.tmp 17) 1 (.const (.bool true)), none⟩])
 (.seq (.blk [⟨some 18, .mv (.tmp 0), none⟩,
 ⟨some 19, .nilc (.tmp 18), none⟩,
 ⟨some 20, .fad (.tmp 19) 0, none⟩,
 ⟨none, .st (.tmp 20) 1 (.const (.slice none 0 0)), none⟩])
 (.seq (.blk [⟨some 2, .mv (.const (.int .u32 0)), none⟩])
 (.ret))))
 (.skip)))
 (.seq (.blk [⟨some 21, .mv (.tmp 0), none⟩,
 ⟨some 22, .mv (.tmp 0), none⟩,
 ⟨some 23, .nilc (.tmp 22), none⟩,
 ⟨some 24, .fad (.tmp 23) 0, none⟩,
 ⟨some 25, .ld (.tmp 24), none⟩,
 ⟨some 26, .mv (.tmp 4), none⟩,
 ⟨some 27, .slice (.tmp 25) (some (.tmp 26)) none none 1, none⟩,
 ⟨some 28, .nilc (.tmp 21), none⟩,
 ⟨some 29, .fad (.tmp 28) 0, none⟩,
 ⟨none, .st (.tmp 29) 1 (.tmp 27), none⟩])
 (.seq (.blk [⟨some 30, .mv (.tmp 3), none⟩,
 ⟨some 2, .mv (.tmp 30), none⟩])
 (.ret))))),
 [.tmp 2], 31)
def ir_kUvarint (_F : Nat → Nat) : IC × List RV × Nat := (.seq (.blk [⟨some 2, .mv (.const (.int .u32 0)), none⟩,
 ⟨some 3, .mv (.const (.int .i64 0)), none⟩])
 (.scopeTo (.seq (.blk [⟨some 4, .mv (.const (.int .u32 0)), none⟩])
 (.seq (.blk [⟨some 5, .mv (.const (.int .i64 0)), none⟩])
 (.seq (.seq (.blk [⟨some 6, .mv (.tmp 0), none⟩,
 ⟨some 7, .len (.tmp 6), none⟩,
 ⟨some 8, .bin .lss (.tmp 7) (.const (.int .i64 1)), none⟩])
 (.cond (.tmp 8)
 (.goto 0)
 (.skip)))
 (.seq (.blk [⟨some 9, .mv (.tmp 0), none⟩,
 ⟨some 10, .iad (.tmp 9) (.const (.int .i64 0)) 1, none⟩,
 ⟨some 11, .ld (.tmp 10), none⟩,
 ⟨some 12, .bin .and (.tmp 11) (.const (.int .u8 127)), none⟩,
 ⟨some 13, .conv .u32 (.tmp 12), none⟩,
 ⟨some 4, .mv (.tmp 13), none⟩])
 (.seq (.seq (.blk [⟨some 14, .mv (.tmp 0), none⟩,
 ⟨some 15, .iad (.tmp 14) (.const (.int .i64 0)) 1, none⟩,
 ⟨some 16, .ld (.tmp 15), none⟩,
 ⟨some 17, .bin .and (.tmp 16) (.const (.int .u8 128)), none⟩,
 ⟨some 18, .bin .eql (.tmp 17) (.const (.int .u8 0)), none⟩])
 (.cond (.tmp 18)
 (.seq (.blk [⟨some 19, .mv (.tmp 4), none⟩,
 ⟨some 2, .mv (.tmp 19), none⟩,
 ⟨some 3, .mv (.const (.int .i64 1)), none⟩])
 (.ret))
 (.seq (.blk [⟨some 20, .mv (.tmp 0), none⟩,
 ⟨some 21, .len (.tmp 20), none⟩,
 ⟨some 22, .bin .lss (.tmp 21) (.const (.int .i64 2)), none⟩])
 (.cond (.tmp 22)
 (.goto 0)
 (.skip)))))
 (.seq (.blk [⟨some 23, .mv (.tmp 4), none⟩,
 ⟨some 24, .mv (.tmp 0), none⟩,
 ⟨some 25, .iad (.tmp 24) (.const (.int .i64 1)) 1, none⟩,
 ⟨some 26, .ld (.tmp 25), none⟩,
 ⟨some 27, .bin .and (.tmp 26) (.const (.int .u8 127)), none⟩,
 ⟨some 28, .conv .u32 (.tmp 27), none⟩,
 ⟨some 29, .bin .shl (.tmp 28) (.const (.int .u64 7)), none⟩,
 ⟨some 30, .bin .or (.tmp 23) (.tmp 29), none⟩,
 ⟨some 4, .mv (.tmp 30), none⟩])
 (.seq (.seq (.blk [⟨some 31, .mv (.tmp 0), none⟩,
 ⟨some 32, .iad (.tmp 31) (.const (.int .i64 1)) 1, none⟩,
 ⟨some 33, .ld (.tmp 32), none⟩,
 ⟨some 34, .bin .and (.tmp 33) (.const (.int .u8 128)), none⟩,
 ⟨some 35, .bin .eql (.tmp 34) (.const (.int .u8 0)), none⟩])
 (.cond (.tmp 35)
 (.seq (.blk [⟨some 36, .mv (.tmp 4), none⟩,
 ⟨some 2, .mv (.tmp 36), none⟩,
 ⟨some 3, .mv (.const (.int .i64 2)), none⟩])
 (.ret))
 (.seq (.blk [⟨some 37, .mv (.tmp 0), none⟩,
 ⟨some 38, .len (.tmp 37), none⟩,
 ⟨some 39, .bin .lss (.tmp 38) (.const (.int .i64 3)), none⟩])
 (.cond (.tmp 39)
 (.goto 0)
 (.skip)))))
 (.seq (.blk [⟨some 40, .mv (.tmp 4), none⟩,
 ⟨some 41, .mv (.tmp 0), none⟩,
 ⟨some 42, .iad (.tmp 41) (.const (.int .i64 2)) 1, none⟩,
 ⟨some 43, .ld (.tmp 42), none⟩,
 ⟨some 44, .bin .and (.tmp 43) (.const (.int .u8 127)), none⟩,
 ⟨some 45, .conv .u32 (.tmp 44), none⟩,
 ⟨some 46, .bin .shl (.tmp 45) (.const (.int .u64 14)), none⟩,
 ⟨some 47, .bin .or (.tmp 40) (.tmp 46), none⟩,
 ⟨some 4, .mv (.tmp 47), none⟩])
 (.seq (.seq (.blk [⟨some 48, .mv (.tmp 0), none⟩,
 ⟨some 49, .iad (.tmp 48) (.const (.int .i64 2)) 1, none⟩,
 ⟨some 50, .ld (.tmp 49), none⟩,
 ⟨some 51, .bin .and (.tmp 50) (.const (.int .u8 128)), none⟩,
 ⟨some 52, .bin .eql (.tmp 51) (.const (.int .u8 0)), none⟩])
 (.cond (.tmp 52)
 (.seq (.blk [⟨some 53, .mv (.tmp 4), none⟩,
 ⟨some 2, .mv (.tmp 53), none⟩,
 ⟨some 3, .mv (.const (.int .i64 3)), none⟩])
 (.ret))
 (.seq (.blk [⟨some 54, .mv (.tmp 0), none⟩,
 ⟨some 55, .len (.tmp 54), none⟩,
 ⟨some 56, .bin .lss (.tmp 55) (.const (.int .i64 4)), none⟩])
 (.cond (.tmp 56)
 (.goto 0)
 (.skip)))))
 (.seq (.blk [⟨some 57, .mv (.tmp 4), none⟩,
 ⟨some 58, .mv (.tmp 0), none⟩,
 ⟨some 59, .iad (.tmp 58) (.const (.int .i64 3)) 1, none⟩,
 ⟨some 60, .ld (.tmp 59), none⟩,
 ⟨some 61, .bin .and (.tmp 60) (.const (.int .u8 127)), none⟩,
 ⟨some 62, .conv .u32 (.tmp 61), none⟩,
 ⟨some 63, .bin .shl (.tmp 62) (.const (.int .u64 21)), none⟩,
 ⟨some 64, .bin .or (.tmp 57) (.tmp 63), none⟩,
 ⟨some 4, .mv (.tmp 64), none⟩])
 (.seq (.seq (.blk [⟨some 65, .mv (.tmp 0), none⟩,
 ⟨some 66, .iad (.tmp 65) (.const (.int .i64 3)) 1, none⟩,
 ⟨some 67, .ld (.tmp 66), none⟩,
 ⟨some 68, .bin .and (.tmp 67) (.const (.int .u8 128)), none⟩,
 ⟨some 69, .bin .eql (.tmp 68) (.const (.int .u8 0)), none⟩])
 (.cond (.tmp 69)
 (.seq (.blk [⟨some 70, .mv (.tmp 4), none⟩,
 ⟨some 2, .mv (.tmp 70), none⟩,
 ⟨some 3, .mv (.const (.int .i64 4)), none⟩])
 (.ret))
 (.seq (.blk [⟨some 71, .mv (.tmp 0), none⟩,
 ⟨some 72, .len (.tmp 71), none⟩,
 ⟨some 73, .bin .lss (.tmp 72) (.const (.int .i64 5)), none⟩])
 (.cond (.tmp 73)
 (.goto 0)
 (.skip)))))
 (.seq (.blk [⟨some 74, .mv (.tmp 4), none⟩,
 ⟨some 75, .mv (.tmp 0), none⟩,
 ⟨some 76, .iad (.tmp 75) (.const (.int .i64 4)) 1, none⟩,
 ⟨some 77, .ld (.tmp 76), none⟩,
 ⟨some 78, .conv .u32 (.tmp 77), none⟩,
 ⟨some 79, .bin .shl (.tmp 78) (.const (.int .u64 28)), none⟩,
 ⟨some 80, .bin .or (.tmp 74) (.tmp 79), none⟩,
 ⟨some 4, .mv (.tmp 80), none⟩])
 (.seq (.seq (.blk [⟨some 81, .mv (.tmp 0), none⟩,
 ⟨some 82, .iad (.tmp 81) (.const (.int .i64 4)) 1, none⟩,
 ⟨some 83, .ld (.tmp 82), none⟩,
 ⟨some 84, .bin .leq (.tmp 83) (.const (.int .u8 15)), none⟩])
 (.cond (.tmp 84)
 (.seq (.blk [⟨some 85, .mv (.tmp 4), none⟩,
 ⟨some 2, .mv (.tmp 85), none⟩,
 ⟨some 3, .mv (.const (.int .i64 5)), none⟩])
 (.ret))
 (.skip)))
 (.seq (.blk [⟨some 5, .mv (.const (.int .i64 (-5))), none⟩])
 (.seq (.skip)
 (.seq (.blk [⟨some 86, .mv (.tmp 5), none⟩,
 ⟨some 2, .mv (.const (.int .u32 0)), none⟩,
 ⟨some 3, .mv (.tmp 86), none⟩])
 (.ret))))))))))))))))) 0
 (.seq (.skip)
 (.seq (.blk [⟨some 86, .mv (.tmp 5), none⟩,
 ⟨some 2, .mv (.const (.int .u32 0)), none⟩,
 ⟨some 3, .mv (.tmp 86), none⟩])
 (.ret)))),
 [.tmp 2, .tmp 3], 87)
def ir_rCompactString (F : Nat → Nat) : IC × List RV × Nat := (.seq (.blk [⟨some 2, .mv (.const (.string .empty)), none⟩])
 (.seq (.blk [⟨some 4, .mv (.tmp 0), none⟩,
 ⟨some 5, .call (F rUvarint) [.tmp 4], none⟩,
 ⟨some 6, .conv .i64 (.tmp 5), none⟩,
 ⟨some 7, .bin .sub (.tmp 6) (.const (.int .i64 1)), none⟩,
 ⟨some 3, .mv (.tmp 7), none⟩])
 (.seq (.blk [⟨some 8, .mv (.tmp 0), none⟩,
 ⟨some 9, .mv (.tmp 3), none⟩,
 ⟨some 10, .call (F rSpan) [.tmp 8, .tmp 9], none⟩,
 ⟨some 11, .b2s (.tmp 10), none⟩,
 ⟨some 2, .mv (.tmp 11), none⟩])
 (.ret))),
 [.tmp 2], 12)
def ir_rUnsafeCompactString (F : Nat → Nat) : IC × List RV × Nat := (.seq (.blk [⟨some 2, .mv (.const (.string .empty)), none⟩])
 (.seq (.blk [⟨some 4, .mv (.tmp 0), none⟩,
 ⟨some 5, .call (F rUvarint) [.tmp 4], none⟩,
 ⟨some 6, .conv .i64 (.tmp 5), none⟩,
 ⟨some 7, .bin .sub (.tmp 6) (.const (.int .i64 1)), none⟩,
 ⟨some 3, .mv (.tmp 7), none⟩])
 (.seq (.blk [⟨some 8, .mv (.tmp 0), none⟩,
 ⟨some 9, .mv (.tmp 3), none⟩,
 ⟨some 10, .call (F rSpan) [.tmp 8, .tmp 9], none⟩,
 ⟨some 11, .call (F kUnsafeString) [.tmp 10], none⟩,
 ⟨some 2, .mv (.tmp 11), none⟩])
 (.ret))),
 [.tmp 2], 12)
def ir_rCompactNullableString (F : Nat → Nat) : IC × List RV × Nat := (.seq (.blk [⟨some 2, .mv (.const (.pointer none)), none⟩])
 (.seq (.blk [⟨some 5, .mv (.tmp 0), none⟩,
 ⟨some 6, .call (F rUvarint) [.tmp 5], none⟩,
 ⟨some 7, .conv .i64 (.tmp 6), none⟩,
 ⟨some 8, .bin .sub (.tmp 7) (.const (.int .i64 1)), none⟩,
 ⟨some 3, .mv (.tmp 8), none⟩])
 (.seq (.seq (.blk [⟨some 9, .mv (.tmp 3), none⟩,
 ⟨some 10, .bin .lss (.tmp 9) (.const (.int .i64 0)), none⟩])
 (.cond (.tmp 10)
 (.seq (.blk [⟨some 2, .mv (.const (.pointer none)), none⟩])
 (.ret))
 (.skip)))
 (.seq (.blk [⟨some 11, .mv (.tmp 0), none⟩,
 ⟨some 12, .mv (.tmp 3), none⟩,
 ⟨some 13, .call (F rSpan) [.tmp 11, .tmp 12], none⟩,
 ⟨some 14, .b2s (.tmp 13), none⟩,
 ⟨some 4, .alloc [.string .empty], none⟩,
 ⟨none, .st (.tmp 4) 1 (.tmp 14), none⟩])
 (.seq (.blk [⟨some 2, .mv (.tmp 4), none⟩])
 (.ret))))),
 [.tmp 2], 15)
def ir_rUnsafeCompactNullableString (F : Nat → Nat) : IC × List RV × Nat := (.seq (.blk [⟨some 2, .mv (.const (.pointer none)), none⟩])
 (.seq (.blk [⟨some 5, .mv (.tmp 0), none⟩,
 ⟨some 6, .call (F rUvarint) [.tmp 5], none⟩,
 ⟨some 7, .conv .i64 (.tmp 6), none⟩,
 ⟨some 8, .bin .sub (.tmp 7) (.const (.int .i64 1)), none⟩,
 ⟨some 3, .mv (.tmp 8), none⟩])
 (.seq (.seq (.blk [⟨some 9, .mv (.tmp 3), none⟩,
 ⟨some 10, .bin .lss (.tmp 9) (.const (.int .i64 0)), none⟩])
 (.cond (.tmp 10)
 (.seq (.blk [⟨some 2, .mv (.const (.pointer none)), none⟩])
 (.ret))
 (.skip)))
 (.seq (.blk [⟨some 11, .mv (.tmp 0), none⟩,
 ⟨some 12, .mv (.tmp 3), none⟩,
 ⟨some 13, .call (F rSpan) [.tmp 11, .tmp 12], none⟩,
 ⟨some 14, .call (F kUnsafeString) [.tmp 13], none⟩,
 ⟨some 4, .alloc [.string .empty], none⟩,
 ⟨none, .st (.tmp 4) 1 (.tmp 14), none⟩])
 (.seq (.blk [⟨some 2, .mv (.tmp 4), none⟩])
 (.ret))))),
 [.tmp 2], 15)
def ir_rBytes (F : Nat → Nat) : IC × List RV × Nat := (.seq (.blk [⟨some 2, .mv (.const (.slice none 0 0)), none⟩])
 (.seq (.blk [⟨some 4, .mv (.tmp 0), none⟩,
 ⟨some 5, .call (F rInt32) [.tmp 4], none⟩,
 ⟨some 3, .mv (.tmp 5), none⟩])
 (.seq (.seq (.blk [⟨some 6, .mv (.tmp 3), none⟩,
 ⟨some 7, .bin .eql (.tmp 6) (.const (.int .i32 (-1))), none⟩])
 (.cond (.tmp 7)
 (.seq (.blk [⟨some 8, .bslice 0 [.int .u8 0] [], none⟩,
 ⟨some 2, .mv (.tmp 8), none⟩])
 (.ret))
 (.skip)))
 (.seq (.blk [⟨some 9, .mv (.tmp 0), none⟩,
 ⟨some 10, .mv (.tmp 3), none⟩,
 ⟨some 11, .conv .i64 (.tmp 10), none⟩,
 ⟨some 12, .call (F rSpan) [.tmp 9, .tmp 11], none⟩,
 ⟨some 2, .mv (.tmp 12), none⟩])
 (.ret)))),
 [.tmp 2], 13)
def ir_rCompactBytes (F : Nat → Nat) : IC × List RV × Nat := (.seq (.blk [⟨some 2, .mv (.const (.slice none 0 0)), none⟩])
 (.seq (.blk [⟨some 4, .mv (.tmp 0), none⟩,
 ⟨some 5, .call (F rUvarint) [.tmp 4], none⟩,
 ⟨some 6, .conv .i64 (.tmp 5), none⟩,
 ⟨some 7, .bin .sub (.tmp 6) (.const (.int .i64 1)), none⟩,
 ⟨some 3, .mv (.tmp 7), none⟩])
 (.seq (.seq (.blk [⟨some 8, .mv (.tmp 3), none⟩,
 ⟨some 9, .bin .eql (.tmp 8) (.const (.int .i64 (-1))), none⟩])
 (.cond (.tmp 9)
 (.seq (.blk [⟨some 10, .bslice 0 [.int .u8 0] [], none⟩,
 ⟨some 2, .mv (.tmp 10), none⟩])
 (.ret))
 (.skip)))
 (.seq (.blk [⟨some 11, .mv (.tmp 0), none⟩,
 ⟨some 12, .mv (.tmp 3), none⟩,
 ⟨some 13, .call (F rSpan) [.tmp 11, .tmp 12], none⟩,
 ⟨some 2, .mv (.tmp 13), none⟩])
 (.ret)))),
 [.tmp 2], 14)
def ir_rCompactNullableBytes (F : Nat → Nat) : IC × List RV × Nat := (.seq (.blk [⟨some 2, .mv (.const (.slice none 0 0)), none⟩])
 (.seq (.blk [⟨some 5, .mv (.tmp 0), none⟩,
 ⟨some 6, .call (F rUvarint) [.tmp 5], none⟩,
 ⟨some 7, .conv .i64 (.tmp 6), none⟩,
 ⟨some 8, .bin .sub (.tmp 7) (.const (.int .i64 1)), none⟩,
 ⟨some 3, .mv (.tmp 8), none⟩])
 (.seq (.seq (.blk [⟨some 9, .mv (.tmp 3), none⟩,
 ⟨some 10, .bin .lss (.tmp 9) (.const (.int .i64 0)), none⟩])
 (.cond (.tmp 10)
 (.seq (.blk [⟨some 2, .mv (.const (.slice none 0 0)), none⟩])
 (.ret))
 (.skip)))
 (.seq (.blk [⟨some 11, .mv (.tmp 0), none⟩,
 ⟨some 12, .mv (.tmp 3), none⟩,
 ⟨some 13, .call (F rSpan) [.tmp 11, .tmp 12], none⟩,
 ⟨some 4, .mv (.tmp 13), none⟩])
 (.seq (.blk [⟨some 14, .mv (.tmp 4), none⟩,
 ⟨some 2, .mv (.tmp 14), none⟩])
 (.ret))))),
 [.tmp 2], 15)
def ir_rCompactArrayLen (F : Nat → Nat) : IC × List RV × Nat := (.seq (.blk [⟨some 2, .mv (.const (.int .i32 0)), none⟩])
 (.seq (.blk [⟨some 4, .mv (.tmp 0), none⟩,
 ⟨some 5, .call (F rUvarint) [.tmp 4], none⟩,
 ⟨some 6, .conv .i32 (.tmp 5), none⟩,
 ⟨some 7, .bin .sub (.tmp 6) (.const (.int .i32 1)), none⟩,
 ⟨some 3, .mv (.tmp 7), none⟩])
 (.seq (.seq (.blk [⟨some 8, .mv (.tmp 0), none⟩,
 ⟨some 9, .nilc (.tmp 8), none⟩,
 ⟨some 10, .fad (.tmp 9) 0, none⟩,
 ⟨some 11, .ld (.tmp 10), none⟩,
 ⟨some 12, .len (.tmp 11), none⟩,
 ⟨some 13, .mv (.tmp 3), none⟩,
 ⟨some 14, .conv .i64 (.tmp 13), none⟩,
 ⟨some 15, .bin .lss (.tmp 12) (.tmp 14), none⟩])
 (.cond (.tmp 15)
 (.seq (.blk [⟨some 16, .mv (.tmp 0), none⟩,
 ⟨some 17, .nilc (.tmp 16), none⟩,
 ⟨some 18, .fad (.tmp 17) 1, none⟩,
 ⟨none, .st (.tmp 18) 1 (.const (.bool true)), none⟩])
 (.seq (.blk [⟨some 19, .mv (.tmp 0), none⟩,
 ⟨some 20, .nilc (.tmp 19), none⟩,
 ⟨some 21, .fad (.tmp 20) 0, none⟩,
 ⟨none, .st (.tmp 21) 1 (.const (.slice none 0 0)), none⟩])
 (.seq (.blk [⟨some 2, .mv (.const (.int .i32 0)), none⟩])
 (.ret))))
 (.skip)))
 (.seq (.blk [⟨some 22, .mv (.tmp 3), none⟩,
 ⟨some 2, .mv (.tmp 22), none⟩])
 (.ret)))),
 [.tmp 2], 23)
end Go.Msk

namespace Go.Msk
open Go.RowKit
set_option maxRecDepth 100000
def uvR : Nat → List UInt8 → Option (Nat × Nat)
  | 0, _ => none
  | _ + 1, [] => none
  | n + 1, b :: r =>
    if b.toNat < 128 then (if n = 0 ∧ 15 < b.toNat then none else some (b.toNat, 1))
    else match uvR n r with
      | some (v, k) => some (b.toNat % 128 + 128 * v, k + 1)
      | none => none
theorem u32_nat {n : Nat} (h : n < 4294967296) : IntKind.u32.wrap (n : Int) = n := by
  simp [IntKind.wrap, IntKind.bits, IntKind.signed]; omega
theorem or_u32 {x y s : Nat} (hx : x < 2 ^ s) (hs : s ≤ 32) (hy : y * 2 ^ s < 4294967296) : intBin .or .u32 (x : Int) ((y * 2 ^ s : Nat) : Int) = some (.int .u32 ((x + y * 2 ^ s : Nat) : Int)) := by
  have h2 : (2 : Nat) ^ s ≤ 2 ^ 32 := Nat.pow_le_pow_right (by omega) hs
  have e := bin_or (k := .u32) rfl (x := x) (y := y * 2 ^ s) (by simp only [IntKind.bits]; omega) (by simpa [IntKind.bits] using hy)
  rw [e, Nat.or_comm, Nat.or_comm, or_add y x s hx, Nat.add_comm]
section
variable {P : Program}
end
end Go.Msk

namespace Go.Msk
open Go.RowKit
set_option maxRecDepth 100000
def rdUv (s : RS) : Nat × RS :=
  match uvR 5 s.src with
  | some (v, k) => (v, { s with src := s.src.drop k })
  | none => (0, RS.fail)
section
variable {P : Program} {F : Nat → Nat}
attribute [local simp] bnd wpC wpR RI.wp gOk RK.run thenC inBlockC updo upd ev args0 postC rvals RV.val tup_one isShift
end
end Go.Msk

namespace Go.Msk
open Go.RowKit
set_option maxRecDepth 100000
def rdUuid (s : RS) : List UInt8 × RS := ((rdSpan 16 s).1.getD (List.replicate 16 0), (rdSpan 16 s).2)
def rdCl (s : RS) : Int × RS := (((rdUv s).1 : Int) - 1, (rdUv s).2)
def rdCString (s : RS) : List UInt8 × RS := ((rdSpan (rdCl s).1 (rdCl s).2).1.getD [], (rdSpan (rdCl s).1 (rdCl s).2).2)
def rdCNullableString (s : RS) : Option (List UInt8) × RS :=
  if (rdCl s).1 < 0 then (none, (rdCl s).2) else (some ((rdSpan (rdCl s).1 (rdCl s).2).1.getD []), (rdSpan (rdCl s).1 (rdCl s).2).2)
def rdBytes (s : RS) : Option (List UInt8) × RS :=
  let n := IntKind.i32.wrap (rdN 4 s).1
  if n = -1 then (some [], (rdN 4 s).2) else rdSpan n (rdN 4 s).2
def rdCBytes (s : RS) : Option (List UInt8) × RS := if (rdCl s).1 = -1 then (some [], (rdCl s).2) else rdSpan (rdCl s).1 (rdCl s).2
def rdCNullableBytes (s : RS) : Option (List UInt8) × RS := if (rdCl s).1 < 0 then (none, (rdCl s).2) else rdSpan (rdCl s).1 (rdCl s).2
def rdCArrayLen (s : RS) : Int × RS :=
  let n := IntKind.i32.wrap (IntKind.i32.wrap (rdUv s).1 - 1)
  if ((rdUv s).2.src.length : Int) < n then (0, RS.fail) else (n, (rdUv s).2)
section
variable {P : Program} {F : Nat → Nat}
theorem i64_small {n : Int} (h1 : -9223372036854775808 ≤ n) (h2 : n < 9223372036854775808) : IntKind.i64.wrap n = n := by
  simp [IntKind.wrap, IntKind.bits, IntKind.signed]; omega
attribute [local simp] bnd wpC wpR RI.wp gOk RK.run thenC inBlockC updo upd ev args0 postC rvals RV.val tup_one isShift
end
end Go.Msk

namespace Go.Msk
def ir_tSet (_F : Nat → Nat) : IC × List RV × Nat := (.seq (.seq (.blk [⟨some 6, .mv (.tmp 0), none⟩,
 ⟨some 7, .nilc (.tmp 6), none⟩,
 ⟨some 8, .fad (.tmp 7) 0, none⟩,
 ⟨some 9, .ld (.tmp 8), none⟩,
 ⟨some 10, .isnil .mp false (.tmp 9), none⟩])
 (.cond (.tmp 10)
 (.blk [⟨some 11, .mv (.tmp 0), none⟩,
 ⟨some 12, .mkmap, none⟩,
 ⟨some 13, .nilc (.tmp 11), none⟩,
 ⟨some 14, .fad (.tmp 13) 0, none⟩,
 ⟨none, .st (.tmp 14) 1 (.tmp 12), none⟩])
 (.skip)))
 (.blk [⟨some 15, .mv (.tmp 0), none⟩,
 ⟨some 16, .nilc (.tmp 15), none⟩,
 ⟨some 17, .fad (.tmp 16) 0, none⟩,
 ⟨some 18, .ld (.tmp 17), none⟩,
 ⟨some 19, .mv (.tmp 1), none⟩,
 ⟨some 20, .mv (.tmp 2), none⟩,
 ⟨none, .mapup (.tmp 18) (.tmp 19) (.tmp 20), none⟩]),
 [], 21)
def ir_tLen (_F : Nat → Nat) : IC × List RV × Nat := (.seq (.blk [⟨some 2, .mv (.const (.int .i64 0)), none⟩])
 (.seq (.blk [⟨some 3, .mv (.tmp 0), none⟩,
 ⟨some 4, .nilc (.tmp 3), none⟩,
 ⟨some 5, .fad (.tmp 4) 0, none⟩,
 ⟨some 6, .ld (.tmp 5), none⟩,
 ⟨some 7, .mlen (.tmp 6), none⟩,
 ⟨some 2, .mv (.tmp 7), none⟩])
 (.ret)),
 [.tmp 2], 8)
def ir_tEach (F : Nat → Nat) : IC × List RV × Nat := (.seq (.seq (.blk [⟨some 8, .mv (.tmp 0), none⟩,
 ⟨some 9, .nilc (.tmp 8), none⟩,
 ⟨some 10, .fad (.tmp 9) 0, none⟩,
 ⟨some 11, .ld (.tmp 10), none⟩,
 ⟨some 12, .mlen (.tmp 11), none⟩,
 ⟨some 13, .bin .eql (.tmp 12) (.const (.int .i64 0)), none⟩])
 (.cond (.tmp 13)
 (.ret)
 (.skip)))
 (.seq (.blk [⟨some 14, .mv (.tmp 0), none⟩,
 ⟨some 15, .nilc (.tmp 14), none⟩,
 ⟨some 16, .fad (.tmp 15) 0, none⟩,
 ⟨some 17, .ld (.tmp 16), none⟩,
 ⟨some 18, .mlen (.tmp 17), none⟩,
 ⟨some 19, .mkslice (.const (.int .i64 0)) (.tmp 18) 4 [.int .u32 0], none⟩,
 ⟨some 4, .alloc [.slice none 0 0], none⟩,
 ⟨none, .st (.tmp 4) 1 (.tmp 19), none⟩])
 (.seq (.seq (.blk [⟨some 20, .mv (.tmp 0), none⟩,
 ⟨some 21, .nilc (.tmp 20), none⟩,
 ⟨some 22, .fad (.tmp 21) 0, none⟩,
 ⟨some 23, .ld (.tmp 22), none⟩,
 ⟨some 24, .mrng (.tmp 23), none⟩])
 (.block 0 (.loop (.seq (.blk [⟨some 25, .mnext (.tmp 24), none⟩,
 ⟨some 26, .ext (.tmp 25) 0, none⟩])
 (.seq (.cond (.tmp 26)
 (.skip)
 (.exit 0))
 (.block 1 (.seq (.blk [⟨some 27, .mentry (.tmp 24), none⟩,
 ⟨some 28, .ext (.tmp 27) 0, none⟩,
 ⟨some 5, .mv (.tmp 28), none⟩])
 (.blk [⟨some 29, .ld (.tmp 4), none⟩,
 ⟨some 30, .mv (.tmp 5), none⟩,
 ⟨some 31, .bslice 1 [.int .u32 0] [(0, 1, .tmp 30)], none⟩,
 ⟨some 32, .append (.tmp 29) (.tmp 31) 1 4, none⟩,
 ⟨none, .st (.tmp 4) 1 (.tmp 32), none⟩]))))))))
 (.seq (.blk [⟨some 33, .ld (.tmp 4), none⟩,
 ⟨some 34, .mkif (F tyU32s) (.tmp 33), none⟩,
 ⟨some 35, .mkfunc (.func (F tEach1)) [] [.tmp 4], none⟩,
 ⟨some 36, .call (F sortSlice) [.tmp 34, .tmp 35], none⟩])
 (.seq (.blk [⟨some 37, .ld (.tmp 4), none⟩,
 ⟨some 38, .len (.tmp 37), none⟩,
 ⟨some 39, .mv (.const (.int .i64 0)), none⟩])
 (.block 2 (.loop (.seq (.blk [⟨some 40, .bin .lss (.tmp 39) (.tmp 38), none⟩])
 (.seq (.cond (.tmp 40)
 (.skip)
 (.exit 2))
 (.seq (.block 3 (.seq (.blk [⟨some 41, .iad (.tmp 37) (.tmp 39) 1, none⟩,
 ⟨some 42, .ld (.tmp 41), none⟩,
 ⟨some 7, .mv (.tmp 42), none⟩])
 (.blk [⟨some 43, .mv (.tmp 1), none⟩,
 ⟨some 44, .mv (.tmp 7), none⟩,
 ⟨some 45, .mv (.tmp 0), none⟩,
 ⟨some 46, .nilc (.tmp 45), none⟩,
 ⟨some 47, .fad (.tmp 46) 0, none⟩,
 ⟨some 48, .ld (.tmp 47), none⟩,
 ⟨some 49, .mv (.tmp 7), none⟩,
 ⟨some 50, .mlook (.tmp 48) (.tmp 49) (.slice none 0 0), none⟩,
 ⟨some 51, .callv (.tmp 43) [.tmp 44, .tmp 50], none⟩])))
 (.blk [⟨some 52, .bin .add (.tmp 39) (.const (.int .i64 1)), none⟩,
 ⟨some 39, .mv (.tmp 52), none⟩])))))))))),
 [], 53)
def ir_tEach1 (_F : Nat → Nat) : IC × List RV × Nat := (.seq (.blk [⟨some 5, .mv (.const (.bool false)), none⟩])
 (.seq (.drw [⟨⟨some 6, .ld (.tmp 2), none⟩, false, []⟩,
 ⟨⟨some 7, .mv (.tmp 0), none⟩, false, []⟩,
 ⟨⟨some 8, .iad (.tmp 6) (.tmp 7) 1, none⟩, false, []⟩,
 ⟨⟨some 9, .ld (.tmp 8), none⟩, false, []⟩,
 ⟨⟨some 10, .ld (.tmp 2), none⟩, false, []⟩,
 ⟨⟨some 11, .mv (.tmp 1), none⟩, false, []⟩,
 ⟨⟨some 12, .iad (.tmp 10) (.tmp 11) 1, none⟩, false, []⟩,
 ⟨⟨some 13, .ld (.tmp 12), none⟩, false, []⟩,
 ⟨⟨some 14, .bin .lss (.tmp 9) (.tmp 13), none⟩, false, []⟩,
 ⟨⟨some 5, .mv (.tmp 14), none⟩, false, []⟩]
 [])
 (.ret)),
 [.tmp 5], 15)
def ir_tRead (F : Nat → Nat) : IC × List RV × Nat := (.seq (.blk [⟨some 2, .alloc [.map none], none⟩])
 (.seq (.blk [⟨some 3, .alloc [.map none], none⟩])
 (.seq (.seq (.blk [⟨some 7, .mv (.tmp 0), none⟩,
 ⟨some 8, .call (F rUvarint) [.tmp 7], none⟩,
 ⟨some 4, .mv (.tmp 8), none⟩])
 (.block 0 (.loop (.seq (.seq (.blk [⟨some 9, .mv (.tmp 4), none⟩,
 ⟨some 10, .bin .gtr (.tmp 9) (.const (.int .u32 0)), none⟩])
 (.cond (.tmp 10)
 (.skip)
 (.exit 0)))
 (.seq (.block 1 (.seq (.blk [⟨some 13, .mv (.tmp 0), none⟩,
 ⟨some 14, .call (F rUvarint) [.tmp 13], none⟩,
 ⟨some 15, .mv (.tmp 0), none⟩,
 ⟨some 16, .call (F rUvarint) [.tmp 15], none⟩,
 ⟨some 5, .mv (.tmp 14), none⟩,
 ⟨some 6, .mv (.tmp 16), none⟩])
 (.blk [⟨some 17, .mv (.tmp 5), none⟩,
 ⟨some 18, .mv (.tmp 0), none⟩,
 ⟨some 19, .mv (.tmp 6), none⟩,
 ⟨some 20, .conv .i64 (.tmp 19), none⟩,
 ⟨some 21, .call (F rSpan) [.tmp 18, .tmp 20], none⟩,
 ⟨some 22, .call (F tSet) [.tmp 3, .tmp 17, .tmp 21], none⟩])))
 (.blk [⟨some 11, .mv (.tmp 4), none⟩,
 ⟨some 12, .bin .sub (.tmp 11) (.const (.int .u32 1)), none⟩,
 ⟨some 4, .mv (.tmp 12), none⟩]))))))
 (.seq (.blk [⟨some 23, .ldn (.tmp 3) 1, none⟩,
 ⟨none, .st (.tmp 2) 1 (.tmp 23), none⟩])
 (.ret)))),
 [.cells 2 1], 24)
end Go.Msk
