/- A small language of resolved operations, and what the generic and the generated functions do in it (part 4). -/
import Derived.Test.YtebigehbjfnfjaaFc
import Derived.Laws.BitsAllLaws
import Derived.Laws.BitsLemmas
import Derived.Laws.Bits64
import Derived.ProofKit
import Derived.LaidMore
import Derived.OpenShut
import Derived.Stop.Joined

namespace Go.Msk
abbrev gBig : Nat := 0
abbrev gErr : Nat := 1
abbrev rBool : Nat := 2
abbrev rInt8 : Nat := 3
abbrev rInt16 : Nat := 4
abbrev rUint16 : Nat := 5
abbrev rInt32 : Nat := 6
abbrev rInt64 : Nat := 7
abbrev rUuid : Nat := 8
abbrev rReadUint64 : Nat := 10
abbrev rUvarint : Nat := 12
abbrev rSpan : Nat := 13
abbrev rUnsafeString : Nat := 14
abbrev rString : Nat := 15
abbrev rUnsafeCompactString : Nat := 16
abbrev rCompactString : Nat := 17
abbrev rUnsafeNullableString : Nat := 18
abbrev rNullableString : Nat := 19
abbrev rUnsafeCompactNullableString : Nat := 20
abbrev rCompactNullableString : Nat := 21
abbrev rBytes : Nat := 22
abbrev rCompactBytes : Nat := 23
abbrev rNullableBytes : Nat := 24
abbrev rCompactNullableBytes : Nat := 25
abbrev rArrayLen : Nat := 26
abbrev rCompactArrayLen : Nat := 27
abbrev rComplete : Nat := 28
abbrev rOk : Nat := 29
abbrev kUnsafeString : Nat := 30
abbrev kUvarint : Nat := 31
abbrev kAppendBool : Nat := 32
abbrev kAppendInt8 : Nat := 33
abbrev kAppendInt16 : Nat := 34
abbrev kAppendUint16 : Nat := 35
abbrev kAppendInt32 : Nat := 36
abbrev kAppendUint32 : Nat := 37
abbrev kAppendInt64 : Nat := 38
abbrev kAppendUint64 : Nat := 39
abbrev kAppendUuid : Nat := 41
abbrev kAppendUvarint : Nat := 42
abbrev kUvarintLen : Nat := 43
abbrev kAppendString : Nat := 44
abbrev kAppendCompactString : Nat := 45
abbrev kAppendNullableString : Nat := 46
abbrev kAppendCompactNullableString : Nat := 47
abbrev kAppendBytes : Nat := 48
abbrev kAppendCompactBytes : Nat := 49
abbrev kAppendArrayLen : Nat := 52
abbrev kAppendCompactArrayLen : Nat := 53
abbrev kAppendNullableArrayLen : Nat := 54
abbrev kAppendCompactNullableArrayLen : Nat := 55
abbrev beUint16 : Nat := 56
abbrev beUint32 : Nat := 57
abbrev beUint64 : Nat := 58
abbrev tSet : Nat := 59
abbrev tLen : Nat := 60
abbrev tEach : Nat := 61
abbrev tEach1 : Nat := 62
abbrev tAppendEach : Nat := 63
abbrev tAppendEach1 : Nat := 64
abbrev tRead : Nat := 65
abbrev iAt : Nat := 66
abbrev iSixteen : Nat := 67
abbrev lVersion : Nat := 74
abbrev lGiven : Nat := 75
abbrev lGot : Nat := 76
abbrev sWhole : Nat := 81
abbrev sThings : Nat := 82
abbrev sAt : Nat := 83
abbrev sUvarint : Nat := 84
abbrev sFixed : Nat := 85
abbrev sWidth : Nat := 86
abbrev sCounted : Nat := 87
abbrev sValue : Nat := 88
abbrev sField : Nat := 89
abbrev susual_ : Nat := 90
abbrev sKnown : Nat := 91
abbrev sUnknown : Nat := 92
abbrev sPart : Nat := 93
abbrev sWrite : Nat := 94
abbrev sSame : Nat := 95
abbrev sFit : Nat := 96
abbrev sFitted : Nat := 97
abbrev sHas : Nat := 106
abbrev sNull : Nat := 107
abbrev bLen32 : Nat := 109
abbrev sortSlice : Nat := 113
abbrev tyU32s : Nat := 120
def ir_rInt16 (F : Nat → Nat) : IC × List RV × Nat := (.seq (.blk [⟨some 2, .mv (.const (.int .i16 0)), none⟩])
 (.seq (.seq (.blk [⟨some 4, .mv (.tmp 0), none⟩,
 ⟨some 5, .nilc (.tmp 4), none⟩,
 ⟨some 6, .fad (.tmp 5) 0, none⟩,
 ⟨some 7, .ld (.tmp 6), none⟩,
 ⟨some 8, .len (.tmp 7), none⟩,
 ⟨some 9, .bin .lss (.tmp 8) (.const (.int .i64 2)), none⟩])
 (.cond (.tmp 9)
 (.seq (.blk [⟨some 10, .mv (.tmp 0), none⟩,
 ⟨some 11, .nilc (.tmp 10), none⟩,
 ⟨some 12, .fad (.tmp 11) 1, none⟩,
 ⟨none, .st (.tmp 12) 1 (.const (.bool true)), none⟩])
 (.seq (.blk [⟨some 13, .mv (.tmp 0), none⟩,
 ⟨some 14, .nilc (.tmp 13), none⟩,
 ⟨some 15, .fad (.tmp 14) 0, none⟩,
 ⟨none, .st (.tmp 15) 1 (.const (.slice none 0 0)), none⟩])
 (.seq (.blk [⟨some 2, .mv (.const (.int .i16 0)), none⟩])
 (.ret))))
 (.skip)))
 (.seq (.drw [⟨⟨some 16, .ldn (.global (F gBig)) 0, none⟩, false, []⟩,
 ⟨⟨some 17, .mv (.tmp 0), none⟩, false, []⟩,
 ⟨⟨some 18, .nilc (.tmp 17), none⟩, false, []⟩,
 ⟨⟨some 19, .fad (.tmp 18) 0, none⟩, false, []⟩,
 ⟨⟨some 20, .ld (.tmp 19), none⟩, false, []⟩,
 ⟨⟨some 21, .call (F beUint16) [.tmp 16, .tmp 20], none⟩, true, []⟩,
 ⟨⟨some 22, .conv .i16 (.tmp 21), none⟩, false, [5]⟩,
 ⟨⟨some 3, .mv (.tmp 22), none⟩, false, [5]⟩]
 [])
 (.seq (.blk [⟨some 23, .mv (.tmp 0), none⟩,
 ⟨some 24, .mv (.tmp 0), none⟩,
 ⟨some 25, .nilc (.tmp 24), none⟩,
 ⟨some 26, .fad (.tmp 25) 0, none⟩,
 ⟨some 27, .ld (.tmp 26), none⟩,
 ⟨some 28, .slice (.tmp 27) (some (.const (.int .i64 2))) none none 1, none⟩,
 ⟨some 29, .nilc (.tmp 23), none⟩,
 ⟨some 30, .fad (.tmp 29) 0, none⟩,
 ⟨none, .st (.tmp 30) 1 (.tmp 28), none⟩])
 (.seq (.blk [⟨some 31, .mv (.tmp 3), none⟩,
 ⟨some 2, .mv (.tmp 31), none⟩])
 (.ret))))),
 [.tmp 2], 32)
def ir_rSpan (_F : Nat → Nat) : IC × List RV × Nat := (.seq (.blk [⟨some 4, .mv (.const (.slice none 0 0)), none⟩])
 (.seq (.seq (.blk [⟨some 6, .mv (.tmp 0), none⟩,
 ⟨some 7, .nilc (.tmp 6), none⟩,
 ⟨some 8, .fad (.tmp 7) 0, none⟩,
 ⟨some 9, .ld (.tmp 8), none⟩,
 ⟨some 10, .len (.tmp 9), none⟩,
 ⟨some 11, .mv (.tmp 1), none⟩,
 ⟨some 12, .bin .lss (.tmp 10) (.tmp 11), none⟩,
 ⟨some 13, .mv (.tmp 12), none⟩,
 ⟨some 14, .mv (.tmp 1), some (13, false)⟩,
 ⟨some 15, .bin .lss (.tmp 14) (.const (.int .i64 0)), some (13, false)⟩,
 ⟨some 16, .pick (.tmp 13) (.const (.bool true)) (.tmp 15), none⟩])
 (.cond (.tmp 16)
 (.seq (.blk [⟨some 17, .mv (.tmp 0), none⟩,
 ⟨some 18, .nilc (.tmp 17), none⟩,
 ⟨some 19, .fad (.tmp 18) 1, none⟩,
 ⟨none, .st (.tmp 19) 1 (.const (.bool true)), none⟩])
 (.seq (.blk [⟨some 20, .mv (.tmp 0), none⟩,
 ⟨some 21, .nilc (.tmp 20), none⟩,
 ⟨some 22, .fad (.tmp 21) 0, none⟩,
 ⟨none, .st (.tmp 22) 1 (.const (.slice none 0 0)), none⟩])
 (.seq (.blk [⟨some 4, .mv (.const (.slice none 0 0)), none⟩])
 (.ret))))
 (.skip)))
 (.seq (.blk [⟨some 23, .mv (.tmp 0), none⟩,
 ⟨some 24, .nilc (.tmp 23), none⟩,
 ⟨some 25, .fad (.tmp 24) 0, none⟩,
 ⟨some 26, .ld (.tmp 25), none⟩,
 ⟨some 27, .mv (.tmp 1), none⟩,
 ⟨some 28, .mv (.tmp 1), none⟩,
 ⟨some 29, .slice (.tmp 26) none (some (.tmp 27)) (some (.tmp 28)) 1, none⟩,
 ⟨some 5, .mv (.tmp 29), none⟩])
 (.seq (.blk [⟨some 30, .mv (.tmp 0), none⟩,
 ⟨some 31, .mv (.tmp 0), none⟩,
 ⟨some 32, .nilc (.tmp 31), none⟩,
 ⟨some 33, .fad (.tmp 32) 0, none⟩,
 ⟨some 34, .ld (.tmp 33), none⟩,
 ⟨some 35, .mv (.tmp 1), none⟩,
 ⟨some 36, .slice (.tmp 34) (some (.tmp 35)) none none 1, none⟩,
 ⟨some 37, .nilc (.tmp 30), none⟩,
 ⟨some 38, .fad (.tmp 37) 0, none⟩,
 ⟨none, .st (.tmp 38) 1 (.tmp 36), none⟩])
 (.seq (.blk [⟨some 39, .mv (.tmp 5), none⟩,
 ⟨some 4, .mv (.tmp 39), none⟩])
 (.ret))))),
 [.tmp 4], 40)
def ir_beUint16 (_F : Nat → Nat) : IC × List RV × Nat := (.seq (.blk [⟨some 2, .box (.tmp 0), none⟩,
 ⟨some 4, .mv (.const (.int .u16 0)), none⟩])
 (.seq (.blk [⟨some 5, .mv (.tmp 1), none⟩,
 ⟨some 6, .iad (.tmp 5) (.const (.int .i64 1)) 1, none⟩,
 ⟨some 7, .ld (.tmp 6), none⟩])
 (.seq (.drw [⟨⟨some 8, .mv (.tmp 1), none⟩, false, []⟩,
 ⟨⟨some 9, .iad (.tmp 8) (.const (.int .i64 1)) 1, none⟩, false, []⟩,
 ⟨⟨some 10, .ld (.tmp 9), none⟩, false, []⟩,
 ⟨⟨some 11, .conv .u16 (.tmp 10), none⟩, false, []⟩,
 ⟨⟨some 12, .mv (.tmp 1), none⟩, false, []⟩,
 ⟨⟨some 13, .iad (.tmp 12) (.const (.int .i64 0)) 1, none⟩, false, []⟩,
 ⟨⟨some 14, .ld (.tmp 13), none⟩, false, []⟩,
 ⟨⟨some 15, .conv .u16 (.tmp 14), none⟩, false, []⟩,
 ⟨⟨some 16, .bin .shl (.tmp 15) (.const (.int .u64 8)), none⟩, false, []⟩,
 ⟨⟨some 17, .bin .or (.tmp 11) (.tmp 16), none⟩, false, []⟩,
 ⟨⟨some 4, .mv (.tmp 17), none⟩, false, []⟩]
 [])
 (.ret))),
 [.tmp 4], 18)
def ir_rInt32 (F : Nat → Nat) : IC × List RV × Nat := (.seq (.blk [⟨some 2, .mv (.const (.int .i32 0)), none⟩])
 (.seq (.seq (.blk [⟨some 4, .mv (.tmp 0), none⟩,
 ⟨some 5, .nilc (.tmp 4), none⟩,
 ⟨some 6, .fad (.tmp 5) 0, none⟩,
 ⟨some 7, .ld (.tmp 6), none⟩,
 ⟨some 8, .len (.tmp 7), none⟩,
 ⟨some 9, .bin .lss (.tmp 8) (.const (.int .i64 4)), none⟩])
 (.cond (.tmp 9)
 (.seq (.blk [⟨some 10, .mv (.tmp 0), none⟩,
 ⟨some 11, .nilc (.tmp 10), none⟩,
 ⟨some 12, .fad (.tmp 11) 1, none⟩,
 ⟨none, .st (.tmp 12) 1 (.const (.bool true)), none⟩])
 (.seq (.blk [⟨some 13, .mv (.tmp 0), none⟩,
 ⟨some 14, .nilc (.tmp 13), none⟩,
 ⟨some 15, .fad (.tmp 14) 0, none⟩,
 ⟨none, .st (.tmp 15) 1 (.const (.slice none 0 0)), none⟩])
 (.seq (.blk [⟨some 2, .mv (.const (.int .i32 0)), none⟩])
 (.ret))))
 (.skip)))
 (.seq (.drw [⟨⟨some 16, .ldn (.global (F gBig)) 0, none⟩, false, []⟩,
 ⟨⟨some 17, .mv (.tmp 0), none⟩, false, []⟩,
 ⟨⟨some 18, .nilc (.tmp 17), none⟩, false, []⟩,
 ⟨⟨some 19, .fad (.tmp 18) 0, none⟩, false, []⟩,
 ⟨⟨some 20, .ld (.tmp 19), none⟩, false, []⟩,
 ⟨⟨some 21, .call (F beUint32) [.tmp 16, .tmp 20], none⟩, true, []⟩,
 ⟨⟨some 22, .conv .i32 (.tmp 21), none⟩, false, [5]⟩,
 ⟨⟨some 3, .mv (.tmp 22), none⟩, false, [5]⟩]
 [])
 (.seq (.blk [⟨some 23, .mv (.tmp 0), none⟩,
 ⟨some 24, .mv (.tmp 0), none⟩,
 ⟨some 25, .nilc (.tmp 24), none⟩,
 ⟨some 26, .fad (.tmp 25) 0, none⟩,
 ⟨some 27, .ld (.tmp 26), none⟩,
 ⟨some 28, .slice (.tmp 27) (some (.const (.int .i64 4))) none none 1, none⟩,
 ⟨some 29, .nilc (.tmp 23), none⟩,
 ⟨some 30, .fad (.tmp 29) 0, none⟩,
 ⟨none, .st (.tmp 30) 1 (.tmp 28), none⟩])
 (.seq (.blk [⟨some 31, .mv (.tmp 3), none⟩,
 ⟨some 2, .mv (.tmp 31), none⟩])
 (.ret))))),
 [.tmp 2], 32)
def ir_beUint32 (_F : Nat → Nat) : IC × List RV × Nat := (.seq (.blk [⟨some 2, .box (.tmp 0), none⟩,
 ⟨some 4, .mv (.const (.int .u32 0)), none⟩])
 (.seq (.blk [⟨some 5, .mv (.tmp 1), none⟩,
 ⟨some 6, .iad (.tmp 5) (.const (.int .i64 3)) 1, none⟩,
 ⟨some 7, .ld (.tmp 6), none⟩])
 (.seq (.drw [⟨⟨some 8, .mv (.tmp 1), none⟩, false, []⟩,
 ⟨⟨some 9, .iad (.tmp 8) (.const (.int .i64 3)) 1, none⟩, false, []⟩,
 ⟨⟨some 10, .ld (.tmp 9), none⟩, false, []⟩,
 ⟨⟨some 11, .conv .u32 (.tmp 10), none⟩, false, []⟩,
 ⟨⟨some 12, .mv (.tmp 1), none⟩, false, []⟩,
 ⟨⟨some 13, .iad (.tmp 12) (.const (.int .i64 2)) 1, none⟩, false, []⟩,
 ⟨⟨some 14, .ld (.tmp 13), none⟩, false, []⟩,
 ⟨⟨some 15, .conv .u32 (.tmp 14), none⟩, false, []⟩,
 ⟨⟨some 16, .bin .shl (.tmp 15) (.const (.int .u64 8)), none⟩, false, []⟩,
 ⟨⟨some 17, .bin .or (.tmp 11) (.tmp 16), none⟩, false, []⟩,
 ⟨⟨some 18, .mv (.tmp 1), none⟩, false, []⟩,
 ⟨⟨some 19, .iad (.tmp 18) (.const (.int .i64 1)) 1, none⟩, false, []⟩,
 ⟨⟨some 20, .ld (.tmp 19), none⟩, false, []⟩,
 ⟨⟨some 21, .conv .u32 (.tmp 20), none⟩, false, []⟩,
 ⟨⟨some 22, .bin .shl (.tmp 21) (.const (.int .u64 16)), none⟩, false, []⟩,
 ⟨⟨some 23, .bin .or (.tmp 17) (.tmp 22), none⟩, false, []⟩,
 ⟨⟨some 24, .mv (.tmp 1), none⟩, false, []⟩,
 ⟨⟨some 25, .iad (.tmp 24) (.const (.int .i64 0)) 1, none⟩, false, []⟩,
 ⟨⟨some 26, .ld (.tmp 25), none⟩, false, []⟩,
 ⟨⟨some 27, .conv .u32 (.tmp 26), none⟩, false, []⟩,
 ⟨⟨some 28, .bin .shl (.tmp 27) (.const (.int .u64 24)), none⟩, false, []⟩,
 ⟨⟨some 29, .bin .or (.tmp 23) (.tmp 28), none⟩, false, []⟩,
 ⟨⟨some 4, .mv (.tmp 29), none⟩, false, []⟩]
 [])
 (.ret))),
 [.tmp 4], 30)
def ir_rString (F : Nat → Nat) : IC × List RV × Nat := (.seq (.blk [⟨some 2, .mv (.const (.string .empty)), none⟩])
 (.seq (.blk [⟨some 4, .mv (.tmp 0), none⟩,
 ⟨some 5, .call (F rInt16) [.tmp 4], none⟩,
 ⟨some 3, .mv (.tmp 5), none⟩])
 (.seq (.blk [⟨some 6, .mv (.tmp 0), none⟩,
 ⟨some 7, .mv (.tmp 3), none⟩,
 ⟨some 8, .conv .i64 (.tmp 7), none⟩,
 ⟨some 9, .call (F rSpan) [.tmp 6, .tmp 8], none⟩,
 ⟨some 10, .b2s (.tmp 9), none⟩,
 ⟨some 2, .mv (.tmp 10), none⟩])
 (.ret))),
 [.tmp 2], 11)
def ir_rUnsafeString (F : Nat → Nat) : IC × List RV × Nat := (.seq (.blk [⟨some 2, .mv (.const (.string .empty)), none⟩])
 (.seq (.blk [⟨some 4, .mv (.tmp 0), none⟩,
 ⟨some 5, .call (F rInt16) [.tmp 4], none⟩,
 ⟨some 3, .mv (.tmp 5), none⟩])
 (.seq (.blk [⟨some 6, .mv (.tmp 0), none⟩,
 ⟨some 7, .mv (.tmp 3), none⟩,
 ⟨some 8, .conv .i64 (.tmp 7), none⟩,
 ⟨some 9, .call (F rSpan) [.tmp 6, .tmp 8], none⟩,
 ⟨some 10, .call (F kUnsafeString) [.tmp 9], none⟩,
 ⟨some 2, .mv (.tmp 10), none⟩])
 (.ret))),
 [.tmp 2], 11)
def ir_kUnsafeString (_F : Nat → Nat) : IC × List RV × Nat := (.seq (.blk [⟨some 2, .mv (.const (.string .empty)), none⟩])
 (.seq (.blk [⟨some 3, .mv (.tmp 0), none⟩,
 ⟨some 4, .b2s (.tmp 3), none⟩,
 ⟨some 2, .mv (.tmp 4), none⟩])
 (.ret)),
 [.tmp 2], 5)
def ir_rArrayLen (F : Nat → Nat) : IC × List RV × Nat := (.seq (.blk [⟨some 2, .mv (.const (.int .i32 0)), none⟩])
 (.seq (.blk [⟨some 4, .mv (.tmp 0), none⟩,
 ⟨some 5, .call (F rInt32) [.tmp 4], none⟩,
 ⟨some 3, .mv (.tmp 5), none⟩])
 (.seq (.seq (.blk [⟨some 6, .mv (.tmp 0), none⟩,
 ⟨some 7, .nilc (.tmp 6), none⟩,
 ⟨some 8, .fad (.tmp 7) 0, none⟩,
 ⟨some 9, .ld (.tmp 8), none⟩,
 ⟨some 10, .len (.tmp 9), none⟩,
 ⟨some 11, .mv (.tmp 3), none⟩,
 ⟨some 12, .conv .i64 (.tmp 11), none⟩,
 ⟨some 13, .bin .lss (.tmp 10) (.tmp 12), none⟩])
 (.cond (.tmp 13)
 (.seq (.blk [⟨some 14, .mv (.tmp 0), none⟩,
 ⟨some 15, .nilc (.tmp 14), none⟩,
 ⟨some 16, .fad (.tmp 15) 1, none⟩,
 ⟨none, .st (.tmp 16) 1 (.const (.bool true)), none⟩])
 (.seq (.blk [⟨some 17, .mv (.tmp 0), none⟩,
 ⟨some 18, .nilc (.tmp 17), none⟩,
 ⟨some 19, .fad (.tmp 18) 0, none⟩,
 ⟨none, .st (.tmp 19) 1 (.const (.slice none 0 0)), none⟩])
 (.seq (.blk [⟨some 2, .mv (.const (.int .i32 0)), none⟩])
 (.ret))))
 (.skip)))
 (.seq (.blk [⟨some 20, .mv (.tmp 3), none⟩,
 ⟨some 2, .mv (.tmp 20), none⟩])
 (.ret)))),
 [.tmp 2], 21)
def ir_rOk (_F : Nat → Nat) : IC × List RV × Nat := (.seq (.blk [⟨some 2, .mv (.const (.bool false)), none⟩])
 (.seq (.blk [⟨some 3, .mv (.tmp 0), none⟩,
 ⟨some 4, .nilc (.tmp 3), none⟩,
 ⟨some 5, .fad (.tmp 4) 1, none⟩,
 ⟨some 6, .ld (.tmp 5), none⟩,
 ⟨some 7, .lnot (.tmp 6), none⟩,
 ⟨some 2, .mv (.tmp 7), none⟩])
 (.ret)),
 [.tmp 2], 8)
def ir_rComplete (F : Nat → Nat) : IC × List RV × Nat := (.seq (.blk [⟨some 2, .mv (.const (.nilIface)), none⟩])
 (.seq (.seq (.blk [⟨some 3, .mv (.tmp 0), none⟩,
 ⟨some 4, .nilc (.tmp 3), none⟩,
 ⟨some 5, .fad (.tmp 4) 1, none⟩,
 ⟨some 6, .ld (.tmp 5), none⟩])
 (.cond (.tmp 6)
 (.seq (.blk [⟨some 7, .ld (.global (F gErr)), none⟩,
 ⟨some 2, .mv (.tmp 7), none⟩])
 (.ret))
 (.skip)))
 (.seq (.blk [⟨some 2, .mv (.const (.nilIface)), none⟩])
 (.ret))),
 [.tmp 2], 8)
def ir_rNullableBytes (F : Nat → Nat) : IC × List RV × Nat := (.seq (.blk [⟨some 2, .mv (.const (.slice none 0 0)), none⟩])
 (.seq (.blk [⟨some 5, .mv (.tmp 0), none⟩,
 ⟨some 6, .call (F rInt32) [.tmp 5], none⟩,
 ⟨some 3, .mv (.tmp 6), none⟩])
 (.seq (.seq (.blk [⟨some 7, .mv (.tmp 3), none⟩,
 ⟨some 8, .bin .lss (.tmp 7) (.const (.int .i32 0)), none⟩])
 (.cond (.tmp 8)
 (.seq (.blk [⟨some 2, .mv (.const (.slice none 0 0)), none⟩])
 (.ret))
 (.skip)))
 (.seq (.blk [⟨some 9, .mv (.tmp 0), none⟩,
 ⟨some 10, .mv (.tmp 3), none⟩,
 ⟨some 11, .conv .i64 (.tmp 10), none⟩,
 ⟨some 12, .call (F rSpan) [.tmp 9, .tmp 11], none⟩,
 ⟨some 4, .mv (.tmp 12), none⟩])
 (.seq (.blk [⟨some 13, .mv (.tmp 4), none⟩,
 ⟨some 2, .mv (.tmp 13), none⟩])
 (.ret))))),
 [.tmp 2], 14)
def ir_rNullableString (F : Nat → Nat) : IC × List RV × Nat := (.seq (.blk [⟨some 2, .mv (.const (.pointer none)), none⟩])
 (.seq (.blk [⟨some 5, .mv (.tmp 0), none⟩,
 ⟨some 6, .call (F rInt16) [.tmp 5], none⟩,
 ⟨some 3, .mv (.tmp 6), none⟩])
 (.seq (.seq (.blk [⟨some 7, .mv (.tmp 3), none⟩,
 ⟨some 8, .bin .lss (.tmp 7) (.const (.int .i16 0)), none⟩])
 (.cond (.tmp 8)
 (.seq (.blk [⟨some 2, .mv (.const (.pointer none)), none⟩])
 (.ret))
 (.skip)))
 (.seq (.blk [⟨some 9, .mv (.tmp 0), none⟩,
 ⟨some 10, .mv (.tmp 3), none⟩,
 ⟨some 11, .conv .i64 (.tmp 10), none⟩,
 ⟨some 12, .call (F rSpan) [.tmp 9, .tmp 11], none⟩,
 ⟨some 13, .b2s (.tmp 12), none⟩,
 ⟨some 4, .alloc [.string .empty], none⟩,
 ⟨none, .st (.tmp 4) 1 (.tmp 13), none⟩])
 (.seq (.blk [⟨some 2, .mv (.tmp 4), none⟩])
 (.ret))))),
 [.tmp 2], 14)
def ir_rUnsafeNullableString (F : Nat → Nat) : IC × List RV × Nat := (.seq (.blk [⟨some 2, .mv (.const (.pointer none)), none⟩])
 (.seq (.blk [⟨some 5, .mv (.tmp 0), none⟩,
 ⟨some 6, .call (F rInt16) [.tmp 5], none⟩,
 ⟨some 3, .mv (.tmp 6), none⟩])
 (.seq (.seq (.blk [⟨some 7, .mv (.tmp 3), none⟩,
 ⟨some 8, .bin .lss (.tmp 7) (.const (.int .i16 0)), none⟩])
 (.cond (.tmp 8)
 (.seq (.blk [⟨some 2, .mv (.const (.pointer none)), none⟩])
 (.ret))
 (.skip)))
 (.seq (.blk [⟨some 9, .mv (.tmp 0), none⟩,
 ⟨some 10, .mv (.tmp 3), none⟩,
 ⟨some 11, .conv .i64 (.tmp 10), none⟩,
 ⟨some 12, .call (F rSpan) [.tmp 9, .tmp 11], none⟩,
 ⟨some 13, .call (F kUnsafeString) [.tmp 12], none⟩,
 ⟨some 4, .alloc [.string .empty], none⟩,
 ⟨none, .st (.tmp 4) 1 (.tmp 13), none⟩])
 (.seq (.blk [⟨some 2, .mv (.tmp 4), none⟩])
 (.ret))))),
 [.tmp 2], 14)
end Go.Msk

namespace Go.Msk
theorem or_add (a b i : Nat) (h : b < 2 ^ i) : b ||| (a * 2 ^ i) = a * 2 ^ i + b := by
  rw [Nat.or_comm, ← Nat.shiftLeft_eq, Nat.shiftLeft_add_eq_or_of_lt h]
theorem ofInt_or (n x y : Nat) (hx : x < 2 ^ n) (hy : y < 2 ^ n) : (BitVec.ofInt n (x : Int) ||| BitVec.ofInt n (y : Int)).toNat = x ||| y := by
  rw [BitVec.toNat_or]
  simp only [BitVec.ofInt_natCast, BitVec.toNat_ofNat]
  rw [Nat.mod_eq_of_lt hx, Nat.mod_eq_of_lt hy]
def unsignedB : IntKind → Bool
  | .u8 | .u16 | .u32 | .u64 => true
  | _ => false
theorem wrap_nat (k : IntKind) (hk : unsignedB k = true) (n : Nat) (h : n < 2 ^ k.bits) : k.wrap (n : Int) = n := by
  cases k <;> simp [unsignedB] at hk <;> simp only [IntKind.bits] at h <;> simp [IntKind.wrap, IntKind.bits, IntKind.signed] <;> omega
theorem bin_or {k : IntKind} (hk : unsignedB k = true) {x y : Nat} (hx : x < 2 ^ k.bits) (hy : y < 2 ^ k.bits) :
    intBin .or k (x : Int) (y : Int) = some (.int k ((x ||| y : Nat) : Int)) := by
  simp only [intBin]
  rw [ofInt_or _ _ _ hx hy, wrap_nat k hk _ (Nat.or_lt_two_pow hx hy)]
@[simp] theorem intBin_lss (k : IntKind) (x y : Int) : intBin .lss k x y = some (.bool (decide (x < y))) := rfl
@[simp] theorem intBin_leq (k : IntKind) (x y : Int) : intBin .leq k x y = some (.bool (decide (x ≤ y))) := rfl
@[simp] theorem intBin_gtr (k : IntKind) (x y : Int) : intBin .gtr k x y = some (.bool (decide (x > y))) := rfl
@[simp] theorem intBin_geq (k : IntKind) (x y : Int) : intBin .geq k x y = some (.bool (decide (x ≥ y))) := rfl
@[simp] theorem intBin_eql (k : IntKind) (x y : Int) : intBin .eql k x y = some (.bool (x == y)) := rfl
@[simp] theorem intBin_neq (k : IntKind) (x y : Int) : intBin .neq k x y = some (.bool (x != y)) := rfl
@[simp] theorem intBin_add (k : IntKind) (x y : Int) : intBin .add k x y = some (.int k (k.wrap (x + y))) := rfl
@[simp] theorem intBin_sub (k : IntKind) (x y : Int) : intBin .sub k x y = some (.int k (k.wrap (x - y))) := rfl
theorem wrap_zero (k : IntKind) : k.wrap 0 = 0 := by cases k <;> rfl
end Go.Msk

namespace Go.Msk
open Go.RowKit
set_option maxRecDepth 100000
section
variable {P : Program} {F : Nat → Nat} {w : World}
attribute [local simp] bnd wpC wpR RI.wp gOk RK.run thenC inBlockC updo upd ev args0 postC rvals RV.val tup_one isShift
def OctX (S : List Nat) (w : World) (v : Value) (o : Option (List UInt8)) : Prop :=
  IsOct w v o ∧ ∀ a n c, v = .slice (some a) n c → a.block ∉ S ∧ a.block < w.heap.size
def str (l : List UInt8) : Value := .string ⟨l.toArray⟩
end
end Go.Msk

namespace Go.Msk
open Go.RowKit
def SlC (ok : Nat → Prop) (w : World) (v : Value) (n : Nat) (cells : List Value) : Prop :=
  ∃ base cap, v = .slice base n cap ∧ n ≤ cap ∧ (base = none → cap = 0) ∧ ∀ a, base = some a → 0 < cap → ok a.block ∧ a.block < w.heap.size ∧ Cells w a cells
theorem SlC.mod {ok ok' : Nat → Prop} {S : List Nat} {w w' : World} {v : Value} {n : Nat} {cells : List Value} (h : SlC ok w v n cells) (hm : Mod S w w') (hS : ∀ b ∈ S, ¬ ok b) (ho : ∀ b, b < w.heap.size → ok b → ok' b) : SlC ok' w' v n cells := by
  obtain ⟨base, cap, h1, h2, h3, h4⟩ := h
  refine ⟨base, cap, h1, h2, h3, fun a ha hc => ?_⟩
  obtain ⟨k1, k2, k3⟩ := h4 a ha hc
  exact ⟨ho _ k2 k1, Nat.lt_of_lt_of_le k2 hm.size, k3.mod hm (.inr fun hc => hS _ hc k1)⟩
theorem SlC.nil {ok : Nat → Prop} {w : World} : SlC ok w (.slice none 0 0) 0 [] := ⟨none, 0, rfl, Nat.le_refl _, fun _ => rfl, fun a h => by simp at h⟩
theorem SlC.one {ok : Nat → Prop} {w : World} {v : Value} {n : Nat} {cells : List Value} (h : SlC ok w v n cells) : v.oneCell' = true := by
  obtain ⟨base, cap, rfl, -⟩ := h; rfl
inductive EntL (ok : Nat → Prop) (w : World) : List MapEntry → List (Nat × List UInt8) → Prop
  | nil : EntL ok w [] []
  | cons {e : MapEntry} {k : Nat} {l : List UInt8} {es : List MapEntry} {m : List (Nat × List UInt8)} : e.key = .int .u32 k → k < 4294967296 → SlC ok w e.val l.length (u8s l) → EntL ok w es m → EntL ok w (e :: es) ((k, l) :: m)
structure MapRep (ok : Nat → Prop) (w : World) (r : Nat) (m : List (Nat × List UInt8)) : Prop where
  ex : ∃ es clock, w.heap[r]? = some (.map es clock) ∧ EntL ok w es.toList m ∧ (es.toList.map (·.born)).Nodup ∧ ∀ e ∈ es.toList, e.born < clock
  keys : (m.map (·.1)).Nodup
theorem EntL.mod {ok ok' : Nat → Prop} {S : List Nat} {w w' : World} {es : List MapEntry} {m : List (Nat × List UInt8)} (h : EntL ok w es m) (hm : Mod S w w') (hS : ∀ b ∈ S, ¬ ok b) (ho : ∀ b, b < w.heap.size → ok b → ok' b) : EntL ok' w' es m := by
  induction h with
  | nil => exact .nil
  | cons h1 h2 h3 _ ih => exact .cons h1 h2 (h3.mod hm hS ho) ih
theorem MapRep.lt {ok : Nat → Prop} {w : World} {r : Nat} {m : List (Nat × List UInt8)} (h : MapRep ok w r m) : r < w.heap.size := by
  obtain ⟨es, clock, h, -⟩ := h.ex
  exact (Array.getElem?_eq_some_iff.1 h).1
theorem MapRep.mod {ok ok' : Nat → Prop} {S : List Nat} {w w' : World} {r : Nat} {m : List (Nat × List UInt8)} (h : MapRep ok w r m) (hm : Mod S w w') (hr : r ∉ S) (hS : ∀ b ∈ S, ¬ ok b) (ho : ∀ b, b < w.heap.size → ok b → ok' b) : MapRep ok' w' r m := by
  have hlt := h.lt
  obtain ⟨es, clock, h1, h2, h3, h4⟩ := h.ex
  exact ⟨⟨es, clock, by rw [hm.block r hlt hr]; exact h1, h2.mod hm hS ho, h3, h4⟩, h.keys⟩
inductive GV where
  | num (v : Value)
  | nstr (o : Option (List UInt8))
  | byt (o : Option (List UInt8))
  | arr (l : List UInt8)
  | lst (isnil : Bool) (sz : Nat) (l : List GV)
  | rcd (l : List GV)
  | tag (m : List (Nat × List UInt8))
  deriving Inhabited
mutual
/-- The cells read as the value; what they refer to lies in none of the blocks O. -/
inductive Rep (O : List Nat) (w : World) : GV → List Value → Prop
  | num {v : Value} : v.oneCell' = true → Rep O w (.num v) [v]
  | nstr0 : Rep O w (.nstr none) [.pointer none]
  | nstr1 {b : Nat} {l : List UInt8} : b ∉ O → w.cell? ⟨b, 0, none⟩ = some (str l) → Rep O w (.nstr (some l)) [.pointer (some ⟨b, 0, none⟩)]
  | byt {v : Value} {o : Option (List UInt8)} : OctX O w v o → Rep O w (.byt o) [v]
  | arr {l : List UInt8} : Rep O w (.arr l) (u8s l)
  | lst0 {sz : Nat} : Rep O w (.lst true sz []) [.slice none 0 0]
  | lst1 {a : Addr} {n c sz : Nat} {l : List GV} {css : List (List Value)} : a.block ∉ O → a.block < w.heap.size → n = l.length → n ≤ c → (∀ cs ∈ css, cs.length = sz) → RepL O w l css →
      Cells w a css.flatten → Rep O w (.lst false sz l) [.slice (some a) n c]
  | rcd {l : List GV} {css : List (List Value)} : RepL O w l css → Rep O w (.rcd l) css.flatten
  | tag0 : Rep O w (.tag []) [.map none]
  | tag1 {r : Nat} {m : List (Nat × List UInt8)} : r ∉ O → MapRep (fun b => b ∉ O) w r m → Rep O w (.tag m) [.map (some r)]
inductive RepL (O : List Nat) (w : World) : List GV → List (List Value) → Prop
  | nil : RepL O w [] []
  | cons {g : GV} {l : List GV} {cs : List Value} {css : List (List Value)} : Rep O w g cs → RepL O w l css → RepL O w (g :: l) (cs :: css)
end
theorem OctX.mod {O T : List Nat} {w w' : World} {v : Value} {o : Option (List UInt8)} (h : OctX O w v o) (hm : Mod T w w') (hT : ∀ x ∈ T, x ∈ O) : OctX O w' v o := by
  obtain ⟨h1, h2⟩ := h
  refine ⟨?_, fun a n c e => ⟨(h2 a n c e).1, Nat.lt_of_lt_of_le (h2 a n c e).2 hm.size⟩⟩
  cases o with
  | none => exact h1
  | some l =>
    obtain ⟨a, n, c, rfl, hb⟩ := h1
    exact ⟨a, n, c, rfl, hb.mod hm (fun a' e hc => by cases e; exact (h2 a n c rfl).1 (hT _ hc))⟩
theorem OctX.weaken {O O' : List Nat} {w : World} {v : Value} {o : Option (List UInt8)} (h : OctX O w v o) (hO : ∀ x ∈ O', x ∈ O) : OctX O' w v o :=
  ⟨h.1, fun a n c e => ⟨fun hc => (h.2 a n c e).1 (hO _ hc), (h.2 a n c e).2⟩⟩
theorem cell_mod {T : List Nat} {w w' : World} {a : Addr} {v : Value} (h : w.cell? a = some v) (hm : Mod T w w') (hT : a.block ∉ T) : w'.cell? a = some v := by
  rw [World.cell?_of_block (w := w) (hm.block _ (World.block_lt_of_cell? w a h) hT)]; exact h
theorem Rep.mod {O T : List Nat} {w w' : World} (hm : Mod T w w') (hT : ∀ x ∈ T, x ∈ O) {g : GV} {cs : List Value} (h : Rep O w g cs) : Rep O w' g cs := by
  refine Rep.rec (motive_1 := fun g cs _ => Rep O w' g cs) (motive_2 := fun l css _ => RepL O w' l css) ?_ ?_ ?_ ?_ ?_ ?_ ?_ ?_ ?_ ?_ ?_ ?_ h
  · intro v hv; exact .num hv
  · exact .nstr0
  · intro b l hb hc; exact .nstr1 hb (cell_mod hc hm (fun h => hb (hT _ h)))
  · intro v o ho; exact .byt (ho.mod hm hT)
  · intro l; exact .arr
  · intro sz; exact .lst0
  · intro a n c sz l css ha hlt hn hc hsz _ hcells ih
    exact .lst1 ha (Nat.lt_of_lt_of_le hlt hm.size) hn hc hsz ih (hcells.mod hm (.inr fun h => ha (hT _ h)))
  · intro l css _ ih; exact .rcd ih
  · exact .tag0
  · intro r m hr h; exact .tag1 hr (h.mod hm (fun hx => hr (hT _ hx)) (fun b hb hx => hx (hT _ hb)) fun _ _ h => h)
  · exact .nil
  · intro g l cs css _ _ ih1 ih2; exact .cons ih1 ih2
theorem RepL.mod {O T : List Nat} {w w' : World} (hm : Mod T w w') (hT : ∀ x ∈ T, x ∈ O) {l : List GV} {css : List (List Value)} (h : RepL O w l css) : RepL O w' l css := by
  induction l generalizing css with
  | nil => cases h; exact .nil
  | cons g l ih => cases h with | cons h1 h2 => exact .cons (h1.mod hm hT) (ih h2)
theorem Rep.weaken {O O' : List Nat} {w : World} (hO : ∀ x ∈ O', x ∈ O) {g : GV} {cs : List Value} (h : Rep O w g cs) : Rep O' w g cs := by
  refine Rep.rec (motive_1 := fun g cs _ => Rep O' w g cs) (motive_2 := fun l css _ => RepL O' w l css) ?_ ?_ ?_ ?_ ?_ ?_ ?_ ?_ ?_ ?_ ?_ ?_ h
  · intro v hv; exact .num hv
  · exact .nstr0
  · intro b l hb hc; exact .nstr1 (fun h => hb (hO _ h)) hc
  · intro v o ho; exact .byt (ho.weaken hO)
  · intro l; exact .arr
  · intro sz; exact .lst0
  · intro a n c sz l css ha hlt hn hc hsz _ hcells ih
    exact .lst1 (fun h => ha (hO _ h)) hlt hn hc hsz ih hcells
  · intro l css _ ih; exact .rcd ih
  · exact .tag0
  · intro r m hr h; exact .tag1 (fun hx => hr (hO _ hx)) (h.mod (Mod.refl [] _) (by simp) (by simp) fun b _ hb hx => hb (hO _ hx))
  · exact .nil
  · intro g l cs css _ _ ih1 ih2; exact .cons ih1 ih2
theorem RepL.weaken {O O' : List Nat} {w : World} (hO : ∀ x ∈ O', x ∈ O) {l : List GV} {css : List (List Value)} (h : RepL O w l css) : RepL O' w l css := by
  induction l generalizing css with
  | nil => cases h; exact .nil
  | cons g l ih => cases h with | cons h1 h2 => exact .cons (h1.weaken hO) (ih h2)
theorem Rep.oneCell {O : List Nat} {w : World} {g : GV} {cs : List Value} (h : Rep O w g cs) : ∀ v ∈ cs, v.oneCell' = true := by
  refine Rep.rec (motive_1 := fun g cs _ => ∀ v ∈ cs, v.oneCell' = true) (motive_2 := fun l css _ => ∀ v ∈ css.flatten, v.oneCell' = true) ?_ ?_ ?_ ?_ ?_ ?_ ?_ ?_ ?_ ?_ ?_ ?_ h
  · intro v hv u hu; simp at hu; subst hu; exact hv
  · intro v hv; simp at hv; subst hv; rfl
  · intro b l _ _ v hv; simp at hv; subst hv; rfl
  · intro v o ho u hu
    simp at hu; subst hu
    cases o with
    | none => have := ho.1; simp only [IsOct] at this; subst this; rfl
    | some l => obtain ⟨a, n, c, rfl, -⟩ := ho.1; rfl
  · intro l v hv; simp [u8s] at hv; obtain ⟨b, -, rfl⟩ := hv; rfl
  · intro sz v hv; simp at hv; subst hv; rfl
  · intro a n c sz l css _ _ _ _ _ _ _ _ v hv; simp at hv; subst hv; rfl
  · intro l css _ ih; exact ih
  · intro v hv; simp at hv; subst hv; rfl
  · intro r m _ _ v hv; simp at hv; subst hv; rfl
  · intro v hv; simp at hv
  · intro g l cs css _ _ ih1 ih2 v hv
    simp only [List.flatten_cons, List.mem_append] at hv
    rcases hv with hv | hv
    · exact ih1 v hv
    · exact ih2 v hv
theorem RepL.append {O : List Nat} {w : World} {l l' : List GV} {css css' : List (List Value)} (h : RepL O w l css) (h' : RepL O w l' css') : RepL O w (l ++ l') (css ++ css') := by
  induction l generalizing css with
  | nil => cases h; exact h'
  | cons g l ih => cases h with | cons h1 h2 => exact .cons h1 (ih h2)
end Go.Msk

namespace Go.Msk
open Go.RowKit
set_option maxRecDepth 100000
def seqs : List IC → IC
  | [] => .skip
  | [a] => a
  | a :: b :: r => .seq a (seqs (b :: r))
def wpL (P : Program) : List IC → (Exit → Sl → World → Prop) → Sl → World → Prop
  | [], Q, σ, w => Q .normal σ w
  | a :: r, Q, σ, w => wpC P a (thenC (wpL P r Q) Q) σ w
theorem thenC_same (Q : Exit → Sl → World → Prop) : thenC (Q .normal) Q = Q := by
  funext e σ w; cases e <;> rfl
theorem wpL_append {P : Program} : ∀ (l r : List IC) (Q : Exit → Sl → World → Prop) (σ : Sl) (w : World), wpL P (l ++ r) Q σ w = wpL P l (thenC (wpL P r Q) Q) σ w
  | [], r, Q, σ, w => rfl
  | a :: l, r, Q, σ, w => by
    have h : wpL P (l ++ r) Q = wpL P l (thenC (wpL P r Q) Q) := by funext σ w; exact wpL_append l r Q σ w
    have h2 : thenC (wpL P l (thenC (wpL P r Q) Q)) (thenC (wpL P r Q) Q) = thenC (wpL P l (thenC (wpL P r Q) Q)) Q := by
      funext e σ w; cases e <;> rfl
    show wpC P a (thenC (wpL P (l ++ r) Q) Q) σ w = wpC P a (thenC (wpL P l (thenC (wpL P r Q) Q)) (thenC (wpL P r Q) Q)) σ w
    rw [h, h2]
theorem wpC_seqs {P : Program} : ∀ (l : List IC) (Q : Exit → Sl → World → Prop) (σ : Sl) (w : World), wpC P (seqs l) Q σ w = wpL P l Q σ w
  | [], Q, σ, w => rfl
  | [a], Q, σ, w => by
    show wpC P a Q σ w = wpC P a (thenC (Q .normal) Q) σ w
    rw [thenC_same]
  | a :: b :: r, Q, σ, w => by
    have h : wpC P (seqs (b :: r)) Q = wpL P (b :: r) Q := by funext σ w; exact wpC_seqs (b :: r) Q σ w
    show wpC P a (thenC (wpC P (seqs (b :: r)) Q) Q) σ w = _
    rw [h]; rfl
def Ag (n : Nat) (σ σ' : Sl) : Prop := ∀ t, t < n → σ' t = σ t
theorem Ag.refl (n : Nat) (σ : Sl) : Ag n σ σ := fun _ _ => rfl
theorem Ag.trans {n : Nat} {a b c : Sl} (h : Ag n a b) (k : Ag n b c) : Ag n a c := fun t ht => (k t ht).trans (h t ht)
inductive VC where
  | all
  | ge (n : Int)
  | rng (a b : Int)
  deriving Inhabited, DecidableEq, Repr
def VC.holds (v : Int) : VC → Bool
  | .all => true
  | .ge n => decide (v ≥ n)
  | .rng a b => decide (v ≥ a) && decide (v ≤ b)
end Go.Msk

namespace Go.Msk
open Go.RowKit
set_option maxRecDepth 100000
structure RE where
  b : Nat
  vs : Nat
  fx : Nat
  un : Nat
  ret : Nat
  hasFx : Bool
  ok : FuncId
  cpl : FuncId
  deriving Inhabited
inductive VR where
  | call (f : FuncId)
  | uns (a b : VR)
  | flx (a b : VR)
  deriving Inhabited
section
variable {P : Program} {E : RE}
def ldF (sp x t off : Nat) : IC :=
  .blk [⟨some t, .mv (.tmp sp), none⟩, ⟨some (t + 1), .nilc (.tmp t), none⟩, ⟨some (t + 2), .fad (.tmp (t + 1)) off, none⟩, ⟨some (t + 3), .ld (.tmp (t + 2)), none⟩, ⟨some x, .mv (.tmp (t + 3)), none⟩]
def cpF (y x t : Nat) : IC := .blk [⟨some t, .mv (.tmp y), none⟩, ⟨some x, .mv (.tmp t), none⟩]
theorem cpF_wp {y x t : Nat} {σ : Sl} {w : World} {Q : Exit → Sl → World → Prop} (_lx : x < t)
    (hQ : ∀ σ', (∀ j, j < t → j ≠ x → σ' j = σ j) → σ' x = σ y → Q .normal σ' w) : wpC P (cpF y x t) Q σ w := by
  simp only [cpF, wpC, wpR, RI.wp, gOk, if_true, RK.run, ev, updo]
  refine hQ _ ?_ ?_
  · intro j hj hne
    simp only [upd, hne, show j ≠ t by omega, if_false]
  · simp [upd]
def okF (E : RE) (t : Nat) : IC :=
  .seq (.blk [⟨some t, .call E.ok [.tmp E.b], none⟩, ⟨some (t + 1), .lnot (.tmp t), none⟩])
    (.cond (.tmp (t + 1)) (.seq (.blk [⟨some (t + 2), .call E.cpl [.tmp E.b], none⟩, ⟨some E.ret, .mv (.tmp (t + 2)), none⟩]) .ret) .skip)
end
end Go.Msk

namespace Go.Msk
open Go.RowKit
set_option maxRecDepth 100000
section
variable {P : Program}
theorem zrep_length (n : Nat) (z : List Value) : (zrep n z).length = n * z.length := by simp [zrep]
theorem flatten_length {css : List (List Value)} {sz : Nat} (h : ∀ cs ∈ css, cs.length = sz) : css.flatten.length = css.length * sz := by
  induction css with
  | nil => simp
  | cons c css ih =>
    simp only [List.flatten_cons, List.length_append, List.length_cons, ih fun cs hcs => h cs (List.mem_cons_of_mem _ hcs), h c List.mem_cons_self]
    rw [Nat.succ_mul]; omega
end
end Go.Msk

namespace Go.Msk
open Go.RowKit
set_option maxRecDepth 100000
inductive PK where
  | bool | i8 | i16 | u16 | i32 | i64 | u32 | uuid | str | nstr | byt | nbyt
  deriving Inhabited, DecidableEq, Repr
inductive Df where
  | int (k : IntKind) (n : Int)
  | bool (b : Bool)
  | str (l : List UInt8)
  | nstr
  | byt
  | uuid
  deriving Inhabited
def Df.gv : Df → GV
  | .int k n => .num (.int k n)
  | .bool b => .num (.bool b)
  | .str l => .num (Msk.str l)
  | .nstr => .nstr none
  | .byt => .byt none
  | .uuid => .arr (List.replicate 16 0)
def Df.cells : Df → List Value
  | .int k n => [.int k n]
  | .bool b => [.bool b]
  | .str l => [Msk.str l]
  | .nstr => [.pointer none]
  | .byt => [.slice none 0 0]
  | .uuid => u8s (List.replicate 16 0)
def Df.size : Df → Nat
  | .uuid => 16
  | _ => 1
inductive Sc where
  | nil
  | prm (vc : VC) (init : Option Value) (r : VR) (p : PK) (d : Df) (rest : Sc)
  | enm (vc : VC) (init : Value) (r : VR) (p : PK) (d : Df) (rest : Sc)
  | lsp (vc : VC) (len : VR) (bytes : Nat) (d : Df) (init : Option Value) (r : VR) (p : PK) (rest : Sc)
  | lss (vc : VC) (len : VR) (bytes : Nat) (z : List Value) (dfl : FuncId) (body : Sc) (rest : Sc)
  | sub (vc : VC) (dfl : FuncId) (body : Sc) (rest : Sc)
  | tags (f : FuncId)
  | uid (vc : VC) (f : FuncId) (rest : Sc)
  deriving Inhabited
def Sc.dgv : Sc → List GV
  | .nil => []
  | .prm _ _ _ _ d rest => d.gv :: rest.dgv
  | .enm _ _ _ _ d rest => d.gv :: rest.dgv
  | .lsp _ _ _ _ _ _ _ rest => .lst true 0 [] :: rest.dgv
  | .lss _ _ _ _ _ _ rest => .lst true 0 [] :: rest.dgv
  | .sub _ _ body rest => .rcd body.dgv :: rest.dgv
  | .tags _ => [.tag []]
  | .uid _ _ rest => .arr (List.replicate 16 0) :: rest.dgv
def Sc.dcs : Sc → List (List Value)
  | .nil => []
  | .prm _ _ _ _ d rest => d.cells :: rest.dcs
  | .enm _ _ _ _ d rest => d.cells :: rest.dcs
  | .lsp _ _ _ _ _ _ _ rest => [.slice none 0 0] :: rest.dcs
  | .lss _ _ _ _ _ _ rest => [.slice none 0 0] :: rest.dcs
  | .sub _ _ body rest => body.dcs.flatten :: rest.dcs
  | .tags _ => [[.map none]]
  | .uid _ _ rest => u8s (List.replicate 16 0) :: rest.dcs
def Sc.size (sc : Sc) : Nat := sc.dcs.flatten.length
def VC.nt : VC → Nat
  | .all => 0
  | .ge _ => 2
  | .rng _ _ => 6
def VC.wrap (E : RE) (t : Nat) (f : Nat → IC) : VC → IC
  | .all => f t
  | .ge n => .seq (.blk [⟨some t, .mv (.tmp E.vs), none⟩, ⟨some (t + 1), .bin .geq (.tmp t) (.const (.int .i16 n)), none⟩]) (.cond (.tmp (t + 1)) (f (t + 2)) .skip)
  | .rng a b => .seq (.blk [⟨some t, .mv (.tmp E.vs), none⟩, ⟨some (t + 1), .bin .geq (.tmp t) (.const (.int .i16 a)), none⟩, ⟨some (t + 2), .mv (.tmp (t + 1)), none⟩,
      ⟨some (t + 3), .mv (.tmp E.vs), some (t + 2, true)⟩, ⟨some (t + 4), .bin .leq (.tmp (t + 3)) (.const (.int .i16 b)), some (t + 2, true)⟩,
      ⟨some (t + 5), .pick (.tmp (t + 2)) (.tmp (t + 4)) (.const (.bool false)), none⟩]) (.cond (.tmp (t + 5)) (f (t + 6)) .skip)
structure Dec where
  len : Bool → RS → Int × RS
  prim : PK → Bool → RS → GV × RS
  tags : RS → List (Nat × List UInt8) × RS
end Go.Msk

namespace Go.Msk
open Go.RowKit
set_option maxRecDepth 100000
def DfC (P : Program) (f : FuncId) (z d : List Value) : Prop :=
  ∀ (w : World) (B : Nat) (pre post : List Value), Blk w B (pre ++ (z ++ post)) →
    Calls P f [.pointer (some ⟨B, pre.length, none⟩)].toArray w fun e w' => e = .returned (.tuple #[]) ∧ Blk w' B (pre ++ (d ++ post)) ∧ Mod [B] w w'
def PK.size : PK → Nat
  | .uuid => 16
  | _ => 1
section
variable {P : Program} {E : RE} {D : Dec}
end
end Go.Msk

namespace Go.Msk
open Go.RowKit
set_option maxRecDepth 100000
theorem splice_mid {pre old post vs : List Value} {o : Nat} (h : pre.length = o) (hl : vs.length = old.length) : splice (pre ++ (old ++ post)) o vs = pre ++ (vs ++ post) := by
  subst h
  simp [splice, hl]
section
variable {P : Program} {E : RE} {D : Dec}
end
end Go.Msk

namespace Go.Msk
open Go.RowKit
set_option maxRecDepth 100000
structure Top where
  rv : Option FuncId
  flex : Option Int
  dfl : FuncId
  ok : FuncId
  cpl : FuncId
  sc : Sc
  deriving Inhabited
section
variable {P : Program} {D : Dec}
theorem callF_wp {t x : Nat} {f : FuncId} {σ : Sl} {w : World} {v : Value} {R : Ending → World → Prop} {Q : Exit → Sl → World → Prop} (hx : σ x = v) (hc : Calls P f [v].toArray w R)
    (hQ : ∀ e w', R e w' → ∃ u, e = .returned u ∧ ∀ σ', Ag t σ σ' → Q .normal σ' w') : wpC P (.blk [⟨some t, .mv (.tmp x), none⟩, ⟨some (t + 1), .call f [.tmp t], none⟩]) Q σ w := by
  simp only [wpC, wpR, RI.wp, gOk, if_true, RK.run, ev, updo, List.map_cons, List.map_nil, upd_same, hx]
  refine hc.mono fun e w' hR => ?_
  obtain ⟨u, rfl, h⟩ := hQ e w' hR
  refine ⟨u, rfl, h _ fun j hj => ?_⟩
  simp only [upd, show j ≠ t by omega, show j ≠ t + 1 by omega, if_false]
theorem mvF_wp {t x : Nat} {σ : Sl} {w : World} {Q : Exit → Sl → World → Prop} (hQ : ∀ σ', Ag t σ σ' → Q .normal σ' w) : wpC P (.blk [⟨some t, .mv (.tmp x), none⟩]) Q σ w := by
  simp only [wpC, wpR, RI.wp, gOk, if_true, RK.run, ev, updo]
  exact hQ _ fun j hj => by simp only [upd, show j ≠ t by omega, if_false]
end
end Go.Msk

namespace Go.Msk
def ir_rBool (_F : Nat → Nat) : IC × List RV × Nat := (.seq (.blk [⟨some 2, .mv (.const (.bool false)), none⟩])
 (.seq (.seq (.blk [⟨some 4, .mv (.tmp 0), none⟩,
 ⟨some 5, .nilc (.tmp 4), none⟩,
 ⟨some 6, .fad (.tmp 5) 0, none⟩,
 ⟨some 7, .ld (.tmp 6), none⟩,
 ⟨some 8, .len (.tmp 7), none⟩,
 ⟨some 9, .bin .lss (.tmp 8) (.const (.int .i64 1)), none⟩])
 (.cond (.tmp 9)
 (.seq (.blk [⟨some 10, .mv (.tmp 0), none⟩,
 ⟨some 11, .nilc (.tmp 10), none⟩,
 ⟨some 12, .fad (.tmp 11) 1, none⟩,
 ⟨none, .st (.tmp 12) 1 (.const (.bool true)), none⟩])
 (.seq (.blk [⟨some 13, .mv (.tmp 0), none⟩,
 ⟨some 14, .nilc (.tmp 13), none⟩,
 ⟨some 15, .fad (.tmp 14) 0, none⟩,
 ⟨none, .st (.tmp 15) 1 (.const (.slice none 0 0)), none⟩])
 (.seq (.blk [⟨some 2, .mv (.const (.bool false)), none⟩])
 (.ret))))
 (.skip)))
 (.seq (.blk [⟨some 16, .mv (.tmp 0), none⟩,
 ⟨some 17, .nilc (.tmp 16), none⟩,
 ⟨some 18, .fad (.tmp 17) 0, none⟩,
 ⟨some 19, .ld (.tmp 18), none⟩,
 ⟨some 20, .iad (.tmp 19) (.const (.int .i64 0)) 1, none⟩,
 ⟨some 21, .ld (.tmp 20), none⟩,
 ⟨some 22, .bin .neq (.tmp 21) (.const (.int .u8 0)), none⟩,
 ⟨some 3, .mv (.tmp 22), none⟩])
 (.seq (.blk [⟨some 23, .mv (.tmp 0), none⟩,
 ⟨some 24, .mv (.tmp 0), none⟩,
 ⟨some 25, .nilc (.tmp 24), none⟩,
 ⟨some 26, .fad (.tmp 25) 0, none⟩,
 ⟨some 27, .ld (.tmp 26), none⟩,
 ⟨some 28, .slice (.tmp 27) (some (.const (.int .i64 1))) none none 1, none⟩,
 ⟨some 29, .nilc (.tmp 23), none⟩,
 ⟨some 30, .fad (.tmp 29) 0, none⟩,
 ⟨none, .st (.tmp 30) 1 (.tmp 28), none⟩])
 (.seq (.blk [⟨some 31, .mv (.tmp 3), none⟩,
 ⟨some 2, .mv (.tmp 31), none⟩])
 (.ret))))),
 [.tmp 2], 32)
def ir_rInt8 (_F : Nat → Nat) : IC × List RV × Nat := (.seq (.blk [⟨some 2, .mv (.const (.int .i8 0)), none⟩])
 (.seq (.seq (.blk [⟨some 4, .mv (.tmp 0), none⟩,
 ⟨some 5, .nilc (.tmp 4), none⟩,
 ⟨some 6, .fad (.tmp 5) 0, none⟩,
 ⟨some 7, .ld (.tmp 6), none⟩,
 ⟨some 8, .len (.tmp 7), none⟩,
 ⟨some 9, .bin .lss (.tmp 8) (.const (.int .i64 1)), none⟩])
 (.cond (.tmp 9)
 (.seq (.blk [⟨some 10, .mv (.tmp 0), none⟩,
 ⟨some 11, .nilc (.tmp 10), none⟩,
 ⟨some 12, .fad (.tmp 11) 1, none⟩,
 ⟨none, .st (.tmp 12) 1 (.const (.bool true)), none⟩])
 (.seq (.blk [⟨some 13, .mv (.tmp 0), none⟩,
 ⟨some 14, .nilc (.tmp 13), none⟩,
 ⟨some 15, .fad (.tmp 14) 0, none⟩,
 ⟨none, .st (.tmp 15) 1 (.const (.slice none 0 0)), none⟩])
 (.seq (.blk [⟨some 2, .mv (.const (.int .i8 0)), none⟩])
 (.ret))))
 (.skip)))
 (.seq (.blk [⟨some 16, .mv (.tmp 0), none⟩,
 ⟨some 17, .nilc (.tmp 16), none⟩,
 ⟨some 18, .fad (.tmp 17) 0, none⟩,
 ⟨some 19, .ld (.tmp 18), none⟩,
 ⟨some 20, .iad (.tmp 19) (.const (.int .i64 0)) 1, none⟩,
 ⟨some 21, .ld (.tmp 20), none⟩,
 ⟨some 3, .mv (.tmp 21), none⟩])
 (.seq (.blk [⟨some 22, .mv (.tmp 0), none⟩,
 ⟨some 23, .mv (.tmp 0), none⟩,
 ⟨some 24, .nilc (.tmp 23), none⟩,
 ⟨some 25, .fad (.tmp 24) 0, none⟩,
 ⟨some 26, .ld (.tmp 25), none⟩,
 ⟨some 27, .slice (.tmp 26) (some (.const (.int .i64 1))) none none 1, none⟩,
 ⟨some 28, .nilc (.tmp 22), none⟩,
 ⟨some 29, .fad (.tmp 28) 0, none⟩,
 ⟨none, .st (.tmp 29) 1 (.tmp 27), none⟩])
 (.seq (.blk [⟨some 30, .mv (.tmp 3), none⟩,
 ⟨some 31, .conv .i8 (.tmp 30), none⟩,
 ⟨some 2, .mv (.tmp 31), none⟩])
 (.ret))))),
 [.tmp 2], 32)
def ir_rUint16 (F : Nat → Nat) : IC × List RV × Nat := (.seq (.blk [⟨some 2, .mv (.const (.int .u16 0)), none⟩])
 (.seq (.seq (.blk [⟨some 4, .mv (.tmp 0), none⟩,
 ⟨some 5, .nilc (.tmp 4), none⟩,
 ⟨some 6, .fad (.tmp 5) 0, none⟩,
 ⟨some 7, .ld (.tmp 6), none⟩,
 ⟨some 8, .len (.tmp 7), none⟩,
 ⟨some 9, .bin .lss (.tmp 8) (.const (.int .i64 2)), none⟩])
 (.cond (.tmp 9)
 (.seq (.blk [⟨some 10, .mv (.tmp 0), none⟩,
 ⟨some 11, .nilc (.tmp 10), none⟩,
 ⟨some 12, .fad (.tmp 11) 1, none⟩,
 ⟨none, .st (.tmp 12) 1 (.const (.bool true)), none⟩])
 (.seq (.blk [⟨some 13, .mv (.tmp 0), none⟩,
 ⟨some 14, .nilc (.tmp 13), none⟩,
 ⟨some 15, .fad (.tmp 14) 0, none⟩,
 ⟨none, .st (.tmp 15) 1 (.const (.slice none 0 0)), none⟩])
 (.seq (.blk [⟨some 2, .mv (.const (.int .u16 0)), none⟩])
 (.ret))))
 (.skip)))
 (.seq (.drw [⟨⟨some 16, .ldn (.global (F gBig)) 0, none⟩, false, []⟩,
 ⟨⟨some 17, .mv (.tmp 0), none⟩, false, []⟩,
 ⟨⟨some 18, .nilc (.tmp 17), none⟩, false, []⟩,
 ⟨⟨some 19, .fad (.tmp 18) 0, none⟩, false, []⟩,
 ⟨⟨some 20, .ld (.tmp 19), none⟩, false, []⟩,
 ⟨⟨some 21, .call (F beUint16) [.tmp 16, .tmp 20], none⟩, true, []⟩,
 ⟨⟨some 3, .mv (.tmp 21), none⟩, false, [5]⟩]
 [])
 (.seq (.blk [⟨some 22, .mv (.tmp 0), none⟩,
 ⟨some 23, .mv (.tmp 0), none⟩,
 ⟨some 24, .nilc (.tmp 23), none⟩,
 ⟨some 25, .fad (.tmp 24) 0, none⟩,
 ⟨some 26, .ld (.tmp 25), none⟩,
 ⟨some 27, .slice (.tmp 26) (some (.const (.int .i64 2))) none none 1, none⟩,
 ⟨some 28, .nilc (.tmp 22), none⟩,
 ⟨some 29, .fad (.tmp 28) 0, none⟩,
 ⟨none, .st (.tmp 29) 1 (.tmp 27), none⟩])
 (.seq (.blk [⟨some 30, .mv (.tmp 3), none⟩,
 ⟨some 2, .mv (.tmp 30), none⟩])
 (.ret))))),
 [.tmp 2], 31)
def ir_rInt64 (F : Nat → Nat) : IC × List RV × Nat := (.seq (.blk [⟨some 2, .mv (.const (.int .i64 0)), none⟩])
 (.seq (.blk [⟨some 3, .mv (.tmp 0), none⟩,
 ⟨some 4, .call (F rReadUint64) [.tmp 3], none⟩,
 ⟨some 5, .conv .i64 (.tmp 4), none⟩,
 ⟨some 2, .mv (.tmp 5), none⟩])
 (.ret)),
 [.tmp 2], 6)
def ir_rReadUint64 (F : Nat → Nat) : IC × List RV × Nat := (.seq (.blk [⟨some 2, .mv (.const (.int .u64 0)), none⟩])
 (.seq (.seq (.blk [⟨some 4, .mv (.tmp 0), none⟩,
 ⟨some 5, .nilc (.tmp 4), none⟩,
 ⟨some 6, .fad (.tmp 5) 0, none⟩,
 ⟨some 7, .ld (.tmp 6), none⟩,
 ⟨some 8, .len (.tmp 7), none⟩,
 ⟨some 9, .bin .lss (.tmp 8) (.const (.int .i64 8)), none⟩])
 (.cond (.tmp 9)
 (.seq (.blk [⟨some 10, .mv (.tmp 0), none⟩,
 ⟨some 11, .nilc (.tmp 10), none⟩,
 ⟨some 12, .fad (.tmp 11) 1, none⟩,
 ⟨none, .st (.tmp 12) 1 (.const (.bool true)), none⟩])
 (.seq (.blk [⟨some 13, .mv (.tmp 0), none⟩,
 ⟨some 14, .nilc (.tmp 13), none⟩,
 ⟨some 15, .fad (.tmp 14) 0, none⟩,
 ⟨none, .st (.tmp 15) 1 (.const (.slice none 0 0)), none⟩])
 (.seq (.blk [⟨some 2, .mv (.const (.int .u64 0)), none⟩])
 (.ret))))
 (.skip)))
 (.seq (.drw [⟨⟨some 16, .ldn (.global (F gBig)) 0, none⟩, false, []⟩,
 ⟨⟨some 17, .mv (.tmp 0), none⟩, false, []⟩,
 ⟨⟨some 18, .nilc (.tmp 17), none⟩, false, []⟩,
 ⟨⟨some 19, .fad (.tmp 18) 0, none⟩, false, []⟩,
 ⟨⟨some 20, .ld (.tmp 19), none⟩, false, []⟩,
 ⟨⟨some 21, .call (F beUint64) [.tmp 16, .tmp 20], none⟩, true, []⟩,
 ⟨⟨some 3, .mv (.tmp 21), none⟩, false, [5]⟩]
 [])
 (.seq (.blk [⟨some 22, .mv (.tmp 0), none⟩,
 ⟨some 23, .mv (.tmp 0), none⟩,
 ⟨some 24, .nilc (.tmp 23), none⟩,
 ⟨some 25, .fad (.tmp 24) 0, none⟩,
 ⟨some 26, .ld (.tmp 25), none⟩,
 ⟨some 27, .slice (.tmp 26) (some (.const (.int .i64 8))) none none 1, none⟩,
 ⟨some 28, .nilc (.tmp 22), none⟩,
 ⟨some 29, .fad (.tmp 28) 0, none⟩,
 ⟨none, .st (.tmp 29) 1 (.tmp 27), none⟩])
 (.seq (.blk [⟨some 30, .mv (.tmp 3), none⟩,
 ⟨some 2, .mv (.tmp 30), none⟩])
 (.ret))))),
 [.tmp 2], 31)
def ir_beUint64 (_F : Nat → Nat) : IC × List RV × Nat := (.seq (.blk [⟨some 2, .box (.tmp 0), none⟩,
 ⟨some 4, .mv (.const (.int .u64 0)), none⟩])
 (.seq (.blk [⟨some 5, .mv (.tmp 1), none⟩,
 ⟨some 6, .iad (.tmp 5) (.const (.int .i64 7)) 1, none⟩,
 ⟨some 7, .ld (.tmp 6), none⟩])
 (.seq (.drw [⟨⟨some 8, .mv (.tmp 1), none⟩, false, []⟩,
 ⟨⟨some 9, .iad (.tmp 8) (.const (.int .i64 7)) 1, none⟩, false, []⟩,
 ⟨⟨some 10, .ld (.tmp 9), none⟩, false, []⟩,
 ⟨⟨some 11, .conv .u64 (.tmp 10), none⟩, false, []⟩,
 ⟨⟨some 12, .mv (.tmp 1), none⟩, false, []⟩,
 ⟨⟨some 13, .iad (.tmp 12) (.const (.int .i64 6)) 1, none⟩, false, []⟩,
 ⟨⟨some 14, .ld (.tmp 13), none⟩, false, []⟩,
 ⟨⟨some 15, .conv .u64 (.tmp 14), none⟩, false, []⟩,
 ⟨⟨some 16, .bin .shl (.tmp 15) (.const (.int .u64 8)), none⟩, false, []⟩,
 ⟨⟨some 17, .bin .or (.tmp 11) (.tmp 16), none⟩, false, []⟩,
 ⟨⟨some 18, .mv (.tmp 1), none⟩, false, []⟩,
 ⟨⟨some 19, .iad (.tmp 18) (.const (.int .i64 5)) 1, none⟩, false, []⟩,
 ⟨⟨some 20, .ld (.tmp 19), none⟩, false, []⟩,
 ⟨⟨some 21, .conv .u64 (.tmp 20), none⟩, false, []⟩,
 ⟨⟨some 22, .bin .shl (.tmp 21) (.const (.int .u64 16)), none⟩, false, []⟩,
 ⟨⟨some 23, .bin .or (.tmp 17) (.tmp 22), none⟩, false, []⟩,
 ⟨⟨some 24, .mv (.tmp 1), none⟩, false, []⟩,
 ⟨⟨some 25, .iad (.tmp 24) (.const (.int .i64 4)) 1, none⟩, false, []⟩,
 ⟨⟨some 26, .ld (.tmp 25), none⟩, false, []⟩,
 ⟨⟨some 27, .conv .u64 (.tmp 26), none⟩, false, []⟩,
 ⟨⟨some 28, .bin .shl (.tmp 27) (.const (.int .u64 24)), none⟩, false, []⟩,
 ⟨⟨some 29, .bin .or (.tmp 23) (.tmp 28), none⟩, false, []⟩,
 ⟨⟨some 30, .mv (.tmp 1), none⟩, false, []⟩,
 ⟨⟨some 31, .iad (.tmp 30) (.const (.int .i64 3)) 1, none⟩, false, []⟩,
 ⟨⟨some 32, .ld (.tmp 31), none⟩, false, []⟩,
 ⟨⟨some 33, .conv .u64 (.tmp 32), none⟩, false, []⟩,
 ⟨⟨some 34, .bin .shl (.tmp 33) (.const (.int .u64 32)), none⟩, false, []⟩,
 ⟨⟨some 35, .bin .or (.tmp 29) (.tmp 34), none⟩, false, []⟩,
 ⟨⟨some 36, .mv (.tmp 1), none⟩, false, []⟩,
 ⟨⟨some 37, .iad (.tmp 36) (.const (.int .i64 2)) 1, none⟩, false, []⟩,
 ⟨⟨some 38, .ld (.tmp 37), none⟩, false, []⟩,
 ⟨⟨some 39, .conv .u64 (.tmp 38), none⟩, false, []⟩,
 ⟨⟨some 40, .bin .shl (.tmp 39) (.const (.int .u64 40)), none⟩, false, []⟩,
 ⟨⟨some 41, .bin .or (.tmp 35) (.tmp 40), none⟩, false, []⟩,
 ⟨⟨some 42, .mv (.tmp 1), none⟩, false, []⟩,
 ⟨⟨some 43, .iad (.tmp 42) (.const (.int .i64 1)) 1, none⟩, false, []⟩,
 ⟨⟨some 44, .ld (.tmp 43), none⟩, false, []⟩,
 ⟨⟨some 45, .conv .u64 (.tmp 44), none⟩, false, []⟩,
 ⟨⟨some 46, .bin .shl (.tmp 45) (.const (.int .u64 48)), none⟩, false, []⟩,
 ⟨⟨some 47, .bin .or (.tmp 41) (.tmp 46), none⟩, false, []⟩,
 ⟨⟨some 48, .mv (.tmp 1), none⟩, false, []⟩,
 ⟨⟨some 49, .iad (.tmp 48) (.const (.int .i64 0)) 1, none⟩, false, []⟩,
 ⟨⟨some 50, .ld (.tmp 49), none⟩, false, []⟩,
 ⟨⟨some 51, .conv .u64 (.tmp 50), none⟩, false, []⟩,
 ⟨⟨some 52, .bin .shl (.tmp 51) (.const (.int .u64 56)), none⟩, false, []⟩,
 ⟨⟨some 53, .bin .or (.tmp 47) (.tmp 52), none⟩, false, []⟩,
 ⟨⟨some 4, .mv (.tmp 53), none⟩, false, []⟩]
 [])
 (.ret))),
 [.tmp 4], 54)
def ir_rUuid (F : Nat → Nat) : IC × List RV × Nat := (.seq (.blk [⟨some 2, .alloc [.int .u8 0, .int .u8 0, .int .u8 0, .int .u8 0, .int .u8 0, .int .u8 0, .int .u8 0, .int .u8 0, .int .u8 0, .int .u8 0, .int .u8 0, .int .u8 0, .int .u8 0, .int .u8 0, .int .u8 0, .int .u8 0], none⟩])
 (.seq (.blk [⟨some 3, .alloc [.int .u8 0, .int .u8 0, .int .u8 0, .int .u8 0, .int .u8 0, .int .u8 0, .int .u8 0, .int .u8 0, .int .u8 0, .int .u8 0, .int .u8 0, .int .u8 0, .int .u8 0, .int .u8 0, .int .u8 0, .int .u8 0], none⟩])
 (.seq (.drw [⟨⟨some 4, .slicea (.tmp 3) 16, none⟩, false, []⟩,
 ⟨⟨some 5, .mv (.tmp 0), none⟩, false, []⟩,
 ⟨⟨some 6, .call (F rSpan) [.tmp 5, .const (.int .i64 16)], none⟩, true, []⟩]
 [⟨some 7, .copy (.tmp 4) (.tmp 6) 1, none⟩])
 (.seq (.blk [⟨some 8, .ldn (.tmp 3) 16, none⟩,
 ⟨none, .st (.tmp 2) 16 (.tmp 8), none⟩])
 (.ret)))),
 [.cells 2 16], 9)
def ir_rUvarint (F : Nat → Nat) : IC × List RV × Nat := (.seq (.blk [⟨some 2, .mv (.const (.int .u32 0)), none⟩])
 (.seq (.blk [⟨some 6, .mv (.tmp 0), none⟩,
 ⟨some 7, .nilc (.tmp 6), none⟩,
 ⟨some 8, .fad (.tmp 7) 0, none⟩,
 ⟨some 9, .ld (.tmp 8), none⟩,
 ⟨some 10, .call (F kUvarint) [.tmp 9], none⟩,
 ⟨some 5, .mv (.tmp 10), none⟩,
 ⟨some 11, .ext (.tmp 5) 0, none⟩,
 ⟨some 12, .ext (.tmp 5) 1, none⟩,
 ⟨some 3, .mv (.tmp 11), none⟩,
 ⟨some 4, .mv (.tmp 12), none⟩])
 (.seq (.seq (.blk [⟨some 13, .mv (.tmp 4), none⟩,
 ⟨some 14, .bin .leq (.tmp 13) (.const (.int .i64 0)), none⟩])
 (.cond (.tmp 14)
 (.seq (.blk [⟨some 15, .mv (.tmp 0), none⟩,
 ⟨some 16, .nilc (.tmp 15), none⟩,
 ⟨some 17, .fad (.tmp 16) 1, none⟩,
 ⟨none, .st (.tmp 17) 1 (.const (.bool true)), none⟩])
 (.seq (.blk [⟨some 18, .mv (.tmp 0), none⟩,
 ⟨some 19, .nilc (.tmp 18), none⟩,
 ⟨some 20, .fad (.tmp 19) 0, none⟩,
 ⟨none, .st (.tmp 20) 1 (.const (.slice none 0 0)), none⟩])
 (.seq (.blk [⟨some 2, .mv (.const (.int .u32 0)), none⟩])
 (.ret))))
 (.skip)))
 (.seq (.blk [⟨some 21, .mv (.tmp 0), none⟩,
 ⟨some 22, .mv (.tmp 0), none⟩,
 ⟨some 23, .nilc (.tmp 22), none⟩,
 ⟨some 24, .fad (.tmp 23) 0, none⟩,
 ⟨some 25, .ld (.tmp 24), none⟩,
 ⟨some 26, .mv (.tmp 4), none⟩,
 ⟨some 27, .slice (.tmp 25) (some (.tmp 26)) none none 1, none⟩,
 ⟨some 28, .nilc (.tmp 21), none⟩,
 ⟨some 29, .fad (.tmp 28) 0, none⟩,
 ⟨none, .st (.tmp 29) 1 (.tmp 27), none⟩])
 (.seq (.blk [⟨some 30, .mv (.tmp 3), none⟩,
 ⟨some 2, .mv (.tmp 30), none⟩])
 (.ret))))),
 [.tmp 2], 31)
def ir_kUvarint (_F : Nat → Nat) : IC × List RV × Nat := (.seq (.blk [⟨some 2, .mv (.const (.int .u32 0)), none⟩,
 ⟨some 3, .mv (.const (.int .i64 0)), none⟩])
 (.scopeTo (.seq (.blk [⟨some 4, .mv (.const (.int .u32 0)), none⟩])
 (.seq (.blk [⟨some 5, .mv (.const (.int .i64 0)), none⟩])
 (.seq (.seq (.blk [⟨some 6, .mv (.tmp 0), none⟩,
 ⟨some 7, .len (.tmp 6), none⟩,
 ⟨some 8, .bin .lss (.tmp 7) (.const (.int .i64 1)), none⟩])
 (.cond (.tmp 8)
 (.goto 0)
 (.skip)))
 (.seq (.blk [⟨some 9, .mv (.tmp 0), none⟩,
 ⟨some 10, .iad (.tmp 9) (.const (.int .i64 0)) 1, none⟩,
 ⟨some 11, .ld (.tmp 10), none⟩,
 ⟨some 12, .bin .and (.tmp 11) (.const (.int .u8 127)), none⟩,
 ⟨some 13, .conv .u32 (.tmp 12), none⟩,
 ⟨some 4, .mv (.tmp 13), none⟩])
 (.seq (.seq (.blk [⟨some 14, .mv (.tmp 0), none⟩,
 ⟨some 15, .iad (.tmp 14) (.const (.int .i64 0)) 1, none⟩,
 ⟨some 16, .ld (.tmp 15), none⟩,
 ⟨some 17, .bin .and (.tmp 16) (.const (.int .u8 128)), none⟩,
 ⟨some 18, .bin .eql (.tmp 17) (.const (.int .u8 0)), none⟩])
 (.cond (.tmp 18)
 (.seq (.blk [⟨some 19, .mv (.tmp 4), none⟩,
 ⟨some 2, .mv (.tmp 19), none⟩,
 ⟨some 3, .mv (.const (.int .i64 1)), none⟩])
 (.ret))
 (.seq (.blk [⟨some 20, .mv (.tmp 0), none⟩,
 ⟨some 21, .len (.tmp 20), none⟩,
 ⟨some 22, .bin .lss (.tmp 21) (.const (.int .i64 2)), none⟩])
 (.cond (.tmp 22)
 (.goto 0)
 (.skip)))))
 (.seq (.blk [⟨some 23, .mv (.tmp 4), none⟩,
 ⟨some 24, .mv (.tmp 0), none⟩,
 ⟨some 25, .iad (.tmp 24) (.const (.int .i64 1)) 1, none⟩,
 ⟨some 26, .ld (.tmp 25), none⟩,
 ⟨some 27, .bin .and (.tmp 26) (.const (.int .u8 127)), none⟩,
 ⟨some 28, .conv .u32 (.tmp 27), none⟩,
 ⟨some 29, .bin .shl (.tmp 28) (.const (.int .u64 7)), none⟩,
 ⟨some 30, .bin .or (.tmp 23) (.tmp 29), none⟩,
 ⟨some 4, .mv (.tmp 30), none⟩])
 (.seq (.seq (.blk [⟨some 31, .mv (.tmp 0), none⟩,
 ⟨some 32, .iad (.tmp 31) (.const (.int .i64 1)) 1, none⟩,
 ⟨some 33, .ld (.tmp 32), none⟩,
 ⟨some 34, .bin .and (.tmp 33) (.const (.int .u8 128)), none⟩,
 ⟨some 35, .bin .eql (.tmp 34) (.const (.int .u8 0)), none⟩])
 (.cond (.tmp 35)
 (.seq (.blk [⟨some 36, .mv (.tmp 4), none⟩,
 ⟨some 2, .mv (.tmp 36), none⟩,
 ⟨some 3, .mv (.const (.int .i64 2)), none⟩])
 (.ret))
 (.seq (.blk [⟨some 37, .mv (.tmp 0), none⟩,
 ⟨some 38, .len (.tmp 37), none⟩,
 ⟨some 39, .bin .lss (.tmp 38) (.const (.int .i64 3)), none⟩])
 (.cond (.tmp 39)
 (.goto 0)
 (.skip)))))
 (.seq (.blk [⟨some 40, .mv (.tmp 4), none⟩,
 ⟨some 41, .mv (.tmp 0), none⟩,
 ⟨some 42, .iad (.tmp 41) (.const (.int .i64 2)) 1, none⟩,
 ⟨some 43, .ld (.tmp 42), none⟩,
 ⟨some 44, .bin .and (.tmp 43) (.const (.int .u8 127)), none⟩,
 ⟨some 45, .conv .u32 (.tmp 44), none⟩,
 ⟨some 46, .bin .shl (.tmp 45) (.const (.int .u64 14)), none⟩,
 ⟨some 47, .bin .or (.tmp 40) (.tmp 46), none⟩,
 ⟨some 4, .mv (.tmp 47), none⟩])
 (.seq (.seq (.blk [⟨some 48, .mv (.tmp 0), none⟩,
 ⟨some 49, .iad (.tmp 48) (.const (.int .i64 2)) 1, none⟩,
 ⟨some 50, .ld (.tmp 49), none⟩,
 ⟨some 51, .bin .and (.tmp 50) (.const (.int .u8 128)), none⟩,
 ⟨some 52, .bin .eql (.tmp 51) (.const (.int .u8 0)), none⟩])
 (.cond (.tmp 52)
 (.seq (.blk [⟨some 53, .mv (.tmp 4), none⟩,
 ⟨some 2, .mv (.tmp 53), none⟩,
 ⟨some 3, .mv (.const (.int .i64 3)), none⟩])
 (.ret))
 (.seq (.blk [⟨some 54, .mv (.tmp 0), none⟩,
 ⟨some 55, .len (.tmp 54), none⟩,
 ⟨some 56, .bin .lss (.tmp 55) (.const (.int .i64 4)), none⟩])
 (.cond (.tmp 56)
 (.goto 0)
 (.skip)))))
 (.seq (.blk [⟨some 57, .mv (.tmp 4), none⟩,
 ⟨some 58, .mv (.tmp 0), none⟩,
 ⟨some 59, .iad (.tmp 58) (.const (.int .i64 3)) 1, none⟩,
 ⟨some 60, .ld (.tmp 59), none⟩,
 ⟨some 61, .bin .and (.tmp 60) (.const (.int .u8 127)), none⟩,
 ⟨some 62, .conv .u32 (.tmp 61), none⟩,
 ⟨some 63, .bin .shl (.tmp 62) (.const (.int .u64 21)), none⟩,
 ⟨some 64, .bin .or (.tmp 57) (.tmp 63), none⟩,
 ⟨some 4, .mv (.tmp 64), none⟩])
 (.seq (.seq (.blk [⟨some 65, .mv (.tmp 0), none⟩,
 ⟨some 66, .iad (.tmp 65) (.const (.int .i64 3)) 1, none⟩,
 ⟨some 67, .ld (.tmp 66), none⟩,
 ⟨some 68, .bin .and (.tmp 67) (.const (.int .u8 128)), none⟩,
 ⟨some 69, .bin .eql (.tmp 68) (.const (.int .u8 0)), none⟩])
 (.cond (.tmp 69)
 (.seq (.blk [⟨some 70, .mv (.tmp 4), none⟩,
 ⟨some 2, .mv (.tmp 70), none⟩,
 ⟨some 3, .mv (.const (.int .i64 4)), none⟩])
 (.ret))
 (.seq (.blk [⟨some 71, .mv (.tmp 0), none⟩,
 ⟨some 72, .len (.tmp 71), none⟩,
 ⟨some 73, .bin .lss (.tmp 72) (.const (.int .i64 5)), none⟩])
 (.cond (.tmp 73)
 (.goto 0)
 (.skip)))))
 (.seq (.blk [⟨some 74, .mv (.tmp 4), none⟩,
 ⟨some 75, .mv (.tmp 0), none⟩,
 ⟨some 76, .iad (.tmp 75) (.const (.int .i64 4)) 1, none⟩,
 ⟨some 77, .ld (.tmp 76), none⟩,
 ⟨some 78, .conv .u32 (.tmp 77), none⟩,
 ⟨some 79, .bin .shl (.tmp 78) (.const (.int .u64 28)), none⟩,
 ⟨some 80, .bin .or (.tmp 74) (.tmp 79), none⟩,
 ⟨some 4, .mv (.tmp 80), none⟩])
 (.seq (.seq (.blk [⟨some 81, .mv (.tmp 0), none⟩,
 ⟨some 82, .iad (.tmp 81) (.const (.int .i64 4)) 1, none⟩,
 ⟨some 83, .ld (.tmp 82), none⟩,
 ⟨some 84, .bin .leq (.tmp 83) (.const (.int .u8 15)), none⟩])
 (.cond (.tmp 84)
 (.seq (.blk [⟨some 85, .mv (.tmp 4), none⟩,
 ⟨some 2, .mv (.tmp 85), none⟩,
 ⟨some 3, .mv (.const (.int .i64 5)), none⟩])
 (.ret))
 (.skip)))
 (.seq (.blk [⟨some 5, .mv (.const (.int .i64 (-5))), none⟩])
 (.seq (.skip)
 (.seq (.blk [⟨some 86, .mv (.tmp 5), none⟩,
 ⟨some 2, .mv (.const (.int .u32 0)), none⟩,
 ⟨some 3, .mv (.tmp 86), none⟩])
 (.ret))))))))))))))))) 0
 (.seq (.skip)
 (.seq (.blk [⟨some 86, .mv (.tmp 5), none⟩,
 ⟨some 2, .mv (.const (.int .u32 0)), none⟩,
 ⟨some 3, .mv (.tmp 86), none⟩])
 (.ret)))),
 [.tmp 2, .tmp 3], 87)
def ir_rCompactString (F : Nat → Nat) : IC × List RV × Nat := (.seq (.blk [⟨some 2, .mv (.const (.string .empty)), none⟩])
 (.seq (.blk [⟨some 4, .mv (.tmp 0), none⟩,
 ⟨some 5, .call (F rUvarint) [.tmp 4], none⟩,
 ⟨some 6, .conv .i64 (.tmp 5), none⟩,
 ⟨some 7, .bin .sub (.tmp 6) (.const (.int .i64 1)), none⟩,
 ⟨some 3, .mv (.tmp 7), none⟩])
 (.seq (.blk [⟨some 8, .mv (.tmp 0), none⟩,
 ⟨some 9, .mv (.tmp 3), none⟩,
 ⟨some 10, .call (F rSpan) [.tmp 8, .tmp 9], none⟩,
 ⟨some 11, .b2s (.tmp 10), none⟩,
 ⟨some 2, .mv (.tmp 11), none⟩])
 (.ret))),
 [.tmp 2], 12)
def ir_rUnsafeCompactString (F : Nat → Nat) : IC × List RV × Nat := (.seq (.blk [⟨some 2, .mv (.const (.string .empty)), none⟩])
 (.seq (.blk [⟨some 4, .mv (.tmp 0), none⟩,
 ⟨some 5, .call (F rUvarint) [.tmp 4], none⟩,
 ⟨some 6, .conv .i64 (.tmp 5), none⟩,
 ⟨some 7, .bin .sub (.tmp 6) (.const (.int .i64 1)), none⟩,
 ⟨some 3, .mv (.tmp 7), none⟩])
 (.seq (.blk [⟨some 8, .mv (.tmp 0), none⟩,
 ⟨some 9, .mv (.tmp 3), none⟩,
 ⟨some 10, .call (F rSpan) [.tmp 8, .tmp 9], none⟩,
 ⟨some 11, .call (F kUnsafeString) [.tmp 10], none⟩,
 ⟨some 2, .mv (.tmp 11), none⟩])
 (.ret))),
 [.tmp 2], 12)
def ir_rCompactNullableString (F : Nat → Nat) : IC × List RV × Nat := (.seq (.blk [⟨some 2, .mv (.const (.pointer none)), none⟩])
 (.seq (.blk [⟨some 5, .mv (.tmp 0), none⟩,
 ⟨some 6, .call (F rUvarint) [.tmp 5], none⟩,
 ⟨some 7, .conv .i64 (.tmp 6), none⟩,
 ⟨some 8, .bin .sub (.tmp 7) (.const (.int .i64 1)), none⟩,
 ⟨some 3, .mv (.tmp 8), none⟩])
 (.seq (.seq (.blk [⟨some 9, .mv (.tmp 3), none⟩,
 ⟨some 10, .bin .lss (.tmp 9) (.const (.int .i64 0)), none⟩])
 (.cond (.tmp 10)
 (.seq (.blk [⟨some 2, .mv (.const (.pointer none)), none⟩])
 (.ret))
 (.skip)))
 (.seq (.blk [⟨some 11, .mv (.tmp 0), none⟩,
 ⟨some 12, .mv (.tmp 3), none⟩,
 ⟨some 13, .call (F rSpan) [.tmp 11, .tmp 12], none⟩,
 ⟨some 14, .b2s (.tmp 13), none⟩,
 ⟨some 4, .alloc [.string .empty], none⟩,
 ⟨none, .st (.tmp 4) 1 (.tmp 14), none⟩])
 (.seq (.blk [⟨some 2, .mv (.tmp 4), none⟩])
 (.ret))))),
 [.tmp 2], 15)
def ir_rUnsafeCompactNullableString (F : Nat → Nat) : IC × List RV × Nat := (.seq (.blk [⟨some 2, .mv (.const (.pointer none)), none⟩])
 (.seq (.blk [⟨some 5, .mv (.tmp 0), none⟩,
 ⟨some 6, .call (F rUvarint) [.tmp 5], none⟩,
 ⟨some 7, .conv .i64 (.tmp 6), none⟩,
 ⟨some 8, .bin .sub (.tmp 7) (.const (.int .i64 1)), none⟩,
 ⟨some 3, .mv (.tmp 8), none⟩])
 (.seq (.seq (.blk [⟨some 9, .mv (.tmp 3), none⟩,
 ⟨some 10, .bin .lss (.tmp 9) (.const (.int .i64 0)), none⟩])
 (.cond (.tmp 10)
 (.seq (.blk [⟨some 2, .mv (.const (.pointer none)), none⟩])
 (.ret))
 (.skip)))
 (.seq (.blk [⟨some 11, .mv (.tmp 0), none⟩,
 ⟨some 12, .mv (.tmp 3), none⟩,
 ⟨some 13, .call (F rSpan) [.tmp 11, .tmp 12], none⟩,
 ⟨some 14, .call (F kUnsafeString) [.tmp 13], none⟩,
 ⟨some 4, .alloc [.string .empty], none⟩,
 ⟨none, .st (.tmp 4) 1 (.tmp 14), none⟩])
 (.seq (.blk [⟨some 2, .mv (.tmp 4), none⟩])
 (.ret))))),
 [.tmp 2], 15)
def ir_rBytes (F : Nat → Nat) : IC × List RV × Nat := (.seq (.blk [⟨some 2, .mv (.const (.slice none 0 0)), none⟩])
 (.seq (.blk [⟨some 4, .mv (.tmp 0), none⟩,
 ⟨some 5, .call (F rInt32) [.tmp 4], none⟩,
 ⟨some 3, .mv (.tmp 5), none⟩])
 (.seq (.seq (.blk [⟨some 6, .mv (.tmp 3), none⟩,
 ⟨some 7, .bin .eql (.tmp 6) (.const (.int .i32 (-1))), none⟩])
 (.cond (.tmp 7)
 (.seq (.blk [⟨some 8, .bslice 0 [.int .u8 0] [], none⟩,
 ⟨some 2, .mv (.tmp 8), none⟩])
 (.ret))
 (.skip)))
 (.seq (.blk [⟨some 9, .mv (.tmp 0), none⟩,
 ⟨some 10, .mv (.tmp 3), none⟩,
 ⟨some 11, .conv .i64 (.tmp 10), none⟩,
 ⟨some 12, .call (F rSpan) [.tmp 9, .tmp 11], none⟩,
 ⟨some 2, .mv (.tmp 12), none⟩])
 (.ret)))),
 [.tmp 2], 13)
def ir_rCompactBytes (F : Nat → Nat) : IC × List RV × Nat := (.seq (.blk [⟨some 2, .mv (.const (.slice none 0 0)), none⟩])
 (.seq (.blk [⟨some 4, .mv (.tmp 0), none⟩,
 ⟨some 5, .call (F rUvarint) [.tmp 4], none⟩,
 ⟨some 6, .conv .i64 (.tmp 5), none⟩,
 ⟨some 7, .bin .sub (.tmp 6) (.const (.int .i64 1)), none⟩,
 ⟨some 3, .mv (.tmp 7), none⟩])
 (.seq (.seq (.blk [⟨some 8, .mv (.tmp 3), none⟩,
 ⟨some 9, .bin .eql (.tmp 8) (.const (.int .i64 (-1))), none⟩])
 (.cond (.tmp 9)
 (.seq (.blk [⟨some 10, .bslice 0 [.int .u8 0] [], none⟩,
 ⟨some 2, .mv (.tmp 10), none⟩])
 (.ret))
 (.skip)))
 (.seq (.blk [⟨some 11, .mv (.tmp 0), none⟩,
 ⟨some 12, .mv (.tmp 3), none⟩,
 ⟨some 13, .call (F rSpan) [.tmp 11, .tmp 12], none⟩,
 ⟨some 2, .mv (.tmp 13), none⟩])
 (.ret)))),
 [.tmp 2], 14)
def ir_rCompactNullableBytes (F : Nat → Nat) : IC × List RV × Nat := (.seq (.blk [⟨some 2, .mv (.const (.slice none 0 0)), none⟩])
 (.seq (.blk [⟨some 5, .mv (.tmp 0), none⟩,
 ⟨some 6, .call (F rUvarint) [.tmp 5], none⟩,
 ⟨some 7, .conv .i64 (.tmp 6), none⟩,
 ⟨some 8, .bin .sub (.tmp 7) (.const (.int .i64 1)), none⟩,
 ⟨some 3, .mv (.tmp 8), none⟩])
 (.seq (.seq (.blk [⟨some 9, .mv (.tmp 3), none⟩,
 ⟨some 10, .bin .lss (.tmp 9) (.const (.int .i64 0)), none⟩])
 (.cond (.tmp 10)
 (.seq (.blk [⟨some 2, .mv (.const (.slice none 0 0)), none⟩])
 (.ret))
 (.skip)))
 (.seq (.blk [⟨some 11, .mv (.tmp 0), none⟩,
 ⟨some 12, .mv (.tmp 3), none⟩,
 ⟨some 13, .call (F rSpan) [.tmp 11, .tmp 12], none⟩,
 ⟨some 4, .mv (.tmp 13), none⟩])
 (.seq (.blk [⟨some 14, .mv (.tmp 4), none⟩,
 ⟨some 2, .mv (.tmp 14), none⟩])
 (.ret))))),
 [.tmp 2], 15)
def ir_rCompactArrayLen (F : Nat → Nat) : IC × List RV × Nat := (.seq (.blk [⟨some 2, .mv (.const (.int .i32 0)), none⟩])
 (.seq (.blk [⟨some 4, .mv (.tmp 0), none⟩,
 ⟨some 5, .call (F rUvarint) [.tmp 4], none⟩,
 ⟨some 6, .conv .i32 (.tmp 5), none⟩,
 ⟨some 7, .bin .sub (.tmp 6) (.const (.int .i32 1)), none⟩,
 ⟨some 3, .mv (.tmp 7), none⟩])
 (.seq (.seq (.blk [⟨some 8, .mv (.tmp 0), none⟩,
 ⟨some 9, .nilc (.tmp 8), none⟩,
 ⟨some 10, .fad (.tmp 9) 0, none⟩,
 ⟨some 11, .ld (.tmp 10), none⟩,
 ⟨some 12, .len (.tmp 11), none⟩,
 ⟨some 13, .mv (.tmp 3), none⟩,
 ⟨some 14, .conv .i64 (.tmp 13), none⟩,
 ⟨some 15, .bin .lss (.tmp 12) (.tmp 14), none⟩])
 (.cond (.tmp 15)
 (.seq (.blk [⟨some 16, .mv (.tmp 0), none⟩,
 ⟨some 17, .nilc (.tmp 16), none⟩,
 ⟨some 18, .fad (.tmp 17) 1, none⟩,
 ⟨none, .st (.tmp 18) 1 (.const (.bool true)), none⟩])
 (.seq (.blk [⟨some 19, .mv (.tmp 0), none⟩,
 ⟨some 20, .nilc (.tmp 19), none⟩,
 ⟨some 21, .fad (.tmp 20) 0, none⟩,
 ⟨none, .st (.tmp 21) 1 (.const (.slice none 0 0)), none⟩])
 (.seq (.blk [⟨some 2, .mv (.const (.int .i32 0)), none⟩])
 (.ret))))
 (.skip)))
 (.seq (.blk [⟨some 22, .mv (.tmp 3), none⟩,
 ⟨some 2, .mv (.tmp 22), none⟩])
 (.ret)))),
 [.tmp 2], 23)
end Go.Msk

namespace Go.Msk
open Go.RowKit
set_option maxRecDepth 100000
theorem u32_nat {n : Nat} (h : n < 4294967296) : IntKind.u32.wrap (n : Int) = n := by
  simp [IntKind.wrap, IntKind.bits, IntKind.signed]; omega
theorem or_u32 {x y s : Nat} (hx : x < 2 ^ s) (hs : s ≤ 32) (hy : y * 2 ^ s < 4294967296) : intBin .or .u32 (x : Int) ((y * 2 ^ s : Nat) : Int) = some (.int .u32 ((x + y * 2 ^ s : Nat) : Int)) := by
  have h2 : (2 : Nat) ^ s ≤ 2 ^ 32 := Nat.pow_le_pow_right (by omega) hs
  have e := bin_or (k := .u32) rfl (x := x) (y := y * 2 ^ s) (by simp only [IntKind.bits]; omega) (by simpa [IntKind.bits] using hy)
  rw [e, Nat.or_comm, Nat.or_comm, or_add y x s hx, Nat.add_comm]
section
variable {P : Program}
end
end Go.Msk

namespace Go.Msk
open Go.RowKit
set_option maxRecDepth 100000
section
variable {P : Program} {F : Nat → Nat}
theorem i64_small {n : Int} (h1 : -9223372036854775808 ≤ n) (h2 : n < 9223372036854775808) : IntKind.i64.wrap n = n := by
  simp [IntKind.wrap, IntKind.bits, IntKind.signed]; omega
attribute [local simp] bnd wpC wpR RI.wp gOk RK.run thenC inBlockC updo upd ev args0 postC rvals RV.val tup_one isShift
end
end Go.Msk

namespace Go.Msk
def ir_tSet (_F : Nat → Nat) : IC × List RV × Nat := (.seq (.seq (.blk [⟨some 6, .mv (.tmp 0), none⟩,
 ⟨some 7, .nilc (.tmp 6), none⟩,
 ⟨some 8, .fad (.tmp 7) 0, none⟩,
 ⟨some 9, .ld (.tmp 8), none⟩,
 ⟨some 10, .isnil .mp false (.tmp 9), none⟩])
 (.cond (.tmp 10)
 (.blk [⟨some 11, .mv (.tmp 0), none⟩,
 ⟨some 12, .mkmap, none⟩,
 ⟨some 13, .nilc (.tmp 11), none⟩,
 ⟨some 14, .fad (.tmp 13) 0, none⟩,
 ⟨none, .st (.tmp 14) 1 (.tmp 12), none⟩])
 (.skip)))
 (.blk [⟨some 15, .mv (.tmp 0), none⟩,
 ⟨some 16, .nilc (.tmp 15), none⟩,
 ⟨some 17, .fad (.tmp 16) 0, none⟩,
 ⟨some 18, .ld (.tmp 17), none⟩,
 ⟨some 19, .mv (.tmp 1), none⟩,
 ⟨some 20, .mv (.tmp 2), none⟩,
 ⟨none, .mapup (.tmp 18) (.tmp 19) (.tmp 20), none⟩]),
 [], 21)
def ir_tLen (_F : Nat → Nat) : IC × List RV × Nat := (.seq (.blk [⟨some 2, .mv (.const (.int .i64 0)), none⟩])
 (.seq (.blk [⟨some 3, .mv (.tmp 0), none⟩,
 ⟨some 4, .nilc (.tmp 3), none⟩,
 ⟨some 5, .fad (.tmp 4) 0, none⟩,
 ⟨some 6, .ld (.tmp 5), none⟩,
 ⟨some 7, .mlen (.tmp 6), none⟩,
 ⟨some 2, .mv (.tmp 7), none⟩])
 (.ret)),
 [.tmp 2], 8)
def ir_tEach (F : Nat → Nat) : IC × List RV × Nat := (.seq (.seq (.blk [⟨some 8, .mv (.tmp 0), none⟩,
 ⟨some 9, .nilc (.tmp 8), none⟩,
 ⟨some 10, .fad (.tmp 9) 0, none⟩,
 ⟨some 11, .ld (.tmp 10), none⟩,
 ⟨some 12, .mlen (.tmp 11), none⟩,
 ⟨some 13, .bin .eql (.tmp 12) (.const (.int .i64 0)), none⟩])
 (.cond (.tmp 13)
 (.ret)
 (.skip)))
 (.seq (.blk [⟨some 14, .mv (.tmp 0), none⟩,
 ⟨some 15, .nilc (.tmp 14), none⟩,
 ⟨some 16, .fad (.tmp 15) 0, none⟩,
 ⟨some 17, .ld (.tmp 16), none⟩,
 ⟨some 18, .mlen (.tmp 17), none⟩,
 ⟨some 19, .mkslice (.const (.int .i64 0)) (.tmp 18) 4 [.int .u32 0], none⟩,
 ⟨some 4, .alloc [.slice none 0 0], none⟩,
 ⟨none, .st (.tmp 4) 1 (.tmp 19), none⟩])
 (.seq (.seq (.blk [⟨some 20, .mv (.tmp 0), none⟩,
 ⟨some 21, .nilc (.tmp 20), none⟩,
 ⟨some 22, .fad (.tmp 21) 0, none⟩,
 ⟨some 23, .ld (.tmp 22), none⟩,
 ⟨some 24, .mrng (.tmp 23), none⟩])
 (.block 0 (.loop (.seq (.blk [⟨some 25, .mnext (.tmp 24), none⟩,
 ⟨some 26, .ext (.tmp 25) 0, none⟩])
 (.seq (.cond (.tmp 26)
 (.skip)
 (.exit 0))
 (.block 1 (.seq (.blk [⟨some 27, .mentry (.tmp 24), none⟩,
 ⟨some 28, .ext (.tmp 27) 0, none⟩,
 ⟨some 5, .mv (.tmp 28), none⟩])
 (.blk [⟨some 29, .ld (.tmp 4), none⟩,
 ⟨some 30, .mv (.tmp 5), none⟩,
 ⟨some 31, .bslice 1 [.int .u32 0] [(0, 1, .tmp 30)], none⟩,
 ⟨some 32, .append (.tmp 29) (.tmp 31) 1 4, none⟩,
 ⟨none, .st (.tmp 4) 1 (.tmp 32), none⟩]))))))))
 (.seq (.blk [⟨some 33, .ld (.tmp 4), none⟩,
 ⟨some 34, .mkif (F tyU32s) (.tmp 33), none⟩,
 ⟨some 35, .mkfunc (.func (F tEach1)) [] [.tmp 4], none⟩,
 ⟨some 36, .call (F sortSlice) [.tmp 34, .tmp 35], none⟩])
 (.seq (.blk [⟨some 37, .ld (.tmp 4), none⟩,
 ⟨some 38, .len (.tmp 37), none⟩,
 ⟨some 39, .mv (.const (.int .i64 0)), none⟩])
 (.block 2 (.loop (.seq (.blk [⟨some 40, .bin .lss (.tmp 39) (.tmp 38), none⟩])
 (.seq (.cond (.tmp 40)
 (.skip)
 (.exit 2))
 (.seq (.block 3 (.seq (.blk [⟨some 41, .iad (.tmp 37) (.tmp 39) 1, none⟩,
 ⟨some 42, .ld (.tmp 41), none⟩,
 ⟨some 7, .mv (.tmp 42), none⟩])
 (.blk [⟨some 43, .mv (.tmp 1), none⟩,
 ⟨some 44, .mv (.tmp 7), none⟩,
 ⟨some 45, .mv (.tmp 0), none⟩,
 ⟨some 46, .nilc (.tmp 45), none⟩,
 ⟨some 47, .fad (.tmp 46) 0, none⟩,
 ⟨some 48, .ld (.tmp 47), none⟩,
 ⟨some 49, .mv (.tmp 7), none⟩,
 ⟨some 50, .mlook (.tmp 48) (.tmp 49) (.slice none 0 0), none⟩,
 ⟨some 51, .callv (.tmp 43) [.tmp 44, .tmp 50], none⟩])))
 (.blk [⟨some 52, .bin .add (.tmp 39) (.const (.int .i64 1)), none⟩,
 ⟨some 39, .mv (.tmp 52), none⟩])))))))))),
 [], 53)
def ir_tEach1 (_F : Nat → Nat) : IC × List RV × Nat := (.seq (.blk [⟨some 5, .mv (.const (.bool false)), none⟩])
 (.seq (.drw [⟨⟨some 6, .ld (.tmp 2), none⟩, false, []⟩,
 ⟨⟨some 7, .mv (.tmp 0), none⟩, false, []⟩,
 ⟨⟨some 8, .iad (.tmp 6) (.tmp 7) 1, none⟩, false, []⟩,
 ⟨⟨some 9, .ld (.tmp 8), none⟩, false, []⟩,
 ⟨⟨some 10, .ld (.tmp 2), none⟩, false, []⟩,
 ⟨⟨some 11, .mv (.tmp 1), none⟩, false, []⟩,
 ⟨⟨some 12, .iad (.tmp 10) (.tmp 11) 1, none⟩, false, []⟩,
 ⟨⟨some 13, .ld (.tmp 12), none⟩, false, []⟩,
 ⟨⟨some 14, .bin .lss (.tmp 9) (.tmp 13), none⟩, false, []⟩,
 ⟨⟨some 5, .mv (.tmp 14), none⟩, false, []⟩]
 [])
 (.ret)),
 [.tmp 5], 15)
def ir_tRead (F : Nat → Nat) : IC × List RV × Nat := (.seq (.blk [⟨some 2, .alloc [.map none], none⟩])
 (.seq (.blk [⟨some 3, .alloc [.map none], none⟩])
 (.seq (.seq (.blk [⟨some 7, .mv (.tmp 0), none⟩,
 ⟨some 8, .call (F rUvarint) [.tmp 7], none⟩,
 ⟨some 4, .mv (.tmp 8), none⟩])
 (.block 0 (.loop (.seq (.seq (.blk [⟨some 9, .mv (.tmp 4), none⟩,
 ⟨some 10, .bin .gtr (.tmp 9) (.const (.int .u32 0)), none⟩])
 (.cond (.tmp 10)
 (.skip)
 (.exit 0)))
 (.seq (.block 1 (.seq (.blk [⟨some 13, .mv (.tmp 0), none⟩,
 ⟨some 14, .call (F rUvarint) [.tmp 13], none⟩,
 ⟨some 15, .mv (.tmp 0), none⟩,
 ⟨some 16, .call (F rUvarint) [.tmp 15], none⟩,
 ⟨some 5, .mv (.tmp 14), none⟩,
 ⟨some 6, .mv (.tmp 16), none⟩])
 (.blk [⟨some 17, .mv (.tmp 5), none⟩,
 ⟨some 18, .mv (.tmp 0), none⟩,
 ⟨some 19, .mv (.tmp 6), none⟩,
 ⟨some 20, .conv .i64 (.tmp 19), none⟩,
 ⟨some 21, .call (F rSpan) [.tmp 18, .tmp 20], none⟩,
 ⟨some 22, .call (F tSet) [.tmp 3, .tmp 17, .tmp 21], none⟩])))
 (.blk [⟨some 11, .mv (.tmp 4), none⟩,
 ⟨some 12, .bin .sub (.tmp 11) (.const (.int .u32 1)), none⟩,
 ⟨some 4, .mv (.tmp 12), none⟩]))))))
 (.seq (.blk [⟨some 23, .ldn (.tmp 3) 1, none⟩,
 ⟨none, .st (.tmp 2) 1 (.tmp 23), none⟩])
 (.ret)))),
 [.cells 2 1], 24)
end Go.Msk

namespace Go.Msk
open Go.RowKit
set_option maxRecDepth 100000
def putTag : List (Nat × List UInt8) → Nat → List UInt8 → List (Nat × List UInt8)
  | [], k, l => [(k, l)]
  | (k', l') :: m, k, l => if k = k' then (k, l) :: m else (k', l') :: putTag m k l
theorem putTag_keys : ∀ (m : List (Nat × List UInt8)) (k : Nat) (l : List UInt8), (putTag m k l).map (·.1) = if k ∈ m.map (·.1) then m.map (·.1) else m.map (·.1) ++ [k]
  | [], k, l => by simp [putTag]
  | (k', l') :: m, k, l => by
    have ih := putTag_keys m k l
    simp only [putTag]
    by_cases h : k = k'
    · subst h; simp
    · rw [if_neg h]
      simp only [List.map_cons, ih, List.mem_cons, h, false_or]
      split <;> simp
theorem putTag_nodup {m : List (Nat × List UInt8)} {k : Nat} {l : List UInt8} (h : (m.map (·.1)).Nodup) : ((putTag m k l).map (·.1)).Nodup := by
  rw [putTag_keys]
  split
  · exact h
  · rename_i hk
    rw [List.nodup_append]
    refine ⟨h, by simp, fun a ha b hb => ?_⟩
    simp only [List.mem_singleton] at hb
    subst hb
    exact fun e => hk (e ▸ ha)
def putE : List MapEntry → Nat → Nat → Value → List MapEntry
  | [], c, k, v => [{ key := .int .u32 k, val := v, born := c }]
  | e :: r, c, k, v => if keyIs k e = true then { e with key := .int .u32 k, val := v } :: r else e :: putE r c k v
theorem putE_some (c k : Nat) (v : Value) : ∀ (l : List MapEntry) (i : Nat), l.findIdx? (keyIs k) = some i → l.modify i (fun e => { e with key := .int .u32 k, val := v }) = putE l c k v
  | [], i, h => by simp at h
  | e :: r, i, h => by
    rw [List.findIdx?_cons] at h
    simp only [putE]
    split at h
    · rename_i he
      simp only [Option.some.injEq] at h; subst h
      rw [if_pos he]; rfl
    · rename_i he
      rw [if_neg he]
      cases hr : r.findIdx? (keyIs k) with
      | none => simp [hr] at h
      | some j =>
        simp only [hr, Option.map_some, Option.some.injEq] at h
        subst h
        rw [List.modify_succ_cons, putE_some c k v r j hr]
theorem putE_none (c k : Nat) (v : Value) : ∀ (l : List MapEntry), l.findIdx? (keyIs k) = none → l ++ [{ key := .int .u32 k, val := v, born := c }] = putE l c k v
  | [], _ => rfl
  | e :: r, h => by
    rw [List.findIdx?_cons] at h
    split at h
    · simp at h
    · rename_i he
      simp only [Option.map_eq_none_iff] at h
      simp only [putE, if_neg he, List.cons_append, putE_none c k v r h]
theorem mapPut_list (es : Array MapEntry) (clock k : Nat) (v : Value) (hb : (es.toList.map (·.born)).Nodup) (hc : ∀ e ∈ es.toList, e.born < clock) :
    ∃ es' c', mapPut es clock .u32 k v = .map es' c' ∧ es'.toList = putE es.toList clock k v ∧ (es'.toList.map (·.born)).Nodup ∧ ∀ e ∈ es'.toList, e.born < c' := by
  unfold mapPut
  cases hf : es.toList.findIdx? (keyIs k) with
  | none =>
    refine ⟨_, _, rfl, ?_, ?_, ?_⟩
    · rw [Array.toList_push]; exact putE_none clock k v _ hf
    · rw [Array.toList_push, List.map_append, List.nodup_append]
      refine ⟨hb, by simp, fun a ha b hb' => ?_⟩
      simp only [List.map_cons, List.map_nil, List.mem_singleton] at hb'
      obtain ⟨e, he, rfl⟩ := List.mem_map.1 ha
      have := hc e he
      omega
    · intro e he
      rw [Array.toList_push, List.mem_append] at he
      rcases he with he | he
      · have := hc e he; omega
      · simp only [List.mem_singleton] at he; subst he; simp
  | some i =>
    have hm : (es.modify i fun e => { e with key := .int .u32 k, val := v }).toList = putE es.toList clock k v := by
      rw [Array.toList_modify]; exact putE_some clock k v _ i hf
    have hmap : (putE es.toList clock k v).map (·.born) = es.toList.map (·.born) := by
      rw [← putE_some clock k v _ i hf]
      apply List.ext_getElem?
      intro j
      simp only [List.getElem?_map, List.getElem?_modify]
      cases es.toList[j]? with
      | none => simp
      | some e => simp only [Option.map_some]; split <;> rfl
    refine ⟨_, _, rfl, hm, by rw [hm, hmap]; exact hb, fun e he => ?_⟩
    rw [hm] at he
    have : e.born ∈ (putE es.toList clock k v).map (·.born) := List.mem_map.2 ⟨e, he, rfl⟩
    rw [hmap] at this
    obtain ⟨e', he', h⟩ := List.mem_map.1 this
    rw [← h]; exact hc e' he'
theorem EntL.put {ok : Nat → Prop} {w : World} {c k : Nat} {v : Value} {l : List UInt8} (hk : k < 4294967296) (hv : SlC ok w v l.length (u8s l)) {es : List MapEntry} {m : List (Nat × List UInt8)} (h : EntL ok w es m) : EntL ok w (putE es c k v) (putTag m k l) := by
  induction h with
  | nil => exact .cons rfl hk hv .nil
  | @cons e k' l' es m h1 h2 h3 h4 ih =>
    have hki : keyIs k e = decide (k = k') := by
      unfold keyIs; rw [h1]
      by_cases hkk : k = k'
      · simp [hkk]
      · have : ¬ (k : Int) = k' := by omega
        simp [hkk, this]
    simp only [putE, putTag, hki, decide_eq_true_eq]
    split
    · exact .cons rfl hk hv h4
    · exact .cons h1 h2 h3 ih
theorem EntL.keys {ok : Nat → Prop} {w : World} {es : List MapEntry} {m : List (Nat × List UInt8)} (h : EntL ok w es m) : ∀ e ∈ es, ∃ a, e.key = .int .u32 a := by
  induction h with
  | nil => simp
  | cons h1 _ _ _ ih =>
    intro e he
    rcases List.mem_cons.1 he with rfl | he
    · exact ⟨_, h1⟩
    · exact ih e he
theorem Mod.putObj {w : World} {r : Nat} {o : Obj} {S : List Nat} (hr : r ∈ S) : Mod S w (Msk.putObj w r o) := by
  refine ⟨rfl, rfl, rfl, by simp [Msk.putObj], fun k hk hkS => ?_⟩
  simp only [Msk.putObj]
  exact Array.getElem?_setIfInBounds_ne (fun e => hkS (by rw [← e]; exact hr))
theorem putObj_get {w : World} {r : Nat} {o : Obj} (h : r < w.heap.size) : (putObj w r o).heap[r]? = some o := by
  simp [putObj, h]
def TagM (ok : Nat → Prop) (w : World) (v : Value) (m : List (Nat × List UInt8)) : Prop :=
  (v = .map none ∧ m = []) ∨ ∃ r, v = .map (some r) ∧ MapRep ok w r m
section
variable {P : Program} {F : Nat → Nat}
end
end Go.Msk

namespace Go.Msk
open Go.RowKit
set_option maxRecDepth 100000
structure Lib (P : Program) (F : Nat → Nat) (has : Nat → Bool) : Prop where
  mixed : P.follows .mixedOrders = true
  beUint16 : has Msk.beUint16 = true → liftF P (F Msk.beUint16) = some (ir_beUint16 F)
  beUint32 : has Msk.beUint32 = true → liftF P (F Msk.beUint32) = some (ir_beUint32 F)
  beUint64 : has Msk.beUint64 = true → liftF P (F Msk.beUint64) = some (ir_beUint64 F)
  kUvarint : has Msk.kUvarint = true → liftF P (F Msk.kUvarint) = some (ir_kUvarint F)
  kUnsafeString : has Msk.kUnsafeString = true → liftF P (F Msk.kUnsafeString) = some (ir_kUnsafeString F)
  rOk : has Msk.rOk = true → liftF P (F Msk.rOk) = some (ir_rOk F)
  rComplete : has Msk.rComplete = true → liftF P (F Msk.rComplete) = some (ir_rComplete F)
  rSpan : has Msk.rSpan = true → liftF P (F Msk.rSpan) = some (ir_rSpan F)
  rUvarint : has Msk.rUvarint = true → liftF P (F Msk.rUvarint) = some (ir_rUvarint F)
  rReadUint64 : has Msk.rReadUint64 = true → liftF P (F Msk.rReadUint64) = some (ir_rReadUint64 F)
  rBool : has Msk.rBool = true → liftF P (F Msk.rBool) = some (ir_rBool F)
  rInt8 : has Msk.rInt8 = true → liftF P (F Msk.rInt8) = some (ir_rInt8 F)
  rInt16 : has Msk.rInt16 = true → liftF P (F Msk.rInt16) = some (ir_rInt16 F)
  rUint16 : has Msk.rUint16 = true → liftF P (F Msk.rUint16) = some (ir_rUint16 F)
  rInt32 : has Msk.rInt32 = true → liftF P (F Msk.rInt32) = some (ir_rInt32 F)
  rInt64 : has Msk.rInt64 = true → liftF P (F Msk.rInt64) = some (ir_rInt64 F)
  rUuid : has Msk.rUuid = true → liftF P (F Msk.rUuid) = some (ir_rUuid F)
  rString : has Msk.rString = true → liftF P (F Msk.rString) = some (ir_rString F)
  rUnsafeString : has Msk.rUnsafeString = true → liftF P (F Msk.rUnsafeString) = some (ir_rUnsafeString F)
  rCompactString : has Msk.rCompactString = true → liftF P (F Msk.rCompactString) = some (ir_rCompactString F)
  rUnsafeCompactString : has Msk.rUnsafeCompactString = true → liftF P (F Msk.rUnsafeCompactString) = some (ir_rUnsafeCompactString F)
  rNullableString : has Msk.rNullableString = true → liftF P (F Msk.rNullableString) = some (ir_rNullableString F)
  rUnsafeNullableString : has Msk.rUnsafeNullableString = true → liftF P (F Msk.rUnsafeNullableString) = some (ir_rUnsafeNullableString F)
  rCompactNullableString : has Msk.rCompactNullableString = true → liftF P (F Msk.rCompactNullableString) = some (ir_rCompactNullableString F)
  rUnsafeCompactNullableString : has Msk.rUnsafeCompactNullableString = true → liftF P (F Msk.rUnsafeCompactNullableString) = some (ir_rUnsafeCompactNullableString F)
  rBytes : has Msk.rBytes = true → liftF P (F Msk.rBytes) = some (ir_rBytes F)
  rCompactBytes : has Msk.rCompactBytes = true → liftF P (F Msk.rCompactBytes) = some (ir_rCompactBytes F)
  rNullableBytes : has Msk.rNullableBytes = true → liftF P (F Msk.rNullableBytes) = some (ir_rNullableBytes F)
  rCompactNullableBytes : has Msk.rCompactNullableBytes = true → liftF P (F Msk.rCompactNullableBytes) = some (ir_rCompactNullableBytes F)
  rArrayLen : has Msk.rArrayLen = true → liftF P (F Msk.rArrayLen) = some (ir_rArrayLen F)
  rCompactArrayLen : has Msk.rCompactArrayLen = true → liftF P (F Msk.rCompactArrayLen) = some (ir_rCompactArrayLen F)
  tSet : has Msk.tSet = true → liftF P (F Msk.tSet) = some (ir_tSet F)
  tRead : has Msk.tRead = true → liftF P (F Msk.tRead) = some (ir_tRead F)
def hasAll (has : Nat → Bool) (l : List Nat) : Bool := l.all has
theorem hasAll_mem {has : Nat → Bool} {l : List Nat} (h : hasAll has l = true) : ∀ c ∈ l, has c = true := by
  unfold hasAll at h; rwa [List.all_eq_true] at h
section
variable {P : Program} {F : Nat → Nat} {has : Nat → Bool} {f : FuncId}
variable (L : Lib P F has)
include L
end
end Go.Msk

namespace Go.Msk
open Go.RowKit
set_option maxRecDepth 100000
def dfL : List (Nat × Value) → Nat → List IC
  | [], _ => []
  | (off, v) :: r, t => .blk [⟨some t, .mv (.tmp 0), none⟩, ⟨some (t + 1), .nilc (.tmp t), none⟩, ⟨some (t + 2), .fad (.tmp (t + 1)) off, none⟩, ⟨none, .st (.tmp (t + 2)) 1 (.const v), none⟩] :: dfL r (t + 3)
def dfGen (l : List (Nat × Value)) : IC × List RV × Nat := (seqs (dfL l 2), [], 2 + 3 * l.length)
def dfRes : List (Nat × Value) → List Value → List Value
  | [], z => z
  | (off, v) :: r, z => dfRes r (z.set off v)
def dfOk (l : List (Nat × Value)) (n : Nat) : Prop := ∀ p ∈ l, p.1 < n ∧ p.2.cells = #[p.2] ∧ p.2.oneCell' = true
def dfOkB (l : List (Nat × Value)) (n : Nat) : Bool := l.all fun p => Nat.blt p.1 n && match p.2 with
  | .int .. | .bool _ | .string _ | .pointer _ => true
  | _ => false
theorem dfOk_of {l : List (Nat × Value)} {n : Nat} (h : dfOkB l n = true) : dfOk l n := by
  intro p hp
  unfold dfOkB at h
  rw [List.all_eq_true] at h
  have := h p hp
  simp only [Bool.and_eq_true] at this
  refine ⟨Nat.lt_of_succ_le (Nat.le_of_ble_eq_true this.1), ?_⟩
  have h2 := this.2
  cases hv : p.2 <;> rw [hv] at h2 <;> first | (simp at h2; done) | exact ⟨rfl, rfl⟩
section
variable {P : Program}
theorem set_splice1 (pre z post : List Value) (off : Nat) (v : Value) (h : off < z.length) : splice (pre ++ (z ++ post)) (pre.length + off) [v] = pre ++ (z.set off v ++ post) := by
  unfold splice
  rw [List.take_length_add_append, List.take_append_of_le_length (by omega)]
  have e : pre.length + off + [v].length = pre.length + (off + 1) := by simp; omega
  rw [e, List.drop_length_add_append, List.drop_append_of_le_length (by omega), List.set_eq_take_append_cons_drop, if_pos h]
  simp
theorem dfL_wp {B : Nat} {pre post : List Value} : ∀ (l : List (Nat × Value)) (t : Nat) (z : List Value) (σ : Sl) (w : World) (Q : Exit → Sl → World → Prop), 1 ≤ t → dfOk l z.length → σ 0 = .pointer (some ⟨B, pre.length, none⟩) →
    Blk w B (pre ++ (z ++ post)) → (∀ σ' w', Mod [B] w w' → Blk w' B (pre ++ (dfRes l z ++ post)) → Q .normal σ' w') → wpL P (dfL l t) Q σ w
  | [], t, z, σ, w, Q, ht, hok, h0, hb, hQ => hQ σ w (Mod.refl _ _) hb
  | (off, v) :: r, t, z, σ, w, Q, ht, hok, h0, hb, hQ => by
    obtain ⟨ho, hv, h1⟩ := hok (off, v) List.mem_cons_self
    simp only at ho hv h1
    simp only [dfL, wpL, wpC, wpR, RI.wp, gOk, if_true, RK.run, ev, updo]
    simp only [upd, if_true, h0, Addr.add_mk, hv]
    have hput : Mod [B] w (putCells w ⟨B, pre.length + off, none⟩ 0 [v]) := Mod.put (by simp)
    refine ⟨rfl, stOk_many hb (by simp; omega) (by simpa using h1), ?_⟩
    have hp := hb.put (o := pre.length + off) (vs := [v]) (by simp; omega)
    rw [set_splice1 _ _ _ _ _ ho] at hp
    simp only [thenC]
    refine dfL_wp r (t + 3) (z.set off v) _ _ Q (by omega) (fun p hp => by rw [List.length_set]; exact hok p (List.mem_cons_of_mem _ hp)) ?_ (by simpa using hp) fun σ' w' hm hb' => hQ σ' w' (hput.trans hm) hb'
    simp only [upd, show (0 : Nat) ≠ t by omega, show (0 : Nat) ≠ t + 1 by omega, show (0 : Nat) ≠ t + 2 by omega, if_false, h0]
theorem df_call (hm : P.follows .mixedOrders = true) {f : FuncId} {l : List (Nat × Value)} (h : liftF P f = some (dfGen l)) {z d : List Value} (hok : dfOk l z.length) (hd : dfRes l z = d) : DfC P f z d := by
  intro w B pre post hb
  refine call_of h hm (by simp; omega) ?_
  rw [wpC_seqs]
  refine dfL_wp l 2 z _ w _ (by omega) hok rfl hb fun σ' w' hm' hb' => ?_
  simp only [postC, rvals, List.mapM_nil, Option.pure_def, tup]
  exact ⟨trivial, hd ▸ hb', hm'⟩
end
end Go.Msk

namespace Go.Msk
open Go.RowKit Go.ChangeShapes Go.WideShapes Go.ChangeAt
set_option maxRecDepth 100000
theorem Mod.keptBut {W W' : World} (h : Mod [] W W') (may : MemPlace → Prop) : W.keptBut W' may := by
  refine ⟨h.os, h.output, fun i hi => ?_⟩
  rw [h.block i hi (by simp)]
  cases W.heap[i]? with
  | none => rfl
  | some o => cases o <;> simp
theorem post_of_mod {H : Type} {enc : TypeId × Value → H} {P : Program} {f : Func} {s : ChangeSpec} {apart fresh handsOn : Bool} {W W' : World} {args : Array Value} {v : Value} {ds gs : List (DataW H)} {before pa pv : List MemPlace}
    (hW : DataW.Whole enc P f.params.toList s.vars apart W args.toList ds gs before)
    (hres : ∀ b : Nat, DataW.TrodAll enc P W' b (fun _ => false) handsOn f.resultTypes.toList (v.resultList f.resultTypes.size) (s.fn H (ds ++ gs)).results [])
    (hargs : DataW.TrodAll enc P W' 0 (fun b => decide (b < W.heap.size)) true f.params.toList args.toList (s.fn H (ds ++ gs)).args pa)
    (hvars : DataW.TrodVars enc P W' (fun b => decide (b < W.heap.size)) s.vars (s.fn H (ds ++ gs)).vars pv) (hm : Mod [] W W') : s.post enc P f apart fresh handsOn false W args v W' :=
  ⟨ds, gs, before, [], pa, pv, hW, hres _, hargs, hvars, hm.keptBut _, fun h => by simp at h⟩
theorem u8_of {n : Int} (h : (Lit.int .u8 n).wf = true) : 0 ≤ n ∧ n < 256 := by
  simp only [Lit.wf, Bool.and_eq_true, decide_eq_true_eq] at h
  have h1 : IntKind.u8.min = 0 := by rfl
  have h2 : IntKind.u8.max = 255 := by rfl
  omega
section
variable {H : Type} {enc : TypeId × Value → H} {P : Program} {W : World}
end
end Go.Msk
