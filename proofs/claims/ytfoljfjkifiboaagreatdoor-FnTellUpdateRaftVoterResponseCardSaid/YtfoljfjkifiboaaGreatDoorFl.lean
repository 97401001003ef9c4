/- A small language of resolved operations, and what the generic and the generated functions do in it (part 12). -/
import Derived.Test.YtfoljfjkifiboaaGreatDoorFk
namespace Go.Msk
open Go.RowKit
set_option maxRecDepth 100000
def ir_sKnown_1 (_F:Nat→Nat):IC:=(.seq (.blk [⟨some 10,.iad (.tmp 6) (.tmp 8) 8,none⟩,⟨some 11,.ldn (.tmp 10) 8,none⟩,
 ⟨some 5,.alloc [.int .i64 0,.int .i64 0,.int .i64 0,.int .i64 0,.int .i64 0,.int .i64 0,.int .i64 0,.slice none 0 0],none⟩,⟨none,.st (.tmp 5) 8 (.tmp 11),none⟩])
 (.seq (.blk [⟨some 12,.fad (.tmp 5) 4,none⟩,⟨some 13,.ld (.tmp 12),none⟩,⟨some 14,.bin .geq (.tmp 13) (.const (.int .i64 0)),none⟩]) (.cond (.tmp 14)
 (.blk [⟨some 15,.mv (.tmp 3),none⟩,⟨some 16,.fad (.tmp 5) 4,none⟩,⟨some 17,.ld (.tmp 16),none⟩,⟨some 18,.conv .u32 (.tmp 17),none⟩,
 ⟨some 19,.bin .add (.tmp 18) (.const (.int .u32 1)),none⟩,⟨some 20,.mm true (.tmp 15) (.tmp 19),none⟩,⟨some 3,.mv (.tmp 20),none⟩]) (.skip))))
def ir_sKnown (F:Nat→Nat):IC×List RV×Nat:=(.seq (.blk [⟨some 2,.mv (.const (.int .u32 0)),none⟩]) (.seq (.blk [⟨some 3,.mv (.const (.int .u32 0)),none⟩])
 (.seq (.seq (.blk [⟨some 6,.mv (.tmp 0),none⟩,⟨some 7,.len (.tmp 6),none⟩,⟨some 8,.mv (.const (.int .i64 0)),none⟩])
 (.block 0 (.loop (.seq (.blk [⟨some 9,.bin .lss (.tmp 8) (.tmp 7),none⟩]) (.seq (.cond (.tmp 9) (.skip) (.exit 0)) (.seq (.block 1 (ir_sKnown_1 F))
 (.blk [⟨some 21,.bin .add (.tmp 8) (.const (.int .i64 1)),none⟩,⟨some 8,.mv (.tmp 21),none⟩]))))))) (.seq (.blk [⟨some 22,.mv (.tmp 3),none⟩,⟨some 2,.mv (.tmp 22),none⟩])
 (.ret)))),[.tmp 2],23)
def ir_sUnknown_1 (_F:Nat→Nat):IC:=(.drw [⟨⟨some 23,.mv (.tmp 9),none⟩,false,[]⟩,⟨⟨some 24,.mv (.tmp 6),none⟩,false,[]⟩,⟨⟨some 25,.len (.tmp 24),none⟩,false,[]⟩,
 ⟨⟨some 26,.bin .lss (.tmp 23) (.tmp 25),none⟩,false,[]⟩,⟨⟨some 27,.mv (.tmp 26),none⟩,false,[]⟩,⟨⟨some 28,.mv (.tmp 6),some (27,true)⟩,false,[]⟩,
 ⟨⟨some 29,.mv (.tmp 9),some (27,true)⟩,false,[]⟩,⟨⟨some 30,.iad (.tmp 28) (.tmp 29) 2,some (27,true)⟩,false,[]⟩,⟨⟨some 31,.fad (.tmp 30) 0,some (27,true)⟩,false,[]⟩,
 ⟨⟨some 32,.ld (.tmp 31),some (27,true)⟩,false,[]⟩,⟨⟨some 33,.fad (.tmp 8) 0,some (27,true)⟩,false,[]⟩,⟨⟨some 34,.ld (.tmp 33),some (27,true)⟩,false,[]⟩,
 ⟨⟨some 35,.bin .lss (.tmp 32) (.tmp 34),some (27,true)⟩,false,[]⟩,⟨⟨some 36,.pick (.tmp 27) (.tmp 35) (.const (.bool false)),none⟩,false,[]⟩] [])
def ir_sUnknown_2 (_F:Nat→Nat):IC:=(.drw [⟨⟨some 39,.fad (.tmp 8) 0,none⟩,false,[]⟩,⟨⟨some 40,.ld (.tmp 39),none⟩,false,[]⟩,⟨⟨some 41,.mv (.tmp 5),none⟩,false,[]⟩,
 ⟨⟨some 42,.bin .lss (.tmp 40) (.tmp 41),none⟩,false,[]⟩,⟨⟨some 43,.mv (.tmp 42),none⟩,false,[]⟩,⟨⟨some 44,.mv (.tmp 9),some (43,false)⟩,false,[]⟩,
 ⟨⟨some 45,.mv (.tmp 6),some (43,false)⟩,false,[]⟩,⟨⟨some 46,.len (.tmp 45),some (43,false)⟩,false,[]⟩,⟨⟨some 47,.bin .lss (.tmp 44) (.tmp 46),some (43,false)⟩,false,[]⟩,
 ⟨⟨some 48,.mv (.tmp 47),some (43,false)⟩,false,[]⟩,⟨⟨some 49,.mv (.tmp 6),some (48,true)⟩,false,[]⟩,⟨⟨some 50,.mv (.tmp 9),some (48,true)⟩,false,[]⟩,
 ⟨⟨some 51,.iad (.tmp 49) (.tmp 50) 2,some (48,true)⟩,false,[]⟩,⟨⟨some 52,.fad (.tmp 51) 0,some (48,true)⟩,false,[]⟩,⟨⟨some 53,.ld (.tmp 52),some (48,true)⟩,false,[]⟩,
 ⟨⟨some 54,.fad (.tmp 8) 0,some (48,true)⟩,false,[]⟩,⟨⟨some 55,.ld (.tmp 54),some (48,true)⟩,false,[]⟩,⟨⟨some 56,.bin .eql (.tmp 53) (.tmp 55),some (48,true)⟩,false,[]⟩,
 ⟨⟨some 57,.pick (.tmp 48) (.tmp 56) (.const (.bool false)),some (43,false)⟩,false,[]⟩,⟨⟨some 58,.pick (.tmp 43) (.const (.bool true)) (.tmp 57),none⟩,false,[]⟩] [])
def ir_sUnknown_3 (_F:Nat→Nat):IC:=(.seq (.blk [⟨some 63,.mv (.tmp 6),none⟩,⟨some 64,.len (.tmp 63),none⟩,⟨some 65,.bin .sub (.tmp 64) (.const (.int .i64 1)),none⟩,
 ⟨some 10,.mv (.tmp 65),none⟩]) (.block 4 (.loop (.seq (.seq (.blk [⟨some 66,.mv (.tmp 10),none⟩,⟨some 67,.mv (.tmp 9),none⟩,⟨some 68,.bin .gtr (.tmp 66) (.tmp 67),none⟩])
 (.cond (.tmp 68) (.skip) (.exit 4))) (.seq (.block 5 (.blk [⟨some 71,.mv (.tmp 6),none⟩,⟨some 72,.mv (.tmp 10),none⟩,⟨some 73,.mv (.tmp 6),none⟩,⟨some 74,.mv (.tmp 10),none⟩,
 ⟨some 75,.bin .sub (.tmp 74) (.const (.int .i64 1)),none⟩,⟨some 76,.iad (.tmp 73) (.tmp 75) 2,none⟩,⟨some 77,.ldn (.tmp 76) 2,none⟩,⟨some 78,.iad (.tmp 71) (.tmp 72) 2,none⟩,
 ⟨none,.st (.tmp 78) 2 (.tmp 77),none⟩])) (.blk [⟨some 69,.mv (.tmp 10),none⟩,⟨some 70,.bin .sub (.tmp 69) (.const (.int .i64 1)),none⟩,⟨some 10,.mv (.tmp 70),none⟩]))))))
def ir_sUnknown_4 (F:Nat→Nat):IC:=(.seq (.blk [⟨some 21,.iad (.tmp 17) (.tmp 19) 2,none⟩,⟨some 22,.ldn (.tmp 21) 2,none⟩,⟨some 8,.alloc [.int .u32 0,.slice none 0 0],none⟩,
 ⟨none,.st (.tmp 8) 2 (.tmp 22),none⟩]) (.seq (.blk [⟨some 9,.mv (.const (.int .i64 0)),none⟩]) (.seq (.block 2 (.loop (.seq (.seq (ir_sUnknown_1 F) (.cond (.tmp 36) (.skip)
 (.exit 2))) (.block 3 (.blk [⟨some 37,.mv (.tmp 9),none⟩,⟨some 38,.bin .add (.tmp 37) (.const (.int .i64 1)),none⟩,⟨some 9,.mv (.tmp 38),none⟩]))))) (.seq (.seq (ir_sUnknown_2 F)
 (.cond (.tmp 58) (.exit 1) (.skip))) (.seq (.blk [⟨some 59,.mv (.tmp 6),none⟩,⟨some 60,.build [.int .u32 0,.slice none 0 0] [],none⟩,
 ⟨some 61,.bslice 1 [.int .u32 0,.slice none 0 0] [(0,2,.tmp 60)],none⟩,⟨some 62,.append (.tmp 59) (.tmp 61) 2 32,none⟩,⟨some 6,.mv (.tmp 62),none⟩]) (.seq (ir_sUnknown_3 F)
 (.blk [⟨some 79,.mv (.tmp 6),none⟩,⟨some 80,.mv (.tmp 9),none⟩,⟨some 81,.ldn (.tmp 8) 2,none⟩,⟨some 82,.iad (.tmp 79) (.tmp 80) 2,none⟩,
 ⟨none,.st (.tmp 82) 2 (.tmp 81),none⟩])))))))
def ir_sUnknown (F:Nat→Nat):IC×List RV×Nat:=(.seq (.blk [⟨some 4,.mv (.const (.slice none 0 0)),none⟩]) (.seq (.blk [⟨some 11,.mv (.tmp 0),none⟩,
 ⟨some 12,.call (F vR) [.tmp 11],none⟩,⟨some 5,.mv (.tmp 12),none⟩]) (.seq (.blk [⟨some 6,.mv (.const (.slice none 0 0)),none⟩]) (.seq (.seq (.blk [⟨some 13,.mv (.tmp 1),none⟩,
 ⟨some 14,.mv (.tmp 1),none⟩,⟨some 15,.len (.tmp 14),none⟩,⟨some 16,.mm false (.tmp 15) (.const (.int .i64 32767)),none⟩,
 ⟨some 17,.slice (.tmp 13) none (some (.tmp 16)) none 2,none⟩,⟨some 18,.len (.tmp 17),none⟩,⟨some 19,.mv (.const (.int .i64 0)),none⟩])
 (.block 0 (.loop (.seq (.blk [⟨some 20,.bin .lss (.tmp 19) (.tmp 18),none⟩]) (.seq (.cond (.tmp 20) (.skip) (.exit 0)) (.seq (.block 1 (ir_sUnknown_4 F))
 (.blk [⟨some 83,.bin .add (.tmp 19) (.const (.int .i64 1)),none⟩,⟨some 19,.mv (.tmp 83),none⟩]))))))) (.seq (.blk [⟨some 84,.mv (.tmp 6),none⟩,⟨some 4,.mv (.tmp 84),none⟩])
 (.ret))))),[.tmp 4],85)
def ir_susual__1 (_F:Nat→Nat):IC:=(.seq (.blk [⟨some 26,.mv (.tmp 24),none⟩,⟨some 27,.iad (.tmp 22) (.tmp 24) 1,none⟩,⟨some 28,.ld (.tmp 27),none⟩,⟨some 5,.mv (.tmp 26),none⟩,
 ⟨some 6,.mv (.tmp 28),none⟩]) (.seq (.blk [⟨some 29,.mv (.tmp 5),none⟩,⟨some 30,.bin .lss (.tmp 29) (.const (.int .i64 16)),none⟩,⟨some 31,.mv (.tmp 30),none⟩,
 ⟨some 32,.mv (.tmp 6),some (31,true)⟩,⟨some 33,.bin .neq (.tmp 32) (.const (.int .u8 0)),some (31,true)⟩,⟨some 34,.pick (.tmp 31) (.tmp 33) (.const (.bool false)),none⟩])
 (.cond (.tmp 34) (.seq (.blk [⟨some 4,.mv (.const (.bool false)),none⟩]) (.ret)) (.skip))))
def ir_susual__2 (F:Nat→Nat):IC:=(.seq (.blk [⟨some 61,.mv (.tmp 59),none⟩,⟨some 62,.iad (.tmp 57) (.tmp 59) 8,none⟩,⟨some 63,.ldn (.tmp 62) 8,none⟩,
 ⟨some 8,.alloc [.int .i64 0,.int .i64 0,.int .i64 0,.int .i64 0,.int .i64 0,.int .i64 0,.int .i64 0,.slice none 0 0],none⟩,⟨some 7,.mv (.tmp 61),none⟩,
 ⟨none,.st (.tmp 8) 8 (.tmp 63),none⟩]) (.seq (.drw [⟨⟨some 64,.ldn (.tmp 8) 8,none⟩,false,[]⟩,⟨⟨some 65,.ldn (.tmp 3) 5,none⟩,false,[]⟩,⟨⟨some 66,.mv (.tmp 7),none⟩,false,[]⟩,
 ⟨⟨some 67,.call (F sAt) [.tmp 65,.tmp 66],none⟩,true,[]⟩,⟨⟨some 68,.call (F uR) [.tmp 64,.tmp 67],none⟩,true,[3]⟩,⟨⟨some 69,.lnot (.tmp 68),none⟩,false,[3,4]⟩] [])
 (.cond (.tmp 69) (.seq (.blk [⟨some 4,.mv (.const (.bool false)),none⟩]) (.ret)) (.skip))))
def ir_susual__3 (F:Nat→Nat):IC:=(.seq (.seq (.blk [⟨some 56,.fad (.tmp 2) 7,none⟩,⟨some 57,.ld (.tmp 56),none⟩,⟨some 58,.len (.tmp 57),none⟩,
 ⟨some 59,.mv (.const (.int .i64 0)),none⟩]) (.block 3 (.loop (.seq (.blk [⟨some 60,.bin .lss (.tmp 59) (.tmp 58),none⟩]) (.seq (.cond (.tmp 60) (.skip) (.exit 3))
 (.seq (.block 4 (ir_susual__2 F)) (.blk [⟨some 70,.bin .add (.tmp 59) (.const (.int .i64 1)),none⟩,⟨some 59,.mv (.tmp 70),none⟩])))))))
 (.seq (.blk [⟨some 71,.fad (.tmp 2) 7,none⟩,⟨some 72,.ld (.tmp 71),none⟩,⟨some 73,.fad (.tmp 3) 4,none⟩,⟨some 74,.ld (.tmp 73),none⟩,
 ⟨some 75,.call (F yA) [.tmp 72,.tmp 74],none⟩,⟨some 76,.len (.tmp 75),none⟩,⟨some 77,.bin .eql (.tmp 76) (.const (.int .i64 0)),none⟩,⟨some 4,.mv (.tmp 77),none⟩]) (.ret)))
def ir_susual__4 (F:Nat→Nat):IC:=(.seq (.seq (.blk [⟨some 37,.bin .eql (.tmp 10) (.const (.int .i64 8)),none⟩,⟨some 36,.mv (.tmp 37),none⟩]) (.cond (.tmp 36) (.skip)
 (.blk [⟨some 38,.bin .eql (.tmp 10) (.const (.int .i64 9)),none⟩,⟨some 36,.mv (.tmp 38),none⟩]))) (.cond (.tmp 36) (.seq (.seq (.blk [⟨some 39,.fad (.tmp 2) 3,none⟩,
 ⟨some 40,.ld (.tmp 39),none⟩,⟨some 41,.bin .geq (.tmp 40) (.const (.int .i64 0)),none⟩]) (.cond (.tmp 41) (.seq (.blk [⟨some 42,.fad (.tmp 3) 2,none⟩,
 ⟨some 43,.ld (.tmp 42),none⟩,⟨some 4,.mv (.tmp 43),none⟩]) (.ret)) (.skip))) (.seq (.blk [⟨some 44,.fad (.tmp 3) 1,none⟩,⟨some 45,.ld (.tmp 44),none⟩,
 ⟨some 46,.len (.tmp 45),none⟩,⟨some 47,.bin .eql (.tmp 46) (.const (.int .i64 0)),none⟩,⟨some 4,.mv (.tmp 47),none⟩]) (.ret)))
 (.seq (.blk [⟨some 49,.bin .eql (.tmp 10) (.const (.int .i64 11)),none⟩,⟨some 48,.mv (.tmp 49),none⟩]) (.cond (.tmp 48) (.seq (.blk [⟨some 50,.fad (.tmp 3) 3,none⟩,
 ⟨some 51,.ld (.tmp 50),none⟩,⟨some 52,.len (.tmp 51),none⟩,⟨some 53,.bin .eql (.tmp 52) (.const (.int .i64 0)),none⟩,⟨some 4,.mv (.tmp 53),none⟩]) (.ret))
 (.seq (.blk [⟨some 55,.bin .eql (.tmp 10) (.const (.int .i64 10)),none⟩,⟨some 54,.mv (.tmp 55),none⟩]) (.cond (.tmp 54) (ir_susual__3 F) (.skip)))))))
def ir_susual__5 (F:Nat→Nat):IC:=(.seq (.blk [⟨some 12,.bin .eql (.tmp 10) (.const (.int .i64 0)),none⟩,⟨some 11,.mv (.tmp 12),none⟩]) (.cond (.tmp 11)
 (.seq (.blk [⟨some 13,.fad (.tmp 3) 0,none⟩,⟨some 14,.ld (.tmp 13),none⟩,⟨some 15,.bin .and (.tmp 14) (.const (.int .i64 1)),none⟩,⟨some 16,.fad (.tmp 2) 5,none⟩,
 ⟨some 17,.ld (.tmp 16),none⟩,⟨some 18,.bin .eql (.tmp 15) (.tmp 17),none⟩,⟨some 4,.mv (.tmp 18),none⟩]) (.ret))
 (.seq (.blk [⟨some 20,.bin .eql (.tmp 10) (.const (.int .i64 7)),none⟩,⟨some 19,.mv (.tmp 20),none⟩]) (.cond (.tmp 19) (.seq (.seq (.blk [⟨some 21,.fad (.tmp 3) 1,none⟩,
 ⟨some 22,.ld (.tmp 21),none⟩,⟨some 23,.len (.tmp 22),none⟩,⟨some 24,.mv (.const (.int .i64 0)),none⟩]) (.block 1 (.loop (.seq (.blk [⟨some 25,.bin .lss (.tmp 24) (.tmp 23),none⟩])
 (.seq (.cond (.tmp 25) (.skip) (.exit 1)) (.seq (.block 2 (ir_susual__1 F)) (.blk [⟨some 35,.bin .add (.tmp 24) (.const (.int .i64 1)),none⟩,⟨some 24,.mv (.tmp 35),none⟩])))))))
 (.seq (.blk [⟨some 4,.mv (.const (.bool true)),none⟩]) (.ret))) (ir_susual__4 F)))))
def ir_susual__6 (F:Nat→Nat):IC:=(.drw [⟨⟨some 78,.fad (.tmp 3) 0,none⟩,false,[]⟩,⟨⟨some 79,.ld (.tmp 78),none⟩,false,[]⟩,⟨⟨some 80,.fad (.tmp 2) 0,none⟩,false,[]⟩,
 ⟨⟨some 81,.ld (.tmp 80),none⟩,false,[]⟩,⟨⟨some 82,.call (F kBH) [.tmp 81],none⟩,true,[]⟩,⟨⟨some 83,.call (F yU) [.tmp 79,.tmp 82],none⟩,true,[4]⟩,
 ⟨⟨some 84,.fad (.tmp 2) 5,none⟩,false,[]⟩,⟨⟨some 85,.ld (.tmp 84),none⟩,false,[]⟩,⟨⟨some 86,.fad (.tmp 2) 0,none⟩,false,[]⟩,⟨⟨some 87,.ld (.tmp 86),none⟩,false,[]⟩,
 ⟨⟨some 88,.call (F kBH) [.tmp 87],none⟩,true,[4,5]⟩,⟨⟨some 89,.call (F yU) [.tmp 85,.tmp 88],none⟩,true,[4,5,10]⟩,
 ⟨⟨some 90,.call (F vW) [.tmp 83,.tmp 89],none⟩,true,[4,5,10,11]⟩,⟨⟨some 4,.mv (.tmp 90),none⟩,false,[4,5,10,11,12]⟩] [])
def ir_susual_ (F:Nat→Nat):IC×List RV×Nat:=(.seq (.blk [⟨some 2,.box (.tmp 0),none⟩,⟨some 3,.box (.tmp 1),none⟩,⟨some 4,.mv (.const (.bool false)),none⟩])
 (.seq (.seq (.blk [⟨some 9,.fad (.tmp 2) 0,none⟩,⟨some 10,.ld (.tmp 9),none⟩]) (.block 0 (ir_susual__5 F))) (.seq (ir_susual__6 F) (.ret))),[.tmp 4],91)
def ir_sField_1 (F:Nat→Nat):IC:=(.seq (.blk [⟨some 33,.mv (.tmp 31),none⟩,⟨some 12,.mv (.tmp 33),none⟩]) (.drw [⟨⟨some 34,.mv (.tmp 11),none⟩,false,[]⟩,
 ⟨⟨some 35,.fad (.tmp 4) 6,none⟩,false,[]⟩,⟨⟨some 36,.ld (.tmp 35),none⟩,false,[]⟩,⟨⟨some 37,.fad (.tmp 4) 7,none⟩,false,[]⟩,⟨⟨some 38,.ld (.tmp 37),none⟩,false,[]⟩,
 ⟨⟨some 39,.mv (.tmp 1),none⟩,false,[]⟩,⟨⟨some 40,.mv (.tmp 2),none⟩,false,[]⟩,⟨⟨some 41,.mv (.tmp 10),none⟩,false,[]⟩,⟨⟨some 42,.mv (.tmp 12),none⟩,false,[]⟩,
 ⟨⟨some 43,.iad (.tmp 41) (.tmp 42) 5,none⟩,false,[]⟩,⟨⟨some 44,.ldn (.tmp 43) 5,none⟩,false,[]⟩,
 ⟨⟨some 45,.call (F kFD) [.tmp 36,.tmp 38,.const (.bool false),.tmp 39,.tmp 40,.tmp 44],none⟩,true,[]⟩] [⟨some 46,.append (.tmp 34) (.tmp 45) 1 1,none⟩,
 ⟨some 11,.mv (.tmp 46),none⟩]))
def ir_sField_2 (F:Nat→Nat):IC:=(.seq (.blk [⟨some 20,.fad (.tmp 7) 3,none⟩,⟨some 21,.ld (.tmp 20),none⟩,⟨some 22,.call (F uQ) [.tmp 21],none⟩,⟨some 10,.mv (.tmp 22),none⟩])
 (.seq (.seq (.blk [⟨some 23,.mv (.tmp 9),none⟩]) (.cond (.tmp 23) (.blk [⟨some 10,.mv (.const (.slice none 0 0)),none⟩]) (.skip))) (.seq (.blk [⟨some 24,.mv (.tmp 2),none⟩,
 ⟨some 25,.mv (.tmp 9),none⟩,⟨some 26,.mv (.tmp 10),none⟩,⟨some 27,.len (.tmp 26),none⟩,⟨some 28,.call (F yG) [.tmp 24,.tmp 25,.tmp 27,.const (.int .i64 4)],none⟩,
 ⟨some 11,.mv (.tmp 28),none⟩]) (.seq (.seq (.blk [⟨some 29,.mv (.tmp 10),none⟩,⟨some 30,.len (.tmp 29),none⟩,⟨some 31,.mv (.const (.int .i64 0)),none⟩])
 (.block 0 (.loop (.seq (.blk [⟨some 32,.bin .lss (.tmp 31) (.tmp 30),none⟩]) (.seq (.cond (.tmp 32) (.skip) (.exit 0)) (.seq (.block 1 (ir_sField_1 F))
 (.blk [⟨some 47,.bin .add (.tmp 31) (.const (.int .i64 1)),none⟩,⟨some 31,.mv (.tmp 47),none⟩]))))))) (.seq (.blk [⟨some 48,.mv (.tmp 11),none⟩,⟨some 8,.mv (.tmp 48),none⟩])
 (.ret))))))
def ir_sField_3 (F:Nat→Nat):IC:=(.seq (.seq (.blk [⟨some 57,.mv (.tmp 9),none⟩]) (.cond (.tmp 57)
 (.seq (.blk [⟨some 58,.call (F yU) [.const (.int .i64 (-1)),.const (.int .i64 1)],none⟩,⟨some 8,.mv (.tmp 58),none⟩]) (.ret)) (.skip)))
 (.seq (.drw [⟨⟨some 59,.call (F yU) [.const (.int .i64 1),.const (.int .i64 1)],none⟩,true,[]⟩,⟨⟨some 60,.fad (.tmp 4) 7,none⟩,false,[]⟩,⟨⟨some 61,.ld (.tmp 60),none⟩,false,[]⟩,
 ⟨⟨some 62,.mv (.tmp 1),none⟩,false,[]⟩,⟨⟨some 63,.mv (.tmp 2),none⟩,false,[]⟩,⟨⟨some 64,.ldn (.tmp 7) 5,none⟩,false,[]⟩,
 ⟨⟨some 65,.call (F kGF) [.tmp 61,.tmp 62,.tmp 63,.tmp 64],none⟩,true,[0]⟩] [⟨some 66,.append (.tmp 59) (.tmp 65) 1 1,none⟩,⟨some 8,.mv (.tmp 66),none⟩]) (.ret)))
def ir_sField (F:Nat→Nat):IC×List RV×Nat:=(.seq (.blk [⟨some 4,.box (.tmp 0),none⟩,⟨some 7,.box (.tmp 3),none⟩,⟨some 8,.mv (.const (.slice none 0 0)),none⟩])
 (.seq (.blk [⟨some 13,.ldn (.tmp 4) 8,none⟩,⟨some 14,.mv (.tmp 1),none⟩,⟨some 15,.ldn (.tmp 7) 5,none⟩,⟨some 16,.call (F kJK) [.tmp 13,.tmp 14,.tmp 15],none⟩,
 ⟨some 9,.mv (.tmp 16),none⟩]) (.seq (.seq (.blk [⟨some 17,.fad (.tmp 4) 0,none⟩,⟨some 18,.ld (.tmp 17),none⟩,⟨some 19,.bin .eql (.tmp 18) (.const (.int .i64 11)),none⟩])
 (.cond (.tmp 19) (ir_sField_2 F) (.skip))) (.seq (.seq (.blk [⟨some 49,.fad (.tmp 4) 0,none⟩,⟨some 50,.ld (.tmp 49),none⟩,
 ⟨some 51,.bin .eql (.tmp 50) (.const (.int .i64 10)),none⟩,⟨some 52,.mv (.tmp 51),none⟩,⟨some 53,.fad (.tmp 4) 3,some (52,true)⟩,⟨some 54,.ld (.tmp 53),some (52,true)⟩,
 ⟨some 55,.bin .geq (.tmp 54) (.const (.int .i64 0)),some (52,true)⟩,⟨some 56,.pick (.tmp 52) (.tmp 55) (.const (.bool false)),none⟩]) (.cond (.tmp 56) (ir_sField_3 F) (.skip)))
 (.seq (.blk [⟨some 67,.fad (.tmp 4) 0,none⟩,⟨some 68,.ld (.tmp 67),none⟩,⟨some 69,.fad (.tmp 4) 7,none⟩,⟨some 70,.ld (.tmp 69),none⟩,⟨some 71,.mv (.tmp 9),none⟩,
 ⟨some 72,.mv (.tmp 1),none⟩,⟨some 73,.mv (.tmp 2),none⟩,⟨some 74,.ldn (.tmp 7) 5,none⟩,⟨some 75,.call (F kFD) [.tmp 68,.tmp 70,.tmp 71,.tmp 72,.tmp 73,.tmp 74],none⟩,
 ⟨some 8,.mv (.tmp 75),none⟩]) (.ret))))),[.tmp 8],76)
def ir_sPart_1 (F:Nat→Nat):IC:=(.seq (.blk [⟨some 25,.mv (.tmp 23),none⟩,⟨some 26,.iad (.tmp 21) (.tmp 23) 8,none⟩,⟨some 27,.ldn (.tmp 26) 8,none⟩,
 ⟨some 13,.alloc [.int .i64 0,.int .i64 0,.int .i64 0,.int .i64 0,.int .i64 0,.int .i64 0,.int .i64 0,.slice none 0 0],none⟩,⟨some 12,.mv (.tmp 25),none⟩,
 ⟨none,.st (.tmp 13) 8 (.tmp 27),none⟩]) (.seq (.blk [⟨some 28,.fad (.tmp 13) 4,none⟩,⟨some 29,.ld (.tmp 28),none⟩,⟨some 30,.bin .lss (.tmp 29) (.const (.int .i64 0)),none⟩,
 ⟨some 31,.mv (.tmp 30),none⟩,⟨some 32,.ldn (.tmp 13) 8,some (31,true)⟩,⟨some 33,.mv (.tmp 1),some (31,true)⟩,⟨some 34,.call (F sHas) [.tmp 32,.tmp 33],some (31,true)⟩,
 ⟨some 35,.pick (.tmp 31) (.tmp 34) (.const (.bool false)),none⟩]) (.cond (.tmp 35) (.drw [⟨⟨some 36,.mv (.tmp 9),none⟩,false,[]⟩,⟨⟨some 37,.ldn (.tmp 13) 8,none⟩,false,[]⟩,
 ⟨⟨some 38,.mv (.tmp 1),none⟩,false,[]⟩,⟨⟨some 39,.mv (.tmp 2),none⟩,false,[]⟩,⟨⟨some 40,.ldn (.tmp 7) 5,none⟩,false,[]⟩,⟨⟨some 41,.mv (.tmp 12),none⟩,false,[]⟩,
 ⟨⟨some 42,.call (F sAt) [.tmp 40,.tmp 41],none⟩,true,[]⟩,⟨⟨some 43,.call (F kHT) [.tmp 37,.tmp 38,.tmp 39,.tmp 42],none⟩,true,[6]⟩]
 [⟨some 44,.append (.tmp 36) (.tmp 43) 1 1,none⟩,⟨some 9,.mv (.tmp 44),none⟩]) (.skip))))
def ir_sPart_2 (F:Nat→Nat):IC:=(.drw [⟨⟨some 62,.fad (.tmp 16) 4,none⟩,false,[]⟩,⟨⟨some 63,.ld (.tmp 62),none⟩,false,[]⟩,⟨⟨some 64,.mv (.tmp 14),none⟩,false,[]⟩,
 ⟨⟨some 65,.bin .eql (.tmp 63) (.tmp 64),none⟩,false,[]⟩,⟨⟨some 66,.mv (.tmp 65),none⟩,false,[]⟩,⟨⟨some 67,.ldn (.tmp 16) 8,some (66,true)⟩,false,[]⟩,
 ⟨⟨some 68,.ldn (.tmp 7) 5,some (66,true)⟩,false,[]⟩,⟨⟨some 69,.mv (.tmp 15),some (66,true)⟩,false,[]⟩,⟨⟨some 70,.call (F sAt) [.tmp 68,.tmp 69],some (66,true)⟩,true,[]⟩,
 ⟨⟨some 71,.call (F uR) [.tmp 67,.tmp 70],some (66,true)⟩,true,[8]⟩,⟨⟨some 72,.lnot (.tmp 71),some (66,true)⟩,false,[8,9]⟩,
 ⟨⟨some 73,.pick (.tmp 66) (.tmp 72) (.const (.bool false)),none⟩,false,[8,9]⟩] [])
def ir_sPart_3 (F:Nat→Nat):IC:=(.seq (.drw [⟨⟨some 74,.ldn (.tmp 16) 8,none⟩,false,[]⟩,⟨⟨some 75,.mv (.tmp 1),none⟩,false,[]⟩,⟨⟨some 76,.mv (.tmp 2),none⟩,false,[]⟩,
 ⟨⟨some 77,.ldn (.tmp 7) 5,none⟩,false,[]⟩,⟨⟨some 78,.mv (.tmp 15),none⟩,false,[]⟩,⟨⟨some 79,.call (F sAt) [.tmp 77,.tmp 78],none⟩,true,[]⟩,
 ⟨⟨some 80,.call (F kHT) [.tmp 74,.tmp 75,.tmp 76,.tmp 79],none⟩,true,[5]⟩,⟨⟨some 17,.mv (.tmp 80),none⟩,false,[5,6]⟩] []) (.seq (.blk [⟨some 81,.mv (.tmp 10),none⟩,
 ⟨some 82,.mv (.tmp 14),none⟩,⟨some 83,.conv .u64 (.tmp 82),none⟩,⟨some 84,.call (F z8) [.tmp 83],none⟩,⟨some 85,.append (.tmp 81) (.tmp 84) 1 1,none⟩,
 ⟨some 86,.mv (.tmp 17),none⟩,⟨some 87,.len (.tmp 86),none⟩,⟨some 88,.conv .u64 (.tmp 87),none⟩,⟨some 89,.call (F z8) [.tmp 88],none⟩,
 ⟨some 90,.append (.tmp 85) (.tmp 89) 1 1,none⟩,⟨some 91,.mv (.tmp 17),none⟩,⟨some 92,.append (.tmp 90) (.tmp 91) 1 1,none⟩,⟨some 10,.mv (.tmp 92),none⟩])
 (.blk [⟨some 93,.mv (.tmp 11),none⟩,⟨some 94,.bin .add (.tmp 93) (.const (.int .i64 1)),none⟩,⟨some 11,.mv (.tmp 94),none⟩])))
def ir_sPart_4 (F:Nat→Nat):IC:=(.seq (.blk [⟨some 54,.mv (.tmp 52),none⟩,⟨some 14,.mv (.tmp 54),none⟩]) (.seq (.blk [⟨some 55,.mv (.tmp 0),none⟩,⟨some 56,.len (.tmp 55),none⟩,
 ⟨some 57,.mv (.const (.int .i64 0)),none⟩]) (.block 4 (.loop (.seq (.blk [⟨some 58,.bin .lss (.tmp 57) (.tmp 56),none⟩]) (.seq (.cond (.tmp 58) (.skip) (.exit 4))
 (.seq (.block 5 (.seq (.blk [⟨some 59,.mv (.tmp 57),none⟩,⟨some 60,.iad (.tmp 55) (.tmp 57) 8,none⟩,⟨some 61,.ldn (.tmp 60) 8,none⟩,
 ⟨some 16,.alloc [.int .i64 0,.int .i64 0,.int .i64 0,.int .i64 0,.int .i64 0,.int .i64 0,.int .i64 0,.slice none 0 0],none⟩,⟨some 15,.mv (.tmp 59),none⟩,
 ⟨none,.st (.tmp 16) 8 (.tmp 61),none⟩]) (.seq (ir_sPart_2 F) (.cond (.tmp 73) (ir_sPart_3 F) (.skip))))) (.blk [⟨some 95,.bin .add (.tmp 57) (.const (.int .i64 1)),none⟩,
 ⟨some 57,.mv (.tmp 95),none⟩]))))))))
def ir_sPart_5 (F:Nat→Nat):IC:=(.seq (.blk [⟨some 104,.iad (.tmp 100) (.tmp 102) 2,none⟩,⟨some 105,.ldn (.tmp 104) 2,none⟩,⟨some 19,.alloc [.int .u32 0,.slice none 0 0],none⟩,
 ⟨none,.st (.tmp 19) 2 (.tmp 105),none⟩]) (.seq (.blk [⟨some 106,.fad (.tmp 19) 1,none⟩,⟨some 107,.ld (.tmp 106),none⟩,⟨some 108,.call (F yR) [.tmp 107],none⟩,
 ⟨some 20,.mv (.tmp 108),none⟩]) (.seq (.blk [⟨some 109,.mv (.tmp 10),none⟩,⟨some 110,.fad (.tmp 19) 0,none⟩,⟨some 111,.ld (.tmp 110),none⟩,⟨some 112,.conv .u64 (.tmp 111),none⟩,
 ⟨some 113,.call (F z8) [.tmp 112],none⟩,⟨some 114,.append (.tmp 109) (.tmp 113) 1 1,none⟩,⟨some 115,.mv (.tmp 20),none⟩,⟨some 116,.len (.tmp 115),none⟩,
 ⟨some 117,.conv .u64 (.tmp 116),none⟩,⟨some 118,.call (F z8) [.tmp 117],none⟩,⟨some 119,.append (.tmp 114) (.tmp 118) 1 1,none⟩,⟨some 120,.mv (.tmp 20),none⟩,
 ⟨some 121,.append (.tmp 119) (.tmp 120) 1 1,none⟩,⟨some 10,.mv (.tmp 121),none⟩]) (.blk [⟨some 122,.mv (.tmp 11),none⟩,
 ⟨some 123,.bin .add (.tmp 122) (.const (.int .i64 1)),none⟩,⟨some 11,.mv (.tmp 123),none⟩]))))
def ir_sPart (F:Nat→Nat):IC×List RV×Nat:=(.seq (.blk [⟨some 7,.box (.tmp 3),none⟩,⟨some 8,.mv (.const (.slice none 0 0)),none⟩])
 (.seq (.blk [⟨some 9,.mv (.const (.slice none 0 0)),none⟩,⟨some 10,.mv (.const (.slice none 0 0)),none⟩]) (.seq (.blk [⟨some 11,.mv (.const (.int .i64 0)),none⟩])
 (.seq (.seq (.blk [⟨some 21,.mv (.tmp 0),none⟩,⟨some 22,.len (.tmp 21),none⟩,⟨some 23,.mv (.const (.int .i64 0)),none⟩])
 (.block 0 (.loop (.seq (.blk [⟨some 24,.bin .lss (.tmp 23) (.tmp 22),none⟩]) (.seq (.cond (.tmp 24) (.skip) (.exit 0)) (.seq (.block 1 (ir_sPart_1 F))
 (.blk [⟨some 45,.bin .add (.tmp 23) (.const (.int .i64 1)),none⟩,⟨some 23,.mv (.tmp 45),none⟩]))))))) (.seq (.seq (.blk [⟨some 46,.mv (.tmp 2),none⟩,
 ⟨some 47,.lnot (.tmp 46),none⟩]) (.cond (.tmp 47) (.seq (.blk [⟨some 48,.mv (.tmp 9),none⟩,⟨some 8,.mv (.tmp 48),none⟩]) (.ret)) (.skip)))
 (.seq (.seq (.blk [⟨some 49,.mv (.tmp 0),none⟩,⟨some 50,.call (F vR) [.tmp 49],none⟩,⟨some 51,.conv .i64 (.tmp 50),none⟩,⟨some 52,.mv (.const (.int .i64 0)),none⟩])
 (.block 2 (.loop (.seq (.blk [⟨some 53,.bin .lss (.tmp 52) (.tmp 51),none⟩]) (.seq (.cond (.tmp 53) (.skip) (.exit 2)) (.seq (.block 3 (ir_sPart_4 F))
 (.blk [⟨some 96,.bin .add (.tmp 52) (.const (.int .i64 1)),none⟩,⟨some 52,.mv (.tmp 96),none⟩]))))))) (.seq (.seq (.blk [⟨some 97,.mv (.tmp 0),none⟩,
 ⟨some 98,.fad (.tmp 7) 4,none⟩,⟨some 99,.ld (.tmp 98),none⟩,⟨some 100,.call (F yA) [.tmp 97,.tmp 99],none⟩,⟨some 101,.len (.tmp 100),none⟩,
 ⟨some 102,.mv (.const (.int .i64 0)),none⟩]) (.block 6 (.loop (.seq (.blk [⟨some 103,.bin .lss (.tmp 102) (.tmp 101),none⟩]) (.seq (.cond (.tmp 103) (.skip) (.exit 6))
 (.seq (.block 7 (ir_sPart_5 F)) (.blk [⟨some 124,.bin .add (.tmp 102) (.const (.int .i64 1)),none⟩,⟨some 102,.mv (.tmp 124),none⟩])))))))
 (.seq (.blk [⟨some 125,.mv (.tmp 9),none⟩,⟨some 126,.mv (.tmp 11),none⟩,⟨some 127,.conv .u64 (.tmp 126),none⟩,⟨some 128,.call (F z8) [.tmp 127],none⟩,
 ⟨some 129,.append (.tmp 125) (.tmp 128) 1 1,none⟩,⟨some 130,.mv (.tmp 10),none⟩,⟨some 131,.append (.tmp 129) (.tmp 130) 1 1,none⟩,⟨some 8,.mv (.tmp 131),none⟩]) (.ret)))))))),
 [.tmp 8],132)
def ir_sWrite (F:Nat→Nat):IC×List RV×Nat:=(.seq (.blk [⟨some 3,.box (.tmp 0),none⟩,⟨some 5,.box (.tmp 2),none⟩,⟨some 6,.mv (.const (.slice none 0 0)),none⟩])
 (.seq (.blk [⟨some 7,.fad (.tmp 3) 0,none⟩,⟨some 8,.ld (.tmp 7),none⟩,⟨some 9,.mv (.tmp 1),none⟩,⟨some 10,.fad (.tmp 3) 1,none⟩,⟨some 11,.ld (.tmp 10),none⟩,
 ⟨some 12,.bin .geq (.tmp 11) (.const (.int .i64 0)),none⟩,⟨some 13,.mv (.tmp 12),none⟩,⟨some 14,.mv (.tmp 1),some (13,true)⟩,⟨some 15,.fad (.tmp 3) 1,some (13,true)⟩,
 ⟨some 16,.ld (.tmp 15),some (13,true)⟩,⟨some 17,.bin .geq (.tmp 14) (.tmp 16),some (13,true)⟩,⟨some 18,.pick (.tmp 13) (.tmp 17) (.const (.bool false)),none⟩,
 ⟨some 19,.ldn (.tmp 5) 5,none⟩,⟨some 20,.call (F kGF) [.tmp 8,.tmp 9,.tmp 18,.tmp 19],none⟩,⟨some 6,.mv (.tmp 20),none⟩]) (.ret)),[.tmp 6],21)
def ir_sKept (F:Nat→Nat):IC×List RV×Nat:=(.seq (.blk [⟨some 3,.box (.tmp 0),none⟩,⟨some 5,.box (.tmp 2),none⟩,⟨some 6,.mv (.const (.slice none 0 0)),none⟩])
 (.seq (.drw [⟨⟨some 7,.mv (.tmp 1),none⟩,false,[]⟩,⟨⟨some 8,.call (F yU) [.tmp 7,.const (.int .i64 2)],none⟩,true,[]⟩,⟨⟨some 9,.ldn (.tmp 3) 2,none⟩,false,[]⟩,
 ⟨⟨some 10,.mv (.tmp 1),none⟩,false,[]⟩,⟨⟨some 11,.ldn (.tmp 5) 5,none⟩,false,[]⟩,⟨⟨some 12,.call (F kHU) [.tmp 9,.tmp 10,.tmp 11],none⟩,true,[1]⟩]
 [⟨some 13,.append (.tmp 8) (.tmp 12) 1 1,none⟩,⟨some 6,.mv (.tmp 13),none⟩]) (.ret)),[.tmp 6],14)
def ir_sValue_1 (F:Nat→Nat):IC:=(.seq (.blk [⟨some 34,.fad (.tmp 11) 1,none⟩,⟨some 35,.ld (.tmp 34),none⟩,⟨some 36,.call (F yR) [.tmp 35],none⟩,⟨some 14,.mv (.tmp 36),none⟩])
 (.seq (.seq (.blk [⟨some 37,.mv (.tmp 2),none⟩]) (.cond (.tmp 37) (.blk [⟨some 14,.mv (.const (.slice none 0 0)),none⟩]) (.skip))) (.seq (.blk [⟨some 38,.mv (.tmp 4),none⟩,
 ⟨some 39,.mv (.tmp 2),none⟩,⟨some 40,.mv (.tmp 14),none⟩,⟨some 41,.len (.tmp 40),none⟩,⟨some 42,.call (F yG) [.tmp 38,.tmp 39,.tmp 41,.const (.int .i64 2)],none⟩,
 ⟨some 43,.mv (.tmp 14),none⟩,⟨some 44,.append (.tmp 42) (.tmp 43) 1 1,none⟩,⟨some 12,.mv (.tmp 44),none⟩]) (.ret))))
def ir_sValue_2 (F:Nat→Nat):IC:=(.seq (.blk [⟨some 47,.fad (.tmp 11) 1,none⟩,⟨some 48,.ld (.tmp 47),none⟩,⟨some 49,.call (F yR) [.tmp 48],none⟩,⟨some 15,.mv (.tmp 49),none⟩])
 (.seq (.seq (.blk [⟨some 50,.mv (.tmp 2),none⟩]) (.cond (.tmp 50) (.blk [⟨some 15,.mv (.const (.slice none 0 0)),none⟩]) (.skip))) (.seq (.blk [⟨some 51,.mv (.tmp 4),none⟩,
 ⟨some 52,.mv (.tmp 2),none⟩,⟨some 53,.mv (.tmp 15),none⟩,⟨some 54,.len (.tmp 53),none⟩,⟨some 55,.call (F yG) [.tmp 51,.tmp 52,.tmp 54,.const (.int .i64 4)],none⟩,
 ⟨some 56,.mv (.tmp 15),none⟩,⟨some 57,.append (.tmp 55) (.tmp 56) 1 1,none⟩,⟨some 12,.mv (.tmp 57),none⟩]) (.ret))))
def ir_sValue_3 (F:Nat→Nat):IC:=(.seq (.blk [⟨some 33,.bin .eql (.tmp 16) (.const (.int .i64 8)),none⟩,⟨some 32,.mv (.tmp 33),none⟩]) (.cond (.tmp 32) (ir_sValue_1 F)
 (.seq (.blk [⟨some 46,.bin .eql (.tmp 16) (.const (.int .i64 9)),none⟩,⟨some 45,.mv (.tmp 46),none⟩]) (.cond (.tmp 45) (ir_sValue_2 F)
 (.seq (.blk [⟨some 59,.bin .eql (.tmp 16) (.const (.int .i64 10)),none⟩,⟨some 58,.mv (.tmp 59),none⟩]) (.cond (.tmp 58) (.seq (.blk [⟨some 60,.mv (.tmp 1),none⟩,
 ⟨some 61,.mv (.tmp 3),none⟩,⟨some 62,.mv (.tmp 4),none⟩,⟨some 63,.ldn (.tmp 11) 5,none⟩,⟨some 64,.call (F kGF) [.tmp 60,.tmp 61,.tmp 62,.tmp 63],none⟩,
 ⟨some 12,.mv (.tmp 64),none⟩]) (.ret)) (.skip)))))))
def ir_sValue_4 (F:Nat→Nat):IC:=(.seq (.blk [⟨some 18,.bin .eql (.tmp 16) (.const (.int .i64 0)),none⟩,⟨some 17,.mv (.tmp 18),none⟩]) (.cond (.tmp 17)
 (.seq (.blk [⟨some 19,.fad (.tmp 11) 0,none⟩,⟨some 20,.ld (.tmp 19),none⟩,⟨some 21,.bin .and (.tmp 20) (.const (.int .i64 1)),none⟩,⟨some 22,.conv .u8 (.tmp 21),none⟩,
 ⟨some 23,.bslice 1 [.int .u8 0] [(0,1,.tmp 22)],none⟩,⟨some 12,.mv (.tmp 23),none⟩]) (.ret)) (.seq (.blk [⟨some 25,.bin .eql (.tmp 16) (.const (.int .i64 7)),none⟩,
 ⟨some 24,.mv (.tmp 25),none⟩]) (.cond (.tmp 24) (.seq (.blk [⟨some 26,.mkslice (.const (.int .i64 16)) (.const (.int .i64 16)) 1 [.int .u8 0],none⟩,⟨some 13,.mv (.tmp 26),none⟩])
 (.seq (.blk [⟨some 27,.mv (.tmp 13),none⟩,⟨some 28,.fad (.tmp 11) 1,none⟩,⟨some 29,.ld (.tmp 28),none⟩,⟨some 30,.copy (.tmp 27) (.tmp 29) 1,none⟩])
 (.seq (.blk [⟨some 31,.mv (.tmp 13),none⟩,⟨some 12,.mv (.tmp 31),none⟩]) (.ret)))) (ir_sValue_3 F)))))
def ir_sValue (F:Nat→Nat):IC×List RV×Nat:=(.seq (.blk [⟨some 11,.box (.tmp 5),none⟩,⟨some 12,.mv (.const (.slice none 0 0)),none⟩]) (.seq (.seq (.blk [⟨some 16,.mv (.tmp 0),none⟩])
 (.block 0 (ir_sValue_4 F))) (.seq (.drw [⟨⟨some 65,.fad (.tmp 11) 0,none⟩,false,[]⟩,⟨⟨some 66,.ld (.tmp 65),none⟩,false,[]⟩,⟨⟨some 67,.mv (.tmp 0),none⟩,false,[]⟩,
 ⟨⟨some 68,.call (F kBH) [.tmp 67],none⟩,true,[]⟩,⟨⟨some 69,.call (F yU) [.tmp 66,.tmp 68],none⟩,true,[3]⟩,⟨⟨some 12,.mv (.tmp 69),none⟩,false,[3,4]⟩] []) (.ret))),[.tmp 12],70)
def qN (fs:List FD):Nat:=fs.foldl (fun n f=>if f.tag≥0 then max n (f.tag.toNat+1) else n) 0
def insU (k:Nat) (b:List UInt8):List (Nat×List UInt8)→List (Nat×List UInt8)
 | []=>[(k,b)]
 | (k',b')::r=>if k'<k then (k',b')::insU k b r else if k'=k then (k',b')::r else (k,b)::(k',b')::r
def zS (least:Nat) (out:List (Nat×List UInt8)) (t:Nat×List UInt8):List (Nat×List UInt8):=if t.1<least then out else insU t.1 t.2 out
def kU (fs:List FD) (u:List (Nat×List UInt8)):List (Nat×List UInt8):=(u.take 32767).foldl (zS (qN fs)) []
def posU (k:Nat):List (Nat×List UInt8)→Nat
 | []=>0
 | (k',_)::r=>if k'<k then posU k r+1 else 0
theorem kJZ (k:Nat) :∀l,posU k l≤l.length
 | []=>Nat.le_refl _
 | (k',b)::r=>by simp only [posU];split<;>simp [kJZ k r]
theorem kNH {k:Nat} :∀{l:List (Nat×List UInt8)} {i:Nat},i<posU k l →∃t,l[i]?=some t∧t.1<k
 | [],i,h=>by simp [posU] at h
 | (k',b)::r,0,h=>by
   simp only [posU] at h
   split at h
   ·rename_i hk;exact ⟨_,rfl,hk⟩
   ·omega
 | (k',b)::r,i+1,h=>by
   simp only [posU] at h
   split at h
   ·simpa using kNH (l:=r) (i:=i) (by omega)
   ·omega
theorem kNI {k:Nat} :∀{l:List (Nat×List UInt8)} {t:Nat×List UInt8},l[posU k l]?=some t →¬t.1<k
 | [],t,h=>by simp [posU] at h
 | (k',b)::r,t,h=>by
   simp only [posU] at h
   split at h
   ·simp only [List.getElem?_cons_succ] at h;exact kNI h
   ·rename_i hk;simp only [List.getElem?_cons_zero,Option.some.injEq] at h;subst h;exact hk
theorem kGV (k:Nat) (b:List UInt8) :∀l,insU k b l=if (l[posU k l]?).map (·.1)=some k then l else l.take (posU k l)++(k,b)::l.drop (posU k l)
 | []=>by simp [insU,posU]
 | (k',b')::r=>by
   simp only [insU,posU]
   by_cases h:k'<k
   ·simp only [h,if_true,List.getElem?_cons_succ,List.take_succ_cons,List.drop_succ_cons,List.cons_append]
    rw [kGV k b r]
    split<;>rfl
   ·simp only [h,if_false,List.getElem?_cons_zero,Option.map_some,Option.some.injEq,List.take_zero,List.drop_zero,List.nil_append]
theorem kNJ {fs:List FD} (h :∀f∈fs,f.tag<2147483648):qN fs<2147483649:=by
 have :∀(l:List FD) (n:Nat),n<2147483649→(∀f∈l,f.tag<2147483648)→l.foldl (fun n f=>if f.tag≥0 then max n (f.tag.toNat+1) else n) n<2147483649:=by
  intro l
  induction l with
  | nil=>intro n h _;exact h
  | cons f l ih =>
    intro n hn hl
    simp only [List.foldl_cons]
    refine ih _ ?_ fun g hg=>hl g (List.mem_cons_of_mem _ hg)
    have:=hl f List.mem_cons_self
    split
    ·omega
    ·exact hn
 exact this fs 0 (by omega) h
theorem kEP (l:List FD) (f:FD):qN (l++[f])=if f.tag≥0 then max (qN l) (f.tag.toNat+1) else qN l:=by
 simp [qN,List.foldl_append]
theorem yK {α:Type} {l:List α} {j:Nat} {x:α} (h:l[j]?=some x):l.take (j+1)=l.take j++[x]:=by
 rw [List.take_add_one,h];rfl
theorem kFN {n:Nat} {css:List (List Value)} {rest es:List Value} {k:Nat} (h2 :∀c∈css,c.length=n) (he:es.length=n) (hk:k<css.length):splice (css.flatten++rest) (k*n) es=(css.set k es).flatten++rest:=by
 induction css generalizing k with
 | nil=>simp at hk
 | cons c css ih =>
   have hc:=h2 c List.mem_cons_self
   cases k with
   | zero =>
     simp only [Nat.zero_mul,List.set_cons_zero,List.flatten_cons,splice,List.take_zero,List.nil_append,Nat.zero_add,List.append_assoc]
     rw [he,←hc,List.drop_left]
   | succ k =>
     have:=ih (k:=k) (fun x hx=>h2 x (List.mem_cons_of_mem _ hx)) (by simpa using hk)
     simp only [List.set_cons_succ,List.flatten_cons,List.append_assoc] at this ⊢
     rw [←this]
     simp only [splice]
     have e:(k+1)*n=c.length+k*n:=by rw [hc,Nat.add_mul];omega
     rw [e,List.take_length_add_append,Nat.add_assoc,List.drop_length_add_append,List.append_assoc]
section
variable {P:Program} {F:Nat→Nat}
attribute [local simp] gOk updo upd ev RK.val? kL kM Addr.kK qE Value.cells undef
theorem kC2 (hm:P.follows .mixedOrders=true) (h:kH P (F vR)=some (ir_sKnown F)) {w:World} {v:Value} {fs:List FD} {css:List (List Value)} (hv:SlC anyB w v fs.length css.flatten) (hr:jU anyB w fs css) (hlen:fs.length<2147483648) (ht :∀f∈fs,f.tag<2147483648) :
  Calls P (F vR) [v].toArray w fun e w'=>e=.returned (.int .u32 (qN fs))∧Mod [] w w':=by
 unfold ir_sKnown at h
 refine kT h hm (by simp) ?_
 clear h
 obtain ⟨vb,vc,ev'⟩:=hv.shape
 rw [wpC_seq,kD]
 refine go1 rfl rfl (kE ?_)
 rw [wpC_seq,kD]
 refine go1 rfl rfl (kE ?_)
 rw [wpC_seq,wpC_seq,kD]
 iterate 3 (apply go1 rfl;(· simp [ev']<;>rfl))
 refine kE ?_
 refine rangeLoop (n:=fs.length) (fun j σ w'=>σ 6=v∧σ 8=.int .i64 (j:Nat)∧σ 7=.int .i64 fs.length∧σ 3=.int .u32 (qN (fs.take j):Nat)∧Mod [] w w') (by omega) (by omega) (fun j σ w h=>⟨h.2.1,h.2.2.1⟩) ?_ ?_ ?_
 ·simp [qN,ev',Mod.refl]
 ·rintro j σ w1 hj ⟨h6,h8,h7,h3,hm1⟩
  obtain ⟨f,hf⟩ :∃f,fs[j]?=some f:=⟨fs[j],by simp [hj]⟩
  obtain ⟨cs,hcs,hrep⟩:=hr.nth hf
  obtain ⟨a,c,ea,hjn,hcell⟩:=hv.flat hr.length hr.eight hcs
  have htag:=ht f (List.mem_of_getElem? hf)
  have hcell1:kV w1 (a.add (j*8)) 0 8=some cs:=qA hm1.below _ _ _ hcell
  unfold ir_sKnown_1
  rw [wpC_seq,kD]
  refine go1 (v:=.pointer (some (a.add (j*8)))) rfl (by simp [h6,ea,h8,hjn]) ?_
  refine go1 (v:=.agg cs.toArray) rfl (by simp [hcell1]) ?_
  refine jI fun w2 hb2 hm2=>?_
  refine goSt (b:=w1.heap.size) (v:=.agg cs.toArray) (by simp) (by simp) hb2 (by simp [hrep.eight]) rfl (by simpa using hrep.oneCell) fun w3 hb3 hm3=>?_
  have hm13:Mod [] w1 w3:=Mod.drop (b:=w1.heap.size) (S:=[]) (hm2.nil.trans hm3) (Nat.le_refl _)
  refine kE ?_
  have c3:=fun k=>hb3.cell k
  rw [wpC_seq,kD]
  cases hrep with
  | @mk kind frm to null tag dfl of sub sv css' h1 h2 =>
  iterate 3 (apply go1 rfl;(· simp [c3]<;>rfl))
  refine kE ?_
  simp only [FD.tag] at htag
  by_cases e1:tag≥0
  ·rw [kI (by simp [e1]),kD]
   refine go1 (v:=.int .u32 (qN (fs.take j):Nat)) rfl (by simp [h3]) ?_
   iterate 2 (apply go1 rfl;(· simp [c3]<;>rfl))
   have hk:=kNJ (fs:=fs.take j) fun f hf=>ht f (List.mem_of_mem_take hf)
   refine go1 (v:=.int .u32 (tag.toNat:Nat)) rfl (by
    simp only [RK.val?,ev,updo,upd,if_true]
    rw [show tag=((tag.toNat:Nat):Int) by omega,kBS (by omega)];simp) ?_
   refine go1 (v:=.int .u32 ((tag.toNat+1:Nat):Int)) rfl (by
    simp only [RK.val?,ev,updo,upd,if_true,kL,decide_true,Bool.or_true,kM]
    rw [show (tag.toNat:Int)+1=((tag.toNat+1:Nat):Int) by omega,kBS (by omega)]) ?_
   refine go1 (v:=.int .u32 ((max (qN (fs.take j)) (tag.toNat+1):Nat):Int)) rfl (by
    simp only [RK.val?,ev,updo,upd,if_true]
    simp
    split<;>omega) ?_
   refine go1 rfl rfl (kP ?_)
   simp only [rngP]
   refine ⟨by simp [h8],by simp [h6],by simp,by simp [h7],?_,hm1.trans hm13⟩
   rw [yK hf,kEP]
   simp [FD.tag,e1]
  ·rw [kG (by simp;omega),wpC_skip]
   simp only [rngP]
   refine ⟨by simp [h8],by simp [h6],by simp,by simp [h7],?_,hm1.trans hm13⟩
   rw [yK hf,kEP]
   simp [FD.tag,e1,h3]
 ·rintro σ w1 ⟨h6,h8,h7,h3,hm1⟩
  simp only [kF]
  rw [wpC_seq,kD]
  refine go1 rfl rfl (go1 rfl rfl (kE (ret1 (v:=.int .u32 (qN fs)) (by simp [h3]) ⟨rfl,hm1⟩)))
end
section
variable {P:Program} {F:Nat→Nat}
theorem yZ {k:RK} {d:Option Nat} {a:Nat} {b:Bool} {r:List RI} {σ:Sl} {w:World} {Q:Sl→World→Prop} (hg:σ a=.bool (!b)) (h:wpR P r (updo σ d undef) w Q):wpR P (⟨d,k,some (a,b)⟩::r) σ w Q:=by
 have:gOk (some (a,b)) σ=false:=by simp only [gOk,hg];cases b<;>rfl
 simp only [wpR,RI.wp,this,Bool.false_eq_true,if_false]
 exact h
theorem SlC.kQS {ok:Nat→Prop} {w:World} {v:Value} {n j:Nat} {css:List (List Value)} {a b:Value} (h:SlC ok w v n css.flatten) (hn:n=css.length) (hsz :∀c∈css,c.length=2) (hj:css[j]?=some [a,b]) :
  ∃p c,v=.slice (some p) n c∧j<n∧w.cell? ((p.add (j*2)).add 0)=some a:=by
 obtain ⟨base,cap,rfl,h2,h3,h4⟩:=h
 have hjl:j<css.length:=by
  rcases Nat.lt_or_ge j css.length with h|h
  ·exact h
  ·rw [List.getElem?_eq_none h] at hj;simp at hj
 obtain ⟨p,rfl⟩ :∃p,base=some p:=by
  cases base with
  | some p=>exact ⟨p,rfl⟩
  | none=>have:=h3 rfl;omega
 obtain ⟨k1,k2,k3⟩:=h4 p rfl (by omega)
 refine ⟨p,cap,rfl,by omega,?_⟩
 have hfl:css.flatten[j*2]?=some a:=by
  have key :∀(l:List (List Value)) (j:Nat),(∀c∈l,c.length=2)→l[j]?=some [a,b]→l.flatten[j*2]?=some a:=by
   intro l
   induction l with
   | nil=>intro j _ h;simp at h
   | cons x l ih =>
     intro j hs hj
     cases j with
     | zero=>simp at hj;subst hj;rfl
     | succ j =>
       have hx:=hs x List.mem_cons_self
       rw [List.flatten_cons,List.getElem?_append_right (by omega),hx,show (j+1)*2-2=j*2 by omega]
       exact ih j (fun c hc=>hs c (List.mem_cons_of_mem _ hc)) (by simpa using hj)
  exact key css j hsz hj
 have:=k3.2 (j*2) a hfl
 rw [Addr.kC7 k3.1,Addr.kK]
 simpa using this
structure kJ0 (w:World) (ok:Nat→Prop) (v:Value) (ks:List Nat) (css:List (List Value)):Prop where
 sl:SlC ok w v css.length css.flatten
 len:ks.length=css.length
 two :∀c∈css,c.length=2
 key :∀(j k:Nat),ks[j]?=some k →∃x,css[j]?=some [u32v k,x]
theorem kJ0.mod {ok:Nat→Prop} {w w':World} {v:Value} {ks:List Nat} {css:List (List Value)} (h:kJ0 w ok v ks css) (hm:Mod [] w w'):kJ0 w' ok v ks css :=
 ⟨h.sl.mod hm (by simp) fun _ _ h=>h,h.len,h.two,h.key⟩
theorem kIJ {l:List Nat} (h:l.Pairwise (·≤·)) {i j a b:Nat} (hi:l[i]?=some a) (hj:l[j]?=some b) (hij:i<j):a≤b:=by
 rw [List.pairwise_iff_getElem] at h
 obtain ⟨hi',rfl⟩:=List.getElem?_eq_some_iff.1 hi
 obtain ⟨hj',rfl⟩:=List.getElem?_eq_some_iff.1 hj
 exact h i j hi' hj' hij
theorem kJ1 {w:World} {ok:Nat→Prop} {v:Value} {ks:List Nat} {css:List (List Value)} {i:Nat} {σ:Sl} {Q:Sl→World→Prop} (hp:kJ0 w ok v ks css) (hs:ks.Pairwise (·≤·)) (hi:i<ks.length) (hlen:ks.length≤2147483647) (h0:σ 0=v) (h3:σ 3=.int .i64 i)
  (hQ :∀σ',(∀j,j<10→σ' j=σ j)→σ' 25=.bool false→Q σ' w) :
  wpR P [⟨some 10,.mv (.tmp 3),none⟩,⟨some 11,.bin .gtr (.tmp 10) (.const (.int .i64 0)),none⟩,⟨some 12,.mv (.tmp 11),none⟩,⟨some 13,.mv (.tmp 0),some (12,true)⟩,⟨some 14,.mv (.tmp 3),some (12,true)⟩,⟨some 15,.iad (.tmp 13) (.tmp 14) 2,some (12,true)⟩,
   ⟨some 16,.fad (.tmp 15) 0,some (12,true)⟩,⟨some 17,.ld (.tmp 16),some (12,true)⟩,⟨some 18,.mv (.tmp 0),some (12,true)⟩,⟨some 19,.mv (.tmp 3),some (12,true)⟩,⟨some 20,.bin .sub (.tmp 19) (.const (.int .i64 1)),some (12,true)⟩,
   ⟨some 21,.iad (.tmp 18) (.tmp 20) 2,some (12,true)⟩,⟨some 22,.fad (.tmp 21) 0,some (12,true)⟩,⟨some 23,.ld (.tmp 22),some (12,true)⟩,⟨some 24,.bin .lss (.tmp 17) (.tmp 23),some (12,true)⟩,⟨some 25,.pick (.tmp 12) (.tmp 24) (.const (.bool false)),none⟩] σ w Q:=by
 refine kC (v:=.int .i64 i) (congrArg some h3) ?_
 refine kC (v:=.bool (decide (0<i))) (by
  simp only [RK.val?,ev,updo,upd,if_true,kL,decide_true,Bool.or_true,kM]
  congr 2;exact decide_eq_decide.2 (by omega)) ?_
 refine kC (v:=.bool (decide (0<i))) (by simp only [RK.val?,ev,updo,upd,if_true]) ?_
 by_cases hi0:0<i
 ·obtain ⟨i',rfl⟩ :∃i',i=i'+1:=⟨i-1,by omega⟩
  obtain ⟨a,ha⟩ :∃a,ks[i'+1]?=some a:=⟨_,List.getElem?_eq_getElem hi⟩
  obtain ⟨b,hb⟩ :∃b,ks[i']?=some b:=⟨_,List.getElem?_eq_getElem (by omega)⟩
  have hle:=kIJ hs hb ha (by omega)
  obtain ⟨xa,hxa⟩:=hp.key _ _ ha
  obtain ⟨xb,hxb⟩:=hp.key _ _ hb
  obtain ⟨p,c,rfl,hj1,c1⟩:=hp.sl.kQS rfl hp.two hxa
  obtain ⟨p',c',hv',hj2,c2⟩:=hp.sl.kQS rfl hp.two hxb
  simp only [Value.slice.injEq,Option.some.injEq] at hv'
  obtain ⟨rfl,-,rfl⟩:=hv'
  have g :∀(σ:Sl),σ 12=.bool (decide (0<i'+1))→σ 12=.bool true:=fun σ h=>by rw [h];simp
  have hl:=hp.len
  refine jO (v:=.slice (some p) css.length c) (by simp [updo,upd]) (by simp only [RK.val?,ev,updo,upd];simp [h0]) ?_
  refine jO (v:=.int .i64 ((i'+1:Nat):Int)) (by simp [updo,upd]) (by simp only [RK.val?,ev,updo,upd];simp [h3]) ?_
  refine jO (v:=.pointer (some (p.add ((i'+1)*2)))) (by simp [updo,upd]) (by
   simp only [RK.val?,ev,updo,upd,show (13:Nat)≠14 by decide,if_false,if_true]
   rw [if_pos (by omega)];simp) ?_
  refine jO (v:=.pointer (some ((p.add ((i'+1)*2)).add 0))) (by simp [updo,upd]) (by simp only [RK.val?,ev,updo,upd,if_true]) ?_
  refine jO (v:=u32v a) (by simp [updo,upd]) (by simp only [RK.val?,ev,updo,upd,if_true,c1]) ?_
  refine jO (v:=.slice (some p) css.length c) (by simp [updo,upd]) (by simp only [RK.val?,ev,updo,upd];simp [h0]) ?_
  refine jO (v:=.int .i64 ((i'+1:Nat):Int)) (by simp [updo,upd]) (by simp only [RK.val?,ev,updo,upd];simp [h3]) ?_
  refine jO (v:=.int .i64 (i':Nat)) (by simp [updo,upd]) (by
   simp only [RK.val?,ev,updo,upd,if_true,kL,decide_true,Bool.or_true,kM]
   have e1:((i'+1:Nat):Int)-1=(i':Nat):=by omega
   rw [e1,qX (by omega) (by omega)]) ?_
  refine jO (v:=.pointer (some (p.add (i'*2)))) (by simp [updo,upd]) (by
   simp only [RK.val?,ev,updo,upd,show (18:Nat)≠20 by decide,show (18:Nat)≠19 by decide,if_false,if_true]
   rw [if_pos (by omega)];simp) ?_
  refine jO (v:=.pointer (some ((p.add (i'*2)).add 0))) (by simp [updo,upd]) (by simp only [RK.val?,ev,updo,upd,if_true]) ?_
  refine jO (v:=u32v b) (by simp [updo,upd]) (by simp only [RK.val?,ev,updo,upd,if_true,c2]) ?_
  refine jO (v:=.bool false) (by simp [updo,upd]) (by
   simp only [RK.val?,ev,updo,upd,show (17:Nat)≠23 by decide,show (17:Nat)≠22 by decide,show (17:Nat)≠21 by decide,show (17:Nat)≠20 by decide,show (17:Nat)≠19 by decide,show (17:Nat)≠18 by decide,if_false,if_true,u32v,kL,decide_true,Bool.or_true,kM]
   congr 2;simp;omega) ?_
  refine kC (v:=.bool false) (by simp only [RK.val?,ev,updo,upd];simp) ?_
  simp only [wpR]
  refine hQ _ (fun j hj=>?_) (by simp only [updo,upd,if_true])
  simp only [updo,upd,show j≠25 by omega,show j≠24 by omega,show j≠23 by omega,show j≠22 by omega,show j≠21 by omega,show j≠20 by omega,show j≠19 by omega,show j≠18 by omega,show j≠17 by omega,show j≠16 by omega,show j≠15 by omega,show j≠14 by omega,show j≠13 by omega,show j≠12 by omega,show j≠11 by omega,show j≠10 by omega,if_false]
 ·have hd:decide (0<i)=false:=by simp;omega
  simp only [hd]
  refine yZ (by simp [updo,upd]) ?_
  refine yZ (by simp [updo,upd]) ?_
  refine yZ (by simp [updo,upd]) ?_
  refine yZ (by simp [updo,upd]) ?_
  refine yZ (by simp [updo,upd]) ?_
  refine yZ (by simp [updo,upd]) ?_
  refine yZ (by simp [updo,upd]) ?_
  refine yZ (by simp [updo,upd]) ?_
  refine yZ (by simp [updo,upd]) ?_
  refine yZ (by simp [updo,upd]) ?_
  refine yZ (by simp [updo,upd]) ?_
  refine yZ (by simp [updo,upd]) ?_
  refine kC (v:=.bool false) (by simp only [RK.val?,ev,updo,upd];simp) ?_
  simp only [wpR]
  refine hQ _ (fun j hj=>?_) (by simp only [updo,upd,if_true])
  simp only [updo,upd,show j≠25 by omega,show j≠24 by omega,show j≠23 by omega,show j≠22 by omega,show j≠21 by omega,show j≠20 by omega,show j≠19 by omega,show j≠18 by omega,show j≠17 by omega,show j≠16 by omega,show j≠15 by omega,show j≠14 by omega,show j≠13 by omega,show j≠12 by omega,show j≠11 by omega,show j≠10 by omega,if_false]
theorem kIK {w:World} (hm:P.follows .mixedOrders=true) (h:kH P (F uP)=some (ir_iSorted F)) {ok:Nat→Prop} {v:Value} {ks:List Nat} {css:List (List Value)} (hp:kJ0 w ok v ks css) (hs:ks.Pairwise (·≤·)) (hlen:ks.length≤2147483647) :
  Calls P (F uP) [v].toArray w fun e w'=>e=.returned (.tuple #[])∧Mod [] w w':=by
 unfold ir_iSorted at h
 refine kT h hm (by simp) ?_
 have a0:qE [v] 0=v:=rfl
 generalize qE [v]=σ0 at a0 ⊢
 obtain ⟨base,cap,hv,-⟩:=hp.sl
 have hl:=hp.len
 rw [wpC_seq,kD]
 refine kC (v:=v) (congrArg some a0) ?_
 refine kC (v:=.int .i64 ks.length) (by simp only [RK.val?,ev,updo,upd,if_true,hv,hl]) ?_
 refine kC (v:=.int .i64 0) rfl ?_
 refine kE ?_
 rw [wpC_block,wpC_loop]
 refine ⟨fun σ' w' =>∃i:Nat,i≤ks.length∧σ' 0=v∧σ' 5=.int .i64 ks.length∧σ' 6=.int .i64 i∧Mod [] w w',fun σ' _=>match σ' 6 with|.int _ i=>ks.length-i.toNat|_=>0,
  ⟨0,Nat.zero_le _,by simp [updo,upd,a0],by simp [updo,upd],by simp [updo,upd],Mod.refl _ _⟩,?_⟩
 rintro σ1 w1 ⟨i,hi,s0,s5,s6,hm1⟩
 rw [wpC_seq,kD]
 refine kC (v:=.bool (decide (i<ks.length))) (by
  simp only [RK.val?,ev,s6,s5,kL,decide_true,Bool.or_true,if_true,kM]
  congr 2;exact decide_eq_decide.2 (by omega)) ?_
 refine kE ?_
 by_cases hlt:i<ks.length
 ·rw [wpC_seq,kI (by simp only [ev,updo,upd,if_true,hlt,decide_true]),wpC_skip]
  simp only [kF]
  rw [wpC_seq,wpC_block,wpC_seq,kD]
  refine kC (v:=.int .i64 i) (by simp only [RK.val?,ev,updo,upd];simp [s6]) ?_
  refine kC (v:=.int .i64 i) (by simp only [RK.val?,ev,updo,upd,if_true]) ?_
  refine kE ?_
  rw [wpC_seq,kD]
  refine kC (v:=.int .i64 i) (by simp only [RK.val?,ev,updo,upd,if_true]) ?_
  refine kC (v:=.int .i64 i) (by simp only [RK.val?,ev,updo,upd,if_true]) ?_
  refine kE ?_
  rw [wpC_block,wpC_loop]
  refine ⟨fun σ' w'=>σ' 0=v∧σ' 3=.int .i64 i∧σ' 5=.int .i64 ks.length∧σ' 6=.int .i64 i∧Mod [] w w',fun _ _=>0,⟨by simp [updo,upd,s0],by simp [updo,upd],by simp [updo,upd,s5],by simp [updo,upd,s6],hm1⟩,?_⟩
  rintro σ2 w2 ⟨t0,t3,t5,t6,hm2⟩
  rw [wpC_seq,wpC_seq]
  refine xC rfl ?_
  have hm2d:Mod [] w w2.drew:=hm2.trans (Mod.drew _ _)
  simp only [List.map_cons,List.map_nil,List.append_nil]
  refine kJ1 (hp.mod hm2d) hs hlt hlen t0 t3 fun σ3 a3 f3=>?_
  simp only [kF]
  rw [kG (by simp only [ev,f3])]
  simp only [wpC,kF,kR,if_true]
  have u6:σ3 6=.int .i64 i:=by rw [a3 6 (by omega)];exact t6
  refine kC (v:=.int .i64 ((i+1:Nat):Int)) (by
   simp only [RK.val?,ev,u6,kL,decide_true,Bool.or_true,if_true,kM]
   have e1:(i:Int)+1=((i+1:Nat):Int):=by omega
   rw [e1,qX (by omega) (by omega)]) ?_
  refine kC (v:=.int .i64 ((i+1:Nat):Int)) (by simp only [RK.val?,ev,updo,upd,if_true]) ?_
  simp only [wpR]
  refine ⟨⟨i+1,by omega,by simp [updo,upd,a3,t0],by simp [updo,upd,a3,t5],by simp only [updo,upd,if_true],hm2d⟩,?_⟩
  simp only [updo,upd,if_true,s6];omega
 ·rw [wpC_seq,kG (by simp only [ev,updo,upd,if_true,hlt,decide_false])]
  refine vP ?_
  simp only [postC,rvals,List.mapM_nil,Option.pure_def,tup]
  exact ⟨trivial,hm1⟩
end
section
variable {P:Program} {F:Nat→Nat}
attribute [local simp] bnd wpC wpR RI.wp gOk RK.run kF kR updo upd ev qE postC rvals RV.val zR kL
theorem kC3 {σ:Sl} {w:World} {x y:Operand} {lv:Value} {css:List (List Value)} {es:List Value} {n0 sb:Nat} {K:Value→World→Prop} (hx:ev σ x=lv) (hraw:x9 w n0 lv css) (hn0:n0≤w.heap.size)
  (hy:ev σ y=.slice (some ⟨sb,0,none⟩) 1 1) (hsb:Blk w sb es) (h5:es.length=2) (hone :∀v∈es,v.oneCell'=true) (hl:css.length≤2147483647)
  (hK :∀lv' w',x9 w' n0 lv' (css++[es])→(((own lv'=own lv∧Mod (own lv).toList w w') ∧∃BA c,lv=.slice (some ⟨BA,0,none⟩) css.length c∧css.length+1≤c)∨(own lv'=some w.heap.size∧Mod [] w w'))→K lv' w'):(RK.append x y 2 32).run P σ w K:=by
 have hsrc:qI w 2 (.slice (some ⟨sb,0,none⟩) 1 1)=some (1,es):=by
  simp only [qI,kJ hsb.cells (n:=1*2) (by omega),Option.map_some]
 simp only [RK.run,hx,hy]
 have h5' :∀cs∈css++[es],cs.length=2:=fun cs hc=>by
  rcases List.mem_append.1 hc with hc|hc
  ·exact hraw.two cs hc
  ·simp only [List.mem_singleton] at hc;subst hc;exact h5
 have hfl:css.flatten.length=css.length*2:=yD hraw.two
 rcases hraw.sl with ⟨rfl,rfl⟩|⟨BA,cap,rest,rfl,h2,h3,h4,hr⟩
 ·simp only [hsrc,qV]
  rw [if_neg (by omega)]
  refine ⟨by omega,by omega,?_⟩
  intro T cap rest hc hr
  refine hK _ _ ⟨h5',.inr ⟨w.heap.size,cap,rest,rfl,by simpa using hc,hn0,?_,by simpa using hr⟩⟩ (.inr ⟨rfl,(Mod.drew _ _).trans (Mod.alloc _ _ _)⟩)
  have:=Blk.new w.drew (es++rest) T
  simpa using this
 ·simp only [hsrc,qV]
  by_cases hc:css.length+1≤cap
  ·rw [if_pos hc]
   simp only [Addr.kK,Nat.zero_add]
   refine ⟨qL h4 (by simp only [List.length_append];omega) hone,hK _ _ ⟨h5',.inr ⟨BA,cap,rest.drop 2,by simp,by simpa using hc,h3,?_,by simp;omega⟩⟩ (.inl ⟨⟨rfl,by simpa [own] using Mod.put (by simp)⟩,BA,cap,rfl,hc⟩)⟩
   have hput:=h4.put (o:=css.length*2) (vs:=es) (by simp only [List.length_append];omega)
   have:splice (css.flatten++rest) (css.length*2) es=(css++[es]).flatten++rest.drop 2:=by
    rw [uH hfl,h5,vE,List.append_assoc]
   rwa [this] at hput
  ·rw [if_neg hc]
   refine ⟨by omega,by omega,?_⟩
   have hco:kV w ⟨BA,0,none⟩ 0 (css.length*2)=some css.flatten:=by
    have:=h4.cells.take css.flatten.length
    rw [List.take_left] at this
    exact kJ this hfl
   simp only [hco]
   intro T cap' rest' hc' hr'
   refine hK _ _ ⟨h5',.inr ⟨w.heap.size,cap',rest',by simp,by simpa using hc',hn0,?_,by simpa using hr'⟩⟩ (.inr ⟨rfl,(Mod.drew _ _).trans (Mod.alloc _ _ _)⟩)
   have:=Blk.new w.drew (css.flatten++(es++rest')) T
   simpa using this
structure GU (w3 w:World) (Ob:Nat) (n:Int) (sv lv uv:Value) (null:Bool) (N:Nat) (us:List (Nat×List UInt8)) (ucs:List (List Value)):Prop where
 ob:Blk w Ob [.int .i64 n,sv,.bool null,lv,uv]
 raw:x9 w w3.heap.size uv ucs
 rep:RepU (fun b=>b<N) w us ucs
 mod:Mod [Ob] w3 w
 lob:Ob<w3.heap.size
 nob:N≤Ob
theorem RepU.append {ok:Nat→Prop} {w:World} {l l':List (Nat×List UInt8)} {css css':List (List Value)} (h:RepU ok w l css) (h':RepU ok w l' css'):RepU ok w (l++l') (css++css'):=by
 induction h with
 | nil=>exact h'
 | cons h1 _ ih=>exact .cons h1 ih
theorem RepU.two {ok:Nat→Prop} {w:World} {l:List (Nat×List UInt8)} {css:List (List Value)} (h:RepU ok w l css) :∀c∈css,c.length=2:=by
 induction h with
 | nil=>simp
 | cons h1 _ ih =>
   intro c hc
   rcases List.mem_cons.1 hc with rfl|hc
   ·rfl
   ·exact ih c hc
theorem RepU.length {ok:Nat→Prop} {w:World} {l:List (Nat×List UInt8)} {css:List (List Value)} (h:RepU ok w l css):l.length=css.length:=by
 induction h with
 | nil=>rfl
 | cons h1 _ ih=>simp [ih]
theorem RepU.nth {ok:Nat→Prop} {w:World} {l:List (Nat×List UInt8)} {css:List (List Value)} (h:RepU ok w l css) {j:Nat} {t:Nat×List UInt8} (ht:l[j]?=some t) :∃v,css[j]?=some [.int .u32 t.1,v]∧SlC ok w v t.2.length (u8s t.2):=by
 induction h generalizing j with
 | nil=>simp at ht
 | cons h1 _ ih =>
   cases j with
   | zero=>simp only [List.getElem?_cons_zero,Option.some.injEq] at ht;subst ht;exact ⟨_,rfl,h1⟩
   | succ j=>simp only [List.getElem?_cons_succ] at ht ⊢;exact ih ht
def uzero:List Value:=[.int .u32 0,.slice none 0 0]
end
section
variable {P:Program}
theorem kGW {σ:Sl} {w:World} {x:Operand} {v:Value} {l:List UInt8} {ok:Nat→Prop} {K:Value→World→Prop} (hx:ev σ x=v) (hv:SlC ok w v l.length (u8s l)) (hl:l.length≤70368744177664)
  (hK :∀base cap w',qW w' base l.length cap l→base.isNone=l.isEmpty→(∀a,base=some a→w.heap.size≤a.block∧a.block<w'.heap.size)→Mod [] w w'→K (.slice base l.length cap) w'):(RK.append (.const (.slice none 0 0)) x 1 1).run P σ w K:=by
 obtain ⟨base,cap,rfl,hcap,hb0,hb⟩:=hv
 have hsrc:qI w 1 (.slice base l.length cap)=some (l.length,u8s l):=by
  cases base with
  | none=>have:=hb0 rfl;have:l=[]:=List.length_eq_zero_iff.1 (by omega);subst this;simp [qI,u8s]
  | some a =>
    by_cases hc0:0<cap
    ·obtain ⟨h1,h2,h3⟩:=hb a rfl hc0
     simp only [qI,Nat.mul_one]
     rw [kJ h3 (kY l)];rfl
    ·have:l=[]:=List.length_eq_zero_iff.1 (by omega)
     subst this;simp [qI,kV,u8s]
 have e1:ev σ (.const (.slice none 0 0))=.slice none 0 0:=rfl
 simp only [RK.run,e1,hx,hsrc,qV]
 by_cases h0:l.length=0
 ·have:l=[]:=List.length_eq_zero_iff.1 h0
  subst this
  simp only [List.length_nil,Nat.add_zero,Nat.le_refl,if_true]
  exact hK _ _ _ (qW.nil w) rfl (fun a h=>by simp at h) (Mod.refl _ _)
 ·rw [if_neg (by omega)]
  refine ⟨by omega,by omega,?_⟩
  intro T cap' rest hc hr
  have hblk:=Blk.new w.drew (u8s l++rest) T
  have:=hK (some ⟨w.heap.size,0,none⟩) cap' (w.drew.alloc (.cells (u8s l++rest).toArray T)) ⟨rfl,by omega,fun h=>by simp at h,fun a ha=>by
   simp only [Option.some.injEq] at ha;subst ha
   have:=hblk.cells.take (u8s l).length
   simpa using this⟩ (by cases l<;>simp at h0 ⊢) (fun a ha=>by
   simp only [Option.some.injEq] at ha;subst ha
   exact ⟨Nat.le_refl _,hblk.lt⟩) ((Mod.drew _ _).trans (Mod.alloc _ _ _))
  simpa using this
theorem kAT {σ:Sl} {w:World} {x:Operand} {v:Value} {l:List UInt8} {ok:Nat→Prop} {K:Value→World→Prop} (hx:ev σ x=v) (hv:SlC ok w v l.length (u8s l)) (hl:l.length≤2147483647)
  (hK :∀base cap w',qW w' base l.length cap l→base.isNone=l.isEmpty→(∀a,base=some a→w.heap.size≤a.block∧a.block<w'.heap.size)→Mod [] w w'→K (.slice base l.length cap) w'):(RK.append (.const (.slice none 0 0)) x 1 1).run P σ w K:=kGW hx hv (by omega) hK
theorem qW.slc {ok:Nat→Prop} {w:World} {base:Option Addr} {n cap:Nat} {l:List UInt8} (h:qW w base n cap l) (ho :∀a,base=some a→ok a.block∧a.block<w.heap.size):SlC ok w (.slice base n cap) l.length (u8s l) :=
 ⟨base,cap,by rw [h.hlen],by rw [←h.hlen];exact h.hcap,h.hnone,fun a ha _=>⟨(ho a ha).1,(ho a ha).2,h.hcells a ha⟩⟩
def cbL:List DI :=
 [⟨⟨some 5,.fad (.tmp 2) 4,none⟩,false,[]⟩,⟨⟨some 6,.ld (.tmp 5),none⟩,false,[]⟩,⟨⟨some 7,.mv (.tmp 0),none⟩,false,[]⟩,⟨⟨some 8,.mv (.tmp 1),none⟩,false,[]⟩,
  ⟨⟨some 9,.append (.const (.slice none 0 0)) (.tmp 8) 1 1,none⟩,true,[]⟩,⟨⟨some 10,.build uzero [(0,1,.tmp 7),(1,1,.tmp 9)],none⟩,false,[4]⟩,
  ⟨⟨some 11,.bslice 1 uzero [(0,2,.tmp 10)],none⟩,true,[4]⟩,⟨⟨some 12,.append (.tmp 6) (.tmp 11) 2 32,none⟩,true,[4,6]⟩,⟨⟨some 13,.fad (.tmp 2) 4,none⟩,false,[4,6,7]⟩]
def kIL:IC×List RV×Nat:=(.drw cbL [⟨none,.st (.tmp 13) 1 (.tmp 12),none⟩],[],14)
structure TG (w0 w:World) (Tb:Nat) (lv uv:Value) (us:List (Nat×List UInt8)) (ucs:List (List Value)):Prop where
 tb:Blk w Tb [.int .i64 0,.slice none 0 0,.bool false,lv,uv]
 raw:x9 w w0.heap.size uv ucs
 rep:RepU (fun b=>w0.heap.size≤b∧own uv≠some b) w us ucs
 mod:Mod [Tb] w0 w
 ltb:Tb<w0.heap.size
def BU (n0 k:Nat) (l:List UInt8) (v:Value) (w:World):Prop :=∃sb v4,v=.slice (some ⟨sb,0,none⟩) 1 1∧n0≤sb∧Blk w sb [.int .u32 k,v4]∧SlC (fun b=>n0≤b) w v4 l.length (u8s l)
theorem BU.mod {n0 k:Nat} {l:List UInt8} {v:Value} {w w':World} {S:List Nat} (h:BU n0 k l v w) (hm:Mod S w w') (hS :∀b∈S,b<n0):BU n0 k l v w':=by
 obtain ⟨sb,v4,h1,h2,h3,h4⟩:=h
 exact ⟨sb,v4,h1,h2,h3.mod hm (fun hc=>by have:=hS _ hc;omega),h4.mod hm (fun b hb hc=>by have:=hS b hb;omega) fun _ _ h=>h⟩
theorem x9.mod {w w':World} {n0:Nat} {lv:Value} {css:List (List Value)} {S:List Nat} (h:x9 w n0 lv css) (hm:Mod S w w') (hS :∀b,own lv=some b→b ∉ S):x9 w' n0 lv css :=
 ⟨h.two,h.sl.imp id fun ⟨BA,cap,rest,g1,g2,g3,g4,g5⟩=>⟨BA,cap,rest,g1,g2,g3,g4.mod hm (hS _ (by rw [g1];rfl)),g5⟩⟩
theorem x9.own {w:World} {n0:Nat} {lv:Value} {css:List (List Value)} (h:x9 w n0 lv css) {b:Nat} (hb:own lv=some b):n0≤b∧b<w.heap.size:=by
 rcases h.sl with ⟨rfl,-⟩|⟨BA,cap,rest,rfl,-,h3,h4,-⟩
 ·simp [Msk.own] at hb
 ·simp only [Msk.own,Option.some.injEq] at hb;subst hb;exact ⟨h3,h4.lt⟩
theorem x9.one {w:World} {n0:Nat} {lv:Value} {css:List (List Value)} (h:x9 w n0 lv css):lv.cells=#[lv]∧lv.oneCell'=true:=by
 rcases h.sl with ⟨rfl,-⟩|⟨BA,cap,rest,rfl,-⟩<;>exact ⟨rfl,rfl⟩
theorem kNK {f Tb k:Nat} {lv uv v:Value} {us:List (Nat×List UInt8)} {ucs:List (List Value)} {l:List UInt8} {S:List Nat} {okv:Nat→Prop} {wN w:World} {R:World→World→Prop} {App:Value→World→Prop}
  (hm:P.follows .mixedOrders=true) (h:kH P f=some kIL) (hg:TG wN w Tb lv uv us ucs) (hv:SlC okv w v l.length (u8s l)) (hl:l.length≤2147483647) (_hk:k<4294967296)
  (hvS :∀b∈S,¬okv b) (hS :∀b∈S,own uv=some b)
  (hRr :∀w,R w w) (hRt :∀u v w,R u v→R v w→R u w) (hRS :∀w1 w2,R w1 w2→Mod S w1 w2) (hR0 :∀w1 w2,Mod [] w1 w2→R w1 w2) (hAst :∀v w1 w2,App v w1→R w1 w2→App v w2)
  (happ :∀(σ:Sl) (x y:Operand) (w1:World),R w.drew w1→ev σ x=uv→BU w.heap.size k l (ev σ y) w1→(RK.append x y 2 32).run P σ w1 fun v w'=>R w1 w'∧App v w')
  (hfin :∀w1 v,R w.drew w1→App v w1 →∃cs,x9 w1 wN.heap.size v (ucs++[cs])∧(∀b,own v=some b→own uv=some b∨w.heap.size≤b)∧RepU (fun b=>wN.heap.size≤b∧own v≠some b) w1 (us++[(k,l)]) (ucs++[cs])) :
  Calls P f [u32v k,v,.pointer (some ⟨Tb,0,none⟩)].toArray w fun e w'=>e=.returned (.tuple #[])∧(∃uv' ucs',TG wN w' Tb lv uv' (us++[(k,l)]) ucs')∧Mod [Tb] wN w':=by
 unfold kIL at h
 refine kT h hm (by simp) ?_
 have a0:qE [u32v k,v,.pointer (some ⟨Tb,0,none⟩)] 0=u32v k:=rfl
 have a1:qE [u32v k,v,.pointer (some ⟨Tb,0,none⟩)] 1=v:=rfl
 have a2:qE [u32v k,v,.pointer (some ⟨Tb,0,none⟩)] 2=.pointer (some ⟨Tb,0,none⟩):=rfl
 generalize qE [u32v k,v,.pointer (some ⟨Tb,0,none⟩)]=σ at a0 a1 a2 ⊢
 have hown :∀b∈S,wN.heap.size≤b∧b<w.heap.size:=fun b hb=>hg.raw.own (hS b hb)
 have hltb:=hg.ltb
 have nT:Tb ∉ S:=fun hx=>by have:=hown _ hx;omega
 have htb :∀w1,R w.drew w1→Blk w1 Tb [.int .i64 0,.slice none 0 0,.bool false,lv,uv]:=fun w1 hm=>(hg.tb.of_heap (w':=w.drew) rfl).mod (hRS _ _ hm) nT
 have hsz :∀w1,R w.drew w1→w.heap.size≤w1.heap.size:=fun w1 hm=>(hRS _ _ hm).size
 show wpD P cbL _ σ w.drew _
 refine ⟨R,fun j v w1=>if j=4 then SlC (fun b=>w.heap.size≤b) w1 v l.length (u8s l) else if j=6 then BU w.heap.size k l v w1 else App v w1,NT,hRr,hRt,fun j v w1 w2 h hm=>?_,fun _=>trivial,?_⟩
 ·dsimp only at h ⊢
  split at h
  ·rename_i hj;rw [if_pos hj]
   exact h.mod (hRS _ _ hm) (fun b hb hx=>by have:=hown _ hb;omega) fun _ _ h=>h
  ·rename_i hj;rw [if_neg hj]
   split at h
   ·rename_i hj2;rw [if_pos hj2];exact h.mod (hRS _ _ hm) fun b hb=>(hown b hb).2
   ·rename_i hj2;rw [if_neg hj2];exact hAst _ _ _ h hm
 generalize hΦ:(fun (j:Nat) (v:Value) (w1:World)=>if j=4 then SlC (fun b=>w.heap.size≤b) w1 v l.length (u8s l) else if j=6 then BU w.heap.size k l v w1 else App v w1)=Φ
 have Φ4 :∀v w1,Φ 4 v w1=SlC (fun b=>w.heap.size≤b) w1 v l.length (u8s l):=by subst hΦ;intros;rfl
 have Φ6 :∀v w1,Φ 6 v w1=BU w.heap.size k l v w1:=by subst hΦ;intros;rfl
 have Φ7 :∀v w1,Φ 7 v w1=App v w1:=by subst hΦ;intros;rfl
 generalize hE:(fun σ' =>∀w1,R w.drew w1→known cbL Φ (List.range cbL.length) σ' w1→wpR P _ σ' w1 _)=E
 have hend :∀σ',σ' 13=.pointer (some ⟨Tb,4,none⟩)→E σ':=by
  intro σ' h13;subst hE
  intro w1 hm1 hkn
  have hap:=hkn 7 (by simp [cbL]) _ rfl rfl rfl 12 rfl
  rw [Φ7] at hap
  obtain ⟨cs,q1,q2,q3⟩:=hfin w1 _ hm1 hap
  obtain ⟨o1,o2⟩:=q1.one
  have hb:=htb w1 hm1
  have hput:Mod [Tb] w1 (putCells w1 ⟨Tb,4,none⟩ 0 [σ' 12]):=Mod.put (by simp)
  have hp:=hb.put (o:=4) (vs:=[σ' 12]) (by simp)
  have e1:splice [Value.int .i64 0,.slice none 0 0,.bool false,lv,uv] 4 [σ' 12]=[.int .i64 0,.slice none 0 0,.bool false,lv,σ' 12]:=by simp [splice]
  rw [e1] at hp
  have hge :∀b,own (σ' 12)=some b→wN.heap.size≤b:=fun b hb=>(q1.own hb).1
  have m1:Mod [Tb] wN (putCells w1 ⟨Tb,4,none⟩ 0 [σ' 12]):=by
   have hm0:Mod [Tb] wN w.drew:=hg.mod.trans (Mod.drew [Tb] w)
   have hmS:=hRS _ _ hm1
   refine ⟨hput.os.trans (hmS.os.trans hm0.os),hput.tape.trans (hmS.tape.trans hm0.tape),hput.output.trans (hmS.output.trans hm0.output),Nat.le_trans hm0.size (Nat.le_trans hmS.size hput.size),fun b hb hnb=>?_⟩
   rw [hput.block b (Nat.lt_of_lt_of_le hb (Nat.le_trans hm0.size hmS.size)) hnb,hmS.block b (Nat.lt_of_lt_of_le hb hm0.size) (fun hx=>by have:=hown _ hx;omega)]
   exact hm0.block b hb hnb
  refine kX ?_
  simp only [RK.run,ev,h13,o1]
  refine ⟨rfl,yN hb (by simp) o2,?_⟩
  simp only [wpR,postC,rvals,List.mapM_nil,Option.pure_def,tup]
  exact ⟨trivial,⟨_,_,hp,q1.mod hput (fun b hb=>by have:=hge b hb;simp;omega),q3.mod hput (fun b hb hc=>by simp only [List.mem_singleton] at hb;omega) (fun _ _ h=>h),m1,hltb⟩,m1⟩
 unfold cbL
 refine qK (v:=.pointer (some ⟨Tb,4,none⟩)) (fun w1 _=>by simp only [RK.val?,ev,a2,Addr.kK,Nat.zero_add]) ?_
 refine qK (v:=uv) (fun w1 hw=>by simp only [RK.val?,ev,updo,upd_same];exact (htb w1 hw).cell 4) ?_
 refine qK (v:=u32v k) (fun w1 _=>by simp only [RK.val?,ev,updo,upd];simp [a0]) ?_
 refine qK (v:=v) (fun w1 _=>by simp only [RK.val?,ev,updo,upd];simp [a1]) ?_
 refine xX (fun w1 hw1 _=>?_) fun v4 hv4=>?_
 ·refine kAT (v:=v) (l:=l) (ok:=okv) (by simp only [ev,updo,upd_same]) ((hv.mod (ok':=okv) (Mod.drew [] w) (by simp) fun _ _ h=>h).mod (hRS _ _ hw1) hvS fun _ _ h=>h) hl fun base cap w2 hb _ hge hm2=>⟨hR0 _ _ hm2,?_⟩
  rw [Φ4]
  exact hb.slc fun a ha=>⟨Nat.le_trans (hsz w1 hw1) (hge a ha).1,(hge a ha).2⟩
 obtain ⟨wv,hv4⟩:=hv4
 rw [Φ4] at hv4
 obtain ⟨b4,c4,rfl,-⟩:=hv4
 refine qK (v:=.agg #[u32v k,.slice b4 l.length c4]) (fun w1 _=>by
  simp only [RK.val?,List.map_cons,List.map_nil,ev,updo,upd];simp [uzero,zW,splice,Value.cells,u32v]) ?_
 refine xX (fun w1 hw1 hkn=>?_) fun v6 hv6=>?_
 ·have h4:=hkn 4 (by simp) _ rfl rfl rfl 9 rfl
  rw [Φ4] at h4
  simp only [updo,upd,show (9:Nat)≠10 by decide,if_false,if_true] at h4
  have hf:zW (zrep 1 uzero) [(0,2,Value.agg #[u32v k,.slice b4 l.length c4])]=some [u32v k,.slice b4 l.length c4]:=by simp [zrep,uzero,zW,splice,Value.cells,u32v]
  simp only [RK.run,List.map_cons,List.map_nil,ev,updo,upd_same,hf]
  intro T5
  have hm5:Mod [] w1 (w1.alloc (.cells [u32v k,.slice b4 l.length c4].toArray T5)):=Mod.alloc _ _ _
  refine ⟨hR0 _ _ hm5,?_⟩
  rw [Φ6]
  exact ⟨w1.heap.size,_,rfl,hsz w1 hw1,Blk.new _ _ _,h4.mod hm5 (by simp) fun _ _ h=>h⟩
 refine xX (fun w1 hw1 hkn=>?_) fun v7 hv7=>?_
 ·have h6:=hkn 6 (by simp) _ rfl rfl rfl 11 rfl
  rw [Φ6] at h6
  simp only [updo,upd_same] at h6
  refine vO (happ _ (.tmp 6) (.tmp 11) w1 hw1 (by simp only [ev,updo,upd];simp) (by simpa only [ev,updo,upd_same] using h6)) fun v w2 hh=>⟨hh.1,?_⟩
  rw [Φ7];exact hh.2
 refine qK (v:=.pointer (some ⟨Tb,4,none⟩)) (fun w1 _=>by simp only [RK.val?,ev,updo,upd];simp [a2,Addr.kK]) ?_
 simp only [walk]
 exact hend _ (by simp only [updo,upd_same])
theorem cb_step {f Tb k:Nat} {lv uv v:Value} {us:List (Nat×List UInt8)} {ucs:List (List Value)} {l:List UInt8} {okv:Nat→Prop} {wN w:World}
  (hm:P.follows .mixedOrders=true) (h:kH P f=some kIL) (hg:TG wN w Tb lv uv us ucs) (hv:SlC okv w v l.length (u8s l)) (hl:l.length≤2147483647) (hk:k<4294967296) (hok :∀b,okv b→b<wN.heap.size) (hus:us.length<2147483647) :
  Calls P f [u32v k,v,.pointer (some ⟨Tb,0,none⟩)].toArray w fun e w'=>e=.returned (.tuple #[])∧(∃uv' ucs',TG wN w' Tb lv uv' (us++[(k,l)]) ucs')∧Mod [Tb] wN w':=by
 have hnw:wN.heap.size≤w.heap.size:=hg.mod.size
 have hul:us.length=ucs.length:=hg.rep.length
 have hraw:x9 w.drew wN.heap.size uv ucs:=hg.raw.mod (Mod.drew [] w) (by simp)
 have hrep:=hg.rep.mod (ok':=fun b=>wN.heap.size≤b∧own uv≠some b) (Mod.drew [] w) (by simp) fun _ _ h=>h
 have one4 :∀{ok:Nat→Prop} {w:World} {v4:Value},SlC ok w v4 l.length (u8s l) →∀x∈[Value.int .u32 k,v4],x.oneCell'=true:=fun h x hx=>by
  simp only [List.mem_cons,List.not_mem_nil,or_false] at hx
  rcases hx with rfl|rfl
  ·rfl
  ·exact h.one
 by_cases hin :∃BA c,uv=.slice (some ⟨BA,0,none⟩) ucs.length c∧ucs.length+1≤c
 ·obtain ⟨BA,c,rfl,hc1⟩:=hin
  obtain ⟨o1,o2⟩:=hg.raw.own (b:=BA) rfl
  generalize hlv2:Value.slice (some ⟨BA,0,none⟩) (ucs.length+1) c=lv2
  let Fin:World→Prop:=fun w' =>∃v4,x9 w' wN.heap.size lv2 (ucs++[[.int .u32 k,v4]])∧SlC (fun b=>w.heap.size≤b) w' v4 l.length (u8s l)
  have finMod :∀w1 w2,Fin w1→Mod [] w1 w2→Fin w2:=fun w1 w2 ⟨cs,h1,h2⟩ hm=>⟨cs,h1.mod hm (by simp),h2.mod hm (by simp) fun _ _ h=>h⟩
  refine kNK hm h hg hv hl hk (S:=[BA]) (R:=fun w1 w2=>Mod [] w1 w2∨(Mod [BA] w1 w2∧Fin w2)) (App:=fun v w1=>v=lv2∧Fin w1) (fun b hb hx=>by simp only [List.mem_singleton] at hb;subst hb;have:=hok _ hx;omega)
   (fun b hb=>by simp only [List.mem_singleton] at hb;subst hb;rfl) (fun _=>.inl (Mod.refl _ _)) ?_ ?_ (fun _ _ h=>.inl h) ?_ ?_ ?_
  ·rintro u v w' (h1|⟨h1,f1⟩) (h2|⟨h2,f2⟩)
   ·exact .inl (h1.trans h2)
   ·exact .inr ⟨h1.nil.trans h2,f2⟩
   ·exact .inr ⟨h1.trans h2.nil,finMod _ _ f1 h2⟩
   ·exact .inr ⟨h1.trans h2,f2⟩
  ·rintro w1 w2 (h1|⟨h1,-⟩)
   ·exact h1.nil
   ·exact h1
  ·rintro v w1 w2 ⟨rfl,f1⟩ (h1|⟨h1,f2⟩)
   ·exact ⟨rfl,finMod _ _ f1 h1⟩
   ·exact ⟨rfl,f2⟩
  ·intro σ x y w1 hR hx hy
   obtain ⟨sb,v4,hy,hsb,hblk,htree⟩:=hy
   have hM:Mod [BA] w.drew w1:=hR.elim (·.nil) (·.1)
   have hsz:w.heap.size≤w1.heap.size:=hM.size
   have hrawblk :∃rest,Blk w1 BA (ucs.flatten++rest)∧rest.length=(c-ucs.length)*2:=by
    rcases hR with h1|⟨-,v4',f1,-⟩
    ·rcases (hraw.mod h1 (by simp)).sl with ⟨h,-⟩|⟨BA',c',rest,h,-,-,hb,hl⟩
     ·simp at h
     ·simp only [Value.slice.injEq,Option.some.injEq,Addr.mk.injEq,and_true,true_and] at h
      obtain ⟨rfl,rfl⟩:=h
      exact ⟨rest,hb,hl⟩
    ·rcases f1.sl with ⟨h,-⟩|⟨BA',c',rest,h,-,-,hb,hl⟩
     ·rw [←hlv2] at h;simp at h
     ·rw [←hlv2] at h
      simp only [List.length_append,List.length_cons,List.length_nil,Value.slice.injEq,Option.some.injEq,Addr.mk.injEq,and_true,true_and] at h
      obtain ⟨rfl,-,rfl⟩:=h
      refine ⟨[.int .u32 k,v4']++rest,by simpa using hb,?_⟩
      simp only [List.length_append,List.length_cons,List.length_nil] at hl ⊢
      omega
   obtain ⟨rest,hb,hl⟩:=hrawblk
   have hfl:ucs.flatten.length=ucs.length*2:=yD hg.raw.two
   have hput:Mod [BA] w1 (putCells w1 ⟨BA,ucs.length*2,none⟩ 0 [.int .u32 k,v4]):=Mod.put (by simp)
   have hsrc:qI w1 2 (.slice (some ⟨sb,0,none⟩) 1 1)=some (1,[.int .u32 k,v4]):=by
    simp only [qI,kJ hblk.cells (n:=1*2) (by simp),Option.map_some]
   have hfin:Fin (putCells w1 ⟨BA,ucs.length*2,none⟩ 0 [.int .u32 k,v4]):=by
    refine ⟨v4,⟨fun d hd=>?_,.inr ⟨BA,c,rest.drop 2,by simp [←hlv2],by simpa using hc1,o1,?_,by simp;omega⟩⟩,htree.mod hput (fun b hb hx=>by simp only [List.mem_singleton] at hb;omega) fun _ _ h=>h⟩
    ·rcases List.mem_append.1 hd with hd|hd
     ·exact hg.raw.two d hd
     ·simp only [List.mem_singleton] at hd;subst hd;rfl
    ·have hp:=hb.put (o:=ucs.length*2) (vs:=[.int .u32 k,v4]) (by simp only [List.length_append,List.length_cons,List.length_nil];omega)
     have hfs:(ucs++[[Value.int .u32 k,v4]]).flatten=ucs.flatten++[.int .u32 k,v4]:=by simp
     rw [hfs,List.append_assoc]
     rwa [uH hfl] at hp
   simp only [RK.run,hx,hy,hsrc,qV]
   rw [if_pos hc1,hlv2]
   simp only [Addr.kK,Nat.zero_add]
   exact ⟨qL hb (by simp only [List.length_append,List.length_cons,List.length_nil];omega) (one4 htree),.inr ⟨hput,hfin⟩,trivial,hfin⟩
  ·rintro w1 v hR ⟨rfl,v4,f1,f2⟩
   have hM:Mod [BA] w.drew w1:=hR.elim (·.nil) (·.1)
   have ho:own v=some BA:=by rw [←hlv2];rfl
   refine ⟨_,f1,fun b hb=>.inl (by rw [ho] at hb;exact hb),RepU.append (hrep.mod hM (by
    intro b hb hx
    simp only [List.mem_singleton] at hb;subst hb;exact hx.2 rfl) fun b _ hb=>⟨hb.1,by rw [ho];exact hb.2⟩) (.cons (f2.mod (Mod.refl [] _) (by simp) fun b _ hb=>⟨by omega,fun e=>?_⟩) .nil)⟩
   rw [ho] at e;simp only [Option.some.injEq] at e;omega
 ·refine kNK hm h hg hv hl hk (S:=[]) (R:=fun w1 w2=>Mod [] w1 w2) (App:=fun v w1 =>∃v4 b,own v=some b∧w.heap.size≤b∧x9 w1 wN.heap.size v (ucs++[[.int .u32 k,v4]])∧SlC (fun b=>w.heap.size≤b∧own v≠some b) w1 v4 l.length (u8s l))
   (by simp) (by simp) (fun _=>Mod.refl _ _) (fun _ _ _=>Mod.trans) (fun _ _ h=>h) (fun _ _ h=>h) ?_ ?_ ?_
  ·rintro v w1 w2 ⟨v4,b,h1,h2,h3,h4⟩ hm
   exact ⟨v4,b,h1,h2,h3.mod hm (by simp),h4.mod hm (by simp) fun _ _ h=>h⟩
  ·intro σ x y w1 hR hx hy
   obtain ⟨sb,v4,hy,hsb,hblk,htree⟩:=hy
   refine kC3 hx (hraw.mod hR (by simp)) (Nat.le_trans hnw hR.size) hy hblk rfl (one4 htree) (by omega) fun lv' w' hraw' hown=>?_
   rcases hown with ⟨-,h2⟩|⟨h1,h2⟩
   ·exact absurd h2 hin
   ·refine ⟨h2,v4,w1.heap.size,h1,hR.size,hraw',htree.mod h2 (by simp) (by
     intro b hb hx
     refine ⟨hx,fun e=>?_⟩
     rw [h1] at e;simp only [Option.some.injEq] at e;omega)⟩
  ·rintro w1 v hR ⟨v4,b,h1,h2,h3,h4⟩
   refine ⟨_,h3,fun b' hb'=>.inr (by rw [h1] at hb';simp only [Option.some.injEq] at hb';omega),RepU.append (hrep.mod hR (by simp) (by
    intro b' hb' hx
    refine ⟨hx.1,fun e=>?_⟩
    rw [h1] at e;simp only [Option.some.injEq] at e
    have:b'<w.heap.size:=hb'
    omega)) (.cons (h4.mod (Mod.refl [] _) (by simp) (by
    intro b' _ hb'
    exact ⟨by omega,hb'.2⟩)) .nil)⟩
def kGX (f1 each srt:FuncId) (t off:Nat):List IC :=
 [.blk [⟨some t,.mv (.tmp 0),none⟩,⟨some (t+1),.nilc (.tmp t),none⟩,⟨some (t+2),.fad (.tmp (t+1)) off,none⟩,⟨some (t+3),.mkfunc (.func f1) [] [.tmp 3],none⟩,⟨some (t+4),.call each [.tmp (t+2),.tmp (t+3)],none⟩],
  .blk [⟨some (t+5),.fad (.tmp 3) 4,none⟩,⟨some (t+6),.ld (.tmp (t+5)),none⟩,⟨some (t+7),.call srt [.tmp (t+6)],none⟩]]
structure TagFs (P:Program) (f1 each srt:FuncId):Prop where
 mixed:P.follows .mixedOrders=true
 cb:kH P f1=some kIL
 body:wS P f1=true
 each :∀{w:World} {S:List Nat} {okv:Nat→Prop} {g:FuncId} {captured:List Value} {I:World→List (Nat×List UInt8)→World→Prop} {m:List (Nat×List UInt8)},kKX P w S okv g captured I (uF m)→wS P g=true →
  ∀{B o:Nat} {v:Value},w.cell? ⟨B,o,none⟩=some v→TagM okv w v m→m.length≤2147483647→(∀p∈m,p.2.length≤2147483647)→B ∉ S→(∀r,v=.map (some r)→r ∉ S)→(∀b∈S,b<w.heap.size)→(∀b∈S,¬okv b) →
  (∀wN,Mod [] w wN→I wN [] wN)→Calls P each [.pointer (some ⟨B,o,none⟩),.func (.func g) #[] captured.toArray].toArray w fun e w'=>e=.returned (.tuple #[]) ∧∃wN,Mod [] w wN∧I wN (uF m) w'∧Mod S wN w'
 srt :∀{w:World} {ok:Nat→Prop} {v:Value} {ks:List Nat} {css:List (List Value)},kJ0 w ok v ks css→ks.Pairwise (·≤·)→ks.length≤2147483647→Calls P srt [v].toArray w fun e w'=>e=.returned (.tuple #[])∧Mod [] w w'
theorem x9.slcN {w:World} {n0:Nat} {lv:Value} {css:List (List Value)} (h:x9 w n0 lv css):SlC (fun b=>n0≤b) w lv css.length css.flatten:=by
 rcases h.sl with ⟨rfl,rfl⟩|⟨BA,cap,rest,rfl,h2,h3,h4,-⟩
 ·exact SlC.nil
 ·refine ⟨_,cap,rfl,h2,fun h=>by simp at h,fun a ha _=>?_⟩
  simp only [Option.some.injEq] at ha;subst ha
  refine ⟨h3,h4.lt,?_⟩
  have:=h4.cells.take css.flatten.length
  simpa using this
theorem RepU.pairs {ok ok':Nat→Prop} {w:World} {v:Value} {us:List (Nat×List UInt8)} {ucs:List (List Value)} (h:RepU ok w us ucs) (hs:SlC ok' w v ucs.length ucs.flatten):kJ0 w ok' v (us.map (·.1)) ucs :=
 ⟨hs,by simpa using h.length,h.two,fun j k hk=>by
  rw [List.getElem?_map] at hk
  cases hj:us[j]? with
  | none=>rw [hj] at hk;simp at hk
  | some p =>
    rw [hj] at hk
    simp only [Option.map_some,Option.some.injEq] at hk
    subst hk
    obtain ⟨x,hx,-⟩:=h.nth hj
    exact ⟨x,hx⟩⟩
theorem kL2 {f1 each srt:FuncId} (hT:TagFs P f1 each srt) {t off Tb B base:Nat} {lv v:Value} {m:List (Nat×List UInt8)} {okv:Nat→Prop} {σ:Sl} {w:World} {Q:Exit→Sl→World→Prop} (ht:4≤t)
  (h0:σ 0=.pointer (some ⟨B,base,none⟩)) (h3:σ 3=.pointer (some ⟨Tb,0,none⟩)) (htb:Blk w Tb [.int .i64 0,.slice none 0 0,.bool false,lv,.slice none 0 0]) (hc:w.cell? ⟨B,base+off,none⟩=some v) (hM:TagM okv w v m)
  (hok :∀b,okv b→b≠Tb) (hBT:B≠Tb) (hr :∀r,v=.map (some r)→r≠Tb) (hlen:m.length≤2147483647) (hmv :∀p∈m,p.2.length≤2147483647)
  (hQ :∀σ' w' uv ucs,Ag t σ σ'→Mod [Tb] w w'→Blk w' Tb [.int .i64 0,.slice none 0 0,.bool false,lv,uv]→SlC (fun b=>w.heap.size≤b) w' uv (uF m).length ucs.flatten→RepU (fun b=>w.heap.size≤b) w' (uF m) ucs→Q .normal σ' w') :
  wpL P (kGX f1 each srt t off) Q σ w:=by
 unfold kGX
 simp only [wpL]
 rw [kD]
 refine kC (v:=.pointer (some ⟨B,base,none⟩)) (congrArg some h0) ?_
 refine kC (v:=.pointer (some ⟨B,base,none⟩)) (by simp only [RK.val?,ev,updo,upd_same]) ?_
 refine kC (v:=.pointer (some ⟨B,base+off,none⟩)) (by simp only [RK.val?,ev,updo,upd_same,Addr.kK]) ?_
 refine kC (v:=.func (.func f1) #[] #[.pointer (some ⟨Tb,0,none⟩)]) (by
  simp only [RK.val?,List.map_cons,List.map_nil,ev,updo,upd,show (3:Nat)≠t+2 by omega,show (3:Nat)≠t+1 by omega,show (3:Nat)≠t by omega,if_false,h3]) ?_
 have hM':TagM (fun b=>okv b∧b<w.heap.size) w v m:=by
  rcases hM with h|⟨r,h1,h2⟩
  ·exact .inl h
  ·exact .inr ⟨r,h1,h2.mod (Mod.refl [] _) (by simp) (by simp) fun b hb hx=>⟨hx,hb⟩⟩
 have hcb:kKX P w [Tb] (fun b=>okv b∧b<w.heap.size) f1 [.pointer (some ⟨Tb,0,none⟩)] (fun wN done w1 =>∃uv ucs,TG wN w1 Tb lv uv done ucs) (uF m):=by
  rintro wN done k l w1 v' _ hmN ⟨uv,ucs,hg⟩ hd _ hk hl hv'
  exact cb_step hT.mixed hT.cb hg hv' hl hk (fun b hb=>Nat.lt_of_lt_of_le hb.2 hmN.size) hd
 refine xD (vs:=[.pointer (some ⟨B,base+off,none⟩),.func (.func f1) #[] [Value.pointer (some ⟨Tb,0,none⟩)].toArray]) (by
   simp only [List.map_cons,List.map_nil,ev,updo,upd,show t+2≠t+3 by omega,if_false,if_true])
  (hT.each hcb hT.body hc hM' hlen hmv (by simpa using hBT) (fun r e=>by simpa using hr r e) (fun b hb=>by simp only [List.mem_singleton] at hb;subst hb;exact htb.lt) (fun b hb hx=>by simp only [List.mem_singleton] at hb;exact hok _ hx.1 hb)
   (fun wN hmN=>⟨.slice none 0 0,[],htb.mod hmN (by simp),⟨by simp,.inl ⟨rfl,rfl⟩⟩,.nil,Mod.refl _ _,Nat.lt_of_lt_of_le htb.lt hmN.size⟩)) ?_
 rintro e w1 ⟨rfl,wN,hmN,⟨uv,ucs,hg⟩,hm1⟩
 refine ⟨_,rfl,?_⟩
 refine kE ?_
 rw [kD]
 refine kC (v:=.pointer (some ⟨Tb,4,none⟩)) (by
  simp only [RK.val?,ev,updo,upd,show (3:Nat)≠t+4 by omega,show (3:Nat)≠t+3 by omega,show (3:Nat)≠t+2 by omega,show (3:Nat)≠t+1 by omega,show (3:Nat)≠t by omega,if_false,h3,Addr.kK,Nat.zero_add]) ?_
 refine kC (v:=uv) (by simp only [RK.val?,ev,updo,upd_same];exact hg.tb.cell 4) ?_
 have hul:=hg.rep.length
 have hsl:SlC (fun b=>w.heap.size≤b) w1 uv (uF m).length ucs.flatten:=by
  rw [hul];exact hg.raw.slcN.mod (Mod.refl [] _) (by simp) fun b _ hb=>Nat.le_trans hmN.size hb
 refine xD (vs:=[uv]) (by simp only [List.map_cons,List.map_nil,ev,updo,upd_same]) (hT.srt (hg.rep.pairs (by rw [hul] at hsl;exact hsl)) (by rw [List.pairwise_map];exact kAR m) (by
  have:=(uI m).length_eq;simp;omega)) ?_
 rintro e w2 ⟨rfl,hm2⟩
 refine ⟨_,rfl,?_⟩
 refine kE ?_
 refine hQ _ w2 uv ucs (fun j hj=>?_) ((hmN.nil.trans hm1).trans hm2.nil) (hg.tb.mod hm2 (by simp)) (hsl.mod hm2 (by simp) fun _ _ h=>h) (hg.rep.mod hm2 (by simp) fun b _ hb=>Nat.le_trans hmN.size hb.1)
 simp only [updo,upd,show j≠t+7 by omega,show j≠t+6 by omega,show j≠t+5 by omega,show j≠t+4 by omega,show j≠t+3 by omega,show j≠t+2 by omega,show j≠t+1 by omega,show j≠t by omega,if_false]
end
end Go.Msk
