/- A small language of resolved operations, and what the generic and the generated functions do in it (part 10). -/
import Derived.Test.YtioafahhbmhjmaaDoorFi

/-! Functions of the laws, the thin package and the reference, as the tool prints them. -/
namespace Go.Msk
open Go.RowKit

/-- pub-mailsack/impl.octetsTree -/
def ir_iOctetsTree (F : Nat → Nat) : IC × List RV × Nat := (.seq (.blk [⟨(some (2)), .alloc [.int .i64 0, .slice none 0 0, .bool false, .slice none 0 0, .slice none 0 0], none⟩])
  (.seq (.blk [⟨(some (3)), .mv (.tmp 0), none⟩,
      ⟨(some (4)), .append (.const (.slice none 0 0)) (.tmp 3) 1 1, none⟩,
      ⟨(some (5)), .mv (.tmp 0), none⟩,
      ⟨(some (6)), .isnil .sl false (.tmp 5), none⟩,
      ⟨(some (7)), .build [.int .i64 0, .slice none 0 0, .bool false, .slice none 0 0, .slice none 0 0] [(1, 1, .tmp 4), (2, 1, .tmp 6)], none⟩,
      ⟨none, .st (.tmp 2) 5 (.tmp 7), none⟩])
  (.ret)),
  [.cells 2 5], 8)

/-- pub-mailsack/impl.textTree -/
def ir_iTextTree (F : Nat → Nat) : IC × List RV × Nat := (.seq (.blk [⟨(some (2)), .alloc [.int .i64 0, .slice none 0 0, .bool false, .slice none 0 0, .slice none 0 0], none⟩])
  (.seq (.seq (.blk [⟨(some (3)), .mv (.tmp 0), none⟩,
        ⟨(some (4)), .isnil .pt false (.tmp 3), none⟩])
    (.cond (.tmp 4)
      (.seq (.blk [⟨(some (5)), .build [.int .i64 0, .slice none 0 0, .bool false, .slice none 0 0, .slice none 0 0] [(2, 1, .const (.bool true))], none⟩,
          ⟨none, .st (.tmp 2) 5 (.tmp 5), none⟩])
      (.ret))
      (.skip)))
  (.seq (.blk [⟨(some (6)), .mv (.tmp 0), none⟩,
      ⟨(some (7)), .nilc (.tmp 6), none⟩,
      ⟨(some (8)), .ld (.tmp 7), none⟩,
      ⟨(some (9)), .s2b (.tmp 8), none⟩,
      ⟨(some (10)), .build [.int .i64 0, .slice none 0 0, .bool false, .slice none 0 0, .slice none 0 0] [(1, 1, .tmp 9)], none⟩,
      ⟨none, .st (.tmp 2) 5 (.tmp 10), none⟩])
  (.ret))),
  [.cells 2 5], 11)

/-- pub-mailsack/laws.got -/
def ir_lGot (F : Nat → Nat) : IC × List RV × Nat := (.seq (.blk [⟨(some (1)), .box (.tmp 0), none⟩,
      ⟨(some (2)), .alloc [.int .i64 0, .slice none 0 0, .bool false, .slice none 0 0, .slice none 0 0], none⟩])
  (.seq (.blk [⟨(some (8)), .fad (.tmp 1) 0, none⟩,
      ⟨(some (9)), .ld (.tmp 8), none⟩,
      ⟨(some (10)), .fad (.tmp 1) 1, none⟩,
      ⟨(some (11)), .ld (.tmp 10), none⟩,
      ⟨(some (12)), .fad (.tmp 1) 2, none⟩,
      ⟨(some (13)), .ld (.tmp 12), none⟩,
      ⟨(some (14)), .build [.int .i64 0, .slice none 0 0, .bool false, .slice none 0 0, .slice none 0 0] [(0, 1, .tmp 9), (1, 1, .tmp 11), (2, 1, .tmp 13)], none⟩,
      ⟨(some (3)), .alloc [.int .i64 0, .slice none 0 0, .bool false, .slice none 0 0, .slice none 0 0], none⟩,
      ⟨none, .st (.tmp 3) 5 (.tmp 14), none⟩])
  (.seq (.seq (.blk [⟨(some (15)), .fad (.tmp 1) 3, none⟩,
        ⟨(some (16)), .ld (.tmp 15), none⟩,
        ⟨(some (17)), .len (.tmp 16), none⟩,
        ⟨(some (18)), .mv (.const (.int .i64 0)), none⟩])
    (.block 0 (.loop (.seq (.blk [⟨(some (19)), .bin .lss (.tmp 18) (.tmp 17), none⟩])
        (.seq (.cond (.tmp 19)
            (.skip)
            (.exit 0))
        (.seq (.block 1 (.seq (.blk [⟨(some (20)), .iad (.tmp 16) (.tmp 18) 5, none⟩,
                ⟨(some (21)), .ldn (.tmp 20) 5, none⟩,
                ⟨(some (5)), .alloc [.int .i64 0, .slice none 0 0, .bool false, .slice none 0 0, .slice none 0 0], none⟩,
                ⟨none, .st (.tmp 5) 5 (.tmp 21), none⟩])
            (.drw [⟨⟨(some (22)), .fad (.tmp 3) 3, none⟩, false, []⟩,
              ⟨⟨(some (23)), .ld (.tmp 22), none⟩, false, []⟩,
              ⟨⟨(some (24)), .ldn (.tmp 5) 5, none⟩, false, []⟩,
              ⟨⟨(some (25)), .call (F lGot) [.tmp 24], none⟩, true, []⟩,
              ⟨⟨(some (26)), .bslice 1 [.int .i64 0, .slice none 0 0, .bool false, .slice none 0 0, .slice none 0 0] [(0, 5, .tmp 25)], none⟩, true, [3]⟩]
              [⟨(some (27)), .append (.tmp 23) (.tmp 26) 5 88, none⟩,
              ⟨(some (28)), .fad (.tmp 3) 3, none⟩,
              ⟨none, .st (.tmp 28) 1 (.tmp 27), none⟩])))
        (.blk [⟨(some (29)), .bin .add (.tmp 18) (.const (.int .i64 1)), none⟩,
          ⟨(some (18)), .mv (.tmp 29), none⟩])))))))
  (.seq (.seq (.blk [⟨(some (30)), .fad (.tmp 1) 4, none⟩,
        ⟨(some (31)), .ld (.tmp 30), none⟩,
        ⟨(some (32)), .len (.tmp 31), none⟩,
        ⟨(some (33)), .mv (.const (.int .i64 0)), none⟩])
    (.block 2 (.loop (.seq (.blk [⟨(some (34)), .bin .lss (.tmp 33) (.tmp 32), none⟩])
        (.seq (.cond (.tmp 34)
            (.skip)
            (.exit 2))
        (.seq (.block 3 (.seq (.blk [⟨(some (35)), .iad (.tmp 31) (.tmp 33) 2, none⟩,
                ⟨(some (36)), .ldn (.tmp 35) 2, none⟩,
                ⟨(some (7)), .alloc [.int .u32 0, .slice none 0 0], none⟩,
                ⟨none, .st (.tmp 7) 2 (.tmp 36), none⟩])
            (.blk [⟨(some (37)), .fad (.tmp 3) 4, none⟩,
              ⟨(some (38)), .ld (.tmp 37), none⟩,
              ⟨(some (39)), .fad (.tmp 7) 0, none⟩,
              ⟨(some (40)), .ld (.tmp 39), none⟩,
              ⟨(some (41)), .fad (.tmp 7) 1, none⟩,
              ⟨(some (42)), .ld (.tmp 41), none⟩,
              ⟨(some (43)), .build [.int .u32 0, .slice none 0 0] [(0, 1, .tmp 40), (1, 1, .tmp 42)], none⟩,
              ⟨(some (44)), .bslice 1 [.int .u32 0, .slice none 0 0] [(0, 2, .tmp 43)], none⟩,
              ⟨(some (45)), .append (.tmp 38) (.tmp 44) 2 32, none⟩,
              ⟨(some (46)), .fad (.tmp 3) 4, none⟩,
              ⟨none, .st (.tmp 46) 1 (.tmp 45), none⟩])))
        (.blk [⟨(some (47)), .bin .add (.tmp 33) (.const (.int .i64 1)), none⟩,
          ⟨(some (33)), .mv (.tmp 47), none⟩])))))))
  (.seq (.blk [⟨(some (48)), .ldn (.tmp 3) 5, none⟩,
      ⟨none, .st (.tmp 2) 5 (.tmp 48), none⟩])
  (.ret))))),
  [.cells 2 5], 49)

/-- pub-mailsack/spec.SameTree -/
def ir_sSameTree (F : Nat → Nat) : IC × List RV × Nat := (.seq (.blk [⟨(some (2)), .box (.tmp 0), none⟩,
      ⟨(some (3)), .box (.tmp 1), none⟩,
      ⟨(some (4)), .mv (.const (.bool false)), none⟩])
  (.seq (.seq (.blk [⟨(some (7)), .fad (.tmp 2) 0, none⟩,
        ⟨(some (8)), .ld (.tmp 7), none⟩,
        ⟨(some (9)), .fad (.tmp 3) 0, none⟩,
        ⟨(some (10)), .ld (.tmp 9), none⟩,
        ⟨(some (11)), .bin .neq (.tmp 8) (.tmp 10), none⟩,
        ⟨(some (12)), .mv (.tmp 11), none⟩,
        ⟨(some (13)), .fad (.tmp 2) 2, some (12, false)⟩,
        ⟨(some (14)), .ld (.tmp 13), some (12, false)⟩,
        ⟨(some (15)), .fad (.tmp 3) 2, some (12, false)⟩,
        ⟨(some (16)), .ld (.tmp 15), some (12, false)⟩,
        ⟨(some (17)), .beq true (.tmp 14) (.tmp 16), some (12, false)⟩,
        ⟨(some (18)), .pick (.tmp 12) (.const (.bool true)) (.tmp 17), none⟩,
        ⟨(some (19)), .mv (.tmp 18), none⟩,
        ⟨(some (20)), .fad (.tmp 2) 1, some (19, false)⟩,
        ⟨(some (21)), .ld (.tmp 20), some (19, false)⟩,
        ⟨(some (22)), .fad (.tmp 3) 1, some (19, false)⟩,
        ⟨(some (23)), .ld (.tmp 22), some (19, false)⟩,
        ⟨(some (24)), .call (F sSame) [.tmp 21, .tmp 23], some (19, false)⟩,
        ⟨(some (25)), .lnot (.tmp 24), some (19, false)⟩,
        ⟨(some (26)), .pick (.tmp 19) (.const (.bool true)) (.tmp 25), none⟩,
        ⟨(some (27)), .mv (.tmp 26), none⟩,
        ⟨(some (28)), .fad (.tmp 2) 3, some (27, false)⟩,
        ⟨(some (29)), .ld (.tmp 28), some (27, false)⟩,
        ⟨(some (30)), .len (.tmp 29), some (27, false)⟩,
        ⟨(some (31)), .fad (.tmp 3) 3, some (27, false)⟩,
        ⟨(some (32)), .ld (.tmp 31), some (27, false)⟩,
        ⟨(some (33)), .len (.tmp 32), some (27, false)⟩,
        ⟨(some (34)), .bin .neq (.tmp 30) (.tmp 33), some (27, false)⟩,
        ⟨(some (35)), .pick (.tmp 27) (.const (.bool true)) (.tmp 34), none⟩,
        ⟨(some (36)), .mv (.tmp 35), none⟩,
        ⟨(some (37)), .fad (.tmp 2) 4, some (36, false)⟩,
        ⟨(some (38)), .ld (.tmp 37), some (36, false)⟩,
        ⟨(some (39)), .len (.tmp 38), some (36, false)⟩,
        ⟨(some (40)), .fad (.tmp 3) 4, some (36, false)⟩,
        ⟨(some (41)), .ld (.tmp 40), some (36, false)⟩,
        ⟨(some (42)), .len (.tmp 41), some (36, false)⟩,
        ⟨(some (43)), .bin .neq (.tmp 39) (.tmp 42), some (36, false)⟩,
        ⟨(some (44)), .pick (.tmp 36) (.const (.bool true)) (.tmp 43), none⟩])
    (.cond (.tmp 44)
      (.seq (.blk [⟨(some (4)), .mv (.const (.bool false)), none⟩])
      (.ret))
      (.skip)))
  (.seq (.seq (.blk [⟨(some (45)), .fad (.tmp 2) 3, none⟩,
        ⟨(some (46)), .ld (.tmp 45), none⟩,
        ⟨(some (47)), .len (.tmp 46), none⟩,
        ⟨(some (48)), .mv (.const (.int .i64 0)), none⟩])
    (.block 0 (.loop (.seq (.blk [⟨(some (49)), .bin .lss (.tmp 48) (.tmp 47), none⟩])
        (.seq (.cond (.tmp 49)
            (.skip)
            (.exit 0))
        (.seq (.block 1 (.seq (.blk [⟨(some (50)), .mv (.tmp 48), none⟩,
                ⟨(some (5)), .mv (.tmp 50), none⟩])
            (.seq (.drw [⟨⟨(some (51)), .fad (.tmp 2) 3, none⟩, false, []⟩,
                ⟨⟨(some (52)), .ld (.tmp 51), none⟩, false, []⟩,
                ⟨⟨(some (53)), .mv (.tmp 5), none⟩, false, []⟩,
                ⟨⟨(some (54)), .iad (.tmp 52) (.tmp 53) 5, none⟩, false, []⟩,
                ⟨⟨(some (55)), .ldn (.tmp 54) 5, none⟩, false, []⟩,
                ⟨⟨(some (56)), .fad (.tmp 3) 3, none⟩, false, []⟩,
                ⟨⟨(some (57)), .ld (.tmp 56), none⟩, false, []⟩,
                ⟨⟨(some (58)), .mv (.tmp 5), none⟩, false, []⟩,
                ⟨⟨(some (59)), .iad (.tmp 57) (.tmp 58) 5, none⟩, false, []⟩,
                ⟨⟨(some (60)), .ldn (.tmp 59) 5, none⟩, false, []⟩,
                ⟨⟨(some (61)), .call (F sSameTree) [.tmp 55, .tmp 60], none⟩, true, []⟩,
                ⟨⟨(some (62)), .lnot (.tmp 61), none⟩, false, [10]⟩]
                [])
            (.cond (.tmp 62)
              (.seq (.blk [⟨(some (4)), .mv (.const (.bool false)), none⟩])
              (.ret))
              (.skip)))))
        (.blk [⟨(some (63)), .bin .add (.tmp 48) (.const (.int .i64 1)), none⟩,
          ⟨(some (48)), .mv (.tmp 63), none⟩])))))))
  (.seq (.seq (.blk [⟨(some (64)), .fad (.tmp 2) 4, none⟩,
        ⟨(some (65)), .ld (.tmp 64), none⟩,
        ⟨(some (66)), .len (.tmp 65), none⟩,
        ⟨(some (67)), .mv (.const (.int .i64 0)), none⟩])
    (.block 2 (.loop (.seq (.blk [⟨(some (68)), .bin .lss (.tmp 67) (.tmp 66), none⟩])
        (.seq (.cond (.tmp 68)
            (.skip)
            (.exit 2))
        (.seq (.block 3 (.seq (.blk [⟨(some (69)), .mv (.tmp 67), none⟩,
                ⟨(some (6)), .mv (.tmp 69), none⟩])
            (.seq (.drw [⟨⟨(some (70)), .fad (.tmp 2) 4, none⟩, false, []⟩,
                ⟨⟨(some (71)), .ld (.tmp 70), none⟩, false, []⟩,
                ⟨⟨(some (72)), .mv (.tmp 6), none⟩, false, []⟩,
                ⟨⟨(some (73)), .iad (.tmp 71) (.tmp 72) 2, none⟩, false, []⟩,
                ⟨⟨(some (74)), .fad (.tmp 73) 0, none⟩, false, []⟩,
                ⟨⟨(some (75)), .ld (.tmp 74), none⟩, false, []⟩,
                ⟨⟨(some (76)), .fad (.tmp 3) 4, none⟩, false, []⟩,
                ⟨⟨(some (77)), .ld (.tmp 76), none⟩, false, []⟩,
                ⟨⟨(some (78)), .mv (.tmp 6), none⟩, false, []⟩,
                ⟨⟨(some (79)), .iad (.tmp 77) (.tmp 78) 2, none⟩, false, []⟩,
                ⟨⟨(some (80)), .fad (.tmp 79) 0, none⟩, false, []⟩,
                ⟨⟨(some (81)), .ld (.tmp 80), none⟩, false, []⟩,
                ⟨⟨(some (82)), .bin .neq (.tmp 75) (.tmp 81), none⟩, false, []⟩,
                ⟨⟨(some (83)), .mv (.tmp 82), none⟩, false, []⟩,
                ⟨⟨(some (84)), .fad (.tmp 2) 4, some (83, false)⟩, false, []⟩,
                ⟨⟨(some (85)), .ld (.tmp 84), some (83, false)⟩, false, []⟩,
                ⟨⟨(some (86)), .mv (.tmp 6), some (83, false)⟩, false, []⟩,
                ⟨⟨(some (87)), .iad (.tmp 85) (.tmp 86) 2, some (83, false)⟩, false, []⟩,
                ⟨⟨(some (88)), .fad (.tmp 87) 1, some (83, false)⟩, false, []⟩,
                ⟨⟨(some (89)), .ld (.tmp 88), some (83, false)⟩, false, []⟩,
                ⟨⟨(some (90)), .fad (.tmp 3) 4, some (83, false)⟩, false, []⟩,
                ⟨⟨(some (91)), .ld (.tmp 90), some (83, false)⟩, false, []⟩,
                ⟨⟨(some (92)), .mv (.tmp 6), some (83, false)⟩, false, []⟩,
                ⟨⟨(some (93)), .iad (.tmp 91) (.tmp 92) 2, some (83, false)⟩, false, []⟩,
                ⟨⟨(some (94)), .fad (.tmp 93) 1, some (83, false)⟩, false, []⟩,
                ⟨⟨(some (95)), .ld (.tmp 94), some (83, false)⟩, false, []⟩,
                ⟨⟨(some (96)), .call (F sSame) [.tmp 89, .tmp 95], some (83, false)⟩, true, []⟩,
                ⟨⟨(some (97)), .lnot (.tmp 96), some (83, false)⟩, false, [26]⟩,
                ⟨⟨(some (98)), .pick (.tmp 83) (.const (.bool true)) (.tmp 97), none⟩, false, [26]⟩]
                [])
            (.cond (.tmp 98)
              (.seq (.blk [⟨(some (4)), .mv (.const (.bool false)), none⟩])
              (.ret))
              (.skip)))))
        (.blk [⟨(some (99)), .bin .add (.tmp 67) (.const (.int .i64 1)), none⟩,
          ⟨(some (67)), .mv (.tmp 99), none⟩])))))))
  (.seq (.blk [⟨(some (4)), .mv (.const (.bool true)), none⟩])
  (.ret))))),
  [.tmp 4], 100)

/-- pub-mailsack/spec.Same -/
def ir_sSame (F : Nat → Nat) : IC × List RV × Nat := (.seq (.blk [⟨(some (4)), .mv (.const (.bool false)), none⟩])
  (.seq (.seq (.blk [⟨(some (6)), .mv (.tmp 0), none⟩,
        ⟨(some (7)), .len (.tmp 6), none⟩,
        ⟨(some (8)), .mv (.tmp 1), none⟩,
        ⟨(some (9)), .len (.tmp 8), none⟩,
        ⟨(some (10)), .bin .neq (.tmp 7) (.tmp 9), none⟩])
    (.cond (.tmp 10)
      (.seq (.blk [⟨(some (4)), .mv (.const (.bool false)), none⟩])
      (.ret))
      (.skip)))
  (.seq (.seq (.blk [⟨(some (11)), .mv (.tmp 0), none⟩,
        ⟨(some (12)), .len (.tmp 11), none⟩,
        ⟨(some (13)), .mv (.const (.int .i64 0)), none⟩])
    (.block 0 (.loop (.seq (.blk [⟨(some (14)), .bin .lss (.tmp 13) (.tmp 12), none⟩])
        (.seq (.cond (.tmp 14)
            (.skip)
            (.exit 0))
        (.seq (.block 1 (.seq (.blk [⟨(some (15)), .mv (.tmp 13), none⟩,
                ⟨(some (5)), .mv (.tmp 15), none⟩])
            (.seq (.drw [⟨⟨(some (16)), .mv (.tmp 0), none⟩, false, []⟩,
                ⟨⟨(some (17)), .mv (.tmp 5), none⟩, false, []⟩,
                ⟨⟨(some (18)), .iad (.tmp 16) (.tmp 17) 1, none⟩, false, []⟩,
                ⟨⟨(some (19)), .ld (.tmp 18), none⟩, false, []⟩,
                ⟨⟨(some (20)), .mv (.tmp 1), none⟩, false, []⟩,
                ⟨⟨(some (21)), .mv (.tmp 5), none⟩, false, []⟩,
                ⟨⟨(some (22)), .iad (.tmp 20) (.tmp 21) 1, none⟩, false, []⟩,
                ⟨⟨(some (23)), .ld (.tmp 22), none⟩, false, []⟩,
                ⟨⟨(some (24)), .bin .neq (.tmp 19) (.tmp 23), none⟩, false, []⟩]
                [])
            (.cond (.tmp 24)
              (.seq (.blk [⟨(some (4)), .mv (.const (.bool false)), none⟩])
              (.ret))
              (.skip)))))
        (.blk [⟨(some (25)), .bin .add (.tmp 13) (.const (.int .i64 1)), none⟩,
          ⟨(some (13)), .mv (.tmp 25), none⟩])))))))
  (.seq (.blk [⟨(some (4)), .mv (.const (.bool true)), none⟩])
  (.ret)))),
  [.tmp 4], 26)

/-- pub-mailsack/laws.version -/
def ir_lVersion (F : Nat → Nat) : IC × List RV × Nat := (.seq (.blk [⟨(some (4)), .mv (.const (.int .i64 0)), none⟩])
  (.seq (.blk [⟨(some (5)), .mv (.tmp 0), none⟩,
      ⟨(some (6)), .conv .i64 (.tmp 5), none⟩,
      ⟨(some (7)), .mv (.tmp 1), none⟩,
      ⟨(some (8)), .bin .add (.tmp 7) (.const (.int .i64 1)), none⟩,
      ⟨(some (9)), .bin .rem (.tmp 6) (.tmp 8), none⟩,
      ⟨(some (4)), .mv (.tmp 9), none⟩])
  (.ret)),
  [.tmp 4], 10)

end Go.Msk

/-! Functions of the laws, the thin package and the reference: what they do. -/
namespace Go.Msk
open Go.RowKit
set_option maxRecDepth 100000

section
variable {P : Program} {F : Nat → Nat}
attribute [local simp] bnd wpC wpR RI.wp gOk RK.run thenC inBlockC updo upd ev args0 postC rvals RV.val tup_one isShift

/-- Octets copied behind nothing. -/
theorem appendNil_run {σ : Sl} {w : World} {x : Operand} {v : Value} {l : List UInt8} {ok : Nat → Prop} {K : Value → World → Prop} (hx : ev σ x = v) (hv : SlC ok w v l.length (u8s l)) (hl : l.length ≤ 2147483647)
    (hK : ∀ v' w', SlC (fun b => w.heap.size ≤ b) w' v' l.length (u8s l) → Mod [] w w' → K v' w') : (RK.append (.const (.slice none 0 0)) x 1 1).run P σ w K := by
  obtain ⟨base, cap, rfl, hcap, hb0, hb⟩ := hv
  have hsrc : srcCells w 1 (.slice base l.length cap) = some (l.length, u8s l) := by
    cases base with
    | none => have := hb0 rfl; have : l = [] := List.length_eq_zero_iff.1 (by omega); subst this; simp [srcCells, u8s]
    | some a =>
      obtain ⟨h1, h2, h3⟩ := hb a rfl
      simp only [srcCells, Nat.mul_one]
      rw [cellsAt_of' h3 (u8s_length l)]; rfl
  have e1 : ev σ (.const (.slice none 0 0)) = .slice none 0 0 := rfl
  simp only [RK.run, e1, hx, hsrc, appendRun]
  by_cases h0 : l.length = 0
  · have : l = [] := List.length_eq_zero_iff.1 h0
    subst this
    simp only [List.length_nil, Nat.add_zero, Nat.le_refl, if_true]
    exact hK _ _ SlC.nil (Mod.refl _ _)
  · rw [if_neg (by omega)]
    refine ⟨by omega, by omega, ?_⟩
    intro T cap' rest hc hr
    refine hK _ _ ⟨some ⟨w.heap.size, 0, none⟩, cap', by simp, by simpa using hc, fun h => by simp at h, fun a ha => ?_⟩ ((Mod.drew _ _).trans (Mod.alloc _ _ _))
    simp only [Option.some.injEq] at ha; subst ha
    have hblk := Blk.new w.drew (u8s l ++ rest) T
    refine ⟨Nat.le_refl _, hblk.lt, ?_⟩
    have := hblk.cells.take (u8s l).length
    simpa using this

/-- Octets that may be nil, as a slice that reads. -/
theorem OctX.slc {O : List Nat} {w : World} {v : Value} {o : Option (List UInt8)} (h : OctX O w v o) : SlC (fun _ => True) w v (o.getD []).length (u8s (o.getD [])) ∧ ∃ b n c, v = .slice b n c ∧ b.isNone = o.isNone := by
  obtain ⟨h1, h2⟩ := h
  cases o with
  | none => simp only [IsOct] at h1; subst h1; exact ⟨SlC.nil, _, _, _, rfl, rfl⟩
  | some l =>
    obtain ⟨a, n, c, rfl, hb⟩ := h1
    refine ⟨⟨some a, c, by rw [hb.hlen]; rfl, by have := hb.hcap; have := hb.hlen; simp only [Option.getD_some]; omega, fun h => by simp at h, fun a' e => ?_⟩, _, _, _, rfl, rfl⟩
    simp only [Option.some.injEq] at e; subst e
    exact ⟨trivial, (h2 a n c rfl).2, hb.hcells a rfl⟩


/-- A tree is handed back. -/
theorem treeRet {σ : Sl} {w w0 : World} {t b2 : Nat} {cs : List Value} {tr : TR} (h2 : σ 2 = .pointer (some ⟨b2, 0, none⟩)) (hb : Blk w b2 tzero) (ht : σ t = .agg cs.toArray) (hrep : RepT (fun b => w0.heap.size ≤ b ∧ b ≠ b2) w tr cs)
    (hm : Mod [b2] w0 w) (hw0 : w0.heap.size ≤ b2) : wpR P [⟨none, .st (.tmp 2) 5 (.tmp t), none⟩] σ w (fun σ' w' => postC [.cells 2 5] (fun e w' => ∃ cs, e = .returned (.agg cs.toArray) ∧ RepT (fun b => w0.heap.size ≤ b) w' tr cs ∧ Mod [] w0 w') .ret σ' w') := by
  have h5 := hrep.five
  have hput : Mod [b2] w (putCells w ⟨b2, 0, none⟩ 0 cs) := Mod.put (by simp)
  have hp := hb.put (o := 0) (vs := cs) (by simp [h5, tzero])
  rw [splice_all (by rw [h5]; rfl)] at hp
  have ec : (Value.agg cs.toArray).cells = cs.toArray := rfl
  simp only [wpR, RI.wp, gOk, if_true, RK.run, ev, h2, ht, ec, updo]
  refine ⟨by simp [h5], stOk_many hb (by simp [h5, tzero]) (by simpa using hrep.oneCell), ?_⟩
  simp only [postC, rvals, List.mapM_cons, List.mapM_nil, RV.val, h2, cellsAt_of' hp.cells h5, Option.bind_eq_bind, Option.map_some, Option.bind_some, Option.pure_def, tup_one]
  exact ⟨cs, rfl, hrep.mod hput (fun b hb hx => by simp only [List.mem_singleton] at hb; exact hx.2 hb) (fun b _ hb => hb.1), Mod.drop (b := b2) (S := []) (hm.trans hput) hw0⟩

theorem octetsTree_ok (hm : P.follows .mixedOrders = true) (h : liftF P (F iOctetsTree) = some (ir_iOctetsTree F)) : (TK.oct (F iOctetsTree)).Ok P := by
  intro O w g v hg hr
  obtain ⟨o, rfl, hl⟩ := hg
  have ho : OctX O w v o := by cases hr with | byt h => exact h
  obtain ⟨hs, b, n, c, rfl, hbn⟩ := ho.slc
  refine call_of h hm (by simp) ?_
  rw [wpC_seq, wpC_blk]
  refine wpR_run ?_
  intro T
  have hb2 : Blk (w.alloc (.cells tzero.toArray T)) w.heap.size tzero := Blk.new w tzero T
  have hm1 : Mod [] w (w.alloc (.cells tzero.toArray T)) := Mod.alloc _ _ _
  have hs1 := hs.mod (ok' := fun _ => True) hm1 (by simp) fun _ _ h => h
  have hz : ([Value.int .i64 0, .slice none 0 0, .bool false, .slice none 0 0, .slice none 0 0] : List Value) = tzero := rfl
  rw [hz]
  have hsz : (w.alloc (.cells tzero.toArray T)).heap.size = w.heap.size + 1 := by simp
  generalize w.alloc (.cells tzero.toArray T) = w1 at hb2 hm1 hs1 hsz ⊢
  have a0 : args0 [.slice b n c] 0 = .slice b n c := rfl
  generalize args0 [.slice b n c] = σ0 at a0 ⊢
  show wpC P (.seq _ _) _ _ _
  rw [wpC_seq, wpC_blk]
  refine wpR_step (v := .slice b n c) (by simp [RK.val?, a0]) ?_
  refine wpR_run ?_
  refine appendNil_run (v := .slice b n c) (by simp) hs1 (by cases o with | none => simp | some l => exact hl l rfl) fun v' w2 hv' hm2 => ?_
  have ht : GV.told (.byt o) = .mk 0 (o.getD []) o.isNone [] [] := by cases o <;> rfl
  rw [ht]
  obtain ⟨b', c', rfl, -⟩ := id hv'
  refine wpR_step (v := .slice b n c) (by simp [RK.val?, a0]) ?_
  refine wpR_step (v := .bool o.isNone) (by simp [RK.val?, hbn]) ?_
  refine wpR_step (v := .agg [.int .i64 0, .slice b' (o.getD []).length c', .bool o.isNone, .slice none 0 0, .slice none 0 0].toArray) (by simp [RK.val?, fillL, tzero, splice, Value.cells]) ?_
  refine treeRet (by simp) (hb2.mod hm2 (by simp)) (by simp) (RepT.oct _ (hv'.mod (Mod.refl [] _) (by simp) fun x _ hx => ⟨by omega, by omega⟩)) ((hm1.trans hm2).nil) (Nat.le_refl _)

theorem textTree_ok (hm : P.follows .mixedOrders = true) (h : liftF P (F iTextTree) = some (ir_iTextTree F)) : (TK.txt (F iTextTree)).Ok P := by
  intro O w g v hg hr
  obtain ⟨o, rfl⟩ := hg
  refine call_of h hm (by simp) ?_
  rw [wpC_seq, wpC_blk]
  refine wpR_run ?_
  intro T
  have hb2 : Blk (w.alloc (.cells tzero.toArray T)) w.heap.size tzero := Blk.new w tzero T
  have hm1 : Mod [] w (w.alloc (.cells tzero.toArray T)) := Mod.alloc _ _ _
  have hr1 := hr.mod hm1 (by simp)
  have hz : ([Value.int .i64 0, .slice none 0 0, .bool false, .slice none 0 0, .slice none 0 0] : List Value) = tzero := rfl
  rw [hz]
  have hsz : (w.alloc (.cells tzero.toArray T)).heap.size = w.heap.size + 1 := by simp
  generalize w.alloc (.cells tzero.toArray T) = w1 at hb2 hm1 hr1 hsz ⊢
  have a0 : args0 [v] 0 = v := rfl
  generalize args0 [v] = σ0 at a0 ⊢
  show wpC P (.seq (.seq _ _) _) _ _ _
  rw [wpC_seq, wpC_seq, wpC_blk]
  refine wpR_step (v := v) (by simp [RK.val?, a0]) ?_
  cases o with
  | none =>
    have hv : v = .pointer none := by cases hr with | nstr0 => rfl
    subst hv
    refine wpR_step (v := .bool true) (by simp [RK.val?]) ?_
    simp only [wpR, thenC]
    rw [wpC_cond_t (by simp), wpC_seq, wpC_blk]
    refine wpR_step (v := .agg [.int .i64 0, .slice none 0 0, .bool true, .slice none 0 0, .slice none 0 0].toArray) (by simp [RK.val?, fillL, tzero, splice, Value.cells]) ?_
    exact treeRet (by simp) hb2 (by simp) (RepT.num 0 true) hm1.nil (Nat.le_refl _)
  | some l =>
    obtain ⟨b, rfl, hcell⟩ : ∃ b, v = .pointer (some ⟨b, 0, none⟩) ∧ w1.cell? ⟨b, 0, none⟩ = some (str l) := by
      cases hr1 with | nstr1 h1 h2 => exact ⟨_, rfl, h2⟩
    refine wpR_step (v := .bool false) (by simp [RK.val?]) ?_
    simp only [wpR, thenC]
    rw [wpC_cond_f (by simp), wpC_skip]
    simp only [thenC]
    rw [wpC_seq, wpC_blk]
    refine wpR_step (v := .pointer (some ⟨b, 0, none⟩)) (by simp [RK.val?, a0]) ?_
    refine wpR_step (v := .pointer (some ⟨b, 0, none⟩)) (by simp [RK.val?]) ?_
    refine wpR_step (v := str l) (by simp [RK.val?, hcell]) ?_
    refine wpR_run ?_
    simp only [RK.run, ev, updo, upd_same, str]
    intro T2 cap rest hcap hrest
    have hsz2 : (⟨l.toArray⟩ : ByteArray).size = l.length := by simp [ByteArray.size]
    rw [hsz2] at hcap hrest ⊢
    have hblk := Blk.new' w1.drew (u8s l ++ rest) T2 (cap, cap + 1) (by simp only [List.length_append, u8s_length]; omega)
    have hm2 : Mod [] w1 (w1.drew.alloc (.cells (u8s l ++ rest).toArray T2 (cap, cap + 1))) := (Mod.drew _ _).trans (Mod.alloc _ _ _)
    have hs : SlC (fun x => w.heap.size ≤ x ∧ x ≠ w.heap.size) (w1.drew.alloc (.cells (u8s l ++ rest).toArray T2 (cap, cap + 1))) (.slice (some ⟨w1.heap.size, 0, none⟩) l.length cap) l.length (u8s l) := by
      refine ⟨some ⟨w1.heap.size, 0, none⟩, cap, rfl, hcap, fun h => by simp at h, fun a ha => ?_⟩
      simp only [Option.some.injEq] at ha; subst ha
      refine ⟨⟨show w.heap.size ≤ w1.heap.size by omega, show w1.heap.size ≠ w.heap.size by omega⟩, hblk.lt, ?_⟩
      have := hblk.cells.take (u8s l).length
      simpa using this
    refine wpR_step (v := .agg [.int .i64 0, .slice (some ⟨w1.heap.size, 0, none⟩) l.length cap, .bool false, .slice none 0 0, .slice none 0 0].toArray) (by simp [RK.val?, fillL, tzero, splice, Value.cells]) ?_
    exact treeRet (by simp) (hb2.mod hm2 (by simp)) (by simp) (RepT.oct _ hs) ((hm1.trans hm2).nil) (Nat.le_refl _)

theorem version_call (hm : P.follows .mixedOrders = true) (h : liftF P (F lVersion) = some (ir_lVersion F)) {w : World} {n m : Int} (hn : 0 ≤ n ∧ n < 256) (hm0 : 0 ≤ m ∧ m < 32768) :
    Calls P (F lVersion) [.int .u8 n, .int .i64 m].toArray w fun e w' => e = .returned (.int .i64 (n % (m + 1))) ∧ w' = w := by
  refine call_of h hm (by simp) ?_
  have e1 : IntKind.i64.wrap n = n := by simp [IntKind.wrap, IntKind.bits, IntKind.signed]; omega
  have e2 : IntKind.i64.wrap (m + 1) = m + 1 := by simp [IntKind.wrap, IntKind.bits, IntKind.signed]; omega
  have e3 : IntKind.i64.wrap (n.tmod (m + 1)) = n % (m + 1) := by
    have h1 : n.tmod (m + 1) = n % (m + 1) := Int.tmod_eq_emod_of_nonneg hn.1
    have h2 : 0 ≤ n % (m + 1) := Int.emod_nonneg _ (by omega)
    have h3 : n % (m + 1) < m + 1 := Int.emod_lt_of_pos _ (by omega)
    rw [h1]
    simp only [IntKind.wrap, IntKind.bits, IntKind.signed]; simp; omega
  have e4 : n.tmod (m + 1) = n % (m + 1) := Int.tmod_eq_emod_of_nonneg hn.1
  have e0 : m + 1 ≠ 0 := by omega
  simp [ir_lVersion, e1, e2, intBin, e0, e3, e4]

end
end Go.Msk

/-! Octets held against octets. -/
namespace Go.Msk
open Go.RowKit
set_option maxRecDepth 100000

theorem SlC.get {ok : Nat → Prop} {w : World} {v : Value} {l : List UInt8} (h : SlC ok w v l.length (u8s l)) {i : Nat} (hi : i < l.length) :
    ∃ a c b, v = .slice (some a) l.length c ∧ l[i]? = some b ∧ w.cell? (a.add (i * 1)) = some (.int .u8 b.toNat) := by
  obtain ⟨base, cap, rfl, h2, h3, h4⟩ := h
  cases base with
  | none => have := h3 rfl; omega
  | some a =>
    obtain ⟨-, -, hc⟩ := h4 a rfl
    have hb : l[i]? = some l[i] := List.getElem?_eq_getElem hi
    exact ⟨a, cap, l[i], rfl, hb, by rw [Nat.mul_one]; exact hc.nth (by rw [u8s_get, hb]; rfl)⟩

theorem SlC.shape {ok : Nat → Prop} {w : World} {v : Value} {n : Nat} {cs : List Value} (h : SlC ok w v n cs) : ∃ b c, v = .slice b n c := by
  obtain ⟨base, cap, rfl, -⟩ := h; exact ⟨_, _, rfl⟩

theorem u8_ne (a b : UInt8) : ((a.toNat : Int) != b.toNat) = (a != b) := by
  by_cases h : a = b
  · subst h; simp
  · have h1 : (a != b) = true := by simpa using h
    have h2 : ((a.toNat : Int) != b.toNat) = true := by
      simp only [bne_iff_ne, ne_eq, Int.natCast_inj]
      exact fun e => h (UInt8.toNat_inj.1 e)
    rw [h1, h2]

section
variable {P : Program} {F : Nat → Nat}
attribute [local simp] bnd wpC wpR RI.wp gOk RK.run thenC inBlockC updo upd ev args0 postC rvals RV.val tup_one isShift

theorem same_call (hm : P.follows .mixedOrders = true) (h : liftF P (F sSame) = some (ir_sSame F)) {ok : Nat → Prop} {w : World} {v1 v2 : Value} {l1 l2 : List UInt8} (h1 : SlC ok w v1 l1.length (u8s l1)) (h2 : SlC ok w v2 l2.length (u8s l2))
    (hl : l1.length ≤ 4611686018427387904) : Calls P (F sSame) [v1, v2].toArray w fun e w' => e = .returned (.bool (decide (l1 = l2))) ∧ Mod [] w w' := by
  refine call_of h hm (by simp) ?_
  obtain ⟨b1, c1, e1⟩ := h1.shape
  obtain ⟨b2, c2, e2⟩ := h2.shape
  have a0 : args0 [v1, v2] 0 = v1 := rfl
  have a1 : args0 [v1, v2] 1 = v2 := rfl
  generalize args0 [v1, v2] = σ0 at a0 a1 ⊢
  rw [wpC_seq, wpC_blk]
  refine wpR_step (v := .bool false) (by simp [RK.val?]) ?_
  simp only [wpR, thenC]
  rw [wpC_seq, wpC_seq, wpC_blk]
  refine wpR_step (v := v1) (by simp [RK.val?, a0]) ?_
  refine wpR_step (v := .int .i64 l1.length) (by simp [RK.val?, e1]) ?_
  refine wpR_step (v := v2) (by simp [RK.val?, a1]) ?_
  refine wpR_step (v := .int .i64 l2.length) (by simp [RK.val?, e2]) ?_
  refine wpR_step (v := .bool ((l1.length : Int) != l2.length)) (by simp [RK.val?, intBin]) ?_
  simp only [wpR, thenC]
  by_cases hlen : l1.length = l2.length
  · have hb : ((l1.length : Int) != l2.length) = false := by simp [hlen]
    rw [wpC_cond_f (by simp [hb]), wpC_skip]
    simp only [thenC]
    rw [wpC_seq, wpC_seq, wpC_blk]
    refine wpR_step (v := v1) (by simp [RK.val?, a0]) ?_
    refine wpR_step (v := .int .i64 l1.length) (by simp [RK.val?, e1]) ?_
    refine wpR_step (v := .int .i64 0) (by simp [RK.val?]) ?_
    simp only [wpR, thenC]
    rw [wpC_block, wpC_loop]
    refine ⟨fun σ1 w1 => ∃ i, i ≤ l1.length ∧ σ1 13 = .int .i64 i ∧ σ1 12 = .int .i64 l1.length ∧ σ1 0 = v1 ∧ σ1 1 = v2 ∧ Mod [] w w1 ∧ ∀ k, k < i → l1[k]? = l2[k]?,
      fun σ1 _ => l1.length - (match σ1 13 with | .int _ j => j.toNat | _ => 0), ⟨0, Nat.zero_le _, by simp, by simp, by simp [a0], by simp [a1], Mod.refl _ _, by simp⟩, ?_⟩
    rintro σ1 w1 ⟨i, hi, h13, h12, hv1, hv2, hm1, hpre⟩
    rw [wpC_seq, wpC_blk]
    refine wpR_step (v := .bool (decide ((i : Int) < l1.length))) (by simp [RK.val?, h13, h12, intBin]) ?_
    simp only [wpR, thenC]
    rw [wpC_seq]
    by_cases hlt : i < l1.length
    · rw [wpC_cond_t (by simp [hlt]), wpC_skip]
      simp only [thenC]
      rw [wpC_seq, wpC_block, wpC_seq, wpC_blk]
      refine wpR_step (v := .int .i64 i) (by simp [RK.val?, h13]) ?_
      refine wpR_step (v := .int .i64 i) (by simp [RK.val?]) ?_
      simp only [wpR, thenC, inBlockC]
      have hm2 : Mod [] w w1.drew := hm1.trans (Mod.drew _ _)
      obtain ⟨p1, d1, x1, f1, f2, f3⟩ := (h1.mod (ok' := ok) hm2 (by simp) fun _ _ h => h).get hlt
      obtain ⟨p2, d2, x2, f4, f5, f6⟩ := (h2.mod (ok' := ok) hm2 (by simp) fun _ _ h => h).get (hlen ▸ hlt)
      rw [wpC_seq]
      show wpD P _ _ _ _ _
      refine wpD_pure rfl ?_
      simp only [List.map_cons, List.map_nil, List.append_nil]
      refine wpR_step (v := v1) (by simp [RK.val?, hv1]) ?_
      refine wpR_step (v := .int .i64 i) (by simp [RK.val?]) ?_
      refine wpR_step (v := .pointer (some (p1.add (i * 1)))) (by simp [RK.val?, f1, hlt]) ?_
      refine wpR_step (v := .int .u8 x1.toNat) (by simp [RK.val?]; simpa using f3) ?_
      refine wpR_step (v := v2) (by simp [RK.val?, hv2]) ?_
      refine wpR_step (v := .int .i64 i) (by simp [RK.val?]) ?_
      refine wpR_step (v := .pointer (some (p2.add (i * 1)))) (by simp [RK.val?, f4, ← hlen, hlt]) ?_
      refine wpR_step (v := .int .u8 x2.toNat) (by simp [RK.val?]; simpa using f6) ?_
      refine wpR_step (v := .bool (x1 != x2)) (by simp [RK.val?, intBin, u8_ne]) ?_
      simp only [wpR, thenC]
      by_cases hx : x1 = x2
      · subst hx
        rw [wpC_cond_f (by simp), wpC_skip]
        have hw : IntKind.i64.wrap ((i : Int) + 1) = ((i + 1 : Nat) : Int) := by
          simp only [IntKind.wrap, IntKind.bits, IntKind.signed]; simp; omega
        simp only [inBlockC, thenC]
        rw [wpC_blk]
        refine wpR_step (v := .int .i64 ((i + 1 : Nat) : Int)) (by simp [RK.val?, intBin, h13, hw]) ?_
        refine wpR_step (v := .int .i64 ((i + 1 : Nat) : Int)) (by simp [RK.val?]) ?_
        simp only [wpR, thenC]
        refine ⟨⟨i + 1, hlt, by simp, by simp [h12], by simp [hv1], by simp [hv2], hm2, fun k hk => ?_⟩, ?_⟩
        · rcases Nat.lt_or_ge k i with hk' | hk'
          · exact hpre k hk'
          · have : k = i := by omega
            subst this; rw [f2, f5]
        · simp [h13]; show l1.length - (i + 1) < l1.length - i; omega
      · rw [wpC_cond_t (by simp [hx]), wpC_seq, wpC_blk]
        refine wpR_step (v := .bool false) (by simp [RK.val?]) ?_
        have hne : l1 ≠ l2 := fun e => by subst e; rw [f2] at f5; simp at f5; exact hx f5
        simp [hne, hm2]
    · rw [wpC_cond_f (by simp; omega)]
      have hie : i = l1.length := by omega
      have heq : l1 = l2 := by
        apply List.ext_getElem? ; intro k
        rcases Nat.lt_or_ge k l1.length with hk | hk
        · exact hpre k (by omega)
        · rw [List.getElem?_eq_none hk, List.getElem?_eq_none (by omega)]
      simp [heq, hm1]
  · have hb : ((l1.length : Int) != l2.length) = true := by simp; omega
    rw [wpC_cond_t (by simp [hb]), wpC_seq, wpC_blk]
    refine wpR_step (v := .bool false) (by simp [RK.val?]) ?_
    have hne : l1 ≠ l2 := fun e => hlen (by rw [e])
    simp [hne, Mod.refl]

end
end Go.Msk

/-! laws.got: a tree of the thin package as one of the reference. -/
namespace Go.Msk
open Go.RowKit
set_option maxRecDepth 100000

/-- What is asked of got at a tree. -/
def GotAt (P : Program) (f : FuncId) (t : TR) : Prop :=
  ∀ (N : Nat) (w : World) (cs : List Value), N ≤ w.heap.size → RepT (fun b => b < N) w t cs →
    Calls P f [.agg cs.toArray].toArray w fun e w' => ∃ cs', e = .returned (.agg cs'.toArray) ∧ RepT (fun b => b < N ∨ w.heap.size ≤ b) w' t cs' ∧ Mod [] w w'

/-- A slice of new things of n cells each that grows (as LRaw, for any size). -/
structure LRaw2 (w : World) (n0 : Nat) (lv : Value) (css : List (List Value)) : Prop where
  two : ∀ cs ∈ css, cs.length = 2
  sl : (lv = .slice none 0 0 ∧ css = []) ∨ ∃ BA cap rest, lv = .slice (some ⟨BA, 0, none⟩) css.length cap ∧ css.length ≤ cap ∧ n0 ≤ BA ∧ Blk w BA (css.flatten ++ rest) ∧ rest.length = (cap - css.length) * 2

section
variable {P : Program} {F : Nat → Nat}
attribute [local simp] bnd wpC wpR RI.wp gOk RK.run thenC inBlockC updo upd ev args0 postC rvals RV.val tup_one isShift

/-- What the loops of got keep. -/
structure GS (w3 w : World) (Ob : Nat) (n : Int) (sv lv uv : Value) (null : Bool) (N : Nat) (ts : List TR) (tcs : List (List Value)) : Prop where
  ob : Blk w Ob [.int .i64 n, sv, .bool null, lv, uv]
  raw : LRaw w w3.heap.size lv tcs
  rep : RepTL (fun b => b < N ∨ (w3.heap.size ≤ b ∧ own lv ≠ some b)) w ts tcs
  mod : Mod [Ob] w3 w
  lob : Ob < w3.heap.size
  nob : N ≤ Ob

theorem GS.same {w3 w w' : World} {Ob : Nat} {n : Int} {sv lv uv : Value} {null : Bool} {N : Nat} {ts : List TR} {tcs : List (List Value)} (h : GS w3 w Ob n sv lv uv null N ts tcs) (hm : Mod [] w w') : GS w3 w' Ob n sv lv uv null N ts tcs :=
  ⟨h.ob.mod hm (by simp), h.raw.mod hm (by simp), h.rep.mod hm (by simp) (fun _ _ h => h), h.mod.trans hm.nil, h.lob, h.nob⟩

/-- One more tree behind the others. -/
theorem GS.step {w3 w wr : World} {Ob : Nat} {n : Int} {sv lv uv : Value} {null : Bool} {N : Nat} {ts : List TR} {tcs : List (List Value)} {t : TR} {es : List Value} {sb : Nat} {σ : Sl} {x y a : Operand} {d1 d2 : Nat} {Q : Sl → World → Prop} (h : GS w3 w Ob n sv lv uv null N ts tcs)
    (hx : ev σ x = lv) (hy : ev σ y = .slice (some ⟨sb, 0, none⟩) 1 1) (hsb : Blk w sb es) (ht : RepT (fun b => b < N ∨ wr.heap.size ≤ b) w t es) (hlen : tcs.length ≤ 2147483647)
    (hwr : ∀ b, own lv = some b → b < wr.heap.size) (hwr3 : w3.heap.size ≤ wr.heap.size) (ha : ∀ v, ev (upd σ d1 v) a = .pointer (some ⟨Ob, 0, none⟩)) (hd : d1 ≠ d2)
    (hQ : ∀ w' lv', GS w3 w' Ob n sv lv' uv null N (ts ++ [t]) (tcs ++ [es]) → Q (upd (upd σ d1 lv') d2 (.pointer (some ⟨Ob, 3, none⟩))) w') :
    wpR P [⟨some d1, .append x y 5 88, none⟩, ⟨some d2, .fad a 3, none⟩, ⟨none, .st (.tmp d2) 1 (.tmp d1), none⟩] σ w Q := by
  have hlob := h.lob
  have hnob := h.nob
  refine wpR_run ?_
  refine append_tree hx h.raw h.mod.size hy hsb ht.five ht.oneCell hlen fun lv' w1 hraw1 hown => ?_
  refine wpR_step (v := .pointer (some ⟨Ob, 3, none⟩)) (by
    show (RK.fad a 3).val? (upd σ d1 lv') w1 = _
    simp only [RK.val?, ha lv', Addr.add_mk, Nat.zero_add]) ?_
  obtain ⟨o1, o2⟩ := hraw1.one
  have hge : ∀ b, own lv = some b → w3.heap.size ≤ b := fun b hb => (h.raw.own hb).1
  have hge' : ∀ b, own lv' = some b → w3.heap.size ≤ b := fun b hb => (hraw1.own hb).1
  -- the world behind the append
  have key : Blk w1 Ob [.int .i64 n, sv, .bool null, lv, uv] ∧ Mod [Ob] w3 w1 ∧ RepTL (fun b => b < N ∨ (w3.heap.size ≤ b ∧ own lv' ≠ some b)) w1 (ts ++ [t]) (tcs ++ [es]) := by
    rcases hown with ⟨⟨ho, hm⟩, -⟩ | ⟨ho, hm⟩
    · have hS : ∀ b ∈ (own lv).toList, own lv = some b := fun b hb => by simpa using hb
      refine ⟨h.ob.mod hm (fun hc => by have := hge _ (hS _ hc); omega), ?_, (h.rep.mod hm (fun b hb hc => ?_) (fun b _ hb => by rw [ho]; exact hb)).append (.cons (ht.mod hm (fun b hb hc => ?_) fun b _ hb => ?_) .nil)⟩
      · refine ⟨hm.os.trans h.mod.os, hm.tape.trans h.mod.tape, hm.output.trans h.mod.output, Nat.le_trans h.mod.size hm.size, fun k hk hn => ?_⟩
        rw [hm.block k (Nat.lt_of_lt_of_le hk h.mod.size) (fun hc => by have := hge _ (hS _ hc); omega)]
        exact h.mod.block k hk hn
      · have := hge _ (hS _ hb)
        rcases hc with hc | hc
        · omega
        · exact hc.2 (hS b hb)
      · have := hge _ (hS _ hb); have := hwr _ (hS _ hb)
        rcases hc with hc | hc <;> omega
      · rcases hb with hb | hb
        · exact .inl hb
        · refine .inr ⟨by omega, fun e => ?_⟩
          rw [ho] at e
          have := hwr _ e; omega
    · refine ⟨h.ob.mod hm (by simp), h.mod.trans hm.nil, (h.rep.mod hm (by simp) fun b hlt hb => ?_).append (.cons (ht.mod hm (by simp) fun b hlt hb => ?_) .nil)⟩
      · rcases hb with hb | hb
        · exact .inl hb
        · exact .inr ⟨hb.1, fun e => by rw [ho] at e; simp only [Option.some.injEq] at e; omega⟩
      · rcases hb with hb | hb
        · exact .inl hb
        · exact .inr ⟨by omega, fun e => by rw [ho] at e; simp only [Option.some.injEq] at e; omega⟩
  obtain ⟨k1, k2, k3⟩ := key
  have hput : Mod [Ob] w1 (putCells w1 ⟨Ob, 3, none⟩ 0 [lv']) := Mod.put (by simp)
  have hp := k1.put (o := 3) (vs := [lv']) (by simp)
  have e1 : splice [Value.int .i64 n, sv, .bool null, lv, uv] 3 [lv'] = [.int .i64 n, sv, .bool null, lv', uv] := by simp [splice]
  rw [e1] at hp
  have s1 : (updo (updo σ (some d1) lv') (some d2) (.pointer (some ⟨Ob, 3, none⟩))) d1 = lv' := by simp only [updo, upd, hd, if_false, if_true]
  have s2 : (updo (updo σ (some d1) lv') (some d2) (.pointer (some ⟨Ob, 3, none⟩))) d2 = .pointer (some ⟨Ob, 3, none⟩) := by simp only [updo, upd, if_true]
  refine wpR_run ?_
  simp only [RK.run, ev, s1, s2, o1]
  refine ⟨rfl, stOk_one k1 (by simp) o2, ?_⟩
  exact hQ _ lv' ⟨hp, hraw1.mod hput (fun b hb => by have := hge' b hb; simp; omega), k3.mod hput (fun b hb hc => by
    simp only [List.mem_singleton] at hb
    rcases hc with hc | hc <;> omega) (fun _ _ h => h), k2.trans hput, hlob, hnob⟩

theorem SlC.flat {ok : Nat → Prop} {w : World} {v : Value} {n sz j : Nat} {css : List (List Value)} {cs : List Value} (h : SlC ok w v n css.flatten) (hn : n = css.length) (hsz : ∀ c ∈ css, c.length = sz) (hj : css[j]? = some cs) :
    ∃ a c, v = .slice (some a) n c ∧ j < n ∧ cellsAt w (a.add (j * sz)) 0 sz = some cs := by
  have hjl : j < css.length := by
    rcases Nat.lt_or_ge j css.length with h | h
    · exact h
    · rw [List.getElem?_eq_none h] at hj; simp at hj
  obtain ⟨base, cap, rfl, h2, h3, h4⟩ := h
  cases base with
  | none => have := h3 rfl; omega
  | some a =>
    obtain ⟨-, -, hc⟩ := h4 a rfl
    refine ⟨a, cap, rfl, by omega, ?_⟩
    have := flat_cells hc hsz hj
    rw [Addr.add_of hc.1]
    exact cellsAt_of' this (hsz _ (List.mem_of_getElem? hj))

theorem RepTL.nth {ok : Nat → Prop} {w : World} {l : List TR} {css : List (List Value)} (h : RepTL ok w l css) {j : Nat} {t : TR} (ht : l[j]? = some t) : ∃ cs, css[j]? = some cs ∧ RepT ok w t cs := by
  induction l generalizing css j with
  | nil => simp at ht
  | cons a l ih =>
    cases h with
    | cons h1 h2 =>
      cases j with
      | zero => simp only [List.getElem?_cons_zero, Option.some.injEq] at ht; subst ht; exact ⟨_, rfl, h1⟩
      | succ j => simp only [List.getElem?_cons_succ] at ht ⊢; exact ih h2 ht

/-- The first loop of got. -/
theorem got_loop1 {N : Nat} {w w3 : World} {Pb b2 Ob : Nat} {n : Int} {sv lv0 : Value} {null : Bool} {l : List TR} {css : List (List Value)} {σ : Sl} {Q : Exit → Sl → World → Prop} (hf : ∀ t ∈ l, GotAt P (F lGot) t)
    (hw : Mod [] w w3) (hN : N ≤ w.heap.size) (hl : SlC (fun b => b < N) w lv0 l.length css.flatten) (hr : RepTL (fun b => b < N) w l css) (hlen : l.length ≤ 2147483647)
    (hob : Blk w3 Ob [.int .i64 n, sv, .bool null, .slice none 0 0, .slice none 0 0]) (hoN : N ≤ Ob)
    (h1 : σ 1 = .pointer (some ⟨Pb, 0, none⟩)) (h2 : σ 2 = .pointer (some ⟨b2, 0, none⟩)) (h3 : σ 3 = .pointer (some ⟨Ob, 0, none⟩)) (hpb : w3.cell? ⟨Pb, 3, none⟩ = some lv0)
    (hQ : ∀ σ' w' lv tcs, σ' 1 = .pointer (some ⟨Pb, 0, none⟩) → σ' 2 = .pointer (some ⟨b2, 0, none⟩) → σ' 3 = .pointer (some ⟨Ob, 0, none⟩) → GS w3 w' Ob n sv lv (.slice none 0 0) null N l tcs → tcs.length = l.length → Q .normal σ' w') :
    wpC P (.seq (.blk [⟨some 15, .fad (.tmp 1) 3, none⟩, ⟨some 16, .ld (.tmp 15), none⟩, ⟨some 17, .len (.tmp 16), none⟩, ⟨some 18, .mv (.const (.int .i64 0)), none⟩])
      (.block 0 (.loop (.seq (.blk [⟨some 19, .bin .lss (.tmp 18) (.tmp 17), none⟩]) (.seq (.cond (.tmp 19) .skip (.exit 0))
        (.seq (.block 1 (.seq (.blk [⟨some 20, .iad (.tmp 16) (.tmp 18) 5, none⟩, ⟨some 21, .ldn (.tmp 20) 5, none⟩, ⟨some 5, .alloc tzero, none⟩, ⟨none, .st (.tmp 5) 5 (.tmp 21), none⟩])
            (.drw [⟨⟨some 22, .fad (.tmp 3) 3, none⟩, false, []⟩, ⟨⟨some 23, .ld (.tmp 22), none⟩, false, []⟩, ⟨⟨some 24, .ldn (.tmp 5) 5, none⟩, false, []⟩, ⟨⟨some 25, .call (F lGot) [.tmp 24], none⟩, true, []⟩,
                ⟨⟨some 26, .bslice 1 tzero [(0, 5, .tmp 25)], none⟩, true, [3]⟩]
              [⟨some 27, .append (.tmp 23) (.tmp 26) 5 88, none⟩, ⟨some 28, .fad (.tmp 3) 3, none⟩, ⟨none, .st (.tmp 28) 1 (.tmp 27), none⟩])))
          (.blk [⟨some 29, .bin .add (.tmp 18) (.const (.int .i64 1)), none⟩, ⟨some 18, .mv (.tmp 29), none⟩])))))))
      Q σ w3 := by
  obtain ⟨lb, lc, elv⟩ := hl.shape
  have hol := hob.lt
  rw [wpC_seq, wpC_blk]
  refine wpR_step (v := .pointer (some ⟨Pb, 3, none⟩)) (by simp [RK.val?, h1, Addr.add_mk]) ?_
  refine wpR_step (v := lv0) (by simp [RK.val?, hpb]) ?_
  refine wpR_step (v := .int .i64 l.length) (by simp [RK.val?, elv]) ?_
  refine wpR_step (v := .int .i64 0) (by simp [RK.val?]) ?_
  simp only [wpR, thenC]
  rw [wpC_block, wpC_loop]
  refine ⟨fun σ1 w1 => ∃ j lv tcs, j ≤ l.length ∧ σ1 1 = .pointer (some ⟨Pb, 0, none⟩) ∧ σ1 2 = .pointer (some ⟨b2, 0, none⟩) ∧ σ1 3 = .pointer (some ⟨Ob, 0, none⟩) ∧ σ1 16 = lv0 ∧ σ1 17 = .int .i64 l.length ∧ σ1 18 = .int .i64 j ∧
      GS w3 w1 Ob n sv lv (.slice none 0 0) null N (l.take j) tcs ∧ tcs.length = j,
    fun σ1 _ => l.length - (match σ1 18 with | .int _ j => j.toNat | _ => 0), ⟨0, .slice none 0 0, [], Nat.zero_le _, by simp [h1], by simp [h2], by simp [h3], by simp, by simp, by simp, ⟨hob, ⟨by simp, .inl ⟨rfl, rfl⟩⟩, by simpa using .nil, Mod.refl _ _, hol, hoN⟩, rfl⟩, ?_⟩
  rintro σ1 w1 ⟨j, lv, tcs, hj, s1, s2, s3, s16, s17, s18, hgs, htl⟩
  rw [wpC_seq, wpC_blk]
  refine wpR_step (v := .bool (decide ((j : Int) < l.length))) (by simp [RK.val?, s17, s18, intBin]) ?_
  simp only [wpR, thenC]
  rw [wpC_seq]
  by_cases hlt : j < l.length
  · rw [wpC_cond_t (by simp [hlt]), wpC_skip]
    simp only [thenC]
    rw [wpC_seq, wpC_block, wpC_seq, wpC_blk]
    obtain ⟨tj, htj⟩ : ∃ t, l[j]? = some t := ⟨l[j], List.getElem?_eq_getElem hlt⟩
    have hmw : Mod [Ob] w w1 := hw.nil.trans hgs.mod
    have hNob : ∀ b ∈ [Ob], ¬ b < N := fun b hb => by simp only [List.mem_singleton] at hb; omega
    obtain ⟨cj, hcj, hrj⟩ := (hr.mod (ok' := fun b => b < N) hmw hNob fun _ _ h => h).nth htj
    obtain ⟨pa, pc, ep, -, hcells⟩ := (hl.mod (ok' := fun b => b < N) hmw hNob fun _ _ h => h).flat hr.length hr.five hcj
    refine wpR_step (v := .pointer (some (pa.add (j * 5)))) (by simp [RK.val?, s16, s18, ep, hlt]) ?_
    refine wpR_step (v := .agg cj.toArray) (by simp [RK.val?, hcells]) ?_
    refine wpR_run ?_
    intro Ty
    obtain ⟨q1, q2, q3⟩ := new_put w1 tzero cj Ty (by rw [hrj.five]; rfl) hrj.oneCell
    refine wpR_run ?_
    have ec : (Value.agg cj.toArray).cells = cj.toArray := rfl
    have ec' : (Value.agg cj.toArray).cells.toList = cj := by simp [Value.cells]
    simp only [RK.run, ev, updo, upd]
    simp only [if_true, show (21 : Nat) ≠ 5 by decide, if_false, ec']
    refine ⟨by rw [ec]; simp [hrj.five], q1, ?_⟩
    generalize hw4 : putCells (w1.alloc (.cells tzero.toArray Ty)) ⟨w1.heap.size, 0, none⟩ 0 cj = w4 at q2 q3
    simp only [wpR, thenC]
    -- the region
    have hgs4 := hgs.same q3
    have hrj4 := hrj.mod (ok' := fun b => b < N) q3 (by simp) fun _ _ h => h
    have hN4 : N ≤ w4.heap.size := Nat.le_trans hN (Nat.le_trans hmw.size q3.size)
    have sz4 : w3.heap.size ≤ w4.heap.size := Nat.le_trans hgs.mod.size q3.size
    show wpD P _ _ _ w4.drew _
    refine wpD_of_B (fun jj v w' => if jj = 3 then ∃ cs', v = .agg cs'.toArray ∧ RepT (fun b => b < N ∨ w4.heap.size ≤ b) w' tj cs' else ∃ sb cs', v = .slice (some ⟨sb, 0, none⟩) 1 1 ∧ Blk w' sb cs' ∧ RepT (fun b => b < N ∨ w4.heap.size ≤ b) w' tj cs') ?_ ?_
    · intro jj v w5 w6 h hm
      split at h
      · rename_i hjj; rw [if_pos hjj]
        obtain ⟨cs', g1, g2⟩ := h
        exact ⟨cs', g1, g2.mod hm (by simp) fun _ _ h => h⟩
      · rename_i hjj; rw [if_neg hjj]
        obtain ⟨sb, cs', g1, g2, g3⟩ := h
        exact ⟨sb, cs', g1, g2.mod hm (by simp), g3.mod hm (by simp) fun _ _ h => h⟩
    refine walkB_step (v := .pointer (some ⟨Ob, 3, none⟩)) (by simp [RK.val?, s3, Addr.add_mk]) ?_
    refine walkB_step (v := lv) (by simp [RK.val?]; exact hgs4.ob.cell 3) ?_
    refine walkB_step (v := .agg cj.toArray) (by
      have : cellsAt w4.drew ⟨w1.heap.size, 0, none⟩ 0 5 = some cj := cellsAt_of' (show Cells w4.drew _ _ from q2.cells) hrj.five
      simp [RK.val?, this]) ?_
    refine walkB_node (fun w5 hm5 _ => ?_) fun u hu => ?_
    · have hm45 : Mod [] w4 w5 := (Mod.drew _ _).trans hm5
      have := hf tj (List.mem_of_getElem? htj) N w5 cj (Nat.le_trans hN4 hm45.size) (hrj4.mod hm45 (by simp) fun _ _ h => h)
      simp only [RK.run, List.map_cons, List.map_nil, ev, updo, upd, if_true]
      refine this.mono ?_
      rintro e w6 ⟨cs', rfl, g1, g2⟩
      refine ⟨_, rfl, g2, ?_⟩
      exact ⟨cs', rfl, g1.mod (Mod.refl [] _) (by simp) fun b _ hb => hb.imp id fun h => Nat.le_trans hm45.size h⟩
    obtain ⟨wu, hu⟩ := hu
    obtain ⟨cu, rfl, hcu⟩ := hu
    refine walkB_node (fun w5 hm5 hkn => ?_) fun u2 hu2 => ?_
    · have h3 := hkn 3 (by simp) _ rfl rfl rfl 25 rfl
      dsimp only at h3
      rw [if_pos rfl] at h3
      simp only [updo, upd, if_true] at h3
      obtain ⟨cs', e3, h3⟩ := h3
      have : cu = cs' := by
        have := congrArg (fun v => match v with | Value.agg a => a.toList | _ => []) e3
        simpa using this
      subst this
      refine bslice_run (cs := cu) (n0 := 0) (by simp) h3.five (Nat.zero_le _) fun v w6 hbs hm6 => ?_
      obtain ⟨sb, cs', g1, g2, g3, g4, g5⟩ := hbs
      have : cs' = cu := by
        have := congrArg (fun v => match v with | Value.agg a => a.toList | _ => []) g5
        simpa using this
      subst this
      refine ⟨hm6, ?_⟩
      rw [if_neg (by omega)]
      exact ⟨sb, cs', g1, g3, h3.mod hm6 (by simp) fun _ _ h => h⟩
    simp only [walkB]
    intro w5 hm5 hkn
    have h4 := hkn 4 (by simp) _ rfl rfl rfl 26 rfl
    dsimp only at h4
    rw [if_neg (by omega)] at h4
    simp only [updo, upd, if_true] at h4
    obtain ⟨sb, es, rfl, hblk, htree⟩ := h4
    have hm45 : Mod [] w4 w5 := (Mod.drew _ _).trans hm5
    refine (hgs4.same hm45).step (wr := w4) (t := tj) (by simp) (by simp) hblk htree (by omega) (fun b hb => (hgs4.raw.own hb).2) sz4 (fun v => by simp [s3]) (by decide) fun w6 lv' hgs6 => ?_
    simp only [inBlockC, thenC]
    have hw : IntKind.i64.wrap ((j : Int) + 1) = ((j + 1 : Nat) : Int) := by
      simp only [IntKind.wrap, IntKind.bits, IntKind.signed]; simp; omega
    rw [wpC_blk]
    refine wpR_step (v := .int .i64 ((j + 1 : Nat) : Int)) (by simp [RK.val?, intBin, s18, hw]) ?_
    refine wpR_step (v := .int .i64 ((j + 1 : Nat) : Int)) (by simp [RK.val?]) ?_
    simp only [wpR, thenC]
    refine ⟨⟨j + 1, lv', tcs ++ [es], hlt, by simp [s1], by simp [s2], by simp [s3], by simp [s16], by simp [s17], by simp, ?_, by simp [htl]⟩, ?_⟩
    · rw [List.take_add_one, htj]; simpa using hgs6
    · simp [s18]; show l.length - (j + 1) < l.length - j; omega
  · rw [wpC_cond_f (by simp; omega)]
    have hje : j = l.length := by omega
    subst hje
    rw [List.take_length] at hgs
    simp only [wpC, inBlockC, thenC, if_true]
    exact hQ _ w1 lv tcs (by simp [s1]) (by simp [s2]) (by simp [s3]) hgs htl

end
end Go.Msk

/-! laws.got: the loop over the unknown tags, and the whole. -/
namespace Go.Msk
open Go.RowKit
set_option maxRecDepth 100000

section
variable {P : Program} {F : Nat → Nat}
attribute [local simp] bnd wpC wpR RI.wp gOk RK.run thenC inBlockC updo upd ev args0 postC rvals RV.val tup_one isShift

theorem append_two {σ : Sl} {w : World} {x y : Operand} {lv : Value} {css : List (List Value)} {es : List Value} {n0 sb : Nat} {K : Value → World → Prop} (hx : ev σ x = lv) (hraw : LRaw2 w n0 lv css) (hn0 : n0 ≤ w.heap.size)
    (hy : ev σ y = .slice (some ⟨sb, 0, none⟩) 1 1) (hsb : Blk w sb es) (h5 : es.length = 2) (hone : ∀ v ∈ es, v.oneCell' = true) (hl : css.length ≤ 2147483647)
    (hK : ∀ lv' w', LRaw2 w' n0 lv' (css ++ [es]) → (((own lv' = own lv ∧ Mod (own lv).toList w w') ∧ ∃ BA c, lv = .slice (some ⟨BA, 0, none⟩) css.length c ∧ css.length + 1 ≤ c) ∨ (own lv' = some w.heap.size ∧ Mod [] w w')) → K lv' w') : (RK.append x y 2 32).run P σ w K := by
  have hsrc : srcCells w 2 (.slice (some ⟨sb, 0, none⟩) 1 1) = some (1, es) := by
    simp only [srcCells, cellsAt_of' hsb.cells (n := 1 * 2) (by omega), Option.map_some]
  simp only [RK.run, hx, hy]
  have h5' : ∀ cs ∈ css ++ [es], cs.length = 2 := fun cs hc => by
    rcases List.mem_append.1 hc with hc | hc
    · exact hraw.two cs hc
    · simp only [List.mem_singleton] at hc; subst hc; exact h5
  have hfl : css.flatten.length = css.length * 2 := flatten_length hraw.two
  rcases hraw.sl with ⟨rfl, rfl⟩ | ⟨BA, cap, rest, rfl, h2, h3, h4, hr⟩
  · simp only [hsrc, appendRun]
    rw [if_neg (by omega)]
    refine ⟨by omega, by omega, ?_⟩
    intro T cap rest hc hr
    refine hK _ _ ⟨h5', .inr ⟨w.heap.size, cap, rest, rfl, by simpa using hc, hn0, ?_, by simpa using hr⟩⟩ (.inr ⟨rfl, (Mod.drew _ _).trans (Mod.alloc _ _ _)⟩)
    have := Blk.new w.drew (es ++ rest) T
    simpa using this
  · simp only [hsrc, appendRun]
    by_cases hc : css.length + 1 ≤ cap
    · rw [if_pos hc]
      simp only [Addr.add_mk, Nat.zero_add]
      refine ⟨stOk_many h4 (by simp only [List.length_append]; omega) hone, hK _ _ ⟨h5', .inr ⟨BA, cap, rest.drop 2, by simp, by simpa using hc, h3, ?_, by simp; omega⟩⟩ (.inl ⟨⟨rfl, by simpa [own] using Mod.put (by simp)⟩, BA, cap, rfl, hc⟩)⟩
      have hput := h4.put (o := css.length * 2) (vs := es) (by simp only [List.length_append]; omega)
      have : splice (css.flatten ++ rest) (css.length * 2) es = (css ++ [es]).flatten ++ rest.drop 2 := by
        rw [splice_end hfl, h5, flat_snoc, List.append_assoc]
      rwa [this] at hput
    · rw [if_neg hc]
      refine ⟨by omega, by omega, ?_⟩
      have hco : cellsAt w ⟨BA, 0, none⟩ 0 (css.length * 2) = some css.flatten := by
        have := h4.cells.take css.flatten.length
        rw [List.take_left] at this
        exact cellsAt_of' this hfl
      simp only [hco]
      intro T cap' rest' hc' hr'
      refine hK _ _ ⟨h5', .inr ⟨w.heap.size, cap', rest', by simp, by simpa using hc', hn0, ?_, by simpa using hr'⟩⟩ (.inr ⟨rfl, (Mod.drew _ _).trans (Mod.alloc _ _ _)⟩)
      have := Blk.new w.drew (css.flatten ++ (es ++ rest')) T
      simpa using this

/-- What the second loop of got keeps. -/
structure GU (w3 w : World) (Ob : Nat) (n : Int) (sv lv uv : Value) (null : Bool) (N : Nat) (us : List (Nat × List UInt8)) (ucs : List (List Value)) : Prop where
  ob : Blk w Ob [.int .i64 n, sv, .bool null, lv, uv]
  raw : LRaw2 w w3.heap.size uv ucs
  rep : RepU (fun b => b < N) w us ucs
  mod : Mod [Ob] w3 w
  lob : Ob < w3.heap.size
  nob : N ≤ Ob

theorem RepU.append {ok : Nat → Prop} {w : World} {l l' : List (Nat × List UInt8)} {css css' : List (List Value)} (h : RepU ok w l css) (h' : RepU ok w l' css') : RepU ok w (l ++ l') (css ++ css') := by
  induction h with
  | nil => exact h'
  | cons h1 _ ih => exact .cons h1 ih

theorem RepU.two {ok : Nat → Prop} {w : World} {l : List (Nat × List UInt8)} {css : List (List Value)} (h : RepU ok w l css) : ∀ c ∈ css, c.length = 2 := by
  induction h with
  | nil => simp
  | cons h1 _ ih =>
    intro c hc
    rcases List.mem_cons.1 hc with rfl | hc
    · rfl
    · exact ih c hc

theorem RepU.length {ok : Nat → Prop} {w : World} {l : List (Nat × List UInt8)} {css : List (List Value)} (h : RepU ok w l css) : l.length = css.length := by
  induction h with
  | nil => rfl
  | cons h1 _ ih => simp [ih]

theorem RepU.nth {ok : Nat → Prop} {w : World} {l : List (Nat × List UInt8)} {css : List (List Value)} (h : RepU ok w l css) {j : Nat} {t : Nat × List UInt8} (ht : l[j]? = some t) : ∃ v, css[j]? = some [.int .u32 t.1, v] ∧ SlC ok w v t.2.length (u8s t.2) := by
  induction h generalizing j with
  | nil => simp at ht
  | cons h1 _ ih =>
    cases j with
    | zero => simp only [List.getElem?_cons_zero, Option.some.injEq] at ht; subst ht; exact ⟨_, rfl, h1⟩
    | succ j => simp only [List.getElem?_cons_succ] at ht ⊢; exact ih ht

def uzero : List Value := [.int .u32 0, .slice none 0 0]

/-- The second loop of got. -/
theorem got_loop2 {N : Nat} {w w3 : World} {Pb b2 Ob : Nat} {n : Int} {sv lv uv0 : Value} {null : Bool} {u : List (Nat × List UInt8)} {uss : List (List Value)} {σ : Sl} {Q : Exit → Sl → World → Prop}
    (hw : Mod [] w w3 ∨ (Mod [Ob] w w3)) (hN : N ≤ w.heap.size) (hu : SlC (fun b => b < N) w uv0 u.length uss.flatten) (hr : RepU (fun b => b < N) w u uss) (hlen : u.length ≤ 2147483647)
    (hob : Blk w3 Ob [.int .i64 n, sv, .bool null, lv, .slice none 0 0]) (hoN : N ≤ Ob)
    (h1 : σ 1 = .pointer (some ⟨Pb, 0, none⟩)) (h2 : σ 2 = .pointer (some ⟨b2, 0, none⟩)) (h3 : σ 3 = .pointer (some ⟨Ob, 0, none⟩)) (hpb : w3.cell? ⟨Pb, 4, none⟩ = some uv0)
    (hQ : ∀ σ' w' uv ucs, σ' 2 = .pointer (some ⟨b2, 0, none⟩) → σ' 3 = .pointer (some ⟨Ob, 0, none⟩) → GU w3 w' Ob n sv lv uv null N u ucs → ucs.length = u.length → Q .normal σ' w') :
    wpC P (.seq (.blk [⟨some 30, .fad (.tmp 1) 4, none⟩, ⟨some 31, .ld (.tmp 30), none⟩, ⟨some 32, .len (.tmp 31), none⟩, ⟨some 33, .mv (.const (.int .i64 0)), none⟩])
      (.block 2 (.loop (.seq (.blk [⟨some 34, .bin .lss (.tmp 33) (.tmp 32), none⟩]) (.seq (.cond (.tmp 34) .skip (.exit 2))
        (.seq (.block 3 (.seq (.blk [⟨some 35, .iad (.tmp 31) (.tmp 33) 2, none⟩, ⟨some 36, .ldn (.tmp 35) 2, none⟩, ⟨some 7, .alloc uzero, none⟩, ⟨none, .st (.tmp 7) 2 (.tmp 36), none⟩])
            (.blk [⟨some 37, .fad (.tmp 3) 4, none⟩, ⟨some 38, .ld (.tmp 37), none⟩, ⟨some 39, .fad (.tmp 7) 0, none⟩, ⟨some 40, .ld (.tmp 39), none⟩, ⟨some 41, .fad (.tmp 7) 1, none⟩, ⟨some 42, .ld (.tmp 41), none⟩,
                ⟨some 43, .build uzero [(0, 1, .tmp 40), (1, 1, .tmp 42)], none⟩, ⟨some 44, .bslice 1 uzero [(0, 2, .tmp 43)], none⟩, ⟨some 45, .append (.tmp 38) (.tmp 44) 2 32, none⟩, ⟨some 46, .fad (.tmp 3) 4, none⟩, ⟨none, .st (.tmp 46) 1 (.tmp 45), none⟩])))
          (.blk [⟨some 47, .bin .add (.tmp 33) (.const (.int .i64 1)), none⟩, ⟨some 33, .mv (.tmp 47), none⟩])))))))
      Q σ w3 := by
  obtain ⟨lb, lc, elv⟩ := hu.shape
  have hol := hob.lt
  have hw' : Mod [Ob] w w3 := hw.elim (·.nil) id
  rw [wpC_seq, wpC_blk]
  refine wpR_step (v := .pointer (some ⟨Pb, 4, none⟩)) (by simp [RK.val?, h1, Addr.add_mk]) ?_
  refine wpR_step (v := uv0) (by simp [RK.val?, hpb]) ?_
  refine wpR_step (v := .int .i64 u.length) (by simp [RK.val?, elv]) ?_
  refine wpR_step (v := .int .i64 0) (by simp [RK.val?]) ?_
  simp only [wpR, thenC]
  rw [wpC_block, wpC_loop]
  refine ⟨fun σ1 w1 => ∃ j uv ucs, j ≤ u.length ∧ σ1 2 = .pointer (some ⟨b2, 0, none⟩) ∧ σ1 3 = .pointer (some ⟨Ob, 0, none⟩) ∧ σ1 31 = uv0 ∧ σ1 32 = .int .i64 u.length ∧ σ1 33 = .int .i64 j ∧
      GU w3 w1 Ob n sv lv uv null N (u.take j) ucs ∧ ucs.length = j,
    fun σ1 _ => u.length - (match σ1 33 with | .int _ j => j.toNat | _ => 0), ⟨0, .slice none 0 0, [], Nat.zero_le _, by simp [h2], by simp [h3], by simp, by simp, by simp, ⟨hob, ⟨by simp, .inl ⟨rfl, rfl⟩⟩, by simpa using .nil, Mod.refl _ _, hol, hoN⟩, rfl⟩, ?_⟩
  rintro σ1 w1 ⟨j, uv, ucs, hj, s2, s3, s31, s32, s33, hgs, htl⟩
  rw [wpC_seq, wpC_blk]
  refine wpR_step (v := .bool (decide ((j : Int) < u.length))) (by simp [RK.val?, s32, s33, intBin]) ?_
  simp only [wpR, thenC]
  rw [wpC_seq]
  by_cases hlt : j < u.length
  · rw [wpC_cond_t (by simp [hlt]), wpC_skip]
    simp only [thenC]
    rw [wpC_seq, wpC_block, wpC_seq, wpC_blk]
    obtain ⟨tj, htj⟩ : ∃ t, u[j]? = some t := ⟨u[j], List.getElem?_eq_getElem hlt⟩
    have hmw : Mod [Ob] w w1 := hw'.trans hgs.mod
    have hNob : ∀ b ∈ [Ob], ¬ b < N := fun b hb => by simp only [List.mem_singleton] at hb; have := hgs.nob; omega
    obtain ⟨vj, hcj, hrj⟩ := (hr.mod (ok' := fun b => b < N) hmw hNob fun _ _ h => h).nth htj
    obtain ⟨pa, pc, ep, -, hcells⟩ := (hu.mod (ok' := fun b => b < N) hmw hNob fun _ _ h => h).flat hr.length hr.two hcj
    obtain ⟨vb, vc, evj⟩ := hrj.shape
    refine wpR_step (v := .pointer (some (pa.add (j * 2)))) (by simp [RK.val?, s31, s33, ep, hlt]) ?_
    refine wpR_step (v := .agg [.int .u32 tj.1, vj].toArray) (by simp [RK.val?, hcells]) ?_
    refine wpR_run ?_
    intro Ty
    obtain ⟨q1, q2, q3⟩ := new_put w1 uzero [.int .u32 tj.1, vj] Ty rfl (by rw [evj]; simp [Value.oneCell'])
    refine wpR_run ?_
    have ec' : (Value.agg [.int .u32 tj.1, vj].toArray).cells.toList = [.int .u32 tj.1, vj] := rfl
    simp only [RK.run, ev, updo, upd]
    simp only [if_true, show (36 : Nat) ≠ 7 by decide, if_false, ec']
    refine ⟨rfl, q1, ?_⟩
    generalize hw4 : putCells (w1.alloc (.cells uzero.toArray Ty)) ⟨w1.heap.size, 0, none⟩ 0 [.int .u32 tj.1, vj] = w4 at q2 q3
    simp only [wpR, thenC]
    rw [wpC_blk]
    have hob4 := hgs.ob.mod q3 (by simp)
    have hraw4 : LRaw2 w4 w3.heap.size uv ucs := ⟨hgs.raw.two, hgs.raw.sl.imp id fun ⟨BA, cap, rest, g1, g2, g3, g4, g5⟩ => ⟨BA, cap, rest, g1, g2, g3, g4.mod q3 (by simp), g5⟩⟩
    have c0 := q2.cell 0
    have c1 := q2.cell 1
    refine wpR_step (v := .pointer (some ⟨Ob, 4, none⟩)) (by simp [RK.val?, s3, Addr.add_mk]) ?_
    refine wpR_step (v := uv) (by simp [RK.val?]; exact hob4.cell 4) ?_
    refine wpR_step (v := .pointer (some ⟨w1.heap.size, 0, none⟩)) (by simp [RK.val?, Addr.add_mk]) ?_
    refine wpR_step (v := .int .u32 tj.1) (by simp [RK.val?]; simpa using c0) ?_
    refine wpR_step (v := .pointer (some ⟨w1.heap.size, 1, none⟩)) (by simp [RK.val?, Addr.add_mk]) ?_
    refine wpR_step (v := vj) (by simp [RK.val?]; simpa using c1) ?_
    refine wpR_step (v := .agg [.int .u32 tj.1, vj].toArray) (by simp [RK.val?, uzero, fillL, splice, Value.cells, evj]) ?_
    refine wpR_run ?_
    have hf : fillL (zrep 1 uzero) [(0, 2, Value.agg [.int .u32 tj.1, vj].toArray)] = some [.int .u32 tj.1, vj] := by
      simp [zrep, uzero, fillL, splice, Value.cells]
    simp only [RK.run, List.map_cons, List.map_nil, ev, updo, upd, if_true, hf]
    intro T5
    have hm5 : Mod [] w4 (w4.alloc (.cells [.int .u32 tj.1, vj].toArray T5)) := Mod.alloc _ _ _
    have hb5 : Blk (w4.alloc (.cells [.int .u32 tj.1, vj].toArray T5)) w4.heap.size [.int .u32 tj.1, vj] := Blk.new _ _ _
    generalize w4.alloc (.cells [.int .u32 tj.1, vj].toArray T5) = w5 at hm5 hb5
    have hob5 := hob4.mod hm5 (by simp)
    have hraw5 : LRaw2 w5 w3.heap.size uv ucs := ⟨hraw4.two, hraw4.sl.imp id fun ⟨BA, cap, rest, g1, g2, g3, g4, g5⟩ => ⟨BA, cap, rest, g1, g2, g3, g4.mod hm5 (by simp), g5⟩⟩
    have hm15 : Mod [] w1 w5 := q3.trans hm5
    have hm35 : Mod [Ob] w3 w5 := hgs.mod.trans hm15.nil
    refine wpR_run ?_
    refine append_two (lv := uv) (n0 := w3.heap.size) (by simp) hraw5 hm35.size (by simp) hb5 rfl (by rw [evj]; simp [Value.oneCell']) (by omega) fun uv' w6 hraw6 hown => ?_
    have hlob := hgs.lob
    have hge : ∀ b, own uv = some b → w3.heap.size ≤ b := fun b hb => by
      rcases hraw5.sl with ⟨e, -⟩ | ⟨BA, cap, rest, e, g2, g3, -⟩
      · rw [e] at hb; simp [own] at hb
      · rw [e] at hb; simp only [own, Option.some.injEq] at hb; omega
    have hnN : N ≤ w3.heap.size := by have := hgs.nob; omega
    have key : Blk w6 Ob [.int .i64 n, sv, .bool null, lv, uv] ∧ Mod [Ob] w3 w6 ∧ RepU (fun b => b < N) w6 (u.take j ++ [tj]) (ucs ++ [[.int .u32 tj.1, vj]]) := by
      have hS : ∀ b ∈ (own uv).toList, own uv = some b := fun b hb => by simpa using hb
      have hrep5 : RepU (fun b => b < N) w5 (u.take j ++ [tj]) (ucs ++ [[.int .u32 tj.1, vj]]) := (hgs.rep.mod hm15 (by simp) fun _ _ h => h).append (.cons (hrj.mod hm15 (by simp) fun _ _ h => h) .nil)
      rcases hown with ⟨⟨ho, hm⟩, -⟩ | ⟨ho, hm⟩
      · refine ⟨hob5.mod hm (fun hc => by have := hge _ (hS _ hc); omega), ?_, hrep5.mod hm (fun b hb hc => by have := hge _ (hS _ hb); omega) fun _ _ h => h⟩
        refine ⟨hm.os.trans hm35.os, hm.tape.trans hm35.tape, hm.output.trans hm35.output, Nat.le_trans hm35.size hm.size, fun k hk hn => ?_⟩
        rw [hm.block k (Nat.lt_of_lt_of_le hk hm35.size) (fun hc => by have := hge _ (hS _ hc); omega)]
        exact hm35.block k hk hn
      · exact ⟨hob5.mod hm (by simp), hm35.trans hm.nil, hrep5.mod hm (by simp) fun _ _ h => h⟩
    obtain ⟨k1, k2, k3⟩ := key
    have o1 : uv'.cells = #[uv'] ∧ uv'.oneCell' = true := by
      rcases hraw6.sl with ⟨e, -⟩ | ⟨BA, cap, rest, e, -⟩ <;> subst e <;> exact ⟨rfl, rfl⟩
    have hput : Mod [Ob] w6 (putCells w6 ⟨Ob, 4, none⟩ 0 [uv']) := Mod.put (by simp)
    have hp := k1.put (o := 4) (vs := [uv']) (by simp)
    have e1 : splice [Value.int .i64 n, sv, .bool null, lv, uv] 4 [uv'] = [.int .i64 n, sv, .bool null, lv, uv'] := by simp [splice]
    rw [e1] at hp
    refine wpR_step (v := .pointer (some ⟨Ob, 4, none⟩)) (by simp [RK.val?, s3, Addr.add_mk]) ?_
    refine wpR_run ?_
    simp only [RK.run, ev, updo, upd, if_true, show (45 : Nat) ≠ 46 by decide, if_false, o1.1]
    refine ⟨rfl, stOk_one k1 (by simp) o1.2, ?_⟩
    have hge' : ∀ b, own uv' = some b → w3.heap.size ≤ b := fun b hb => by
      rcases hraw6.sl with ⟨e, -⟩ | ⟨BA, cap, rest, e, g2, g3, -⟩
      · rw [e] at hb; simp [own] at hb
      · rw [e] at hb; simp only [own, Option.some.injEq] at hb; omega
    simp only [wpR, inBlockC, thenC]
    have hw : IntKind.i64.wrap ((j : Int) + 1) = ((j + 1 : Nat) : Int) := by
      simp only [IntKind.wrap, IntKind.bits, IntKind.signed]; simp; omega
    rw [wpC_blk]
    refine wpR_step (v := .int .i64 ((j + 1 : Nat) : Int)) (by simp [RK.val?, intBin, s33, hw]) ?_
    refine wpR_step (v := .int .i64 ((j + 1 : Nat) : Int)) (by simp [RK.val?]) ?_
    simp only [wpR, thenC]
    refine ⟨⟨j + 1, uv', ucs ++ [[.int .u32 tj.1, vj]], hlt, by simp [s2], by simp [s3], by simp [s31], by simp [s32], by simp, ?_, by simp [htl]⟩, ?_⟩
    · rw [List.take_add_one, htj]
      refine ⟨by simpa using hp, ⟨hraw6.two, hraw6.sl.imp id fun ⟨BA, cap, rest, g1, g2, g3, g4, g5⟩ => ⟨BA, cap, rest, g1, g2, g3, by simpa using g4.mod hput (by have := hge' BA (by rw [g1]; rfl); simp; omega), g5⟩⟩, ?_, by simpa using k2.trans hput, hlob, hgs.nob⟩
      exact k3.mod hput (fun b hb hc => by simp only [List.mem_singleton] at hb; have := hgs.nob; omega) fun _ _ h => h
    · simp [s33]; show u.length - (j + 1) < u.length - j; omega
  · rw [wpC_cond_f (by simp; omega)]
    have hje : j = u.length := by omega
    subst hje
    rw [List.take_length] at hgs
    simp only [wpC, inBlockC, thenC, if_true]
    exact hQ _ w1 uv ucs (by simp [s2]) (by simp [s3]) hgs htl

end
end Go.Msk
