/- The walks of the reference's reader of AMQP: codes, constructors, numbers. No condition. -/
import Derived.Test.YtckjclkpgdhcoaaDoorTake
import Derived.Test.YtckjclkpgdhcoaaDoorCodec
namespace Go.Proofs.YtckjclkpgdhcoaaDoor
set_option linter.unusedVariables false
set_option linter.unusedSimpArgs false
open Go.RowKit

def codesL : List (Int × Value) := [(64, .agg #[.int .i64 0, .int .i64 0]), (65, .agg #[.int .i64 1, .int .i64 0]), (66, .agg #[.int .i64 1, .int .i64 0]), (67, .agg #[.int .i64 4, .int .i64 0]), (68, .agg #[.int .i64 5, .int .i64 0]), (69, .agg #[.int .i64 21, .int .i64 0]), (80, .agg #[.int .i64 2, .int .i64 1]), (81, .agg #[.int .i64 6, .int .i64 1]), (82, .agg #[.int .i64 4, .int .i64 1]), (83, .agg #[.int .i64 5, .int .i64 1]), (84, .agg #[.int .i64 8, .int .i64 1]), (85, .agg #[.int .i64 9, .int .i64 1]), (86, .agg #[.int .i64 1, .int .i64 1]), (96, .agg #[.int .i64 3, .int .i64 2]), (97, .agg #[.int .i64 7, .int .i64 2]), (112, .agg #[.int .i64 4, .int .i64 4]), (113, .agg #[.int .i64 8, .int .i64 4]), (114, .agg #[.int .i64 10, .int .i64 4]), (115, .agg #[.int .i64 15, .int .i64 4]), (116, .agg #[.int .i64 12, .int .i64 4]), (128, .agg #[.int .i64 5, .int .i64 8]), (129, .agg #[.int .i64 9, .int .i64 8]), (130, .agg #[.int .i64 11, .int .i64 8]), (131, .agg #[.int .i64 16, .int .i64 8]), (132, .agg #[.int .i64 13, .int .i64 8]), (148, .agg #[.int .i64 14, .int .i64 16]), (152, .agg #[.int .i64 17, .int .i64 16]), (160, .agg #[.int .i64 18, .int .i64 1]), (176, .agg #[.int .i64 18, .int .i64 4]), (161, .agg #[.int .i64 19, .int .i64 1]), (177, .agg #[.int .i64 19, .int .i64 4]), (163, .agg #[.int .i64 20, .int .i64 1]), (179, .agg #[.int .i64 20, .int .i64 4]), (192, .agg #[.int .i64 21, .int .i64 1]), (208, .agg #[.int .i64 21, .int .i64 4]), (193, .agg #[.int .i64 22, .int .i64 1]), (209, .agg #[.int .i64 22, .int .i64 4]), (224, .agg #[.int .i64 23, .int .i64 1]), (240, .agg #[.int .i64 23, .int .i64 4])]

theorem zero_pair (w : World) : (zeroValue 99).run Tryd.prog w = .ok (.agg #[.int .i64 0, .int .i64 0]) w := by kernel_rfl
set_option maxRecDepth 100000 in
set_option maxHeartbeats 4000000 in
theorem kindOf_any (b k s : Int) (is : Bool) (w : World) (h : (look codesL b).getD (.agg #[.int .i64 0, .int .i64 0]) = .agg #[.int .i64 k, .int .i64 s]) (h2 : (look codesL b).isSome = is) :
    Calls Tryd.prog 45 #[.int .i64 b] w fun e w' => e = .returned (.tuple #[.int .i64 k, .int .i64 s, .bool is]) ∧ Ch No w w' := by
  have H := hid h
  have H2 := hid h2
  clear h h2
  go_enter Tryd.func45, Tryd.ntmps45
  go_wp2_with (first | (refine upon_makeMap 100 .i64 _ ?_; intro wm m hm HM HC) | (refine upon_insert 100 3 99 .i64 Tryd.underlying100 Tryd.underlying3 _ _ _ _ _ HM (by simp [look]) HC hm ?_; clear HM HC; intro wm HM HC) | ((with_reducible refine gate (.lookup 100 _ _ true) rfl ?_); refine wp_look_ok rfl 100 3 99 _ _ rfl .i64 Tryd.underlying100 Tryd.underlying3 (.agg #[.int .i64 0, .int .i64 0]) zero_pair _ _ _ rfl rfl HM (.agg #[.int .i64 k, .int .i64 s]) is H.out H2.out ?_; clear HM hm))

  go_region
  all_goals
    go_wp2
    go_ret3
    exact ⟨rfl, by repeat (first | exact HC | apply Ch.drew | apply Ch.drewN | apply Ch.alloc)⟩
theorem kindOf_64 (w : World) : Calls Tryd.prog 45 #[.int .i64 64] w fun e w' => e = .returned (.tuple #[.int .i64 0, .int .i64 0, .bool true]) ∧ Ch No w w' := kindOf_any _ _ _ _ w (by simp [look, codesL]) (by simp [look, codesL])
theorem kindOf_65 (w : World) : Calls Tryd.prog 45 #[.int .i64 65] w fun e w' => e = .returned (.tuple #[.int .i64 1, .int .i64 0, .bool true]) ∧ Ch No w w' := kindOf_any _ _ _ _ w (by simp [look, codesL]) (by simp [look, codesL])
theorem kindOf_66 (w : World) : Calls Tryd.prog 45 #[.int .i64 66] w fun e w' => e = .returned (.tuple #[.int .i64 1, .int .i64 0, .bool true]) ∧ Ch No w w' := kindOf_any _ _ _ _ w (by simp [look, codesL]) (by simp [look, codesL])
theorem kindOf_67 (w : World) : Calls Tryd.prog 45 #[.int .i64 67] w fun e w' => e = .returned (.tuple #[.int .i64 4, .int .i64 0, .bool true]) ∧ Ch No w w' := kindOf_any _ _ _ _ w (by simp [look, codesL]) (by simp [look, codesL])
theorem kindOf_68 (w : World) : Calls Tryd.prog 45 #[.int .i64 68] w fun e w' => e = .returned (.tuple #[.int .i64 5, .int .i64 0, .bool true]) ∧ Ch No w w' := kindOf_any _ _ _ _ w (by simp [look, codesL]) (by simp [look, codesL])
theorem kindOf_69 (w : World) : Calls Tryd.prog 45 #[.int .i64 69] w fun e w' => e = .returned (.tuple #[.int .i64 21, .int .i64 0, .bool true]) ∧ Ch No w w' := kindOf_any _ _ _ _ w (by simp [look, codesL]) (by simp [look, codesL])
theorem kindOf_80 (w : World) : Calls Tryd.prog 45 #[.int .i64 80] w fun e w' => e = .returned (.tuple #[.int .i64 2, .int .i64 1, .bool true]) ∧ Ch No w w' := kindOf_any _ _ _ _ w (by simp [look, codesL]) (by simp [look, codesL])
theorem kindOf_81 (w : World) : Calls Tryd.prog 45 #[.int .i64 81] w fun e w' => e = .returned (.tuple #[.int .i64 6, .int .i64 1, .bool true]) ∧ Ch No w w' := kindOf_any _ _ _ _ w (by simp [look, codesL]) (by simp [look, codesL])
theorem kindOf_82 (w : World) : Calls Tryd.prog 45 #[.int .i64 82] w fun e w' => e = .returned (.tuple #[.int .i64 4, .int .i64 1, .bool true]) ∧ Ch No w w' := kindOf_any _ _ _ _ w (by simp [look, codesL]) (by simp [look, codesL])
theorem kindOf_83 (w : World) : Calls Tryd.prog 45 #[.int .i64 83] w fun e w' => e = .returned (.tuple #[.int .i64 5, .int .i64 1, .bool true]) ∧ Ch No w w' := kindOf_any _ _ _ _ w (by simp [look, codesL]) (by simp [look, codesL])
theorem kindOf_84 (w : World) : Calls Tryd.prog 45 #[.int .i64 84] w fun e w' => e = .returned (.tuple #[.int .i64 8, .int .i64 1, .bool true]) ∧ Ch No w w' := kindOf_any _ _ _ _ w (by simp [look, codesL]) (by simp [look, codesL])
theorem kindOf_85 (w : World) : Calls Tryd.prog 45 #[.int .i64 85] w fun e w' => e = .returned (.tuple #[.int .i64 9, .int .i64 1, .bool true]) ∧ Ch No w w' := kindOf_any _ _ _ _ w (by simp [look, codesL]) (by simp [look, codesL])
theorem kindOf_86 (w : World) : Calls Tryd.prog 45 #[.int .i64 86] w fun e w' => e = .returned (.tuple #[.int .i64 1, .int .i64 1, .bool true]) ∧ Ch No w w' := kindOf_any _ _ _ _ w (by simp [look, codesL]) (by simp [look, codesL])
theorem kindOf_96 (w : World) : Calls Tryd.prog 45 #[.int .i64 96] w fun e w' => e = .returned (.tuple #[.int .i64 3, .int .i64 2, .bool true]) ∧ Ch No w w' := kindOf_any _ _ _ _ w (by simp [look, codesL]) (by simp [look, codesL])
theorem kindOf_97 (w : World) : Calls Tryd.prog 45 #[.int .i64 97] w fun e w' => e = .returned (.tuple #[.int .i64 7, .int .i64 2, .bool true]) ∧ Ch No w w' := kindOf_any _ _ _ _ w (by simp [look, codesL]) (by simp [look, codesL])
theorem kindOf_112 (w : World) : Calls Tryd.prog 45 #[.int .i64 112] w fun e w' => e = .returned (.tuple #[.int .i64 4, .int .i64 4, .bool true]) ∧ Ch No w w' := kindOf_any _ _ _ _ w (by simp [look, codesL]) (by simp [look, codesL])
theorem kindOf_113 (w : World) : Calls Tryd.prog 45 #[.int .i64 113] w fun e w' => e = .returned (.tuple #[.int .i64 8, .int .i64 4, .bool true]) ∧ Ch No w w' := kindOf_any _ _ _ _ w (by simp [look, codesL]) (by simp [look, codesL])
theorem kindOf_114 (w : World) : Calls Tryd.prog 45 #[.int .i64 114] w fun e w' => e = .returned (.tuple #[.int .i64 10, .int .i64 4, .bool true]) ∧ Ch No w w' := kindOf_any _ _ _ _ w (by simp [look, codesL]) (by simp [look, codesL])
theorem kindOf_115 (w : World) : Calls Tryd.prog 45 #[.int .i64 115] w fun e w' => e = .returned (.tuple #[.int .i64 15, .int .i64 4, .bool true]) ∧ Ch No w w' := kindOf_any _ _ _ _ w (by simp [look, codesL]) (by simp [look, codesL])
theorem kindOf_116 (w : World) : Calls Tryd.prog 45 #[.int .i64 116] w fun e w' => e = .returned (.tuple #[.int .i64 12, .int .i64 4, .bool true]) ∧ Ch No w w' := kindOf_any _ _ _ _ w (by simp [look, codesL]) (by simp [look, codesL])
theorem kindOf_128 (w : World) : Calls Tryd.prog 45 #[.int .i64 128] w fun e w' => e = .returned (.tuple #[.int .i64 5, .int .i64 8, .bool true]) ∧ Ch No w w' := kindOf_any _ _ _ _ w (by simp [look, codesL]) (by simp [look, codesL])
theorem kindOf_129 (w : World) : Calls Tryd.prog 45 #[.int .i64 129] w fun e w' => e = .returned (.tuple #[.int .i64 9, .int .i64 8, .bool true]) ∧ Ch No w w' := kindOf_any _ _ _ _ w (by simp [look, codesL]) (by simp [look, codesL])
theorem kindOf_130 (w : World) : Calls Tryd.prog 45 #[.int .i64 130] w fun e w' => e = .returned (.tuple #[.int .i64 11, .int .i64 8, .bool true]) ∧ Ch No w w' := kindOf_any _ _ _ _ w (by simp [look, codesL]) (by simp [look, codesL])
theorem kindOf_131 (w : World) : Calls Tryd.prog 45 #[.int .i64 131] w fun e w' => e = .returned (.tuple #[.int .i64 16, .int .i64 8, .bool true]) ∧ Ch No w w' := kindOf_any _ _ _ _ w (by simp [look, codesL]) (by simp [look, codesL])
theorem kindOf_132 (w : World) : Calls Tryd.prog 45 #[.int .i64 132] w fun e w' => e = .returned (.tuple #[.int .i64 13, .int .i64 8, .bool true]) ∧ Ch No w w' := kindOf_any _ _ _ _ w (by simp [look, codesL]) (by simp [look, codesL])
theorem kindOf_148 (w : World) : Calls Tryd.prog 45 #[.int .i64 148] w fun e w' => e = .returned (.tuple #[.int .i64 14, .int .i64 16, .bool true]) ∧ Ch No w w' := kindOf_any _ _ _ _ w (by simp [look, codesL]) (by simp [look, codesL])
theorem kindOf_152 (w : World) : Calls Tryd.prog 45 #[.int .i64 152] w fun e w' => e = .returned (.tuple #[.int .i64 17, .int .i64 16, .bool true]) ∧ Ch No w w' := kindOf_any _ _ _ _ w (by simp [look, codesL]) (by simp [look, codesL])
theorem kindOf_160 (w : World) : Calls Tryd.prog 45 #[.int .i64 160] w fun e w' => e = .returned (.tuple #[.int .i64 18, .int .i64 1, .bool true]) ∧ Ch No w w' := kindOf_any _ _ _ _ w (by simp [look, codesL]) (by simp [look, codesL])
theorem kindOf_176 (w : World) : Calls Tryd.prog 45 #[.int .i64 176] w fun e w' => e = .returned (.tuple #[.int .i64 18, .int .i64 4, .bool true]) ∧ Ch No w w' := kindOf_any _ _ _ _ w (by simp [look, codesL]) (by simp [look, codesL])
theorem kindOf_161 (w : World) : Calls Tryd.prog 45 #[.int .i64 161] w fun e w' => e = .returned (.tuple #[.int .i64 19, .int .i64 1, .bool true]) ∧ Ch No w w' := kindOf_any _ _ _ _ w (by simp [look, codesL]) (by simp [look, codesL])
theorem kindOf_177 (w : World) : Calls Tryd.prog 45 #[.int .i64 177] w fun e w' => e = .returned (.tuple #[.int .i64 19, .int .i64 4, .bool true]) ∧ Ch No w w' := kindOf_any _ _ _ _ w (by simp [look, codesL]) (by simp [look, codesL])
theorem kindOf_163 (w : World) : Calls Tryd.prog 45 #[.int .i64 163] w fun e w' => e = .returned (.tuple #[.int .i64 20, .int .i64 1, .bool true]) ∧ Ch No w w' := kindOf_any _ _ _ _ w (by simp [look, codesL]) (by simp [look, codesL])
theorem kindOf_179 (w : World) : Calls Tryd.prog 45 #[.int .i64 179] w fun e w' => e = .returned (.tuple #[.int .i64 20, .int .i64 4, .bool true]) ∧ Ch No w w' := kindOf_any _ _ _ _ w (by simp [look, codesL]) (by simp [look, codesL])
theorem kindOf_192 (w : World) : Calls Tryd.prog 45 #[.int .i64 192] w fun e w' => e = .returned (.tuple #[.int .i64 21, .int .i64 1, .bool true]) ∧ Ch No w w' := kindOf_any _ _ _ _ w (by simp [look, codesL]) (by simp [look, codesL])
theorem kindOf_208 (w : World) : Calls Tryd.prog 45 #[.int .i64 208] w fun e w' => e = .returned (.tuple #[.int .i64 21, .int .i64 4, .bool true]) ∧ Ch No w w' := kindOf_any _ _ _ _ w (by simp [look, codesL]) (by simp [look, codesL])
theorem kindOf_193 (w : World) : Calls Tryd.prog 45 #[.int .i64 193] w fun e w' => e = .returned (.tuple #[.int .i64 22, .int .i64 1, .bool true]) ∧ Ch No w w' := kindOf_any _ _ _ _ w (by simp [look, codesL]) (by simp [look, codesL])
theorem kindOf_209 (w : World) : Calls Tryd.prog 45 #[.int .i64 209] w fun e w' => e = .returned (.tuple #[.int .i64 22, .int .i64 4, .bool true]) ∧ Ch No w w' := kindOf_any _ _ _ _ w (by simp [look, codesL]) (by simp [look, codesL])
theorem kindOf_224 (w : World) : Calls Tryd.prog 45 #[.int .i64 224] w fun e w' => e = .returned (.tuple #[.int .i64 23, .int .i64 1, .bool true]) ∧ Ch No w w' := kindOf_any _ _ _ _ w (by simp [look, codesL]) (by simp [look, codesL])
theorem kindOf_240 (w : World) : Calls Tryd.prog 45 #[.int .i64 240] w fun e w' => e = .returned (.tuple #[.int .i64 23, .int .i64 4, .bool true]) ∧ Ch No w w' := kindOf_any _ _ _ _ w (by simp [look, codesL]) (by simp [look, codesL])

end Go.Proofs.YtckjclkpgdhcoaaDoor
