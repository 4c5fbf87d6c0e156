/- The conditions of functions of the program, written by a program of ours and held by the kernel; contracts of those that have no loop. -/
import Derived.Test.YtnlekdpnjphmfaaProg
import Derived.Test.YtnlekdpnjphmfaaVcb
namespace Go.Proofs.Ytnlekdpnjphmfaa
open Vc
set_option linter.unusedVariables false
theorem t_wlvlaw13_SetsFault (a1 : Option Addr) (n2 : Nat) (c3 : Nat) (i4 : Int) (v : World) (R : Value → World → Prop) : vcFn E [(9, ⟨[(8, Kd.slice)], [], [36, 37, 38, 39, 40, 41, 42, 43, 44, 45, 46, 47], [6]⟩)] Try.f7 [(.slice a1 n2 c3), (.int .i64 i4)] v R =
  (CallsV Try.prog 20 #[] v fun r v1 => ∃ (b5 : Bool), r = (.bool b5) ∧
  (bcase (!b5)
    (R (.bool false) v1)
    (bcase (((decide ((n2 : Int) > 300)) || (decide (i4 < 0))) || (decide (i4 > (n2 : Int))))
      (CallsV Try.prog 20 #[] v1 fun r v2 => ∃ (b6 : Bool), r = (.bool b6) ∧
        (R (.bool b6) v2))
      (CallsV Try.prog 23 #[] v1 fun r v3 => ∃ (i7 : Int) (i8 : Int) (i9 : Int) (i10 : Int) (i11 : Int) (i12 : Int), r = (.agg #[(.int .i64 i7), (.int .i64 i8), (.int .i64 i9), (.int .i64 i10), (.int .i64 i11), (.int .i64 i12)]) ∧
        (CallsV Try.prog 21 #[(.agg #[(.int .i64 i7), (.int .i64 i8), (.int .i64 i9), (.int .i64 i10), (.int .i64 i11), (.int .i64 i12)]), (.slice a1 n2 c3)] v3 fun r v4 => ∃ (i13 : Int) (i14 : Int) (i15 : Int) (i16 : Int) (i17 : Int) (i18 : Int) (b19 : Bool) (b20 : Bool) (i21 : Int), r = (.tuple #[(.agg #[(.int .i64 i13), (.int .i64 i14), (.int .i64 i15), (.int .i64 i16), (.int .i64 i17), (.int .i64 i18)]), (.agg #[(.bool b19), (.bool b20), (.int .i64 i21)])]) ∧
          (∃ (Join22 : Option Addr → Nat → Nat → World → Prop), ((0 ≤ (0 : Int) ∧ (0 : Int) ≤ i4 ∧ i4 ≤ (c3 : Int)) ∧ 
              ((0 ≤ i4 ∧ i4 ≤ (n2 : Int) ∧ (n2 : Int) ≤ (c3 : Int)) ∧ 
                (∀ v6, Pad (hv (hv (hv v4))) v6 →
                  (
                    (Runs Try.prog (do pure (Next.value (← Instr.buildSlice 33 0 #[]))) v6 fun r v7 => ∃ (a23 : Option Addr) (n24 : Nat) (c25 : Nat), r = .value (.slice a23 n24 c25) ∧
                      (
                        (Runs Try.prog (builtin .append #[33, 33] 33 #[false, false] #[(.slice a23 n24 c25), (.slice (if c3 = ((0 : Int)).toNat then a1 else a1.map (·.add (((0 : Int)).toNat * 2))) ((i4).toNat - ((0 : Int)).toNat) (c3 - ((0 : Int)).toNat))]) v7 fun r v8 => ∃ (a26 : Option Addr) (n27 : Nat) (c28 : Nat), r = .value (.slice a26 n27 c28) ∧
                          (Runs Try.prog (do pure (Next.value (← Instr.buildSlice 33 1 #[(0, (.agg #[(.int .i64 2), (.int .i64 7)]))]))) v8 fun r v9 => ∃ (a29 : Option Addr) (n30 : Nat) (c31 : Nat), r = .value (.slice a29 n30 c31) ∧
                            (Runs Try.prog (builtin .append #[33, 33] 33 #[false, false] #[(.slice a26 n27 c28), (.slice a29 n30 c31)]) v9 fun r v10 => ∃ (a32 : Option Addr) (n33 : Nat) (c34 : Nat), r = .value (.slice a32 n33 c34) ∧
                              (Runs Try.prog (builtin .append #[33, 33] 33 #[false, false] #[(.slice a32 n33 c34), (.slice (if c3 = (i4).toNat then a1 else a1.map (·.add ((i4).toNat * 2))) (((n2 : Int)).toNat - (i4).toNat) (c3 - (i4).toNat))]) v10 fun r v11 => ∃ (a35 : Option Addr) (n36 : Nat) (c37 : Nat), r = .value (.slice a35 n36 c37) ∧
                                (((some [(.bool b19), (.bool b20), (.int .i64 i21)] : Option (List Value)) = some [(.bool b19), (.bool b20), (.int .i64 i21)]) ∧ (Join22 a35 n36 c37 v11)))))) ∧ 
                        (
                          (Runs Try.prog (builtin .append #[33, 33] 33 #[false, false] #[(.slice a23 n24 c25), (.slice (if c3 = ((0 : Int)).toNat then a1 else a1.map (·.add (((0 : Int)).toNat * 2))) ((i4).toNat - ((0 : Int)).toNat) (c3 - ((0 : Int)).toNat))]) v7 fun r v12 => ∃ (a38 : Option Addr) (n39 : Nat) (c40 : Nat), r = .value (.slice a38 n39 c40) ∧
                            (Runs Try.prog (do pure (Next.value (← Instr.buildSlice 33 1 #[(0, (.agg #[(.int .i64 2), (.int .i64 7)]))]))) v12 fun r v13 => ∃ (a41 : Option Addr) (n42 : Nat) (c43 : Nat), r = .value (.slice a41 n42 c43) ∧
                              (Runs Try.prog (builtin .append #[33, 33] 33 #[false, false] #[(.slice a38 n39 c40), (.slice a41 n42 c43)]) v13 fun r v14 => ∃ (a44 : Option Addr) (n45 : Nat) (c46 : Nat), r = .value (.slice a44 n45 c46) ∧
                                (Runs Try.prog (builtin .append #[33, 33] 33 #[false, false] #[(.slice a44 n45 c46), (.slice (if c3 = (i4).toNat then a1 else a1.map (·.add ((i4).toNat * 2))) (((n2 : Int)).toNat - (i4).toNat) (c3 - (i4).toNat))]) v14 fun r v15 => ∃ (a47 : Option Addr) (n48 : Nat) (c49 : Nat), r = .value (.slice a47 n48 c49) ∧
                                  (((some [(.bool b19), (.bool b20), (.int .i64 i21)] : Option (List Value)) = some [(.bool b19), (.bool b20), (.int .i64 i21)]) ∧ (Join22 a47 n48 c49 v15)))))) ∧ 
                          (Runs Try.prog (do pure (Next.value (← Instr.buildSlice 33 1 #[(0, (.agg #[(.int .i64 2), (.int .i64 7)]))]))) v7 fun r v16 => ∃ (a50 : Option Addr) (n51 : Nat) (c52 : Nat), r = .value (.slice a50 n51 c52) ∧
                            (Runs Try.prog (builtin .append #[33, 33] 33 #[false, false] #[(.slice a23 n24 c25), (.slice (if c3 = ((0 : Int)).toNat then a1 else a1.map (·.add (((0 : Int)).toNat * 2))) ((i4).toNat - ((0 : Int)).toNat) (c3 - ((0 : Int)).toNat))]) v16 fun r v17 => ∃ (a53 : Option Addr) (n54 : Nat) (c55 : Nat), r = .value (.slice a53 n54 c55) ∧
                              (Runs Try.prog (builtin .append #[33, 33] 33 #[false, false] #[(.slice a53 n54 c55), (.slice a50 n51 c52)]) v17 fun r v18 => ∃ (a56 : Option Addr) (n57 : Nat) (c58 : Nat), r = .value (.slice a56 n57 c58) ∧
                                (Runs Try.prog (builtin .append #[33, 33] 33 #[false, false] #[(.slice a56 n57 c58), (.slice (if c3 = (i4).toNat then a1 else a1.map (·.add ((i4).toNat * 2))) (((n2 : Int)).toNat - (i4).toNat) (c3 - (i4).toNat))]) v18 fun r v19 => ∃ (a59 : Option Addr) (n60 : Nat) (c61 : Nat), r = .value (.slice a59 n60 c61) ∧
                                  (((some [(.bool b19), (.bool b20), (.int .i64 i21)] : Option (List Value)) = some [(.bool b19), (.bool b20), (.int .i64 i21)]) ∧ (Join22 a59 n60 c61 v19))))))))) ∧ 
                    (
                      (Runs Try.prog (do pure (Next.value (← Instr.buildSlice 33 0 #[]))) v6 fun r v20 => ∃ (a62 : Option Addr) (n63 : Nat) (c64 : Nat), r = .value (.slice a62 n63 c64) ∧
                        (
                          (Runs Try.prog (builtin .append #[33, 33] 33 #[false, false] #[(.slice a62 n63 c64), (.slice (if c3 = ((0 : Int)).toNat then a1 else a1.map (·.add (((0 : Int)).toNat * 2))) ((i4).toNat - ((0 : Int)).toNat) (c3 - ((0 : Int)).toNat))]) v20 fun r v21 => ∃ (a65 : Option Addr) (n66 : Nat) (c67 : Nat), r = .value (.slice a65 n66 c67) ∧
                            (Runs Try.prog (do pure (Next.value (← Instr.buildSlice 33 1 #[(0, (.agg #[(.int .i64 2), (.int .i64 7)]))]))) v21 fun r v22 => ∃ (a68 : Option Addr) (n69 : Nat) (c70 : Nat), r = .value (.slice a68 n69 c70) ∧
                              (Runs Try.prog (builtin .append #[33, 33] 33 #[false, false] #[(.slice a65 n66 c67), (.slice a68 n69 c70)]) v22 fun r v23 => ∃ (a71 : Option Addr) (n72 : Nat) (c73 : Nat), r = .value (.slice a71 n72 c73) ∧
                                (Runs Try.prog (builtin .append #[33, 33] 33 #[false, false] #[(.slice a71 n72 c73), (.slice (if c3 = (i4).toNat then a1 else a1.map (·.add ((i4).toNat * 2))) (((n2 : Int)).toNat - (i4).toNat) (c3 - (i4).toNat))]) v23 fun r v24 => ∃ (a74 : Option Addr) (n75 : Nat) (c76 : Nat), r = .value (.slice a74 n75 c76) ∧
                                  (((some [(.bool b19), (.bool b20), (.int .i64 i21)] : Option (List Value)) = some [(.bool b19), (.bool b20), (.int .i64 i21)]) ∧ (Join22 a74 n75 c76 v24)))))) ∧ 
                          (Runs Try.prog (do pure (Next.value (← Instr.buildSlice 33 1 #[(0, (.agg #[(.int .i64 2), (.int .i64 7)]))]))) v20 fun r v25 => ∃ (a77 : Option Addr) (n78 : Nat) (c79 : Nat), r = .value (.slice a77 n78 c79) ∧
                            (Runs Try.prog (builtin .append #[33, 33] 33 #[false, false] #[(.slice a62 n63 c64), (.slice (if c3 = ((0 : Int)).toNat then a1 else a1.map (·.add (((0 : Int)).toNat * 2))) ((i4).toNat - ((0 : Int)).toNat) (c3 - ((0 : Int)).toNat))]) v25 fun r v26 => ∃ (a80 : Option Addr) (n81 : Nat) (c82 : Nat), r = .value (.slice a80 n81 c82) ∧
                              (Runs Try.prog (builtin .append #[33, 33] 33 #[false, false] #[(.slice a80 n81 c82), (.slice a77 n78 c79)]) v26 fun r v27 => ∃ (a83 : Option Addr) (n84 : Nat) (c85 : Nat), r = .value (.slice a83 n84 c85) ∧
                                (Runs Try.prog (builtin .append #[33, 33] 33 #[false, false] #[(.slice a83 n84 c85), (.slice (if c3 = (i4).toNat then a1 else a1.map (·.add ((i4).toNat * 2))) (((n2 : Int)).toNat - (i4).toNat) (c3 - (i4).toNat))]) v27 fun r v28 => ∃ (a86 : Option Addr) (n87 : Nat) (c88 : Nat), r = .value (.slice a86 n87 c88) ∧
                                  (((some [(.bool b19), (.bool b20), (.int .i64 i21)] : Option (List Value)) = some [(.bool b19), (.bool b20), (.int .i64 i21)]) ∧ (Join22 a86 n87 c88 v28)))))))) ∧ 
                      (Runs Try.prog (do pure (Next.value (← Instr.buildSlice 33 1 #[(0, (.agg #[(.int .i64 2), (.int .i64 7)]))]))) v6 fun r v29 => ∃ (a89 : Option Addr) (n90 : Nat) (c91 : Nat), r = .value (.slice a89 n90 c91) ∧
                        (Runs Try.prog (do pure (Next.value (← Instr.buildSlice 33 0 #[]))) v29 fun r v30 => ∃ (a92 : Option Addr) (n93 : Nat) (c94 : Nat), r = .value (.slice a92 n93 c94) ∧
                          (Runs Try.prog (builtin .append #[33, 33] 33 #[false, false] #[(.slice a92 n93 c94), (.slice (if c3 = ((0 : Int)).toNat then a1 else a1.map (·.add (((0 : Int)).toNat * 2))) ((i4).toNat - ((0 : Int)).toNat) (c3 - ((0 : Int)).toNat))]) v30 fun r v31 => ∃ (a95 : Option Addr) (n96 : Nat) (c97 : Nat), r = .value (.slice a95 n96 c97) ∧
                            (Runs Try.prog (builtin .append #[33, 33] 33 #[false, false] #[(.slice a95 n96 c97), (.slice a89 n90 c91)]) v31 fun r v32 => ∃ (a98 : Option Addr) (n99 : Nat) (c100 : Nat), r = .value (.slice a98 n99 c100) ∧
                              (Runs Try.prog (builtin .append #[33, 33] 33 #[false, false] #[(.slice a98 n99 c100), (.slice (if c3 = (i4).toNat then a1 else a1.map (·.add ((i4).toNat * 2))) (((n2 : Int)).toNat - (i4).toNat) (c3 - (i4).toNat))]) v32 fun r v33 => ∃ (a101 : Option Addr) (n102 : Nat) (c103 : Nat), r = .value (.slice a101 n102 c103) ∧
                                (((some [(.bool b19), (.bool b20), (.int .i64 i21)] : Option (List Value)) = some [(.bool b19), (.bool b20), (.int .i64 i21)]) ∧ (Join22 a101 n102 c103 v33)))))))))))) ∧
            ∀ (a104 : Option Addr) (n105 : Nat) (c106 : Nat) (v5 : World), Join22 a104 n105 c106 v5 →
            (CallsV Try.prog 23 #[] v5 fun r v34 => ∃ (i107 : Int) (i108 : Int) (i109 : Int) (i110 : Int) (i111 : Int) (i112 : Int), r = (.agg #[(.int .i64 i107), (.int .i64 i108), (.int .i64 i109), (.int .i64 i110), (.int .i64 i111), (.int .i64 i112)]) ∧
              (CallsV Try.prog 21 #[(.agg #[(.int .i64 i107), (.int .i64 i108), (.int .i64 i109), (.int .i64 i110), (.int .i64 i111), (.int .i64 i112)]), (.slice a104 n105 c106)] v34 fun r v35 => ∃ (i113 : Int) (i114 : Int) (i115 : Int) (i116 : Int) (i117 : Int) (i118 : Int) (b119 : Bool) (b120 : Bool) (i121 : Int), r = (.tuple #[(.agg #[(.int .i64 i113), (.int .i64 i114), (.int .i64 i115), (.int .i64 i116), (.int .i64 i117), (.int .i64 i118)]), (.agg #[(.bool b119), (.bool b120), (.int .i64 i121)])]) ∧
                (∃ (i122 : Int) (i123 : Int) (i124 : Int) (i125 : Int) (i126 : Int) (i127 : Int), (∀ w, Pad (hv (hv v35)) w → CallsV Try.prog 23 #[] w fun r w' => r = (.agg #[(.int .i64 i122), (.int .i64 i123), (.int .i64 i124), (.int .i64 i125), (.int .i64 i126), (.int .i64 i127)]) ∧ Pad w w') ∧
                  ((0 ≤ (0 : Int) ∧ (0 : Int) ≤ i4 ∧ i4 ≤ (c3 : Int)) ∧ 
                    (∃ (i128 : Int) (i129 : Int) (i130 : Int) (i131 : Int) (i132 : Int) (i133 : Int) (b134 : Bool) (b135 : Bool) (i136 : Int), (∀ w, Pad (hv (hv v35)) w → CallsV Try.prog 21 #[(.agg #[(.int .i64 i122), (.int .i64 i123), (.int .i64 i124), (.int .i64 i125), (.int .i64 i126), (.int .i64 i127)]), (.slice (if c3 = ((0 : Int)).toNat then a1 else a1.map (·.add (((0 : Int)).toNat * 2))) ((i4).toNat - ((0 : Int)).toNat) (c3 - ((0 : Int)).toNat))] w fun r w' => r = (.tuple #[(.agg #[(.int .i64 i128), (.int .i64 i129), (.int .i64 i130), (.int .i64 i131), (.int .i64 i132), (.int .i64 i133)]), (.agg #[(.bool b134), (.bool b135), (.int .i64 i136)])]) ∧ Pad w w') ∧
                      (∀ v36, Pad (hv (hv v35)) v36 →
                        (bcase (((!b119) || (!b120)) || (!((i113 == 0) && ((i114 == 0) && ((i115 == 0) && ((i116 == 0) && ((i117 == 0) && ((i118 == 0) && true))))))))
                          (R (.bool false) v36)
                          (bcase b134
                            (CallsV Try.prog 20 #[] v36 fun r v37 => ∃ (b137 : Bool), r = (.bool b137) ∧
                              (R (.bool ((b137 && ((b119 == b134) && ((b120 == b135) && ((i121 == i136) && true)))) && ((b19 == b134) && ((b20 == b135) && ((i21 == i136) && true))))) v37))
                            (CallsV Try.prog 20 #[] v36 fun r v38 => ∃ (b138 : Bool), r = (.bool b138) ∧
                              (R (.bool (b138 && (i121 == 1))) v38)))))))))))))))) := by kernel_rfl
end Go.Proofs.Ytnlekdpnjphmfaa
