/- The laws of sha, in plain words. -/
import Derived.Test.YtgcgdfjldeihkaaQShaE
namespace Go.Proofs.Ytgcgdfjldeihkaa
open Pv
set_option linter.unusedVariables false
def W0 : List Int := [2147483648, 0, 0, 0, 0, 0, 0, 0, 0, 0, 0, 0, 0, 0, 0, 0, 2147483648, 0, 2117632, 0, 570427392, 0, 84448578, 2147483648, 1476919296, 4235264, 1451269, 1711282176, 3592562048, 337794312, 3594910044, 3374850048, 3287351444, 676112230, 109604294, 2742808854, 1904000662, 4274181962, 2813755136, 2165675682, 2561075048, 62000258, 1562224585, 2975250741, 3286092305, 614207615, 3297584367, 1575308336, 3741240933, 748767245, 1008022316, 30329261, 369937616, 195877528, 907775968, 3526495142, 43741191, 1967544444, 133517113, 4161330627, 3704256008, 1581412744, 1153231965, 996066459]
def V0 : List (List Int) := [[1779033703, 3144134277, 1013904242, 2773480762, 1359893119, 2600822924, 528734635, 1541459225], [2080933965, 1779033703, 3144134277, 1013904242, 415752866, 1359893119, 2600822924, 528734635], [2632279248, 2080933965, 1779033703, 3144134277, 536982102, 415752866, 1359893119, 2600822924], [3299628326, 2632279248, 2080933965, 1779033703, 1876632314, 536982102, 415752866, 1359893119], [1277422283, 3299628326, 2632279248, 2080933965, 808968629, 1876632314, 536982102, 415752866], [1130821424, 1277422283, 3299628326, 2632279248, 3889194014, 808968629, 1876632314, 536982102], [690895682, 1130821424, 1277422283, 3299628326, 1332035834, 3889194014, 808968629, 1876632314], [4028650896, 690895682, 1130821424, 1277422283, 2196627567, 1332035834, 3889194014, 808968629], [2060825014, 4028650896, 690895682, 1130821424, 1408847307, 2196627567, 1332035834, 3889194014], [4113392549, 2060825014, 4028650896, 690895682, 2058339864, 1408847307, 2196627567, 1332035834], [4025007953, 4113392549, 2060825014, 4028650896, 1392976521, 2058339864, 1408847307, 2196627567], [361478433, 4025007953, 4113392549, 2060825014, 3795207118, 1392976521, 2058339864, 1408847307], [4114828352, 361478433, 4025007953, 4113392549, 3621813394, 3795207118, 1392976521, 2058339864], [553833165, 4114828352, 361478433, 4025007953, 3455974994, 3621813394, 3795207118, 1392976521], [1170215847, 553833165, 4114828352, 361478433, 725774998, 3455974994, 3621813394, 3795207118], [3096116699, 1170215847, 553833165, 4114828352, 483372089, 725774998, 3455974994, 3621813394], [3019933109, 3096116699, 1170215847, 553833165, 1555621987, 483372089, 725774998, 3455974994], [1192056138, 3019933109, 3096116699, 1170215847, 1892956839, 1555621987, 483372089, 725774998], [3717831211, 1192056138, 3019933109, 3096116699, 1619825619, 1892956839, 1555621987, 483372089], [812095850, 3717831211, 1192056138, 3019933109, 3550010602, 1619825619, 1892956839, 1555621987], [172493064, 812095850, 3717831211, 1192056138, 2416781228, 3550010602, 1619825619, 1892956839], [1976037592, 172493064, 812095850, 3717831211, 966081741, 2416781228, 3550010602, 1619825619], [2577845017, 1976037592, 172493064, 812095850, 3263666206, 966081741, 2416781228, 3550010602], [1078820948, 2577845017, 1976037592, 172493064, 2976200464, 3263666206, 966081741, 2416781228], [2556161365, 1078820948, 2577845017, 1976037592, 741081741, 2976200464, 3263666206, 966081741], [2062996621, 2556161365, 1078820948, 2577845017, 4116679717, 741081741, 2976200464, 3263666206], [3317175470, 2062996621, 2556161365, 1078820948, 3850028020, 4116679717, 741081741, 2976200464], [747317945, 3317175470, 2062996621, 2556161365, 2677228163, 3850028020, 4116679717, 741081741], [1837942423, 747317945, 3317175470, 2062996621, 1726829818, 2677228163, 3850028020, 4116679717], [1690082844, 1837942423, 747317945, 3317175470, 2506713973, 1726829818, 2677228163, 3850028020], [1926471693, 1690082844, 1837942423, 747317945, 2957685293, 2506713973, 1726829818, 2677228163], [2696613087, 1926471693, 1690082844, 1837942423, 1447716390, 2957685293, 2506713973, 1726829818], [300352095, 2696613087, 1926471693, 1690082844, 3151463532, 1447716390, 2957685293, 2506713973], [3817927606, 300352095, 2696613087, 1926471693, 3436338571, 3151463532, 1447716390, 2957685293], [2705438357, 3817927606, 300352095, 2696613087, 197416927, 3436338571, 3151463532, 1447716390], [1151435175, 2705438357, 3817927606, 300352095, 1769188034, 197416927, 3436338571, 3151463532], [1679812728, 1151435175, 2705438357, 3817927606, 980442793, 1769188034, 197416927, 3436338571], [2694206301, 1679812728, 1151435175, 2705438357, 4206914285, 980442793, 1769188034, 197416927], [1457773646, 2694206301, 1679812728, 1151435175, 3892832895, 4206914285, 980442793, 1769188034], [2656625711, 1457773646, 2694206301, 1679812728, 2242319396, 3892832895, 4206914285, 980442793], [1234768305, 2656625711, 1457773646, 2694206301, 1902882853, 2242319396, 3892832895, 4206914285], [4270245939, 1234768305, 2656625711, 1457773646, 2224585183, 1902882853, 2242319396, 3892832895], [580450446, 4270245939, 1234768305, 2656625711, 4123364073, 2224585183, 1902882853, 2242319396], [3686090155, 580450446, 4270245939, 1234768305, 3762306745, 4123364073, 2224585183, 1902882853], [3907209042, 3686090155, 580450446, 4270245939, 692219050, 3762306745, 4123364073, 2224585183], [2752082644, 3907209042, 3686090155, 580450446, 2855016464, 692219050, 3762306745, 4123364073], [855262251, 2752082644, 3907209042, 3686090155, 3531982457, 2855016464, 692219050, 3762306745], [1419259244, 855262251, 2752082644, 3907209042, 2322236082, 3531982457, 2855016464, 692219050], [911881421, 1419259244, 855262251, 2752082644, 3417569515, 2322236082, 3531982457, 2855016464], [1655188062, 911881421, 1419259244, 855262251, 1286303114, 3417569515, 2322236082, 3531982457], [2543384045, 1655188062, 911881421, 1419259244, 3909789552, 1286303114, 3417569515, 2322236082], [3244542753, 2543384045, 1655188062, 911881421, 906398686, 3909789552, 1286303114, 3417569515], [3579709122, 3244542753, 2543384045, 1655188062, 2710884687, 906398686, 3909789552, 1286303114], [2981272720, 3579709122, 3244542753, 2543384045, 1134943992, 2710884687, 906398686, 3909789552], [974034039, 2981272720, 3579709122, 3244542753, 4254700398, 1134943992, 2710884687, 906398686], [749689034, 974034039, 2981272720, 3579709122, 3850954136, 4254700398, 1134943992, 2710884687], [23298068, 749689034, 974034039, 2981272720, 2918796810, 3850954136, 4254700398, 1134943992], [2126991890, 23298068, 749689034, 974034039, 2035393328, 2918796810, 3850954136, 4254700398], [3891021244, 2126991890, 23298068, 749689034, 3802734300, 2035393328, 2918796810, 3850954136], [3911429062, 3891021244, 2126991890, 23298068, 148956906, 3802734300, 2035393328, 2918796810], [71572494, 3911429062, 3891021244, 2126991890, 2867830852, 148956906, 3802734300, 2035393328], [4095722474, 71572494, 3911429062, 3891021244, 477227836, 2867830852, 148956906, 3802734300], [1586299222, 4095722474, 71572494, 3911429062, 2232532848, 477227836, 2867830852, 148956906], [3717492111, 1586299222, 4095722474, 71572494, 3382061760, 2232532848, 477227836, 2867830852], [2040978907, 3717492111, 1586299222, 4095722474, 3600805733, 3382061760, 2232532848, 477227836]]
def D0 : List Int := [227, 176, 196, 66, 152, 252, 28, 20, 154, 251, 244, 200, 153, 111, 185, 36, 39, 174, 65, 228, 100, 155, 147, 76, 164, 149, 153, 27, 120, 82, 184, 85]
/-! ### the empty text -/
def wAt0 (i : Nat) : List Int := W0.take i ++ List.replicate (64 - i) 0
def m0 : List Int := 128 :: List.replicate 63 0
theorem tab_W0 : (List.range 64).all (fun i => (wAt0 i).set i (if i < 16 then word m0 i else wNew (wAt0 i) i) == wAt0 (i + 1)) = true := by kernel_rfl
theorem tab_V0 : (List.range 64).all (fun i => rnd (K64.getD i 0) (W0.getD i 0) (V0.getD i []) == V0.getD (i + 1) []) = true := by kernel_rfl
theorem wAt_0 : ∀ i, i ≤ 64 → wAt m0 i = wAt0 i
  | 0, _ => by
    show List.replicate 64 0 = _
    kernel_rfl
  | i + 1, h => by
    show (wAt m0 i).set i _ = _
    rw [wAt_0 i (by omega)]
    exact beq_iff_eq.1 (List.all_eq_true.1 tab_W0 i (List.mem_range.2 (by omega)))
theorem vAt_0 : ∀ i, i ≤ 64 → vAt K64 W0 H8 i = V0.getD i []
  | 0, _ => by
    show H8 = _
    kernel_rfl
  | i + 1, h => by
    show rnd _ _ (vAt K64 W0 H8 i) = _
    rw [vAt_0 i (by omega)]
    exact beq_iff_eq.1 (List.all_eq_true.1 tab_V0 i (List.mem_range.2 (by omega)))
theorem sum_nil : sumL [] = D0 := by
  have hp : padL [] = m0 := by kernel_rfl
  have hw : wAt m0 64 = W0 := by
    rw [wAt_0 64 (Nat.le_refl _)]
    kernel_rfl
  have h1 : hBlk K64 m0 1 = addV H8 (V0.getD 64 []) := by
    show blk K64 (hBlk K64 m0 0) ((m0.take 64).drop 0) = _
    have e : (m0.take 64).drop 0 = m0 := by kernel_rfl
    rw [e]
    show addV H8 (vAt K64 (wAt m0 64) H8 64) = _
    rw [hw, vAt_0 64 (Nat.le_refl _)]
  unfold sumL
  have hm : m0.length / 64 = 1 := by kernel_rfl
  have hd : shOut (addV H8 (V0.getD 64 [])) = D0 := by kernel_rfl
  rw [hp, hm, h1, hd]
theorem first_true : F_wlvlaw3_first = some true := by
  unfold F_wlvlaw3_first
  rw [sha_One (l := []) (by decide), Option.bind_some, sum_nil]
  rfl
theorem bytes_eq (a b : List Int) : F_wlvref_Bytes a b = some (a == b) := rfl
theorem bEq_self (b : Bool) : bEq b b = true := by cases b <;> rfl
theorem ShaTells_true (b salt other : List Int) (hb : BY b) (ho : BY other) : F_wlvlaw3_ShaTells b salt other = some true := by
  unfold F_wlvlaw3_ShaTells
  rw [first_true]
  simp only [Option.bind_some, Bool.not_true, cond_false]
  cases hc : ((decide ((b.length : Int) > 2000)) || (decide ((salt.length : Int) > 2000))) || (decide ((other.length : Int) > 2000)) with
  | true => rfl
  | false =>
    simp only [Bool.or_eq_false_iff, decide_eq_false_iff_not] at hc
    obtain ⟨⟨h1, h2⟩, h3⟩ := hc
    rw [cond_false, cond_true, sha_One (by omega), Option.bind_some, ref_One (by omega), Option.bind_some, bytes_eq, Option.bind_some, beq_self_eq_true, cond_true, sha_Salted (by omega) (by omega), Option.bind_some, ref_Salted (by omega) (by omega), Option.bind_some, bytes_eq, Option.bind_some, beq_self_eq_true, cond_true, Equal_eq hb ho (by omega) (by omega), Option.bind_some, bytes_eq, Option.bind_some, bEq_self]
theorem copy_eq {l : List Int} (h : l.length ≤ 100000) : F_wlvref_Copy l = some l := by
  unfold F_wlvref_Copy
  rw [show ([] : List Int).length = 0 from rfl, List.nil_append, ck_t (ck_app (by omega) (by omega))]
theorem set_beq {l : List Int} (hl : BY l) {k : Nat} (hk : k < l.length) {t : Int} (ht : 0 ≤ t ∧ t < 256) : (l == l.set k (bits .xor .u8 (l.getD k 0) t)) = (t == 0) := by
  have hx := by_get hl hk
  rw [Bool.eq_iff_iff, beq_iff_eq, beq_iff_eq, ← xor_keep hx ht]
  constructor
  · intro e
    have h1 := congrArg (fun z => z.getD k 0) e
    simp only [List.getD_eq_getElem?_getD, List.getElem?_set_self hk, Option.getD_some] at h1
    rw [List.getD_eq_getElem?_getD]
    exact h1.symm
  · intro e
    rw [e, List.getD_eq_getElem?_getD, List.getElem?_eq_getElem hk, Option.getD_some, List.set_getElem_self]
theorem set_BY {l : List Int} (hl : BY l) {k : Nat} {t : Int} (ht : 0 ≤ t ∧ t < 256) (hx : 0 ≤ l.getD k 0 ∧ l.getD k 0 < 256) : BY (l.set k (bits .xor .u8 (l.getD k 0) t)) := fun x h => by
  rcases List.mem_or_eq_of_mem_set h with h | h
  · exact hl x h
  · rw [h]; exact xor_in _ _
theorem sum_BY (l : List Int) : BY (sumL l) := shOut_BY _
theorem ShaApart_true (a b : List Int) (at_ turn : Int) (ht : (Lit.int .u8 turn).wf = true) : F_wlvlaw3_ShaApart a b at_ turn = some true := by
  have ht : 0 ≤ turn ∧ turn < 256 := wfB ht
  unfold F_wlvlaw3_ShaApart
  rw [first_true]
  simp only [Option.bind_some, Bool.not_true, cond_false]
  cases hc : ((decide ((a.length : Int) > 500)) || (decide ((b.length : Int) > 500))) || (decide (at_ < 0)) with
  | true => rfl
  | false =>
    simp only [Bool.or_eq_false_iff, decide_eq_false_iff_not] at hc
    obtain ⟨⟨h1, h2⟩, h3⟩ := hc
    have la := sumL_len a
    have lb := sumL_len b
    have ba := sum_BY a
    have bb := sum_BY b
    obtain ⟨n, rfl⟩ := Int.eq_ofNat_of_zero_le (show 0 ≤ at_ by omega)
    have hk : Int.tmod (n : Int) 32 = ((n % 32 : Nat) : Int) := rfl
    have hlt : n % 32 < 32 := Nat.mod_lt _ (by omega)
    rw [cond_false, sha_One (by omega), Option.bind_some, sha_One (by omega), Option.bind_some, ref_One (by omega), ref_One (by omega)]
    generalize sumL a = x at la ba
    generalize sumL b = y at lb bb
    rw [Equal_eq ba bb (by omega) (by omega), Option.bind_some, Option.bind_some, Option.bind_some, bytes_eq, Option.bind_some, bEq_self, la, copy_eq (by omega), Option.bind_some, hk, la]
    have hset : (x.set (n % 32) (bits .xor .u8 (x.getD (n % 32) 0) turn)).length = 32 := by rw [List.length_set, la]
    have hxk := by_get ba (show n % 32 < x.length by omega)
    rw [show (!true || (((32 : Nat) : Int) != 32)) = false from rfl, cond_false, ck_t (by rfl), ck_t (by rw [decide_eq_true (by omega), decide_eq_true (by omega)]; rfl), gI_D (by omega), Option.bind_some, ck_t (by rw [decide_eq_true (by omega), decide_eq_true (by omega)]; rfl), ck_t (decide_eq_true (by omega)), cond_true, Int.toNat_natCast, hset, ck_t (by rfl), List.take_of_length_le (by omega),
      Equal_eq ba (set_BY ba ht hxk) (by omega) (by omega), Option.bind_some, set_beq ba (by omega) ht, bEq_self, cond_true, Equal_len (by rw [la]; decide), Option.bind_some, Bool.not_false, cond_true]
    rw [show F_sha_Equal [] [] = some true from Equal_eq (a := []) (b := []) (fun _ h => by cases h) (fun _ h => by cases h) (by decide) (by decide), Option.bind_some, cond_true]
    have hcut : cutI x 0 10 = some (x.take 10) := by
      unfold cutI
      rw [la]
      rfl
    rw [hcut, Option.bind_some, Equal_len (by rw [la, List.length_take, la]; decide), Option.bind_some]
    rfl
theorem ShaOwn_true (b salt : List Int) (hb : BY b) : F_wlvlaw3_ShaOwn b salt = some true := by
  unfold F_wlvlaw3_ShaOwn
  rw [first_true]
  simp only [Option.bind_some, Bool.not_true, cond_false]
  cases hc : (decide ((b.length : Int) > 2000)) || (decide ((salt.length : Int) > 2000)) with
  | true => rfl
  | false =>
    simp only [Bool.or_eq_false_iff, decide_eq_false_iff_not] at hc
    obtain ⟨h1, h2⟩ := hc
    have la := sumL_len b
    have ba := sum_BY b
    have lz := sumL_len (salt ++ 0 :: b)
    have bz := sum_BY (salt ++ 0 :: b)
    have e0 : ([] : List Int).length = 0 := rfl
    have e1 : ([0] : List Int).length = 1 := rfl
    have e2 : (salt ++ ([0] : List Int)).length = salt.length + 1 := by rw [List.length_append]; rfl
    have e3 : (salt ++ 0 :: b).length = salt.length + (b.length + 1) := List.length_append
    have e4 : salt ++ ([0] : List Int) ++ b = salt ++ 0 :: b := by rw [List.append_assoc]; rfl
    rw [cond_false, copy_eq (by omega), Option.bind_some, sha_One (by omega), Option.bind_some, Option.bind_some, sha_Salted (by omega) (by omega), List.nil_append, e0, e1, e2, e4, sha_One (l := salt ++ 0 :: b) (by rw [e3]; omega)]
    generalize sumL b = x at la ba
    generalize sumL (salt ++ 0 :: b) = z at lz bz
    have hxk := by_get ba (show 0 < x.length by omega)
    have hset : (x.set 0 (bits .xor .u8 (x.getD 0 0) 1)).length = 32 := by rw [List.length_set, la]
    have hcut : cutI x 0 31 = some (x.take 31) := by
      unfold cutI
      rw [la]
      rfl
    have hg : getI x 0 = some (x.getD 0 0) := by
      rw [show (0 : Int) = ((0 : Nat) : Int) from rfl]
      exact gI_D (by omega)
    have hs := set_beq ba (show 0 < x.length by omega) (t := 1) ⟨by omega, by omega⟩
    have hE := Equal_eq ba (set_BY ba (t := 1) ⟨by omega, by omega⟩ hxk) (by omega) (by omega)
    rw [hs] at hE
    have hX := Equal_eq ba ba (by omega) (by omega)
    rw [beq_self_eq_true] at hX
    have hZ := Equal_eq bz bz (by omega) (by omega)
    rw [beq_self_eq_true] at hZ
    have h31 : F_sha_Equal x (x.take 31) = some false := Equal_len (by rw [la, List.length_take, la]; decide)
    have t1 : List.take 32 x = x := List.take_of_length_le (by omega)
    have t2 : List.take 32 (x.set 0 (bits .xor .u8 (x.getD 0 0) 1)) = x.set 0 (bits .xor .u8 (x.getD 0 0) 1) := List.take_of_length_le (by omega)
    have z0 : (0 : Int).toNat = 0 := rfl
    have c1 : (decide ((0 + salt.length) * 1 ≤ 140737488355328) && decide (0 + salt.length ≤ maxLen)) = true := ck_app (by omega) (by omega)
    have c2 : (decide ((salt.length + 1) * 1 ≤ 140737488355328) && decide (salt.length + 1 ≤ maxLen)) = true := ck_app (by omega) (by omega)
    have c3 : (decide ((salt.length + 1 + b.length) * 1 ≤ 140737488355328) && decide (salt.length + 1 + b.length ≤ maxLen)) = true := ck_app (by omega) (by omega)
    have n1 : (((32 : Nat) : Int) != 32) = false := rfl
    have n2 : Nat.blt 0 32 = true := rfl
    have n3 : (Nat.ble 32 32 && true) = true := rfl
    have n4 : (decide ((0 : Int) ≤ 0) && decide ((0 : Int) < ((32 : Nat) : Int))) = true := rfl
    have n5 : decide ((0 : Int) < ((32 : Nat) : Int)) = true := rfl
    have n6 : ((1 : Int) == 0) = false := rfl
    have n7 : (((32 : Nat) : Int) == 32) = true := rfl
    have ct : ∀ {α : Type} (x : Option α), chk true x = x := fun _ => rfl
    simp only [la, c1, c2, c3, n1, n2, n3, n4, ct, t1, hX, hg, Option.bind_some, Bool.not_true, Bool.not_false, cond_true, cond_false, bytes_eq, beq_self_eq_true]
    simp only [n5, ct, z0, hset, n3, t2, hE, n6, hcut, h31, hZ, lz, n7, Option.bind_some, Bool.not_true, Bool.not_false, cond_true, cond_false, Bool.and_self, bytes_eq, beq_self_eq_true]
end Go.Proofs.Ytgcgdfjldeihkaa
