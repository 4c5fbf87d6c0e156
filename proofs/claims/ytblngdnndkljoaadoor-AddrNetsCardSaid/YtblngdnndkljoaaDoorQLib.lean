/- Functions of the library by their contracts: strconv.Atoi, strings.Split, strings.Join, strings.LastIndexByte. -/
import Derived.Test.YtblngdnndkljoaaDoorQt
import Derived.Test.YtblngdnndkljoaaDoorShelfA
import Derived.Lib.SplitLaws
import Derived.Lib.AtoiAllCases
namespace Go.Proofs.YtblngdnndkljoaaDoor
open Go.RowKit Pv
set_option linter.unusedVariables false
theorem args_1 {args : Array Value} (h : args.size = 1) : args = #[args.getD 0 undef] := by
  obtain ⟨al⟩ := args
  match al, h with
  | [v], _ => rfl
theorem args_2 {args : Array Value} (h : args.size = 2) : args = #[args.getD 0 undef, args.getD 1 undef] := by
  obtain ⟨al⟩ := args
  match al, h with
  | [v, u], _ => rfl
theorem args_3 {args : Array Value} (h : args.size = 3) : args = #[args.getD 0 undef, args.getD 1 undef, args.getD 2 undef] := by
  obtain ⟨al⟩ := args
  match al, h with
  | [v, u, t], _ => rfl
/-- Bytes out of numbers. -/
def toB (l : List Int) : List UInt8 := l.map fun x => x.toNat.toUInt8
theorem toB_bytes (s : ByteArray) : toB (bytesL s) = s.data.toList := by
  unfold toB bytesL
  rw [List.map_map]
  conv => rhs; rw [← List.map_id s.data.toList]
  apply List.map_congr_left
  intro b _
  show (((b.toNat : Nat) : Int).toNat).toUInt8 = b
  rw [Int.toNat_natCast, Nat.toUInt8_eq, UInt8.ofNat_toNat]
theorem bytes_toB {l : List Int} (h : ∀ x ∈ l, 0 ≤ x ∧ x < 256) : (toB l).map byteI = l := by
  unfold toB
  rw [List.map_map]
  conv => rhs; rw [← List.map_id l]
  apply List.map_congr_left
  intro x hx
  have := h x hx
  show ((x.toNat.toUInt8.toNat : Nat) : Int) = x
  rw [Nat.toUInt8_eq, UInt8.toNat_ofNat', Nat.mod_eq_of_lt (by omega)]
  omega
theorem byte_of {c : Int} (h : (Lit.int .u8 c).wf = true) : 0 ≤ c ∧ c < 256 := by
  simp [Lit.wf, IntKind.min, IntKind.max, IntKind.signed, IntKind.bits] at h
  omega
theorem bytes_size {s : ByteArray} {l : List Int} (h : bytesL s = l) : s.size = l.length := by rw [← h, bytes_len]
/-! ### strconv.Atoi -/
def okErr (v : Value) : Prop := v = .nilIface ∨ ∃ te pe, v = .iface te pe
def has_errs (T : Tab) : Prop := ∃ v1 v2, (6, #[v1]) ∈ T ∧ (7, #[v2]) ∈ T ∧ okErr v1 ∧ okErr v2
def atoiP (l : List Int) : Int × Bool := match Lib.atoiAll (toB l) with
  | .ok v => (v, false)
  | .syntax => (0, true)
  | .range => (Lib.atoiSat (toB l), true)
def F_strconv_Atoi_sig : Sig := ⟨[.v false [.d .str]], [(false, [.d (.int .i64)]), (false, [.d .err])]⟩
def F_strconv_Atoi (l : List Int) : Option (Int × Bool) := cond (Nat.ble l.length 281474976710656) (some (atoiP l)) none
theorem below_bytes (w : World) (ty : TypeId) (t : ByteArray) : Below w.heap.size w (Lib.bytesWorld w ty t) := ⟨rfl, rfl, rfl, by rw [Lib.bytesWorld_size]; omega, fun j hj => Lib.bytesWorld_at_old _ _ _ _ hj⟩
theorem wf_of {q : Int} (h : -9223372036854775808 ≤ q ∧ q ≤ 9223372036854775807) : (Lit.int .i64 q).wf = true := by
  simp [Lit.wf, IntKind.min, IntKind.max, IntKind.signed, IntKind.bits]
  omega
theorem err_cell {w : World} {T : Tab} {g : Nat} {v : Value} (hT : ∀ p ∈ T, ∃ ty fr, w.heap[p.1]? = some (.cells p.2 ty fr)) (h : (g, #[v]) ∈ T) : w.cell? ⟨g, 0, none⟩ = some v := by
  obtain ⟨ty, fr, h1⟩ := hT _ h
  rw [cell_at h1]; rfl
theorem F_strconv_Atoi_sound {T : Tab} (h_errs : has_errs T) : SoundFn Tryd.prog T 64 F_strconv_Atoi_sig ⟨F_strconv_Atoi⟩ := by
  refine sound_d rfl fun F g O xs ls y tmf w args hT hls happ hsz hr => ?_
  obtain ⟨(l : List Int), xs', rfl, h2⟩ := appF_inv_c (ts := []) happ
  obtain ⟨rfl, h3⟩ := appF_inv_n h2
  have hls' : some [Leaf.d .str l] = some ls := hls
  injection hls' with hls'
  subst hls'
  obtain ⟨s, e0, e1, e2⟩ := rel_str (hr 0)
  rw [args_1 hsz, e0]
  have h3 : cond (Nat.ble l.length 281474976710656) (some (atoiP l)) none = some y := h3
  cases hb : Nat.ble l.length 281474976710656 with
  | false => rw [hb] at h3; cases h3
  | true =>
    rw [hb] at h3
    have hy : atoiP l = y := by injection h3
    have hlen : s.size ≤ 281474976710656 := by rw [bytes_size e1]; exact Nat.le_of_ble_eq_true hb
    have hB : toB l = s.data.toList := by rw [← e1]; exact toB_bytes s
    have fin : ∀ (v : Int) (er : Value) (b : Bool) (w' : World), y = (v, b) → Below w.heap.size w w' → -9223372036854775808 ≤ v ∧ v ≤ 9223372036854775807 → ((b = false ∧ er = .nilIface) ∨ (b = true ∧ ∃ t q, er = .iface t q)) →
        ∃ us os, Ending.returned (.tuple #[.int .i64 v, er]) = .returned (retV us) ∧ us.length = F_strconv_Atoi_sig.rs.length ∧ mkLs (Tok.hd 0) F_strconv_Atoi_sig.outs 0 (unpackD (F_strconv_Atoi_sig.outs.map LT.ty) y) = some os ∧ Below w.heap.size w w' ∧
          ∀ i, i < F_strconv_Atoi_sig.rs.length → RelP F ⟨g.C, fun _ => none, g.ρ, fun _ _ => []⟩ w' (exitO F_strconv_Atoi_sig) tmf (us.getD i undef) (resAt F_strconv_Atoi_sig.rs os i) := fun v er b w' hy hbel hv her => by
      subst hy
      refine ⟨[.int .i64 v, er], [.d (.int .i64) v, .d .err b], rfl, rfl, rfl, hbel, fun i hi => ?_⟩
      match i, hi with
      | 0, _ => exact ⟨[.int .i64 v], ⟨_, [], rfl, ⟨rfl, wf_of hv⟩, rfl⟩, rfl⟩
      | 1, _ => exact ⟨[er], ⟨[er], [], rfl, ⟨er, rfl, her⟩, rfl⟩, rfl⟩
    obtain ⟨v1, v2, hm1, hm2, ok1, ok2⟩ := h_errs
    unfold atoiP at hy
    cases ha : Lib.atoiAll (toB l) with
    | ok v =>
      rw [ha] at hy
      rw [hB] at ha
      refine (Tryd.strconv_Atoi_ok s (by omega) v ha w).mono ?_
      rintro e w' ⟨rfl, hw⟩
      exact fin v .nilIface false w' hy.symm (by rcases hw with rfl | ⟨t, rfl⟩; exact Below.refl _ _; exact below_bytes _ _ _) (Lib.atoiAll_bounds ha) (.inl ⟨rfl, rfl⟩)
    | «syntax» =>
      rw [ha] at hy
      rw [hB] at ha
      refine (Tryd.strconv_Atoi_syntax s hlen ha v1 w (err_cell hT hm1) ok1).mono ?_
      rintro e w' ⟨N, rfl, _, _, hbel⟩
      exact fin 0 _ true w' hy.symm hbel (by omega) (.inr ⟨rfl, _, _, rfl⟩)
    | range =>
      rw [ha] at hy
      rw [hB] at ha hy
      refine (Tryd.strconv_Atoi_range s hlen ha v2 w (err_cell hT hm2) ok2).mono ?_
      rintro e w' ⟨N, rfl, _, _, hbel⟩
      exact fin _ _ true w' hy.symm hbel (Lib.atoiSat_bounds _) (.inr ⟨rfl, _, _, rfl⟩)
/-! ### strings.LastIndexByte -/
def lastI : List Int → Int → Int
  | [], _ => -1
  | x :: l, c => cond (lastI l c == -1) (cond (x == c) 0 (-1)) (lastI l c + 1)
theorem lastI_in : ∀ (l : List Int) (c : Int), -1 ≤ lastI l c ∧ lastI l c < l.length
  | [], c => ⟨Int.le_refl _, by show (-1 : Int) < 0; decide⟩
  | x :: l, c => by
    obtain ⟨h1, h2⟩ := lastI_in l c
    unfold lastI
    rw [List.length_cons]
    cases h : lastI l c == -1
    · show -1 ≤ lastI l c + 1 ∧ lastI l c + 1 < _
      omega
    · cases x == c
      · show -1 ≤ (-1 : Int) ∧ (-1 : Int) < _
        omega
      · show -1 ≤ (0 : Int) ∧ (0 : Int) < _
        omega
theorem lastI_app : ∀ (l : List Int) (x c : Int), lastI (l ++ [x]) c = cond (x == c) (l.length : Int) (lastI l c)
  | [], x, c => by
    show cond (lastI [] c == -1) (cond (x == c) 0 (-1)) _ = cond (x == c) 0 (-1)
    rfl
  | y :: l, x, c => by
    have ih := lastI_app l x c
    have hin := lastI_in l c
    show cond (lastI (l ++ [x]) c == -1) (cond (y == c) 0 (-1)) (lastI (l ++ [x]) c + 1) = cond (x == c) _ (cond (lastI l c == -1) (cond (y == c) 0 (-1)) (lastI l c + 1))
    rw [ih]
    cases x == c
    · rfl
    · show cond ((l.length : Int) == -1) _ ((l.length : Int) + 1) = _
      rw [beq_eq_false_iff_ne.2 (show (l.length : Int) ≠ -1 by omega), cond_false, cond_true, List.length_cons]
      omega
theorem lastI_lib (s : ByteArray) (c : Int) : ∀ k, k ≤ s.size → Lib.lastIdx s c k = lastI ((bytesL s).take k) c
  | 0, _ => rfl
  | k + 1, h => by
    have ih := lastI_lib s c k (by omega)
    have hk : k < s.data.toList.length := by
      have e : s.data.toList.length = s.size := by simp
      omega
    have hg : (bytesL s)[k]? = some (byteI s.data.toList[k]) := by
      show (s.data.toList.map byteI)[k]? = _
      rw [List.getElem?_map, List.getElem?_eq_getElem hk]; rfl
    rw [List.take_add_one, hg]
    show _ = lastI ((bytesL s).take k ++ [byteI s.data.toList[k]]) c
    rw [lastI_app, ← ih, List.length_take, Nat.min_eq_left (by rw [bytes_len]; omega)]
    have hl : Lib.lastIdx s c (k + 1) = if ((s.data[k]!).toNat : Int) = c then (k : Int) else Lib.lastIdx s c k := rfl
    rw [hl]
    have hd : s.data[k]! = s.data.toList[k] := by
      have : k < s.data.size := by simpa using hk
      rw [getElem!_pos s.data k this]; rfl
    rw [hd]
    by_cases e : ((s.data.toList[k].toNat : Nat) : Int) = c
    · rw [if_pos e, show (byteI s.data.toList[k] == c) = true from beq_iff_eq.2 e]; rfl
    · rw [if_neg e, show (byteI s.data.toList[k] == c) = false from beq_eq_false_iff_ne.2 e]; rfl
def F_strings_LastIndexByte_sig : Sig := ⟨[.v false [.d .str], .v false [.d (.int .u8)]], [(false, [.d (.int .i64)])]⟩
def F_strings_LastIndexByte (l : List Int) (c : Int) : Option Int := cond (Nat.ble l.length 1099511627776) (some (lastI l c)) none
theorem F_strings_LastIndexByte_sound {T : Tab} : SoundFn Tryd.prog T 63 F_strings_LastIndexByte_sig ⟨F_strings_LastIndexByte⟩ := by
  refine sound_d rfl fun F g O xs ls y tmf w args hT hls happ hsz hr => ?_
  obtain ⟨(l : List Int), xs', rfl, h2⟩ := appF_inv_c (ts := [.int .u8]) happ
  obtain ⟨(c : Int), xs'', rfl, h2'⟩ := appF_inv_c (ts := []) h2
  obtain ⟨rfl, h3⟩ := appF_inv_n h2'
  have hls' : some [Leaf.d .str l, Leaf.d (.int .u8) c] = some ls := hls
  injection hls' with hls'
  subst hls'
  obtain ⟨s, e0, e1, e2⟩ := rel_str (hr 0)
  obtain ⟨f0, f1⟩ := rel_int (hr 1)
  rw [args_2 hsz, e0, f0]
  have h3 : cond (Nat.ble l.length 1099511627776) (some (lastI l c)) none = some y := h3
  cases hb : Nat.ble l.length 1099511627776 with
  | false => rw [hb] at h3; cases h3
  | true =>
    rw [hb] at h3
    have hy : lastI l c = y := by injection h3
    have hle : l.length ≤ 1099511627776 := Nat.le_of_ble_eq_true hb
    have hlen := bytes_size e1
    refine (Tryd.strings_LastIndexByte s c (by omega) w).mono ?_
    rintro e w' ⟨rfl, rfl⟩
    have hli : Lib.lastIndexByte s c = y := by
      unfold Lib.lastIndexByte
      rw [lastI_lib s c s.size (Nat.le_refl _), ← hy, e1, List.take_of_length_le (by omega)]
    have hin := lastI_in l c
    rw [hli]
    refine ⟨[.int .i64 y], [.d (.int .i64) y], rfl, rfl, rfl, Below.refl _ _, fun i hi => ?_⟩
    match i, hi with
    | 0, _ => exact ⟨[.int .i64 y], ⟨_, [], rfl, ⟨rfl, wf_of (by rw [← hy]; omega)⟩, rfl⟩, rfl⟩
/-! ### strings.Join -/
theorem cell_plain {w : World} {ad : Addr} {k : Nat} {u : Value} (h : w.cell? (ad.add k) = some u) : w.cell? ⟨ad.block, ad.off + k, none⟩ = some u := by
  have hs : (ad.add k).spot = none := by
    cases hsp : (ad.add k).spot with
    | none => rfl
    | some x =>
      unfold World.cell? at h
      split at h
      · rw [hsp] at h; simp at h
      · cases h
  have e : ad.add k = ⟨ad.block, ad.off + k, none⟩ := by
    have h1 := add_block ad k
    have h2 := add_off ad k
    cases ha : ad.add k with
    | mk b o sp =>
      rw [ha] at hs h1 h2
      have hs : sp = none := hs
      have h1 : b = ad.block := h1
      have h2 : o = ad.off + k := h2
      rw [hs, h1, h2]
  rw [← e]; exact h
def joinP (l : List (List Int)) (sep : List Int) : List Int := sep.intercalate l
theorem inter_map (sep : List UInt8) (l : List (List UInt8)) : (sep.intercalate l).map byteI = (sep.map byteI).intercalate (l.map fun x => x.map byteI) := by
  unfold List.intercalate
  rw [List.map_flatten]
  congr 1
  induction l with
  | nil => rfl
  | cons x l ih =>
    cases l with
    | nil => rfl
    | cons y l =>
      show x.map byteI :: sep.map byteI :: (List.intersperse sep (y :: l)).map (List.map byteI) = x.map byteI :: sep.map byteI :: List.intersperse (sep.map byteI) ((y :: l).map fun x => x.map byteI)
      rw [ih]
def F_strings_Join_sig : Sig := ⟨[.v false [.d (.sl .str)], .v false [.d .str]], [(false, [.d .str])]⟩
def F_strings_Join (l : List (List Int)) (sep : List Int) : Option (List Int) := cond (Nat.ble l.length 140737488355328 && Nat.ble (joinP l sep).length 140737488355328) (some (joinP l sep)) none
theorem F_strings_Join_sound {T : Tab} : SoundFn Tryd.prog T 74 F_strings_Join_sig ⟨F_strings_Join⟩ := by
  refine sound_d rfl fun F g O xs ls y tmf w args hT hls happ hsz hr => ?_
  obtain ⟨(l : List (List Int)), xs', rfl, h2⟩ := appF_inv_c (ts := [.str]) happ
  obtain ⟨(sep : List Int), xs'', rfl, h2'⟩ := appF_inv_c (ts := []) h2
  obtain ⟨rfl, h3⟩ := appF_inv_n h2'
  have hls' : some [Leaf.d (.sl .str) l, Leaf.d .str sep] = some ls := hls
  injection hls' with hls'
  subst hls'
  obtain ⟨a, n, c, e0, e1, e2, e3, e4⟩ := rel_leaf.1 (hr 0)
  have e0 : args.getD 0 undef = .slice a n c := by injection e0
  obtain ⟨t, f0, f1, f2⟩ := rel_str (hr 1)
  rw [args_2 hsz, e0, f0]
  have h3 : cond (Nat.ble l.length 140737488355328 && Nat.ble (joinP l sep).length 140737488355328) (some (joinP l sep)) none = some y := h3
  cases hb : (Nat.ble l.length 140737488355328 && Nat.ble (joinP l sep).length 140737488355328) with
  | false => rw [hb] at h3; cases h3
  | true =>
    rw [hb] at h3
    have hy : joinP l sep = y := by injection h3
    simp only [Bool.and_eq_true] at hb
    have hl1 : l.length ≤ 140737488355328 := Nat.le_of_ble_eq_true hb.1
    have hl2 : (joinP l sep).length ≤ 140737488355328 := Nat.le_of_ble_eq_true hb.2
    have fin : ∀ (r : List UInt8) (w' : World), r.map byteI = y → Below w.heap.size w w' →
        ∃ us os, Ending.returned (.string ⟨r.toArray⟩) = .returned (retV us) ∧ us.length = F_strings_Join_sig.rs.length ∧ mkLs (Tok.hd 0) F_strings_Join_sig.outs 0 (unpackD (F_strings_Join_sig.outs.map LT.ty) y) = some os ∧ Below w.heap.size w w' ∧
          ∀ i, i < F_strings_Join_sig.rs.length → RelP F ⟨g.C, fun _ => none, g.ρ, fun _ _ => []⟩ w' (exitO F_strings_Join_sig) tmf (us.getD i undef) (resAt F_strings_Join_sig.rs os i) := fun r w' hr hbel => by
      refine ⟨[.string ⟨r.toArray⟩], [.d .str y], rfl, rfl, rfl, hbel, fun i hi => ?_⟩
      match i, hi with
      | 0, _ =>
        refine ⟨[.string ⟨r.toArray⟩], ⟨_, [], rfl, ⟨_, rfl, ?_, ?_⟩, rfl⟩, rfl⟩
        · show r.toArray.toList.map byteI = _
          rw [List.toList_toArray]; exact hr
        · show r.toArray.size ≤ maxLen
          have : r.length = (joinP l sep).length := by rw [hy, ← hr, List.length_map]
          have hm : maxLen = 9223372036854775807 := rfl
          rw [List.size_toArray]; omega
    cases l with
    | nil =>
      have hn : n = 0 := by rw [← e1]; rfl
      subst hn
      refine (Tryd.strings_Join_none a c t w).mono ?_
      rintro e w' ⟨rfl, rfl⟩
      exact fin [] w' hy (Below.refl _ _)
    | cons z l =>
      obtain ⟨ad, us0, rfl, _, hc0, _⟩ := e4 0 z rfl
      obtain ⟨ss, hs1, hs2⟩ := choose_l (p := fun i (s : ByteArray) => ∃ x, (z :: l)[i]? = some x ∧ bytesL s = x ∧ w.cell? (ad.add i) = some (.string s)) (z :: l).length fun i hi => by
        obtain ⟨ad', us, had, _, hc, s, rfl, hs, _⟩ := e4 i _ (List.getElem?_eq_getElem hi)
        injection had with had
        subst had
        have := (hc 0 _ rfl).1
        exact ⟨s, _, List.getElem?_eq_getElem hi, hs, by rw [show i * (Ty.str).size + 0 = i by show i * 1 + 0 = i; omega] at this; exact this⟩
      have hmap : ss.map bytesL = z :: l := by
        apply List.ext_getElem?
        intro i
        rw [List.getElem?_map]
        rcases Nat.lt_or_ge i (z :: l).length with hi | hi
        · obtain ⟨x, q1, q2, q3⟩ := hs2 i _ (List.getElem?_eq_getElem (by omega))
          rw [List.getElem?_eq_getElem (show i < ss.length by omega), q1, ← q2]; rfl
        · rw [List.getElem?_eq_none (by omega), List.getElem?_eq_none hi]; rfl
      have hj : (Lib.join (ss.map (·.data.toList)) t.data.toList).map byteI = y := by
        show (t.data.toList.intercalate (ss.map (·.data.toList))).map byteI = y
        rw [inter_map, ← hy, List.map_map]
        unfold joinP
        rw [← hmap, ← f1]
        rfl
      have hjl : (Lib.join (ss.map (·.data.toList)) t.data.toList).length = (joinP (z :: l) sep).length := by rw [hy, ← hj, List.length_map]
      have hn : ss.length = n := by rw [hs1]; exact e1
      rw [← hn]
      have had : ∀ (j : Nat) (x : ByteArray), ss[j]? = some x → w.cell? ⟨ad.block, ad.off + j, none⟩ = some (.string x) := fun j x hj => by
        obtain ⟨_, _, _, q3⟩ := hs2 j x hj
        exact cell_plain q3
      have hsp : (some ad : Option Addr) = some ⟨ad.block, ad.off, none⟩ := by
        have : ad.spot = none := by
          have hx := had 0 _ (List.getElem?_eq_getElem (show 0 < ss.length by rw [hs1]; simp))
          cases hsp : ad.spot with
          | none => rfl
          | some x =>
            have hz : ad.add 0 = ad := by unfold Addr.add; rw [if_pos rfl]
            obtain ⟨_, _, _, q3⟩ := hs2 0 _ (List.getElem?_eq_getElem (show 0 < ss.length by rw [hs1]; simp))
            rw [hz] at q3
            unfold World.cell? at q3
            split at q3
            · rw [hsp] at q3; simp at q3
            · cases q3
        cases ad with
        | mk b o sp =>
          have this : sp = none := this
          rw [this]
      rw [hsp]
      refine (Tryd.strings_Join ad.block ad.off c ss t w had (cell_lt (a := ⟨ad.block, ad.off + 0, none⟩) (had 0 _ (List.getElem?_eq_getElem (show 0 < ss.length by rw [hs1]; simp)))) (by rw [hs1]; exact hl1) (by omega) (by rw [hjl]; exact hl2)).mono ?_
      rintro e w' ⟨rfl, hbel⟩
      exact fin _ w' hj hbel
/-! ### strings.Split, at one byte -/
def splitI : List Int → Int → List (List Int)
  | [], _ => [[]]
  | x :: s, c => cond (x == c) ([] :: splitI s c) (match splitI s c with | [] => [[x]] | w :: r => (x :: w) :: r)
theorem splitI_ne (s : List Int) (c : Int) : splitI s c ≠ [] := by
  cases s with
  | nil => simp [splitI]
  | cons x s =>
    unfold splitI
    cases x == c
    · rw [cond_false]; split <;> simp
    · simp
theorem splitI_miss : ∀ {s : List Int} {c : Int}, (∀ x ∈ s, x ≠ c) → splitI s c = [s]
  | [], _, _ => rfl
  | x :: s, c, h => by
    have ih := splitI_miss (s := s) (c := c) fun y hy => h y (by simp [hy])
    unfold splitI
    rw [ih, beq_eq_false_iff_ne.2 (h x (by simp)), cond_false]
theorem splitI_hit : ∀ {u v : List Int} {c : Int}, (∀ x ∈ u, x ≠ c) → splitI (u ++ c :: v) c = u :: splitI v c
  | [], v, c, _ => by
    show cond (c == c) ([] :: splitI v c) _ = _
    rw [beq_self_eq_true]; rfl
  | x :: u, v, c, h => by
    have ih := splitI_hit (u := u) (v := v) (c := c) fun y hy => h y (by simp [hy])
    show cond (x == c) _ (match splitI (u ++ c :: v) c with | [] => [[x]] | w :: r => (x :: w) :: r) = _
    rw [ih, beq_eq_false_iff_ne.2 (h x (by simp)), cond_false]
theorem splitI_sum : ∀ (s : List Int) (c : Int), ((splitI s c).map List.length).sum + (splitI s c).length = s.length + 1
  | [], c => rfl
  | x :: s, c => by
    have ih := splitI_sum s c
    unfold splitI
    cases x == c
    · rw [cond_false]
      cases h : splitI s c with
      | nil => exact absurd h (splitI_ne s c)
      | cons w r =>
        rw [h] at ih
        simp only [List.map_cons, List.sum_cons, List.length_cons] at ih ⊢
        omega
    · simp only [cond_true, List.map_cons, List.sum_cons, List.length_cons, List.length_nil]
      omega
theorem index_byte (c : UInt8) : ∀ l : List UInt8, Lib.index l [c] = Lib.indexByte l c
  | [] => rfl
  | b :: l => by
    have ih := index_byte c l
    unfold Lib.index Lib.indexByte
    rw [ih]
    have e : ([c].isPrefixOf (b :: l)) = (b == c) := by
      show (c == b && List.isPrefixOf [] l) = _
      rw [show List.isPrefixOf [] l = true by cases l <;> rfl, Bool.and_true]
      by_cases h : b = c
      · subst h; simp
      · rw [beq_eq_false_iff_ne.2 h, beq_eq_false_iff_ne.2 (Ne.symm h)]
    rw [e]
theorem byteI_ne {a b : UInt8} (h : a ≠ b) : byteI a ≠ byteI b := fun e => h (UInt8.toNat_inj.1 (by unfold byteI at e; exact Int.ofNat.inj e))
theorem indexB_byte (c : UInt8) (s : ByteArray) : Lib.indexB s ⟨#[c]⟩ = Lib.indexByte s.data.toList c := index_byte c _
theorem no_byte {s : ByteArray} {c : UInt8} (h : Lib.indexByte s.data.toList c = -1) : ∀ x ∈ bytesL s, x ≠ byteI c := fun x hx e => by
  obtain ⟨b, hb, rfl⟩ := List.mem_map.1 hx
  obtain ⟨k, hk⟩ := List.mem_iff_getElem?.1 hb
  have hbc : b = c := by
    by_cases hbc : b = c
    · exact hbc
    · exact absurd e (byteI_ne hbc)
  rw [hbc] at hk
  exact Lib.indexByte_none h k hk
theorem at_byte {s : ByteArray} {c : UInt8} {i : Nat} (h : Lib.indexByte s.data.toList c = i) : bytesL s = (bytesL s).take i ++ byteI c :: (bytesL s).drop (i + 1) ∧ ∀ x ∈ (bytesL s).take i, x ≠ byteI c := by
  obtain ⟨h1, h2⟩ := Lib.indexByte_some h
  have hi : i < s.data.toList.length := (List.getElem?_eq_some_iff.1 h1).1
  have hg : (bytesL s)[i]? = some (byteI c) := by
    show (s.data.toList.map byteI)[i]? = _
    rw [List.getElem?_map, h1]; rfl
  refine ⟨?_, fun x hx e => ?_⟩
  · have hlt : i < (bytesL s).length := (List.getElem?_eq_some_iff.1 hg).1
    have hge : (bytesL s)[i] = byteI c := by
      rw [List.getElem?_eq_getElem hlt] at hg
      exact Option.some.inj hg
    rw [← hge, ← List.drop_eq_getElem_cons hlt, List.take_append_drop]
  · obtain ⟨j, hj⟩ := List.mem_iff_getElem?.1 hx
    rw [List.getElem?_take] at hj
    split at hj
    · rename_i hji
      have hj' : (s.data.toList.map byteI)[j]? = some x := hj
      rw [List.getElem?_map] at hj'
      obtain ⟨b, hb, rfl⟩ := Option.map_eq_some_iff.1 hj'
      have hbc : b = c := by
        by_cases hbc : b = c
        · exact hbc
        · exact absurd e (byteI_ne hbc)
      rw [hbc] at hb
      exact h2 j hji hb
    · cases hj
theorem splitB_I (c : UInt8) : ∀ (k : Nat) (s : ByteArray), Lib.countB s ⟨#[c]⟩ = k → (Lib.splitB ⟨#[c]⟩ 0 k s).map bytesL = splitI (bytesL s) (byteI c) := by
  intro k
  induction k with
  | zero =>
    intro s hk
    rcases Lib.indexB_cases s ⟨#[c]⟩ with h | ⟨i, h, hi⟩
    · rw [Lib.splitB_zero, splitI_miss (no_byte (by rw [← indexB_byte]; exact h))]; rfl
    · rw [Lib.countB_hit s ⟨#[c]⟩ i (Nat.le_refl _) h] at hk
      omega
  | succ k ih =>
    intro s hk
    rcases Lib.indexB_cases s ⟨#[c]⟩ with h | ⟨i, h, hi⟩
    · rw [Lib.countB_miss s ⟨#[c]⟩ h] at hk
      cases hk
    · rw [Lib.countB_hit s ⟨#[c]⟩ i (Nat.le_refl _) h] at hk
      rw [Lib.splitB_hit _ _ _ _ _ h, List.map_cons, ih _ (by omega)]
      obtain ⟨h1, h2⟩ := at_byte (s := s) (c := c) (i := i) (by rw [← indexB_byte]; exact h)
      have e1 : bytesL (s.extract 0 (i + 0)) = (bytesL s).take i := by rw [bytes_extract, List.drop_zero, Nat.add_zero]
      have e2 : bytesL (s.extract (i + (⟨#[c]⟩ : ByteArray).size) s.size) = (bytesL s).drop (i + 1) := by
        rw [bytes_extract, List.take_of_length_le (by rw [bytes_len]; omega)]
        rfl
      rw [e1, e2]
      conv => rhs; rw [h1]
      rw [splitI_hit h2]
theorem mem_sum : ∀ {l : List Nat} {n : Nat}, n ∈ l → n ≤ l.sum
  | m :: l, n, h => by
    rw [List.sum_cons]
    rcases List.mem_cons.1 h with rfl | h
    · omega
    · have := mem_sum h; omega
def has_maxlen (T : Tab) : Prop := ∃ m : Int, (3, #[Value.int .i64 m]) ∈ T
def F_strings_Split_sig : Sig := ⟨[.v false [.d .str], .v false [.d .str]], [(false, [.own 9 .str])]⟩
def F_strings_Split (s t : List Int) : Option (List (List Int)) := match t with
  | [c] => cond (Nat.ble s.length 4000000000) (some (splitI s c)) none
  | _ => none
theorem F_strings_Split_sound {T : Tab} (h_maxlen : has_maxlen T) : SoundFn Tryd.prog T 90 F_strings_Split_sig ⟨F_strings_Split⟩ := by
  refine sound_of rfl fun F g O xs ls y tmf w args hT hw hlim hls happ hsz hr => ?_
  obtain ⟨(l : List Int), xs', rfl, h2⟩ := appF_inv_c (ts := [.str]) happ
  obtain ⟨(m : List Int), xs'', rfl, h2'⟩ := appF_inv_c (ts := []) h2
  obtain ⟨rfl, h3⟩ := appF_inv_n h2'
  have hls' : some [Leaf.d .str l, Leaf.d .str m] = some ls := hls
  injection hls' with hls'
  subst hls'
  obtain ⟨s, e0, e1, e2⟩ := rel_str (hr 0)
  obtain ⟨t, f0, f1, f2⟩ := rel_str (hr 1)
  rw [args_2 hsz, e0, f0]
  have h3 : F_strings_Split l m = some y := h3
  obtain ⟨c, rfl⟩ : ∃ c, m = [c] := by
    match m, h3 with
    | [], h3 => cases h3
    | [c], _ => exact ⟨c, rfl⟩
    | _ :: _ :: _, h3 => cases h3
  have h3 : cond (Nat.ble l.length 4000000000) (some (splitI l c)) none = some y := h3
  have htl := bytes_size f1
  obtain ⟨cb, rfl⟩ := Lib.one_byte t htl
  have hcb : byteI cb = c := by
    have : [byteI cb] = [c] := f1
    injection this
  cases hb : Nat.ble l.length 4000000000 with
  | false => rw [hb] at h3; cases h3
  | true =>
    rw [hb] at h3
    have hy : splitI l c = y := by injection h3
    have hle : l.length ≤ 4000000000 := Nat.le_of_ble_eq_true hb
    have hsl := bytes_size e1
    obtain ⟨mx, hmx⟩ := h_maxlen
    refine (Tryd.strings_Split s ⟨#[cb]⟩ mx w (by omega) (err_cell hT hmx) (Nat.le_refl _)).mono ?_
    rintro e w' ⟨rfl, rfl⟩
    have hmap : (Lib.splitB ⟨#[cb]⟩ 0 (Lib.countB s ⟨#[cb]⟩) s).map bytesL = y := by rw [splitB_I cb _ s rfl, e1, hcb, hy]
    have hsb := Lib.splitB_all ⟨#[cb]⟩ (Nat.le_refl _) 0 _ s rfl
    have hyl : List.length (α := List Int) y = Lib.countB s ⟨#[cb]⟩ + 1 := by
      rw [← hmap]
      show ((Lib.splitB ⟨#[cb]⟩ 0 (Lib.countB s ⟨#[cb]⟩) s).map bytesL).length = _
      rw [List.length_map]; exact hsb
    have hcn := Lib.countB_le ⟨#[cb]⟩ (Nat.le_refl _) s.size s (Nat.le_refl _)
    have hbel : Below w.heap.size w (w.alloc (.cells ((Lib.splitB ⟨#[cb]⟩ 0 (Lib.countB s ⟨#[cb]⟩) s).map Value.string).toArray 9)) := (Below.refl _ w).alloc (Nat.le_refl _) _
    have hnew := heap_alloc_new w (.cells ((Lib.splitB ⟨#[cb]⟩ 0 (Lib.countB s ⟨#[cb]⟩) s).map Value.string).toArray 9)
    generalize hSS : Lib.splitB ⟨#[cb]⟩ 0 (Lib.countB s ⟨#[cb]⟩) s = ss at *
    have hszs : ∀ (i : Nat) (x : ByteArray), ss[i]? = some x → bytesL x ∈ (show List (List Int) from y) := fun i x hi => by
      rw [← hmap]
      exact List.mem_map.2 ⟨x, List.mem_of_getElem? hi, rfl⟩
    have hmem : ∀ z ∈ (show List (List Int) from y), z.length ≤ l.length := fun z hz => by
      have h1 := splitI_sum l c
      rw [hy] at h1
      have h2 : z.length ≤ ((show List (List Int) from y).map List.length).sum := mem_sum (List.mem_map.2 ⟨z, hz, rfl⟩)
      have h3 : 1 ≤ List.length (α := List Int) y := by omega
      have h1 : ((show List (List Int) from y).map List.length).sum + List.length (α := List Int) y = l.length + 1 := h1
      omega
    have hcell : ∀ (i : Nat) (x : List Int), (show List (List Int) from y)[i]? = some x → ∃ s : ByteArray, ss[i]? = some s ∧ bytesL s = x := fun i x hx => by
      rw [← hmap, List.getElem?_map] at hx
      obtain ⟨q, h1, h2⟩ := Option.map_eq_some_iff.1 hx
      exact ⟨q, h1, h2⟩
    rw [← hyl]
    refine own_out (e := .str) (l := y) hw hlim hbel (Nat.le_refl _) hnew (Nat.le_refl _) (by rw [hyl]; unfold maxLen; omega) ?_ (fun i x hx => ?_) rfl rfl
    · show (ss.map Value.string).toArray.size = List.length (α := List Int) y * 1
      rw [hyl]
      simp [hsb]
    · obtain ⟨q, h1, h2⟩ := hcell i x hx
      refine ⟨q, ?_, h2, by rw [bytes_size h2]; have := hmem x (List.mem_of_getElem? hx); unfold maxLen; omega⟩
      show ((ss.map Value.string).toArray.toList.drop (i * 1)).take 1 = _
      rw [List.toList_toArray, Nat.mul_one]
      have hi : i < (ss.map Value.string).length := by
        rw [List.length_map]; exact (List.getElem?_eq_some_iff.1 h1).1
      rw [List.drop_eq_getElem_cons hi, List.take_succ_cons, List.take_zero]
      have : (ss.map Value.string)[i]? = some (.string q) := by rw [List.getElem?_map, h1]; rfl
      rw [List.getElem?_eq_getElem hi] at this
      rw [Option.some.inj this]
end Go.Proofs.YtblngdnndkljoaaDoor