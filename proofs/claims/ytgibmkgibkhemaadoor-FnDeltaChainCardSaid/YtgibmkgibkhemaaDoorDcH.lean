/- The tables of the delta's index; a hash's step leaves bit 31 clear. -/
import Derived.Test.YtgibmkgibkhemaaDoorDcM
import Derived.Laws.BitsAllLaws
import Derived.Laws.Tables
import Derived.Laws.Rows
namespace Go.Proofs.YtgibmkgibkhemaaDoor
open Go.RowKit
set_option linter.unusedSimpArgs false
set_option linter.unusedVariables false

def tL : List Nat := [0, 3569791789, 2102121847, 2844616282, 777066947, 4204243694, 1394265268, 2279374745, 1554133894, 2288287915, 568977137, 4113520092, 1928538693, 2788530536, 263782194, 3682487327, 1837290529, 3108267788, 281608534, 3289363067, 1137954274, 2534768335, 1050155157, 3932072888, 824240039, 3857077386, 1282093776, 2561507837, 527564388, 3417787721, 1647979283, 3070007358, 264444783, 3674581058, 1921568280, 2790161717, 563217068, 4115968385, 1557780443, 2283758838, 1398876393, 2275908548, 774569374, 4209790643, 2100310314, 2851504647, 8119389, 3569178480, 1648480078, 3062332515, 520755769, 3419187476, 1276171917, 2564187552, 828048378, 3852316887, 1055128776, 3928313829, 1135094207, 2540608146, 280159499, 3295958566, 1845047420, 3107947345, 528889566, 3410003443, 1657660329, 3054194820, 836185885, 3843136560, 1285356138, 2556053831, 1126434136, 2548217461, 1047515183, 3936969474, 1836391579, 3115560886, 272550380, 3304618689, 1912922879, 2797752786, 256849800, 3683222693, 1549138748, 2291353617, 555626059, 4124613990, 782684537, 4200620628, 1408041998, 2267789091, 16238778, 3560012695, 2109480397, 2843389664, 272969137, 3296960156, 1829697734, 3116911595, 1041511538, 3939665759, 1130356997, 2543407656, 1290214967, 2552343834, 833407808, 3848960109, 1656096756, 3060839641, 536728195, 3409666478, 2110257552, 2835434173, 9186535, 3561660362, 1402396755, 2270188414, 786248996, 4196107785, 560318998, 4121131323, 1546526561, 2296949836, 255120341, 3690094840, 1920927394, 2797188495, 1057779132, 3955941009, 1111996619, 2525039590, 291337343, 3315320658, 1813422344, 3100643877, 1672371770, 3077106967, 518359885, 3391305824, 1308575737, 2570712276, 817140366, 3832684963, 1385085341, 2252868272, 801467626, 4211335111, 2095030366, 2820215667, 26506537, 3578971652, 237799963, 3672783158, 1936154476, 2812406849, 545100760, 4105904373, 1563838127, 2314270082, 818902739, 3825845758, 1300538276, 2571243657, 513699600, 3394821181, 1674951271, 3071478090, 1819100501, 3098277496, 287739938, 3319800591, 1111252118, 2533027771, 1064798689, 3954260684, 1565369074, 2307592671, 537294725, 4106273960, 1931262769, 2816083996, 240610886, 3666992491, 32477556, 3576242777, 2091140099, 2825058094, 801015991, 4218960794, 1391812032, 2251550445, 545938274, 4098680911, 1572965909, 2298953016, 249250465, 3659395468, 1938855894, 2807440635, 2083023076, 2834226121, 23313811, 3584364222, 1383690535, 2260713994, 791848016, 4227078013, 1292406595, 2580429934, 809720372, 3833981209, 1666815616, 3080660397, 504513527, 3402952922, 296402117, 3312193512, 1826711986, 3089619615, 1073456390, 3946649131, 1118859377, 2524365660, 793329677, 4220515104, 1375901050, 2261001815, 18373070, 3588156131, 2085850297, 2828353428, 1944810379, 2804793510, 245409532, 3664123345, 1572497992, 2306660709, 552714047, 4097248274, 1120637996, 2517444353, 1065369947, 3947295350, 1822068207, 3093053122, 298932376, 3306679221, 510240682, 3400471687, 1663202013, 3085222384, 809025129, 3841854788, 1299409694, 2578831411]
def l8L : List Nat := [0, 1, 2, 2, 3, 3, 3, 3, 4, 4, 4, 4, 4, 4, 4, 4, 5, 5, 5, 5, 5, 5, 5, 5, 5, 5, 5, 5, 5, 5, 5, 5, 6, 6, 6, 6, 6, 6, 6, 6, 6, 6, 6, 6, 6, 6, 6, 6, 6, 6, 6, 6, 6, 6, 6, 6, 6, 6, 6, 6, 6, 6, 6, 6, 7, 7, 7, 7, 7, 7, 7, 7, 7, 7, 7, 7, 7, 7, 7, 7, 7, 7, 7, 7, 7, 7, 7, 7, 7, 7, 7, 7, 7, 7, 7, 7, 7, 7, 7, 7, 7, 7, 7, 7, 7, 7, 7, 7, 7, 7, 7, 7, 7, 7, 7, 7, 7, 7, 7, 7, 7, 7, 7, 7, 7, 7, 7, 7, 8, 8, 8, 8, 8, 8, 8, 8, 8, 8, 8, 8, 8, 8, 8, 8, 8, 8, 8, 8, 8, 8, 8, 8, 8, 8, 8, 8, 8, 8, 8, 8, 8, 8, 8, 8, 8, 8, 8, 8, 8, 8, 8, 8, 8, 8, 8, 8, 8, 8, 8, 8, 8, 8, 8, 8, 8, 8, 8, 8, 8, 8, 8, 8, 8, 8, 8, 8, 8, 8, 8, 8, 8, 8, 8, 8, 8, 8, 8, 8, 8, 8, 8, 8, 8, 8, 8, 8, 8, 8, 8, 8, 8, 8, 8, 8, 8, 8, 8, 8, 8, 8, 8, 8, 8, 8, 8, 8, 8, 8, 8, 8, 8, 8, 8, 8, 8, 8, 8, 8, 8, 8, 8, 8, 8, 8, 8, 8]
def tArr : Array Value := (tL.map fun x : Nat => Value.int .u32 (x : Int)).toArray
def l8Arr : Array Value := (l8L.map fun x : Nat => Value.int .u8 (x : Int)).toArray
theorem tArr_size : tArr.size = 256 := by kernel_rfl
theorem l8Arr_size : l8Arr.size = 256 := by kernel_rfl
theorem tL_len : tL.length = 256 := by kernel_rfl
theorem l8L_len : l8L.length = 256 := by kernel_rfl
theorem tArr_at (i : Nat) (h : i < 256) : tArr[i]? = some (.int .u32 (tL.getD i 0 : Nat)) := by
  unfold tArr
  rw [List.getElem?_toArray, List.getElem?_map, List.getD_eq_getElem?_getD, List.getElem?_eq_getElem (by rw [tL_len]; exact h)]
  rfl
theorem l8Arr_at (i : Nat) (h : i < 256) : l8Arr[i]? = some (.int .u8 (l8L.getD i 0 : Nat)) := by
  unfold l8Arr
  rw [List.getElem?_toArray, List.getElem?_map, List.getD_eq_getElem?_getD, List.getElem?_eq_getElem (by rw [l8L_len]; exact h)]
  rfl
theorem tArr_one : tArr.all (·.oneCell') = true := by kernel_rfl
theorem l8Arr_one : l8Arr.all (·.oneCell') = true := by kernel_rfl
/-- Each value of the table: below 2^32, its bit 31 set just if its place is odd. -/
theorem tL_bit : ∀ i, i < 256 → tL.getD i 0 < 4294967296 ∧ (tL.getD i 0 / 2147483648 = i % 2) := by
  have h : ((List.range 256).all fun i => decide (tL.getD i 0 < 4294967296 ∧ (tL.getD i 0 / 2147483648 = i % 2))) = true := by kernel_rfl
  intro i hi
  have := List.all_eq_true.mp h i (List.mem_range.mpr hi)
  exact of_decide_eq_true this
theorem l8L_small : ∀ i, 1 ≤ i → i < 64 → 1 ≤ l8L.getD i 0 ∧ l8L.getD i 0 ≤ 6 := by
  have h : ((List.range 64).all fun i => decide (1 ≤ i → 1 ≤ l8L.getD i 0 ∧ l8L.getD i 0 ≤ 6)) = true := by kernel_rfl
  intro i h1 hi
  have := List.all_eq_true.mp h i (List.mem_range.mpr hi)
  exact of_decide_eq_true this h1
theorem top_clear {z : Nat} (h : z < 4294967296) (hb : z.testBit 31 = false) : z < 2147483648 := by
  refine Nat.lt_pow_two_of_testBit (n := 31) z fun i hi => ?_
  by_cases h31 : i = 31
  · rw [h31]; exact hb
  · refine Nat.testBit_lt_two_pow (Nat.lt_of_lt_of_le h ?_)
    exact Nat.le_trans (show 4294967296 ≤ 2 ^ 32 by decide) (Nat.pow_le_pow_right (by decide) (by omega))
theorem bit31 (v : Nat) (h : v < 4294967296) : v.testBit 31 = decide (v / 2147483648 = 1) := by
  rw [Nat.testBit_eq_decide_div_mod_eq]
  have : v / 2 ^ 31 < 2 := by omega
  rw [Nat.mod_eq_of_lt this]
/-- One step of the hash. -/
theorem hash_step (h x : Nat) (hh : h < 2147483648) (hx : x < 256) :
    ∃ z : Nat, bits .xor .u32 (bits .or .u32 (IntKind.u32.wrap ((h : Int) * 2 ^ 8)) (x : Int)) ((tL.getD (h / 8388608) 0 : Nat) : Int) = (z : Int) ∧ z < 2147483648 := by
  have hi : h / 8388608 < 256 := by omega
  obtain ⟨t1, t2⟩ := tL_bit (h / 8388608) hi
  generalize tL.getD (h / 8388608) 0 = t at t1 t2 ⊢
  have e1 : IntKind.u32.wrap ((h : Int) * 2 ^ 8) = ((h * 256 % 4294967296 : Nat) : Int) := by
    rw [IntKind.wrap_u32]; omega
  have hs : h * 256 % 4294967296 < 4294967296 := Nat.mod_lt _ (by decide)
  have ho : (h * 256 % 4294967296) ||| x < 4294967296 := Nat.or_lt_two_pow (n := 32) hs (by omega)
  have hz : ((h * 256 % 4294967296) ||| x) ^^^ t < 4294967296 := Nat.xor_lt_two_pow (n := 32) ho t1
  refine ⟨((h * 256 % 4294967296) ||| x) ^^^ t, ?_, top_clear hz ?_⟩
  · rw [e1, u32_or_nat _ _ hs (by omega), u32_xor_nat _ _ ho t1]
  · have b1 : x.testBit 31 = false := Nat.testBit_lt_two_pow (by omega)
    rw [Nat.testBit_xor, Nat.testBit_or, b1, Bool.or_false, bit31 _ hs, bit31 _ t1, t2]
    have e2 : h * 256 % 4294967296 / 2147483648 = h / 8388608 % 2 := by omega
    rw [e2, Bool.xor_self]
theorem hash_first (h : Nat) (hh : h < 4294967296) : ∃ z : Nat, bits .xor .u32 (h : Int) ((tL.getD (h / 2147483648) 0 : Nat) : Int) = (z : Int) ∧ z < 2147483648 := by
  obtain ⟨t1, t2⟩ := tL_bit (h / 2147483648) (by omega)
  generalize tL.getD (h / 2147483648) 0 = t at t1 t2 ⊢
  have hz : h ^^^ t < 4294967296 := Nat.xor_lt_two_pow (n := 32) hh t1
  refine ⟨h ^^^ t, u32_xor_nat _ _ hh t1, top_clear hz ?_⟩
  rw [Nat.testBit_xor, bit31 _ hh, bit31 _ t1, t2]
  have e2 : h / 2147483648 % 2 = h / 2147483648 := by omega
  rw [e2, Bool.xor_self]
end Go.Proofs.YtgibmkgibkhemaaDoor
