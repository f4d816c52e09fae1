/- Contracts of strings.ToLower at text of bytes below 128 (of at most 2^47 bytes) and of the reference's lower (of at most 2^47 bytes), in the form that the printed texts use. The first is the library's own, laid by its tool in plain words. -/
import Derived.Shelf.Strings.OnBuilder
import Derived.Test.YteffbgjfhbgooaaDoorH0
import Derived.Test.YteffbgjfhbgooaaDoorB
namespace Go.Proofs
open Go.Shelf
def Tryd.lays159_ren : Go.Shelf.Ren := ⟨fun | 159 => 46 | 165 => 52 | 166 => 53 | 167 => 54 | 169 => 55 | 230 => 56 | 204 => 57 | 240 => 61 | 241 => 62 | 197 => 50 | 118 => 63 | 168 => 64 | 270 => 65 | 262 => 66 | 276 => 69 | 277 => 70 | 260 => 60 | 242 => 71 | 313 => 72 | 278 => 84 | 274 => 85 | 275 => 86 | n => n, fun | 9 => 9 | 4 => 4 | 3 => 3 | 5 => 5 | 72 => 50 | 0 => 0 | 76 => 54 | 75 => 53 | 107 => 59 | 70 => 48 | 20 => 20 | 37 => 28 | 127 => 61 | 21 => 21 | 105 => 46 | 164 => 73 | 162 => 79 | 203 => 77 | 119 => 69 | 46 => 68 | 139 => 72 | 138 => 71 | 51 => 90 | 160 => 93 | 208 => 106 | 206 => 104 | 80 => 57 | n => n, fun | 13 => 2 | 3 => 0 | 4 => 1 | n => n⟩
theorem Tryd.lays159 : Go.Proofs.Lays.n159 Tryd.prog Tryd.lays159_ren := {
  mixed := by kernel_rfl
  f118 := Tryd.func63.trans (congrArg some (by kernel_rfl))
  f159 := Tryd.func46.trans (congrArg some (by kernel_rfl))
  f165 := Tryd.func52.trans (congrArg some (by kernel_rfl))
  f166 := Tryd.func53.trans (congrArg some (by kernel_rfl))
  f167 := Tryd.func54.trans (congrArg some (by kernel_rfl))
  f168 := Tryd.func64.trans (congrArg some (by kernel_rfl))
  f169 := Tryd.func55.trans (congrArg some (by kernel_rfl))
  f197 := Tryd.func50.trans (congrArg some (by kernel_rfl))
  f204 := Tryd.func57.trans (congrArg some (by kernel_rfl))
  f230 := Tryd.func56.trans (congrArg some (by kernel_rfl))
  f240 := Tryd.func61.trans (congrArg some (by kernel_rfl))
  f241 := Tryd.func62.trans (congrArg some (by kernel_rfl))
  f242 := Tryd.func71.trans (congrArg some (by kernel_rfl))
  f260 := Tryd.func60.trans (congrArg some (by kernel_rfl))
  f262 := Tryd.func66.trans (congrArg some (by kernel_rfl))
  f270 := Tryd.func65.trans (congrArg some (by kernel_rfl))
  f274 := Tryd.func85.trans (congrArg some (by kernel_rfl))
  f275 := Tryd.func86.trans (congrArg some (by kernel_rfl))
  f276 := Tryd.func69.trans (congrArg some (by kernel_rfl))
  f277 := Tryd.func70.trans (congrArg some (by kernel_rfl))
  f278 := Tryd.func84.trans (congrArg some (by kernel_rfl))
  f313 := Tryd.func72.trans (congrArg some (by kernel_rfl))
  t0 := Tryd.underlying0
  a0 := Tryd.isAgg0
  z0 := Tryd.sizeOf0
  v0 := Tryd.zeroValue0
  t3 := Tryd.underlying3
  a3 := Tryd.isAgg3
  z3 := Tryd.sizeOf3
  v3 := Tryd.zeroValue3
  t4 := Tryd.underlying4
  a4 := Tryd.isAgg4
  z4 := Tryd.sizeOf4
  v4 := Tryd.zeroValue4
  t5 := Tryd.underlying5
  a5 := Tryd.isAgg5
  z5 := Tryd.sizeOf5
  v5 := Tryd.zeroValue5
  t9 := Tryd.underlying9
  a9 := Tryd.isAgg9
  z9 := Tryd.sizeOf9
  v9 := Tryd.zeroValue9
  t20 := Tryd.underlying20
  a20 := Tryd.isAgg20
  z20 := Tryd.sizeOf20
  v20 := Tryd.zeroValue20
  t21 := Tryd.underlying21
  a21 := Tryd.isAgg21
  z21 := Tryd.sizeOf21
  v21 := Tryd.zeroValue21
  t37 := Tryd.underlying28
  a37 := Tryd.isAgg28
  z37 := Tryd.sizeOf28
  v37 := Tryd.zeroValue28
  t46 := Tryd.underlying68
  a46 := Tryd.isAgg68
  z46 := Tryd.sizeOf68
  v46 := Tryd.zeroValue68
  t51 := Tryd.underlying90
  a51 := Tryd.isAgg90
  z51 := Tryd.sizeOf90
  v51 := Tryd.zeroValue90
  t70 := Tryd.underlying48
  a70 := Tryd.isAgg48
  z70 := Tryd.sizeOf48
  v70 := Tryd.zeroValue48
  t72 := Tryd.underlying50
  a72 := Tryd.isAgg50
  z72 := Tryd.sizeOf50
  v72 := Tryd.zeroValue50
  t75 := Tryd.underlying53
  a75 := Tryd.isAgg53
  z75 := Tryd.sizeOf53
  v75 := Tryd.zeroValue53
  t76 := Tryd.underlying54
  a76 := Tryd.isAgg54
  z76 := Tryd.sizeOf54
  v76 := Tryd.zeroValue54
  t105 := Tryd.underlying46
  a105 := Tryd.isAgg46
  z105 := Tryd.sizeOf46
  v105 := Tryd.zeroValue46
  t107 := Tryd.underlying59
  a107 := Tryd.isAgg59
  z107 := Tryd.sizeOf59
  v107 := Tryd.zeroValue59
  t119 := Tryd.underlying69
  a119 := Tryd.isAgg69
  z119 := Tryd.sizeOf69
  t127 := Tryd.underlying61
  a127 := Tryd.isAgg61
  z127 := Tryd.sizeOf61
  v127 := Tryd.zeroValue61
  t138 := Tryd.underlying71
  a138 := Tryd.isAgg71
  z138 := Tryd.sizeOf71
  v138 := Tryd.zeroValue71
  t139 := Tryd.underlying72
  a139 := Tryd.isAgg72
  z139 := Tryd.sizeOf72
  v139 := Tryd.zeroValue72
  t160 := Tryd.underlying93
  a160 := Tryd.isAgg93
  z160 := Tryd.sizeOf93
  v160 := Tryd.zeroValue93
  t162 := Tryd.underlying79
  a162 := Tryd.isAgg79
  z162 := Tryd.sizeOf79
  v162 := Tryd.zeroValue79
  t164 := Tryd.underlying73
  a164 := Tryd.isAgg73
  z164 := Tryd.sizeOf73
  v164 := Tryd.zeroValue73
  t203 := Tryd.underlying77
  a203 := Tryd.isAgg77
  z203 := Tryd.sizeOf77
  v203 := Tryd.zeroValue77
  t206 := Tryd.underlying104
  a206 := Tryd.isAgg104
  z206 := Tryd.sizeOf104
  v206 := Tryd.zeroValue104
  t208 := Tryd.underlying106
  a208 := Tryd.isAgg106
  z208 := Tryd.sizeOf106
  v208 := Tryd.zeroValue106
  g3 := by kernel_rfl
  g4 := by kernel_rfl
  g13 := by kernel_rfl }
theorem Tryd.Builder_Extra_159 : Builder.Extra Tryd.prog Tryd.lays159_ren := {
  sizeBuilder := by kernel_rfl
  liesBuilder := by kernel_rfl
  t5 := Tryd.underlying5
  a5 := Tryd.isAgg5
  z5 := Tryd.sizeOf5
  v5 := Tryd.zeroValue5
  infoByte := by kernel_rfl
  cellsByte := by kernel_rfl
  sizeByte := by kernel_rfl
  neB5 := by decide }
open Go.RowKit in
/-- strings.ToLower: "ToLower returns s with all Unicode letters mapped to their lower case.": ON ASCII TEXT OF AT MOST 2^47 BYTES. Below the heap's end the world is as it was: where a letter turns, the call makes a builder and its buffer. (LAID: no walk: one application.) -/
theorem Tryd.strings_ToLower_ascii (s : ByteArray) (w : World) (hs : s.size ≤ 140737488355328) (hascii : ∀ (j : Nat) (b : UInt8), s.data.toList[j]? = some b → b.toNat < 128) :
    Calls Tryd.prog 46 #[.string s] w fun e w' => e = .returned (.string ⟨(Lib.toLowerA s.data.toList).toArray⟩) ∧ Below w.heap.size w w' := Any.strings_ToLower_ascii Tryd.lays159 Tryd.Builder_Extra_159 s w hs hascii
end Go.Proofs
namespace Go.Proofs.YteffbgjfhbgooaaDoorH
open Go.RowKit Go.Proofs.YteffbgjfhbgooaaDoorW.PrintWords Go.Proofs.YteffbgjfhbgooaaDoorB

def strings_ToLower.f (a0 : ByteArray) : Option ByteArray :=
  if a0.size ≤ 140737488355328 ∧ ∀ x ∈ bytesOf a0, x ≤ 127 then some ⟨(Lib.toLowerA a0.data.toList).toArray⟩ else none
theorem strings_ToLower.calls (a0 : ByteArray) (r : ByteArray) (w : World) (h : strings_ToLower.f a0 = some r) :
    Calls Tryd.prog 46 #[.string a0] w fun e w' => e = .returned (.string r) ∧ Below w.heap.size w w' := by
  unfold strings_ToLower.f at h
  by_cases hc : a0.size ≤ 140737488355328 ∧ ∀ x ∈ bytesOf a0, x ≤ 127
  · rw [if_pos hc] at h
    obtain rfl := Option.some.inj h
    refine Tryd.strings_ToLower_ascii a0 w hc.1 (fun j b hb => ?_)
    have hm : (b.toNat : Int) ∈ bytesOf a0 := List.mem_map.2 ⟨b, List.mem_of_getElem? hb, rfl⟩
    have := hc.2 _ hm
    omega
  · rw [if_neg hc] at h
    cases h
theorem toLower_B (s : ByteArray) : bytesOf (⟨(Lib.toLowerA s.data.toList).toArray⟩ : ByteArray) = (bytesOf s).map low := by
  simp only [bytesOf, Lib.toLowerA, List.map_map]
  refine List.map_congr_left (fun b _ => ?_)
  simp only [Function.comp, Lib.lowerB, low]
  by_cases h : 65 ≤ b.toNat ∧ b.toNat ≤ 90
  · have h1 : Lib.isUpperB b = true := by
      unfold Lib.isUpperB
      rw [Bool.and_eq_true, decide_eq_true_iff, decide_eq_true_iff, UInt8.le_iff_toNat_le, UInt8.le_iff_toNat_le]
      exact h
    rw [if_pos h1, if_pos (by omega), UInt8.toNat_add]
    have : (32 : UInt8).toNat = 32 := rfl
    omega
  · have h1 : ¬ Lib.isUpperB b = true := by
      unfold Lib.isUpperB
      rw [Bool.and_eq_true, decide_eq_true_iff, decide_eq_true_iff, UInt8.le_iff_toNat_le, UInt8.le_iff_toNat_le]
      exact h
    rw [if_neg h1, if_neg (by omega)]

def spec_lower.f (a0 : ByteArray) : Option ByteArray := if a0.size ≤ 140737488355328 then some (strOfNums ((bytesOf a0).map low)) else none
set_option maxHeartbeats 4000000 in
set_option maxRecDepth 100000 in
theorem spec_lower.calls (a0 : ByteArray) (r : ByteArray) (w : World) (h : spec_lower.f a0 = some r) :
    Calls Tryd.prog 34 #[.string a0] w fun e w' => e = .returned (.string r) ∧ Below w.heap.size w w' := by
  unfold spec_lower.f at h
  by_cases hs : a0.size ≤ 140737488355328
  · rw [if_pos hs] at h
    obtain rfl := Option.some.inj h
    clear h
    have kb := fun W => print_bytes (P := Tryd.prog) 9 28 5 Tryd.underlying9 Tryd.underlying28 Tryd.underlying5 a0 W
    go_enter Tryd.func34, Tryd.ntmps34
    go_wp2
    have hn : (bytesOf a0).length = a0.size := bytesOf_length a0
    have hB := Buf.made w 5 a0
    have hW : Below w.heap.size w (Lib.bytesWorld w 5 a0) := bytes_below (Below.refl _ _) (Nat.le_refl _) 5 a0
    clear kb
    have HN := Aside0.mk hn
    clear hn
    go_loopw [4] (fun i wr => ∃ k : Nat, k ≤ a0.size ∧ i = .int .i64 k ∧ Aside0 (Buf wr w.heap.size 5 (((bytesOf a0).take k).map low ++ (bytesOf a0).drop k)) ∧ Aside0 (Below w.heap.size w wr)) (fun i _ => a0.size - (intOf i).toNat)
    case atStart => exact ⟨0, Nat.zero_le _, rfl, ⟨by simpa using hB⟩, ⟨hW⟩⟩
    case round =>
      clear hB hW
      obtain ⟨k, hk, rfl, hb, hw⟩ := hrel
      by_cases hlt : k < a0.size
      · have hl : k < (bytesOf a0).length := by rw [HN.out]; exact hlt
        have hl2 : k < (((bytesOf a0).take k).map low ++ (bytesOf a0).drop k).length := by rw [mapTake_len]; exact hl
        have hc := hb.out.cell k hl2
        rw [mapTake_at low _ k hl] at hc
        have hf := hb.out.free k hl2
        have hrd : (bytesOf a0).getD k 0 = bt a0 k := by
          have := rd_bytesOf a0 k
          simpa [rd] using this
        rw [hrd] at hc
        have hset := hb.out.set k (low ((bytesOf a0).getD k 0)) hl2
        rw [← mapTake_succ low _ k hl, hrd] at hset
        have hsame := mapTake_same low (bytesOf a0) k hl
        rw [hrd] at hsame
        by_cases hp : 65 ≤ bt a0 k ∧ bt a0 k ≤ 90
        · have hv : low (bt a0 k) = bt a0 k + 32 := by unfold low; rw [if_pos hp]
          rw [hv] at hset
          have HS := Aside0.mk hset
          clear hset hsame hb hrd hv hl hl2
          have hw2 : Below w.heap.size w (wr.setCell ⟨w.heap.size, k, none⟩ (.int .u8 (bt a0 k + 32))) := hw.out.setCell (Nat.le_refl _) _
          have HW2 := Aside0.mk hw2
          clear hw2 hw
          have b1 : decide (65 ≤ bt a0 k) = true := decide_eq_true hp.1
          have b2 : decide (bt a0 k ≤ 90) = true := decide_eq_true hp.2
          have b3 : (bt a0 k + 32) % 256 = bt a0 k + 32 := by omega
          obtain ⟨c, hcc⟩ : ∃ c, c = bt a0 k := ⟨_, rfl⟩
          go_wp2
          go_roundw
          case rel => exact ⟨k + 1, by omega, by go_num, HS, HW2⟩
          case measure => simp [intOf]; omega
        · have hv : low (bt a0 k) = bt a0 k := by unfold low; rw [if_neg hp]
          have hb2 := hb.out
          rw [← hsame hv] at hb2
          have HS := Aside0.mk hb2
          clear hset hsame hb hb2 hrd hv hl hl2
          by_cases h65 : 65 ≤ bt a0 k
          · have b1 : decide (65 ≤ bt a0 k) = true := decide_eq_true h65
            have b2 : decide (bt a0 k ≤ 90) = false := decide_eq_false (fun h => hp ⟨h65, h⟩)
            clear hp h65
            go_wp2
            go_roundw
            case rel => exact ⟨k + 1, by omega, by go_num, HS, hw⟩
            case measure => simp [intOf]; omega
          · have b1 : decide (65 ≤ bt a0 k) = false := decide_eq_false h65
            clear hp h65
            go_wp2
            go_roundw
            case rel => exact ⟨k + 1, by omega, by go_num, HS, hw⟩
            case measure => simp [intOf]; omega
      · obtain rfl : k = a0.size := by omega
        have hb2 := hb.out
        rw [List.take_of_length_le (by rw [HN.out]; exact Nat.le_refl _), List.drop_of_length_le (by rw [HN.out]; exact Nat.le_refl _), List.append_nil] at hb2
        have hr := hb2.reads (by rw [List.length_map, HN.out]; omega)
        rw [List.length_map, HN.out] at hr
        have hcv := string_of_reads (P := Tryd.prog) (c := grownCap w a0.size 0 5) Tryd.underlying28 Tryd.underlying5 Tryd.underlying9 hr
        clear hb hb2 hr
        go_wp2
        go_ret
        exact ⟨rfl, hw.out⟩
  · rw [if_neg hs] at h
    cases h


/-- A []string that came in, as a row that is read. -/
theorem C_of_strings {w : World} {a : Option Addr} {len cap : Nat} {zs : List ByteArray} (h : (a = none ∧ len = 0 ∧ cap = 0 ∧ zs = []) ∨ ∃ x, a = some x ∧ len ≤ cap ∧ cap ≤ maxLen ∧ zs.length = cap ∧ (∀ i, i < zs.length → w.cell? (x.add i) = some (.string (zs.getD i ByteArray.empty))) ∧ ∀ s ∈ zs, s.size ≤ maxLen) :
    ∃ l : List ByteArray, len = l.length ∧ Kd.C Kd.string w a l.length l ∧ l.length ≤ maxLen ∧ l.length ≤ cap := by
  rcases h with ⟨rfl, rfl, rfl, rfl⟩ | ⟨x, rfl, hl, hm, hz, hc, hw⟩
  · exact ⟨[], rfl, ⟨rfl, Nat.zero_le _, fun h => absurd h (Nat.lt_irrefl _)⟩, Nat.zero_le _, Nat.zero_le _⟩
  · have e : (zs.take len).length = len := by simp; omega
    have hm' : len ≤ maxLen := Nat.le_trans hl hm
    refine ⟨zs.take len, e.symm, ⟨rfl, by rw [e]; simpa [maxLen] using hm', fun _ => ⟨x, rfl, fun j p hj => ⟨[.string p], rfl, rfl, fun i u hu => ?_⟩⟩⟩, by rw [e]; exact hm', by rw [e]; exact hl⟩
    obtain ⟨hl2, hp⟩ := List.getElem?_eq_some_iff.1 hj
    rw [e] at hl2
    have h2 := hc j (by omega)
    have hj2 : zs[j]? = some p := by rw [List.getElem?_take, if_pos hl2] at hj; exact hj
    rw [List.getD_eq_getElem?_getD, hj2] at h2
    cases i with
    | zero =>
      have hu2 : Value.string p = u := by simpa using hu
      subst hu2
      have e1 : Kd.string.sz = 1 := rfl
      rw [e1, Nat.mul_one, Nat.add_zero]
      exact h2
    | succ i => simp at hu
end Go.Proofs.YteffbgjfhbgooaaDoorH
