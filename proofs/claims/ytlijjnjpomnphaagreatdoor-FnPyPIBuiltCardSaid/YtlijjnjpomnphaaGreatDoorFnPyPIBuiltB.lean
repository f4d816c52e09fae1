/- Proved here, for the row of the law FnPyPIBuilt: contracts of the Go functions that it reaches, each as its theorem 'calls' says, and the words and plain laws that they need (Sx3, Sx4, Sx5). -/
import Derived.Test.YtlijjnjpomnphaaGreatDoorFnPyPIBuiltA
set_option linter.unusedVariables false
set_option linter.unusedSimpArgs false
set_option maxHeartbeats 8000000
set_option maxRecDepth 100000
section
namespace Go.Proofs.YtlijjnjpomnphaaGreatDoor.S
open Go.RowKit YtlijjnjpomnphaaGreatDoorH YtlijjnjpomnphaaGreatDoorW.PrintWords YtlijjnjpomnphaaGreatDoorW.PrintLast YtlijjnjpomnphaaGreatDoorW.PrintMore YtlijjnjpomnphaaGreatDoorC
attribute [local go_sem] zgd zhd zbe zce zxc zyc zfd zid
mutual
def zb.j0 : Nat → ByteArray → Int → Bool → Bool → ByteArray → ByteArray → ByteArray → ByteArray → ByteArray → ByteArray → ByteArray → ByteArray → ByteArray → ByteArray → Option (Bool × ByteArray × ByteArray × ByteArray × ByteArray × ByteArray × ByteArray × ByteArray × ByteArray × ByteArray × ByteArray)
 | 0, _, _, _, _, _, _, _, _, _, _, _, _, _, _ => none
 | k + 1, x0, x4, x18, x110000, x110001, x110002, x110003, x110004, x110005, x110006, x110007, x110008, x110009, x110010 => if x18 = true then (zb.j1 k x0 (wrap64 (x4 + 1)) x110000 x110001 x110002 x110003 x110004 x110005 x110006 x110007 x110008 x110009 x110010) else (zb.j1 k x0 x4 x110000 x110001 x110002 x110003 x110004 x110005 x110006 x110007 x110008 x110009 x110010)
def zb.j1 : Nat → ByteArray → Int → Bool → ByteArray → ByteArray → ByteArray → ByteArray → ByteArray → ByteArray → ByteArray → ByteArray → ByteArray → ByteArray → Option (Bool × ByteArray × ByteArray × ByteArray × ByteArray × ByteArray × ByteArray × ByteArray × ByteArray × ByteArray × ByteArray)
 | 0, _, _, _, _, _, _, _, _, _, _, _, _, _ => none
 | k + 1, x0, x4, x110000, x110001, x110002, x110003, x110004, x110005, x110006, x110007, x110008, x110009, x110010 => (zq.f k x0 x4).bind fun t111 => (if t111 > x4 then (if t111 < (x0.size : Int) then (if 0 ≤ t111 then (zb.j2 k x0 x4 t111 ((bt x0 t111) == 33) x110000 x110001 x110002 x110003 x110004 x110005 x110006 x110007 x110008 x110009 x110010) else (none)) else (zb.j2 k x0 x4 t111 false x110000 x110001 x110002 x110003 x110004 x110005 x110006 x110007 x110008 x110009 x110010)) else (zb.j2 k x0 x4 t111 false x110000 x110001 x110002 x110003 x110004 x110005 x110006 x110007 x110008 x110009 x110010))
def zb.j2 : Nat → ByteArray → Int → Int → Bool → Bool → ByteArray → ByteArray → ByteArray → ByteArray → ByteArray → ByteArray → ByteArray → ByteArray → ByteArray → ByteArray → Option (Bool × ByteArray × ByteArray × ByteArray × ByteArray × ByteArray × ByteArray × ByteArray × ByteArray × ByteArray × ByteArray)
 | 0, _, _, _, _, _, _, _, _, _, _, _, _, _, _, _ => none
 | k + 1, x0, x4, x5, x38, x110000, x110001, x110002, x110003, x110004, x110005, x110006, x110007, x110008, x110009, x110010 => if x38 = true then (if 0 ≤ x4 then (if x4 ≤ x5 then (if x5 ≤ (x0.size : Int) then ((zq.f k x0 (wrap64 (x5 + 1))).bind fun t112 => (zb.j3 k x0 (wrap64 (x5 + 1)) t112 x110000 (x0.extract (x4 : Int).toNat (x5 : Int).toNat) x110002 x110003 x110004 x110005 x110006 x110007 x110008 x110009 x110010)) else (none)) else (none)) else (none)) else (zb.j3 k x0 x4 x5 x110000 x110001 x110002 x110003 x110004 x110005 x110006 x110007 x110008 x110009 x110010)
def zb.j3 : Nat → ByteArray → Int → Int → Bool → ByteArray → ByteArray → ByteArray → ByteArray → ByteArray → ByteArray → ByteArray → ByteArray → ByteArray → ByteArray → Option (Bool × ByteArray × ByteArray × ByteArray × ByteArray × ByteArray × ByteArray × ByteArray × ByteArray × ByteArray × ByteArray)
 | 0, _, _, _, _, _, _, _, _, _, _, _, _, _, _ => none
 | k + 1, x0, x4, x5, x110000, x110001, x110002, x110003, x110004, x110005, x110006, x110007, x110008, x110009, x110010 => if x5 = x4 then (some (false, (⟨#[]⟩ : ByteArray), (⟨#[]⟩ : ByteArray), (⟨#[]⟩ : ByteArray), (⟨#[]⟩ : ByteArray), (⟨#[]⟩ : ByteArray), (⟨#[]⟩ : ByteArray), (⟨#[]⟩ : ByteArray), (⟨#[]⟩ : ByteArray), (⟨#[]⟩ : ByteArray), (⟨#[]⟩ : ByteArray))) else (zb.l0 k x0 x4 x5 x110000 x110001 x110002 x110003 x110004 x110005 x110006 x110007 x110008 x110009 x110010)
def zb.j5 : Nat → ByteArray → Int → Int → Bool → ByteArray → ByteArray → ByteArray → ByteArray → ByteArray → ByteArray → ByteArray → ByteArray → ByteArray → ByteArray → Option (Bool × ByteArray × ByteArray × ByteArray × ByteArray × ByteArray × ByteArray × ByteArray × ByteArray × ByteArray × ByteArray)
 | 0, _, _, _, _, _, _, _, _, _, _, _, _, _, _ => none
 | k + 1, x0, x4, x5, x110000, x110001, x110002, x110003, x110004, x110005, x110006, x110007, x110008, x110009, x110010 => if 0 ≤ x4 then (if x4 ≤ x5 then (if x5 ≤ (x0.size : Int) then ((zn.f k x0 x5 (([(⟨#[97, 108, 112, 104, 97]⟩ : ByteArray), (⟨#[98, 101, 116, 97]⟩ : ByteArray), (⟨#[112, 114, 101, 118, 105, 101, 119]⟩ : ByteArray), (⟨#[112, 114, 101]⟩ : ByteArray), (⟨#[114, 99]⟩ : ByteArray), (⟨#[97]⟩ : ByteArray), (⟨#[98]⟩ : ByteArray), (⟨#[99]⟩ : ByteArray)] : List ByteArray))).bind fun bt118 => (if (wrap64 (bt118.2.2 + 1)) < (x0.size : Int) then (if 0 ≤ bt118.2.2 then (if bt118.2.2 < (x0.size : Int) then (if (bt x0 bt118.2.2) = 45 then (if 0 ≤ (wrap64 (bt118.2.2 + 1)) then ((zdb.f (bt x0 (wrap64 (bt118.2.2 + 1)))).bind fun t121 => (zb.j6 k x0 bt118.2.2 t121 x110000 x110001 (x0.extract (x4 : Int).toNat (x5 : Int).toNat) bt118.1 bt118.2.1 x110005 x110006 x110007 x110008 x110009 x110010)) else (none)) else (zb.j6 k x0 bt118.2.2 false x110000 x110001 (x0.extract (x4 : Int).toNat (x5 : Int).toNat) bt118.1 bt118.2.1 x110005 x110006 x110007 x110008 x110009 x110010)) else (none)) else (none)) else (zb.j6 k x0 bt118.2.2 false x110000 x110001 (x0.extract (x4 : Int).toNat (x5 : Int).toNat) bt118.1 bt118.2.1 x110005 x110006 x110007 x110008 x110009 x110010))) else (none)) else (none)) else (none)
def zb.j6 : Nat → ByteArray → Int → Bool → Bool → ByteArray → ByteArray → ByteArray → ByteArray → ByteArray → ByteArray → ByteArray → ByteArray → ByteArray → ByteArray → Option (Bool × ByteArray × ByteArray × ByteArray × ByteArray × ByteArray × ByteArray × ByteArray × ByteArray × ByteArray × ByteArray)
 | 0, _, _, _, _, _, _, _, _, _, _, _, _, _, _ => none
 | k + 1, x0, x4, x107, x110000, x110001, x110002, x110003, x110004, x110005, x110006, x110007, x110008, x110009, x110010 => if x107 = true then ((zq.f k x0 (wrap64 (x4 + 1))).bind fun t122 => (if 0 ≤ (wrap64 (x4 + 1)) then (if (wrap64 (x4 + 1)) ≤ t122 then (if t122 ≤ (x0.size : Int) then (zb.j7 k x0 t122 x110000 x110001 x110002 x110003 x110004 (x0.extract ((wrap64 (x4 + 1)) : Int).toNat (t122 : Int).toNat) x110006 x110007 x110008 x110009 x110010) else (none)) else (none)) else (none))) else ((zn.f k x0 x4 (([(⟨#[112, 111, 115, 116]⟩ : ByteArray), (⟨#[114, 101, 118]⟩ : ByteArray), (⟨#[114]⟩ : ByteArray)] : List ByteArray))).bind fun bt126 => (zb.j7 k x0 bt126.2.2 x110000 x110001 x110002 x110003 x110004 x110005 bt126.2.1 bt126.1 x110008 x110009 x110010))
def zb.j7 : Nat → ByteArray → Int → Bool → ByteArray → ByteArray → ByteArray → ByteArray → ByteArray → ByteArray → ByteArray → ByteArray → ByteArray → ByteArray → Option (Bool × ByteArray × ByteArray × ByteArray × ByteArray × ByteArray × ByteArray × ByteArray × ByteArray × ByteArray × ByteArray)
 | 0, _, _, _, _, _, _, _, _, _, _, _, _, _ => none
 | k + 1, x0, x4, x110000, x110001, x110002, x110003, x110004, x110005, x110006, x110007, x110008, x110009, x110010 => (zn.f k x0 x4 (([(⟨#[100, 101, 118]⟩ : ByteArray)] : List ByteArray))).bind fun bt132 => (if bt132.2.2 < (x0.size : Int) then (if 0 ≤ bt132.2.2 then (zb.j8 k x0 bt132.2.2 ((bt x0 bt132.2.2) == 43) x110000 x110001 x110002 x110003 x110004 x110005 x110006 x110007 bt132.1 bt132.2.1 x110010) else (none)) else (zb.j8 k x0 bt132.2.2 false x110000 x110001 x110002 x110003 x110004 x110005 x110006 x110007 bt132.1 bt132.2.1 x110010))
def zb.j8 : Nat → ByteArray → Int → Bool → Bool → ByteArray → ByteArray → ByteArray → ByteArray → ByteArray → ByteArray → ByteArray → ByteArray → ByteArray → ByteArray → Option (Bool × ByteArray × ByteArray × ByteArray × ByteArray × ByteArray × ByteArray × ByteArray × ByteArray × ByteArray × ByteArray)
 | 0, _, _, _, _, _, _, _, _, _, _, _, _, _, _ => none
 | k + 1, x0, x4, x148, x110000, x110001, x110002, x110003, x110004, x110005, x110006, x110007, x110008, x110009, x110010 => if x148 = true then ((zy.f k x0 (wrap64 (x4 + 1))).bind fun t135 => (if t135 = (wrap64 (x4 + 1)) then (some (false, (⟨#[]⟩ : ByteArray), (⟨#[]⟩ : ByteArray), (⟨#[]⟩ : ByteArray), (⟨#[]⟩ : ByteArray), (⟨#[]⟩ : ByteArray), (⟨#[]⟩ : ByteArray), (⟨#[]⟩ : ByteArray), (⟨#[]⟩ : ByteArray), (⟨#[]⟩ : ByteArray), (⟨#[]⟩ : ByteArray))) else (zb.l1 k x0 t135 (wrap64 (x4 + 1)) x110000 x110001 x110002 x110003 x110004 x110005 x110006 x110007 x110008 x110009 x110010))) else ((zp.f k x0 x4).bind fun t141 => (if t141 < (x0.size : Int) then (some (false, (⟨#[]⟩ : ByteArray), (⟨#[]⟩ : ByteArray), (⟨#[]⟩ : ByteArray), (⟨#[]⟩ : ByteArray), (⟨#[]⟩ : ByteArray), (⟨#[]⟩ : ByteArray), (⟨#[]⟩ : ByteArray), (⟨#[]⟩ : ByteArray), (⟨#[]⟩ : ByteArray), (⟨#[]⟩ : ByteArray))) else (some (true, x110001, x110002, x110003, x110004, x110005, x110006, x110007, x110008, x110009, x110010))))
def zb.l1 : Nat → ByteArray → Int → Int → Bool → ByteArray → ByteArray → ByteArray → ByteArray → ByteArray → ByteArray → ByteArray → ByteArray → ByteArray → ByteArray → Option (Bool × ByteArray × ByteArray × ByteArray × ByteArray × ByteArray × ByteArray × ByteArray × ByteArray × ByteArray × ByteArray)
 | 0, _, _, _, _, _, _, _, _, _, _, _, _, _, _ => none
 | k + 1, x0, x5, x6, x110000, x110001, x110002, x110003, x110004, x110005, x110006, x110007, x110008, x110009, x110010 => (zib.f x0 x5).bind fun t136 => (if t136 > x5 then ((zy.f k x0 (wrap64 (x5 + 1))).bind fun t137 => (if t137 > (wrap64 (x5 + 1)) then ((zy.f k x0 (wrap64 (x5 + 1))).bind fun t138 => (zb.l1 k x0 t138 x6 x110000 x110001 x110002 x110003 x110004 x110005 x110006 x110007 x110008 x110009 x110010)) else (if 0 ≤ x6 then (if x6 ≤ x5 then (if x5 ≤ (x0.size : Int) then ((zp.f k x0 x5).bind fun t139 => (if t139 < (x0.size : Int) then (some (false, (⟨#[]⟩ : ByteArray), (⟨#[]⟩ : ByteArray), (⟨#[]⟩ : ByteArray), (⟨#[]⟩ : ByteArray), (⟨#[]⟩ : ByteArray), (⟨#[]⟩ : ByteArray), (⟨#[]⟩ : ByteArray), (⟨#[]⟩ : ByteArray), (⟨#[]⟩ : ByteArray), (⟨#[]⟩ : ByteArray))) else (some (true, x110001, x110002, x110003, x110004, x110005, x110006, x110007, x110008, x110009, x0.extract (x6 : Int).toNat (x5 : Int).toNat)))) else (none)) else (none)) else (none)))) else (if 0 ≤ x6 then (if x6 ≤ x5 then (if x5 ≤ (x0.size : Int) then ((zp.f k x0 x5).bind fun t140 => (if t140 < (x0.size : Int) then (some (false, (⟨#[]⟩ : ByteArray), (⟨#[]⟩ : ByteArray), (⟨#[]⟩ : ByteArray), (⟨#[]⟩ : ByteArray), (⟨#[]⟩ : ByteArray), (⟨#[]⟩ : ByteArray), (⟨#[]⟩ : ByteArray), (⟨#[]⟩ : ByteArray), (⟨#[]⟩ : ByteArray), (⟨#[]⟩ : ByteArray))) else (some (true, x110001, x110002, x110003, x110004, x110005, x110006, x110007, x110008, x110009, x0.extract (x6 : Int).toNat (x5 : Int).toNat)))) else (none)) else (none)) else (none)))
def zb.l0 : Nat → ByteArray → Int → Int → Bool → ByteArray → ByteArray → ByteArray → ByteArray → ByteArray → ByteArray → ByteArray → ByteArray → ByteArray → ByteArray → Option (Bool × ByteArray × ByteArray × ByteArray × ByteArray × ByteArray × ByteArray × ByteArray × ByteArray × ByteArray × ByteArray)
 | 0, _, _, _, _, _, _, _, _, _, _, _, _, _, _ => none
 | k + 1, x0, x4, x5, x110000, x110001, x110002, x110003, x110004, x110005, x110006, x110007, x110008, x110009, x110010 => if (wrap64 (x5 + 1)) < (x0.size : Int) then (if 0 ≤ x5 then (if x5 < (x0.size : Int) then (if (bt x0 x5) = 46 then (if 0 ≤ (wrap64 (x5 + 1)) then ((zdb.f (bt x0 (wrap64 (x5 + 1)))).bind fun t113 => (if t113 = true then ((zq.f k x0 (wrap64 (x5 + 1))).bind fun t114 => (zb.l0 k x0 x4 t114 x110000 x110001 x110002 x110003 x110004 x110005 x110006 x110007 x110008 x110009 x110010)) else (zb.j5 k x0 x4 x5 x110000 x110001 x110002 x110003 x110004 x110005 x110006 x110007 x110008 x110009 x110010))) else (none)) else (zb.j5 k x0 x4 x5 x110000 x110001 x110002 x110003 x110004 x110005 x110006 x110007 x110008 x110009 x110010)) else (none)) else (none)) else (zb.j5 k x0 x4 x5 x110000 x110001 x110002 x110003 x110004 x110005 x110006 x110007 x110008 x110009 x110010)
end
def zb.f (k : Nat) (a0 : ByteArray) : Option (Bool × ByteArray × ByteArray × ByteArray × ByteArray × ByteArray × ByteArray × ByteArray × ByteArray × ByteArray × ByteArray) := (zp.f k a0 0).bind fun t110 => (if t110 < (a0.size : Int) then (if 0 ≤ t110 then (zb.j0 k a0 t110 ((bt a0 t110) == 118) false (⟨#[]⟩ : ByteArray) (⟨#[]⟩ : ByteArray) (⟨#[]⟩ : ByteArray) (⟨#[]⟩ : ByteArray) (⟨#[]⟩ : ByteArray) (⟨#[]⟩ : ByteArray) (⟨#[]⟩ : ByteArray) (⟨#[]⟩ : ByteArray) (⟨#[]⟩ : ByteArray) (⟨#[]⟩ : ByteArray)) else (none)) else (zb.j0 k a0 t110 false false (⟨#[]⟩ : ByteArray) (⟨#[]⟩ : ByteArray) (⟨#[]⟩ : ByteArray) (⟨#[]⟩ : ByteArray) (⟨#[]⟩ : ByteArray) (⟨#[]⟩ : ByteArray) (⟨#[]⟩ : ByteArray) (⟨#[]⟩ : ByteArray) (⟨#[]⟩ : ByteArray) (⟨#[]⟩ : ByteArray)))
def sndN : Nat → Code → Code
 | 0, c => c
 | n + 1, .seq _ b => sndN n b
 | _ + 1, c => c
set_option maxRecDepth 1000000 in
theorem zb.st6 (a0 : ByteArray) (r1 : Bool) (r2 : ByteArray) (r3 : ByteArray) (r4 : ByteArray) (r5 : ByteArray) (r6 : ByteArray) (r7 : ByteArray) (r8 : ByteArray) (r9 : ByteArray) (r10 : ByteArray) (r11 : ByteArray) (w : World) (wc : World) (gb108 : Nat) (gb109 : Nat) (kj43 : Nat) (kq : Nat) (x4_59 : Int) (x110005_59 : ByteArray) (x110006_59 : ByteArray) (x110007_59 : ByteArray) (x110001_16 : ByteArray) (x4_16 : Int) (x5_27 : Int) (t118 : ByteArray) (t119 : ByteArray) (u1 u5 u6 u7 u8 u9 u10 u11 u12 u13 u14 u15 u16 u17 u18 u19 u20 u21 u22 u23 u24 u25 u26 u27 u28 u29 u30 u31 u32 u33 u34 u35 u36 u37 u38 u39 u40 u41 u42 u43 u44 u45 u46 u47 u48 u49 u50 u51 u52 u53 u54 u55 u56 u57 u58 u59 u60 u61 u62 u63 u64 u65 u66 u67 u68 u69 u70 u71 u72 u73 u74 u75 u76 u77 u78 u79 u80 u81 u82 u83 u84 u85 u86 u87 u88 u89 u90 u91 u92 u93 u94 u95 u96 u97 u98 u99 u100 u101 u102 u103 u104 u105 u106 u107 u108 u109 u110 u111 u112 u113 u114 u115 u116 u117 u118 u119 u120 u121 u122 u123 u124 u125 u126 u127 u128 u129 u130 u131 u132 u133 u134 u135 u136 u137 u138 u139 u140 u141 u142 u143 u144 u145 u146 u147 u148 u149 u150 u151 u152 u153 u154 u155 u156 u157 u158 u159 u160 u161 u162 u163 u164 u165 u166 u167 u168 u169 u170 u171 u172 u173 u174 u175 u176 u177 u178 u179 u180 u181 u182 u183 u184 u185 u186 u187 u188 u189 u190 : Value) (HA : za (zb.j7 kq a0 x4_59 false x110001_16 (a0.extract (x4_16 : Int).toNat (x5_27 : Int).toNat) t118 t119 x110005_59 x110006_59 x110007_59 (⟨#[]⟩ : ByteArray) (⟨#[]⟩ : ByteArray) (⟨#[]⟩ : ByteArray) = some (r1, r2, r3, r4, r5, r6, r7, r8, r9, r10, r11))) (HJ59 : za (kq ≤ kj43)) (BK108 : za (wc.heap[gb108]? = some (.cells #[.bool false, .string ⟨#[]⟩, .string ⟨#[]⟩, .string ⟨#[]⟩, .string ⟨#[]⟩, .string ⟨#[]⟩, .string ⟨#[]⟩, .string ⟨#[]⟩, .string ⟨#[]⟩, .string ⟨#[]⟩, .string ⟨#[]⟩] 104 (0, 0)))) (BK109 : za (wc.heap[gb109]? = some (.cells #[.bool false, .string x110001_16, .string (a0.extract (x4_16 : Int).toNat (x5_27 : Int).toNat), .string t118, .string t119, .string x110005_59, .string x110006_59, .string x110007_59, .string ⟨#[]⟩, .string ⟨#[]⟩, .string ⟨#[]⟩] 104 (0, 0)))) (HB : za (Below w.heap.size w wc)) (GW108 : za (w.heap.size ≤ gb108)) (GE108 : za (w.heap.size ≤ gb108)) (GW109 : za (w.heap.size ≤ gb109)) (GE109 : za (w.heap.size ≤ gb109)) (NB108_109 : za (gb108 ≠ gb109)) (NB109_108 : za (gb109 ≠ gb108)) :
  Code.wp Tryz.prog ((sndN 11 (Tryz.f67.body.getD .skip))) (bodyPost Tryz.prog Tryz.f67 fun e w' => e = .returned (.agg #[.bool r1, .string r2, .string r3, .string r4, .string r5, .string r6, .string r7, .string r8, .string r9, .string r10, .string r11]) ∧ Below w.heap.size w w') ⟨#[.string a0, u1, .pointer (some ⟨gb108, 0, none⟩), .pointer (some ⟨gb109, 0, none⟩), .int .i64 x4_59, u5, u6, u7, u8, u9, u10, u11, u12, u13, u14, u15, u16, u17, u18, u19, u20, u21, u22, u23, u24, u25, u26, u27, u28, u29, u30, u31, u32, u33, u34, u35, u36, u37, u38, u39, u40, u41, u42, u43, u44, u45, u46, u47, u48, u49, u50, u51, u52, u53, u54, u55, u56, u57, u58, u59, u60, u61, u62, u63, u64, u65, u66, u67, u68, u69, u70, u71, u72, u73, u74, u75, u76, u77, u78, u79, u80, u81, u82, u83, u84, u85, u86, u87, u88, u89, u90, u91, u92, u93, u94, u95, u96, u97, u98, u99, u100, u101, u102, u103, u104, u105, u106, u107, u108, u109, u110, u111, u112, u113, u114, u115, u116, u117, u118, u119, u120, u121, u122, u123, u124, u125, u126, u127, u128, u129, u130, u131, u132, u133, u134, u135, u136, u137, u138, u139, u140, u141, u142, u143, u144, u145, u146, u147, u148, u149, u150, u151, u152, u153, u154, u155, u156, u157, u158, u159, u160, u161, u162, u163, u164, u165, u166, u167, u168, u169, u170, u171, u172, u173, u174, u175, u176, u177, u178, u179, u180, u181, u182, u183, u184, u185, u186, u187, u188, u189, u190], []⟩ wc := by
 have hu104 := Tryz.underlying104
 conv => arg 2; whnf
 cases kq with
 | zero => exact absurd HA.out (by simp [zb.j7])
 | succ kj59 =>
  have H := HA.out
  clear HA
  simp only [zb.j7] at H
  obtain ⟨y129, hy129⟩ : ∃ y_ : List ByteArray, y_ = (([(⟨#[100, 101, 118]⟩ : ByteArray)] : List ByteArray)) := ⟨_, rfl⟩
  replace H : ((zn.f kj59 a0 x4_59 y129).bind fun bt132 => (if bt132.2.2 < (a0.size : Int) then (if 0 ≤ bt132.2.2 then (zb.j8 kj59 a0 bt132.2.2 ((bt a0 bt132.2.2) == 43) false x110001_16 (a0.extract (x4_16 : Int).toNat (x5_27 : Int).toNat) t118 t119 x110005_59 x110006_59 x110007_59 bt132.1 bt132.2.1 (⟨#[]⟩ : ByteArray)) else (none)) else (zb.j8 kj59 a0 bt132.2.2 false false x110001_16 (a0.extract (x4_16 : Int).toNat (x5_27 : Int).toNat) t118 t119 x110005_59 x110006_59 x110007_59 bt132.1 bt132.2.1 (⟨#[]⟩ : ByteArray)))) = some (r1, r2, r3, r4, r5, r6, r7, r8, r9, r10, r11) := by (rw [hy129]; with_reducible exact H)
  have Ny129 := za.mk hy129
  clear hy129
  replace H := Option.bind_eq_some_iff.mp H
  obtain ⟨⟨t132, t133, t134⟩, A750, H⟩ := H
  replace H : (if t134 < (a0.size : Int) then (if 0 ≤ t134 then (zb.j8 kj59 a0 t134 ((bt a0 t134) == 43) false x110001_16 (a0.extract (x4_16 : Int).toNat (x5_27 : Int).toNat) t118 t119 x110005_59 x110006_59 x110007_59 t132 t133 (⟨#[]⟩ : ByteArray)) else (none)) else (zb.j8 kj59 a0 t134 false false x110001_16 (a0.extract (x4_16 : Int).toNat (x5_27 : Int).toNat) t118 t119 x110005_59 x110006_59 x110007_59 t132 t133 (⟨#[]⟩ : ByteArray))) = some (r1, r2, r3, r4, r5, r6, r7, r8, r9, r10, r11) := H
  have A75 := za.mk A750
  clear A750
  have HC76 := za.mk H
  clear H
  go_upto_region 22 with (first | ((with_reducible refine zrb (N := 132) rfl ?_); (try (refine zsb (by rfl) ?_; dsimp only)); refine Kd.R_lit Kd.string _ 9 ?hg (N := 132) ?hd (xs := ([(⟨#[100, 101, 118]⟩ : ByteArray)] : List ByteArray)) (inner := [.string (⟨#[100, 101, 118]⟩ : ByteArray)]) (ok := fun _ => True) (okp := fun _ => True) ?hr ?hp (fun _ hk => hk) trivial (Below.refl _ _) (Nat.le_refl _) (by simp) ?_; (case hd => rfl); (case hg => rfl); (case hr => first | (go_simp; done) | (go_simp; rfl)); (case hp => exact (Reps.one (show Kd.M Kd.string _ _ _ (⟨#[100, 101, 118]⟩ : ByteArray) [.string (⟨#[100, 101, 118]⟩ : ByteArray)] from rfl) (Reps.none _ _))); intro v130 w77 ho78 hb hg_ hnew_; clear hg_ hnew_; (first | rw [← Ny129.out] at ho78 | (simp only [Int.reduceToNat] at ho78; rw [← Ny129.out] at ho78)); have HO131 := za.mk (Kd.R_lower ho78 (zab (by (with_reducible exact HB.out)))); replace BK108 := za.mk (zr BK108.out hb); replace BK109 := za.mk (zr BK109.out hb); replace HB := za.mk (zw (by (with_reducible exact HB.out)) hb); clear hb ho78; obtain ⟨Ao79, co79, eo79⟩ := Kd.R_slice HO131.out; subst eo79) | ((with_reducible refine zbb (f := 105) rfl ?_); refine zcc (some 133) rfl rfl Tryz.func105 (by kernel_rfl) rfl #[.string a0, .int .i64 x4_59, .slice Ao79 y129.length co79] rfl (by (try simp only [List.map_toArray, List.map_cons, List.map_nil]); first | done | rfl | (simp only [List.length_drop, List.length_take]; rfl)) ?_; (with_reducible refine (zn.calls kj59 a0 x4_59 _ _ y129 t132 t133 t134 _ ?side1 ?side2 A75.out).mono ?_); (case side1 => repeat (first | exact (Kd.R_reads' HO131.out).2.2 | (with_reducible refine Kd.C_alloc ?_ _) | (with_reducible refine Kd.C_drewN ?_ _) | (with_reducible refine Kd.C_drew ?_))); (case side2 => exact (Kd.R_reads' HO131.out).2.1); rintro e w' ⟨rfl, ⟨nd, rfl⟩⟩; refine ⟨_, rfl, ?_⟩; (try (rw [zvc w77]; generalize hq_ : World.drewN w77 _ = w77; have n0_ : za (Kd.R Kd.string 9 w77 w.heap.size (fun _ => True) (.slice Ao79 y129.length co79) y129) := ⟨by rw [← hq_]; exact (by (with_reducible repeat (first | apply Kd.R_alloc | apply Kd.R_drewN | apply Kd.R_drew)); exact HO131.out)⟩; have n1_ : za (w77.heap[gb108]? = some (.cells #[.bool false, .string ⟨#[]⟩, .string ⟨#[]⟩, .string ⟨#[]⟩, .string ⟨#[]⟩, .string ⟨#[]⟩, .string ⟨#[]⟩, .string ⟨#[]⟩, .string ⟨#[]⟩, .string ⟨#[]⟩, .string ⟨#[]⟩] 104 (0, 0))) := ⟨by rw [← hq_]; exact (by (with_reducible (refine zl ?_ _)); exact BK108.out)⟩; have n2_ : za (w77.heap[gb109]? = some (.cells #[.bool false, .string x110001_16, .string (a0.extract (x4_16 : Int).toNat (x5_27 : Int).toNat), .string t118, .string t119, .string x110005_59, .string x110006_59, .string x110007_59, .string ⟨#[]⟩, .string ⟨#[]⟩, .string ⟨#[]⟩] 104 (0, 0))) := ⟨by rw [← hq_]; exact (by (with_reducible (refine zl ?_ _)); exact BK109.out)⟩; have n3_ : za (Below w.heap.size w w77) := ⟨by rw [← hq_]; exact (by (with_reducible apply ze; with_reducible exact HB.out))⟩; clear HO131 BK108 BK109 HB hq_; have HO131 := n0_; have BK108 := n1_; have BK109 := n2_; have HB := n3_; clear n0_ n1_ n2_ n3_)); have hnb80 := NB109_108.out; have hnc80 := NB108_109.out; obtain ⟨hcz81_0, hcz81_1, hcz81_2, hcz81_3, hcz81_4, hcz81_5, hcz81_6, hcz81_7, hcz81_8, hcz81_9, hcz81_10, hfz81_0, hfz81_1, hfz81_2, hfz81_3, hfz81_4, hfz81_5, hfz81_6, hfz81_7, hfz81_8, hfz81_9, hfz81_10⟩ := cl11 BK109.out))
  (try simp only [Act.put, List.setIfInBounds_toArray, List.set_cons_zero, List.set_cons_succ])
  go_cut [148] (fun v148 wc => ∃ (kq : Nat) (x148_75 : Bool), v148 = .bool x148_75 ∧ za (zb.j8 kq a0 t134 x148_75 false x110001_16 (a0.extract (x4_16 : Int).toNat (x5_27 : Int).toNat) t118 t119 x110005_59 x110006_59 x110007_59 t132 t133 (⟨#[]⟩ : ByteArray) = some (r1, r2, r3, r4, r5, r6, r7, r8, r9, r10, r11)) ∧ za (kq ≤ kj59) ∧ za (wc.heap[gb108]? = some (.cells #[.bool false, .string ⟨#[]⟩, .string ⟨#[]⟩, .string ⟨#[]⟩, .string ⟨#[]⟩, .string ⟨#[]⟩, .string ⟨#[]⟩, .string ⟨#[]⟩, .string ⟨#[]⟩, .string ⟨#[]⟩, .string ⟨#[]⟩] 104 (0, 0))) ∧ za (wc.heap[gb109]? = some (.cells #[.bool false, .string x110001_16, .string (a0.extract (x4_16 : Int).toNat (x5_27 : Int).toNat), .string t118, .string t119, .string x110005_59, .string x110006_59, .string x110007_59, .string t132, .string t133, .string ⟨#[]⟩] 104 (0, 0))) ∧ za (Below w.heap.size w wc))
  case first =>
   have H := HC76.out
   clear HC76
   by_cases c82 : t134 < (a0.size : Int)
   ·rw [if_pos c82] at H
    have c82b0 : decide (t134 < (a0.size : Int)) = true := decide_eq_true c82
    clear c82
    (first | rw [c82b0] | (simp only [i64_w, i32_w]; rw [c82b0]) | skip)
    by_cases c83 : 0 ≤ t134
    ·rw [if_pos c83] at H
     have c83b0 : decide (0 ≤ t134) = true := decide_eq_true c83
     clear c83
     have H' := za.mk H
     clear H
     have p84 : 0 ≤ (t134 : Int) := of_decide_eq_true (by (with_reducible assumption))
     have q84 : t134 < (a0.size : Int) := of_decide_eq_true (by (with_reducible assumption))
     have hx84 := bt_at a0 t134
     replace p84 := eq_true p84
     replace q84 := eq_true q84
     go_wp2
     go_meet
     case rel => exact ⟨_, (((bt a0 t134) == 43)), (by rfl), (by exact H'), ⟨by have := HJ59.out; first | omega | exact Nat.le_refl _⟩, ⟨by refine zic ?_ NB108_109.out _; refine zic ?_ NB108_109.out _; exact BK108.out⟩, ⟨by refine zm (cs := #[.bool false, .string x110001_16, .string (a0.extract (x4_16 : Int).toNat (x5_27 : Int).toNat), .string t118, .string t119, .string x110005_59, .string x110006_59, .string x110007_59, .string t132, .string ⟨#[]⟩, .string ⟨#[]⟩]) ?_ 9 _ rfl; refine zm (cs := #[.bool false, .string x110001_16, .string (a0.extract (x4_16 : Int).toNat (x5_27 : Int).toNat), .string t118, .string t119, .string x110005_59, .string x110006_59, .string x110007_59, .string ⟨#[]⟩, .string ⟨#[]⟩, .string ⟨#[]⟩]) ?_ 8 _ rfl; exact BK109.out⟩, ⟨by (with_reducible refine zo ?_ GE109.out; with_reducible refine zo ?_ GE109.out; with_reducible exact HB.out)⟩⟩
    ·rw [if_neg c83] at H
     exact absurd H (by simp)
   ·rw [if_neg c82] at H
    have c82b0 : decide (t134 < (a0.size : Int)) = false := decide_eq_false c82
    clear c82
    (first | rw [c82b0] | (simp only [i64_w, i32_w]; rw [c82b0]) | skip)
    have H' := za.mk H
    clear H
    go_wp2
    go_meet
    case rel => exact ⟨_, (false), (by rfl), (by exact H'), ⟨by have := HJ59.out; first | omega | exact Nat.le_refl _⟩, ⟨by refine zic ?_ NB108_109.out _; refine zic ?_ NB108_109.out _; exact BK108.out⟩, ⟨by refine zm (cs := #[.bool false, .string x110001_16, .string (a0.extract (x4_16 : Int).toNat (x5_27 : Int).toNat), .string t118, .string t119, .string x110005_59, .string x110006_59, .string x110007_59, .string t132, .string ⟨#[]⟩, .string ⟨#[]⟩]) ?_ 9 _ rfl; refine zm (cs := #[.bool false, .string x110001_16, .string (a0.extract (x4_16 : Int).toNat (x5_27 : Int).toNat), .string t118, .string t119, .string x110005_59, .string x110006_59, .string x110007_59, .string ⟨#[]⟩, .string ⟨#[]⟩, .string ⟨#[]⟩]) ?_ 8 _ rfl; exact BK109.out⟩, ⟨by (with_reducible refine zo ?_ GE109.out; with_reducible refine zo ?_ GE109.out; with_reducible exact HB.out)⟩⟩
  case rest =>
   clear HC76
   clear hcz81_0 hcz81_1 hcz81_10 hcz81_2 hcz81_3 hcz81_4 hcz81_5 hcz81_6 hcz81_7 hcz81_8 hcz81_9 hfz81_0 hfz81_1 hfz81_10 hfz81_2 hfz81_3 hfz81_4 hfz81_5 hfz81_6 hfz81_7 hfz81_8 hfz81_9
   obtain ⟨kq, x148_75, rfl, HA, HJ75, BK108, BK109, HB⟩ := hcut
   cases kq with
   | zero => exact absurd HA.out (by simp [zb.j8])
   | succ kj75 =>
    have H := HA.out
    clear HA
    simp only [zb.j8] at H
    by_cases c85 : x148_75 = true
    ·subst c85
     have H1 : ((zy.f kj75 a0 (wrap64 (t134 + 1))).bind fun t135 => (if t135 = (wrap64 (t134 + 1)) then (some (false, (⟨#[]⟩ : ByteArray), (⟨#[]⟩ : ByteArray), (⟨#[]⟩ : ByteArray), (⟨#[]⟩ : ByteArray), (⟨#[]⟩ : ByteArray), (⟨#[]⟩ : ByteArray), (⟨#[]⟩ : ByteArray), (⟨#[]⟩ : ByteArray), (⟨#[]⟩ : ByteArray), (⟨#[]⟩ : ByteArray))) else (zb.l1 kj75 a0 t135 (wrap64 (t134 + 1)) false x110001_16 (a0.extract (x4_16 : Int).toNat (x5_27 : Int).toNat) t118 t119 x110005_59 x110006_59 x110007_59 t132 t133 (⟨#[]⟩ : ByteArray)))) = some (r1, r2, r3, r4, r5, r6, r7, r8, r9, r10, r11) := by rw [if_pos rfl] at H; exact H
     clear H
     have H := H1
     clear H1
     replace H := Option.bind_eq_some_iff.mp H
     obtain ⟨t135, A860, H⟩ := H
     replace H : (if t135 = (wrap64 (t134 + 1)) then (some (false, (⟨#[]⟩ : ByteArray), (⟨#[]⟩ : ByteArray), (⟨#[]⟩ : ByteArray), (⟨#[]⟩ : ByteArray), (⟨#[]⟩ : ByteArray), (⟨#[]⟩ : ByteArray), (⟨#[]⟩ : ByteArray), (⟨#[]⟩ : ByteArray), (⟨#[]⟩ : ByteArray), (⟨#[]⟩ : ByteArray))) else (zb.l1 kj75 a0 t135 (wrap64 (t134 + 1)) false x110001_16 (a0.extract (x4_16 : Int).toNat (x5_27 : Int).toNat) t118 t119 x110005_59 x110006_59 x110007_59 t132 t133 (⟨#[]⟩ : ByteArray))) = some (r1, r2, r3, r4, r5, r6, r7, r8, r9, r10, r11) := H
     have A86 := za.mk A860
     clear A860
     by_cases c87 : t135 = (wrap64 (t134 + 1))
     ·rw [if_pos c87] at H
      have c87b0 : (t135 == (wrap64 (t134 + 1))) = true := beq_iff_eq.mpr c87
      have c87b1 : (t135 != (wrap64 (t134 + 1))) = false := bne_eq_false_iff_eq.mpr c87
      clear c87
      simp only [Option.some.injEq, Prod.mk.injEq] at H
      obtain ⟨rfl, rfl, rfl, rfl, rfl, rfl, rfl, rfl, rfl, rfl, rfl⟩ := H
      go_wp2_with (((with_reducible refine zbb (f := 106) rfl ?_); refine zcc (some 153) rfl rfl Tryz.func106 (by kernel_rfl) rfl #[.string a0, .int .i64 (wrap64 (t134 + 1))] rfl (by (try simp only [List.map_toArray, List.map_cons, List.map_nil]); first | done | rfl | (simp only [List.length_drop, List.length_take]; rfl)) ?_; (with_reducible refine (zy.calls kj75 a0 (wrap64 (t134 + 1)) t135 _ A86.out).mono ?_); rintro e w' ⟨rfl, ⟨nd, rfl⟩⟩; refine ⟨_, rfl, ?_⟩; (try (rw [zvc wc]; generalize hq_ : World.drewN wc _ = wc; have n0_ : za (wc.heap[gb108]? = some (.cells #[.bool false, .string ⟨#[]⟩, .string ⟨#[]⟩, .string ⟨#[]⟩, .string ⟨#[]⟩, .string ⟨#[]⟩, .string ⟨#[]⟩, .string ⟨#[]⟩, .string ⟨#[]⟩, .string ⟨#[]⟩, .string ⟨#[]⟩] 104 (0, 0))) := ⟨by rw [← hq_]; exact (by (with_reducible (refine zl ?_ _)); exact BK108.out)⟩; have n1_ : za (wc.heap[gb109]? = some (.cells #[.bool false, .string x110001_16, .string (a0.extract (x4_16 : Int).toNat (x5_27 : Int).toNat), .string t118, .string t119, .string x110005_59, .string x110006_59, .string x110007_59, .string t132, .string t133, .string ⟨#[]⟩] 104 (0, 0))) := ⟨by rw [← hq_]; exact (by (with_reducible (refine zl ?_ _)); exact BK109.out)⟩; have n2_ : za (Below w.heap.size w wc) := ⟨by rw [← hq_]; exact (by (with_reducible apply ze; with_reducible exact HB.out))⟩; clear BK108 BK109 HB hq_; have BK108 := n0_; have BK109 := n1_; have HB := n2_; clear n0_ n1_ n2_)); have hnb88 := NB108_109.out; have hnc88 := NB109_108.out; obtain ⟨hcz89_0, hcz89_1, hcz89_2, hcz89_3, hcz89_4, hcz89_5, hcz89_6, hcz89_7, hcz89_8, hcz89_9, hcz89_10, hfz89_0, hfz89_1, hfz89_2, hfz89_3, hfz89_4, hfz89_5, hfz89_6, hfz89_7, hfz89_8, hfz89_9, hfz89_10⟩ := cl11 BK108.out))
      refine bodyPost_ret (results_cell_row rfl _ _ gb108 104 #[.bool false, .string ⟨#[]⟩, .string ⟨#[]⟩, .string ⟨#[]⟩, .string ⟨#[]⟩, .string ⟨#[]⟩, .string ⟨#[]⟩, .string ⟨#[]⟩, .string ⟨#[]⟩, .string ⟨#[]⟩, .string ⟨#[]⟩] (0, 0) _ rfl (by exact put11 BK108.out) Tryz.underlying104 rfl (by kernel_rfl)) rfl ?_
      exact ⟨by rfl, by repeat (first | (with_reducible first | exact HB.out | apply zg | apply ze | apply below_drew1 | refine zo ?_ GE108.out | refine zo ?_ GE109.out) | exact HB.out)⟩
     ·rw [if_neg c87] at H
      have c87b0 : (t135 == (wrap64 (t134 + 1))) = false := beq_eq_false_iff_ne.mpr c87
      have c87b1 : (t135 != (wrap64 (t134 + 1))) = true := bne_iff_ne.mpr c87
      have H' := za.mk H
      clear H
      go_wp2_with (((with_reducible refine zbb (f := 106) rfl ?_); refine zcc (some 153) rfl rfl Tryz.func106 (by kernel_rfl) rfl #[.string a0, .int .i64 (wrap64 (t134 + 1))] rfl (by (try simp only [List.map_toArray, List.map_cons, List.map_nil]); first | done | rfl | (simp only [List.length_drop, List.length_take]; rfl)) ?_; (with_reducible refine (zy.calls kj75 a0 (wrap64 (t134 + 1)) t135 _ A86.out).mono ?_); rintro e w' ⟨rfl, ⟨nd, rfl⟩⟩; refine ⟨_, rfl, ?_⟩))
      (try simp only [Act.put, List.setIfInBounds_toArray, List.set_cons_zero, List.set_cons_succ])
      go_loopg [5] kj75 (fun kq v5 w' => ∃ (x5_9 : Int), v5 = .int .i64 x5_9 ∧ za (zb.l1 kq a0 x5_9 (wrap64 (t134 + 1)) false x110001_16 (a0.extract (x4_16 : Int).toNat (x5_27 : Int).toNat) t118 t119 x110005_59 x110006_59 x110007_59 t132 t133 (⟨#[]⟩ : ByteArray) = some (r1, r2, r3, r4, r5, r6, r7, r8, r9, r10, r11)) ∧ za (kq ≤ kj75) ∧ za (w'.heap[gb108]? = some (.cells #[.bool false, .string ⟨#[]⟩, .string ⟨#[]⟩, .string ⟨#[]⟩, .string ⟨#[]⟩, .string ⟨#[]⟩, .string ⟨#[]⟩, .string ⟨#[]⟩, .string ⟨#[]⟩, .string ⟨#[]⟩, .string ⟨#[]⟩] 104 (0, 0))) ∧ za (w'.heap[gb109]? = some (.cells #[.bool false, .string x110001_16, .string (a0.extract (x4_16 : Int).toNat (x5_27 : Int).toNat), .string t118, .string t119, .string x110005_59, .string x110006_59, .string x110007_59, .string t132, .string t133, .string ⟨#[]⟩] 104 (0, 0))) ∧ za (Below w.heap.size w w'))
      case atStart => exact ⟨(t135), (by rfl), H', ⟨Nat.le_refl _⟩, ⟨by (with_reducible (refine zl ?_ _)); exact BK108.out⟩, ⟨by (with_reducible (refine zl ?_ _)); exact BK109.out⟩, ⟨by (with_reducible apply ze; with_reducible exact HB.out)⟩⟩
      case round =>
       clear H'
       clear c87 c87b0 c87b1
       obtain ⟨x5_9, rfl, HA, HK9, BK108, BK109, HB⟩ := hrel
       cases gk with
       | zero => exact absurd HA.out (by simp [zb.l1])
       | succ k9 =>
        have H := HA.out
        clear HA
        simp only [zb.l1] at H
        replace H := Option.bind_eq_some_iff.mp H
        obtain ⟨t136, A900, H⟩ := H
        replace H : (if t136 > x5_9 then ((zy.f k9 a0 (wrap64 (x5_9 + 1))).bind fun t137 => (if t137 > (wrap64 (x5_9 + 1)) then ((zy.f k9 a0 (wrap64 (x5_9 + 1))).bind fun t138 => (zb.l1 k9 a0 t138 (wrap64 (t134 + 1)) false x110001_16 (a0.extract (x4_16 : Int).toNat (x5_27 : Int).toNat) t118 t119 x110005_59 x110006_59 x110007_59 t132 t133 (⟨#[]⟩ : ByteArray))) else (if 0 ≤ (wrap64 (t134 + 1)) then (if (wrap64 (t134 + 1)) ≤ x5_9 then (if x5_9 ≤ (a0.size : Int) then ((zp.f k9 a0 x5_9).bind fun t139 => (if t139 < (a0.size : Int) then (some (false, (⟨#[]⟩ : ByteArray), (⟨#[]⟩ : ByteArray), (⟨#[]⟩ : ByteArray), (⟨#[]⟩ : ByteArray), (⟨#[]⟩ : ByteArray), (⟨#[]⟩ : ByteArray), (⟨#[]⟩ : ByteArray), (⟨#[]⟩ : ByteArray), (⟨#[]⟩ : ByteArray), (⟨#[]⟩ : ByteArray))) else (some (true, x110001_16, (a0.extract (x4_16 : Int).toNat (x5_27 : Int).toNat), t118, t119, x110005_59, x110006_59, x110007_59, t132, t133, a0.extract ((wrap64 (t134 + 1)) : Int).toNat (x5_9 : Int).toNat)))) else (none)) else (none)) else (none)))) else (if 0 ≤ (wrap64 (t134 + 1)) then (if (wrap64 (t134 + 1)) ≤ x5_9 then (if x5_9 ≤ (a0.size : Int) then ((zp.f k9 a0 x5_9).bind fun t140 => (if t140 < (a0.size : Int) then (some (false, (⟨#[]⟩ : ByteArray), (⟨#[]⟩ : ByteArray), (⟨#[]⟩ : ByteArray), (⟨#[]⟩ : ByteArray), (⟨#[]⟩ : ByteArray), (⟨#[]⟩ : ByteArray), (⟨#[]⟩ : ByteArray), (⟨#[]⟩ : ByteArray), (⟨#[]⟩ : ByteArray), (⟨#[]⟩ : ByteArray))) else (some (true, x110001_16, (a0.extract (x4_16 : Int).toNat (x5_27 : Int).toNat), t118, t119, x110005_59, x110006_59, x110007_59, t132, t133, a0.extract ((wrap64 (t134 + 1)) : Int).toNat (x5_9 : Int).toNat)))) else (none)) else (none)) else (none))) = some (r1, r2, r3, r4, r5, r6, r7, r8, r9, r10, r11) := H
        have A90 := za.mk A900
        clear A900
        by_cases c91 : t136 > x5_9
        ·rw [if_pos c91] at H
         have c91b0 : decide (x5_9 < t136) = true := decide_eq_true c91
         clear c91
         replace H := Option.bind_eq_some_iff.mp H
         obtain ⟨t137, A920, H⟩ := H
         replace H : (if t137 > (wrap64 (x5_9 + 1)) then ((zy.f k9 a0 (wrap64 (x5_9 + 1))).bind fun t138 => (zb.l1 k9 a0 t138 (wrap64 (t134 + 1)) false x110001_16 (a0.extract (x4_16 : Int).toNat (x5_27 : Int).toNat) t118 t119 x110005_59 x110006_59 x110007_59 t132 t133 (⟨#[]⟩ : ByteArray))) else (if 0 ≤ (wrap64 (t134 + 1)) then (if (wrap64 (t134 + 1)) ≤ x5_9 then (if x5_9 ≤ (a0.size : Int) then ((zp.f k9 a0 x5_9).bind fun t139 => (if t139 < (a0.size : Int) then (some (false, (⟨#[]⟩ : ByteArray), (⟨#[]⟩ : ByteArray), (⟨#[]⟩ : ByteArray), (⟨#[]⟩ : ByteArray), (⟨#[]⟩ : ByteArray), (⟨#[]⟩ : ByteArray), (⟨#[]⟩ : ByteArray), (⟨#[]⟩ : ByteArray), (⟨#[]⟩ : ByteArray), (⟨#[]⟩ : ByteArray))) else (some (true, x110001_16, (a0.extract (x4_16 : Int).toNat (x5_27 : Int).toNat), t118, t119, x110005_59, x110006_59, x110007_59, t132, t133, a0.extract ((wrap64 (t134 + 1)) : Int).toNat (x5_9 : Int).toNat)))) else (none)) else (none)) else (none))) = some (r1, r2, r3, r4, r5, r6, r7, r8, r9, r10, r11) := H
         have A92 := za.mk A920
         clear A920
         by_cases c93 : t137 > (wrap64 (x5_9 + 1))
         ·rw [if_pos c93] at H
          have c93b0 : decide ((wrap64 (x5_9 + 1)) < t137) = true := decide_eq_true c93
          clear c93
          replace H := Option.bind_eq_some_iff.mp H
          obtain ⟨t138, A940, H⟩ := H
          replace H : (zb.l1 k9 a0 t138 (wrap64 (t134 + 1)) false x110001_16 (a0.extract (x4_16 : Int).toNat (x5_27 : Int).toNat) t118 t119 x110005_59 x110006_59 x110007_59 t132 t133 (⟨#[]⟩ : ByteArray)) = some (r1, r2, r3, r4, r5, r6, r7, r8, r9, r10, r11) := H
          have A94 := za.mk A940
          clear A940
          have H' := za.mk H
          clear H
          go_wp2_with (first | ((with_reducible refine zbb (f := 107) rfl ?_); refine zcc (some 160) rfl rfl Tryz.func107 (by kernel_rfl) rfl #[.string a0, .int .i64 x5_9] rfl (by (try simp only [List.map_toArray, List.map_cons, List.map_nil]); first | done | rfl | (simp only [List.length_drop, List.length_take]; rfl)) ?_; (with_reducible refine (zib.calls a0 x5_9 t136 _ A90.out).mono ?_); rintro e w' ⟨rfl, ⟨nd, rfl⟩⟩; refine ⟨_, rfl, ?_⟩) | (go_at_call 106; (with_reducible refine (zy.calls k9 a0 (wrap64 (x5_9 + 1)) t137 _ A92.out).mono ?_); rintro e w' ⟨rfl, ⟨nd, rfl⟩⟩) | ((with_reducible refine zbb (f := 106) rfl ?_); refine zcc (some 175) rfl rfl Tryz.func106 (by kernel_rfl) rfl #[.string a0, .int .i64 (wrap64 (x5_9 + 1))] rfl (by (try simp only [List.map_toArray, List.map_cons, List.map_nil]); first | done | rfl | (simp only [List.length_drop, List.length_take]; rfl)) ?_; (with_reducible refine (zy.calls k9 a0 (wrap64 (x5_9 + 1)) t138 _ A94.out).mono ?_); rintro e w' ⟨rfl, ⟨nd, rfl⟩⟩; refine ⟨_, rfl, ?_⟩))
          go_roundg k9
          case measure => have := HJ59.out; have := HJ75.out; have := HK9.out; omega
          case rel => exact ⟨(t138), (by rfl), (by exact H'), ⟨by have := HJ59.out; have := HJ75.out; have := HK9.out; omega⟩, ⟨by (with_reducible (refine zl ?_ _)); exact BK108.out⟩, ⟨by (with_reducible (refine zl ?_ _)); exact BK109.out⟩, ⟨by (with_reducible apply ze; with_reducible exact HB.out)⟩⟩
         ·rw [if_neg c93] at H
          have c93b0 : decide ((wrap64 (x5_9 + 1)) < t137) = false := decide_eq_false c93
          clear c93
          obtain ⟨ji95, hji95⟩ : ∃ j_ : Int, (wrap64 (t134 + 1)) = j_ := ⟨_, rfl⟩
          (try rw [hji95] at hji34)
          (try rw [hji95] at hji56)
          (try rw [hji95] at hji63)
          (try rw [hji95] at hji34w)
          (try rw [hji95] at hji56w)
          (try rw [hji95] at hji63w)
          replace H : (if 0 ≤ (ji95) then (if (ji95) ≤ x5_9 then (if x5_9 ≤ (a0.size : Int) then ((zp.f k9 a0 x5_9).bind fun t139 => (if t139 < (a0.size : Int) then (some (false, (⟨#[]⟩ : ByteArray), (⟨#[]⟩ : ByteArray), (⟨#[]⟩ : ByteArray), (⟨#[]⟩ : ByteArray), (⟨#[]⟩ : ByteArray), (⟨#[]⟩ : ByteArray), (⟨#[]⟩ : ByteArray), (⟨#[]⟩ : ByteArray), (⟨#[]⟩ : ByteArray), (⟨#[]⟩ : ByteArray))) else (some (true, x110001_16, (a0.extract (x4_16 : Int).toNat (x5_27 : Int).toNat), t118, t119, x110005_59, x110006_59, x110007_59, t132, t133, a0.extract ((ji95) : Int).toNat (x5_9 : Int).toNat)))) else (none)) else (none)) else (none)) = some (r1, r2, r3, r4, r5, r6, r7, r8, r9, r10, r11) := by (rw [hji95] at H; exact H)
          (try rw [hji95] at c87b0)
          (try rw [hji95] at c87b1)
          (try rw [hji95] at A90)
          (try rw [hji95] at A92)
          have hji95w : (IntKind.i64.wrap (t134 + 1)) = ji95 := (i64_w _).trans hji95
          by_cases c96 : 0 ≤ (ji95)
          ·rw [if_pos c96] at H
           have c96b0 := eq_true c96
           have c96b1 : decide (0 ≤ (ji95)) = true := decide_eq_true c96
           clear c96
           by_cases c97 : (ji95) ≤ x5_9
           ·rw [if_pos c97] at H
            have c97b0 := eq_true c97
            have c97b1 : decide ((ji95) ≤ x5_9) = true := decide_eq_true c97
            clear c97
            by_cases c98 : x5_9 ≤ (a0.size : Int)
            ·rw [if_pos c98] at H
             have c98b0 := eq_true c98
             have c98b1 : decide (x5_9 ≤ (a0.size : Int)) = true := decide_eq_true c98
             clear c98
             replace H := Option.bind_eq_some_iff.mp H
             obtain ⟨t139, A990, H⟩ := H
             replace H : (if t139 < (a0.size : Int) then (some (false, (⟨#[]⟩ : ByteArray), (⟨#[]⟩ : ByteArray), (⟨#[]⟩ : ByteArray), (⟨#[]⟩ : ByteArray), (⟨#[]⟩ : ByteArray), (⟨#[]⟩ : ByteArray), (⟨#[]⟩ : ByteArray), (⟨#[]⟩ : ByteArray), (⟨#[]⟩ : ByteArray), (⟨#[]⟩ : ByteArray))) else (some (true, x110001_16, (a0.extract (x4_16 : Int).toNat (x5_27 : Int).toNat), t118, t119, x110005_59, x110006_59, x110007_59, t132, t133, a0.extract ((ji95) : Int).toNat (x5_9 : Int).toNat))) = some (r1, r2, r3, r4, r5, r6, r7, r8, r9, r10, r11) := H
             have A99 := za.mk A990
             clear A990
             by_cases c100 : t139 < (a0.size : Int)
             ·rw [if_pos c100] at H
              have c100b0 : decide (t139 < (a0.size : Int)) = true := decide_eq_true c100
              clear c100
              simp only [Option.some.injEq, Prod.mk.injEq] at H
              obtain ⟨rfl, rfl, rfl, rfl, rfl, rfl, rfl, rfl, rfl, rfl, rfl⟩ := H
              go_wp2_with (first | ((with_reducible refine zbb (f := 107) rfl ?_); refine zcc (some 160) rfl rfl Tryz.func107 (by kernel_rfl) rfl #[.string a0, .int .i64 x5_9] rfl (by (try simp only [List.map_toArray, List.map_cons, List.map_nil]); first | done | rfl | (simp only [List.length_drop, List.length_take]; rfl)) ?_; (with_reducible refine (zib.calls a0 x5_9 t136 _ A90.out).mono ?_); rintro e w' ⟨rfl, ⟨nd, rfl⟩⟩; refine ⟨_, rfl, ?_⟩; (try (rw [zvc wr]; generalize hq_ : World.drewN wr _ = wr; have n0_ : za (wr.heap[gb108]? = some (.cells #[.bool false, .string ⟨#[]⟩, .string ⟨#[]⟩, .string ⟨#[]⟩, .string ⟨#[]⟩, .string ⟨#[]⟩, .string ⟨#[]⟩, .string ⟨#[]⟩, .string ⟨#[]⟩, .string ⟨#[]⟩, .string ⟨#[]⟩] 104 (0, 0))) := ⟨by rw [← hq_]; exact (by (with_reducible (refine zl ?_ _)); exact BK108.out)⟩; have n1_ : za (wr.heap[gb109]? = some (.cells #[.bool false, .string x110001_16, .string (a0.extract (x4_16 : Int).toNat (x5_27 : Int).toNat), .string t118, .string t119, .string x110005_59, .string x110006_59, .string x110007_59, .string t132, .string t133, .string ⟨#[]⟩] 104 (0, 0))) := ⟨by rw [← hq_]; exact (by (with_reducible (refine zl ?_ _)); exact BK109.out)⟩; have n2_ : za (Below w.heap.size w wr) := ⟨by rw [← hq_]; exact (by (with_reducible apply ze; with_reducible exact HB.out))⟩; clear BK108 BK109 HB hq_; have BK108 := n0_; have BK109 := n1_; have HB := n2_; clear n0_ n1_ n2_))) | (go_at_call 106; (with_reducible refine (zy.calls k9 a0 (wrap64 (x5_9 + 1)) t137 _ A92.out).mono ?_); rintro e w' ⟨rfl, ⟨nd, rfl⟩⟩; (try (rw [zvc wr]; generalize hq_ : World.drewN wr _ = wr; have n0_ : za (wr.heap[gb108]? = some (.cells #[.bool false, .string ⟨#[]⟩, .string ⟨#[]⟩, .string ⟨#[]⟩, .string ⟨#[]⟩, .string ⟨#[]⟩, .string ⟨#[]⟩, .string ⟨#[]⟩, .string ⟨#[]⟩, .string ⟨#[]⟩, .string ⟨#[]⟩] 104 (0, 0))) := ⟨by rw [← hq_]; exact (by (with_reducible (refine zl ?_ _)); exact BK108.out)⟩; have n1_ : za (wr.heap[gb109]? = some (.cells #[.bool false, .string x110001_16, .string (a0.extract (x4_16 : Int).toNat (x5_27 : Int).toNat), .string t118, .string t119, .string x110005_59, .string x110006_59, .string x110007_59, .string t132, .string t133, .string ⟨#[]⟩] 104 (0, 0))) := ⟨by rw [← hq_]; exact (by (with_reducible (refine zl ?_ _)); exact BK109.out)⟩; have n2_ : za (Below w.heap.size w wr) := ⟨by rw [← hq_]; exact (by (with_reducible apply ze; with_reducible exact HB.out))⟩; clear BK108 BK109 HB hq_; have BK108 := n0_; have BK109 := n1_; have HB := n2_; clear n0_ n1_ n2_)); have hnb101 := NB109_108.out; have hnc101 := NB108_109.out; obtain ⟨hcz102_0, hcz102_1, hcz102_2, hcz102_3, hcz102_4, hcz102_5, hcz102_6, hcz102_7, hcz102_8, hcz102_9, hcz102_10, hfz102_0, hfz102_1, hfz102_2, hfz102_3, hfz102_4, hfz102_5, hfz102_6, hfz102_7, hfz102_8, hfz102_9, hfz102_10⟩ := cl11 BK109.out) | ((with_reducible refine zbb (f := 102) rfl ?_); refine zcc (some 184) rfl rfl Tryz.func102 (by kernel_rfl) rfl #[.string a0, .int .i64 x5_9] rfl (by (try simp only [List.map_toArray, List.map_cons, List.map_nil]); first | done | rfl | (simp only [List.length_drop, List.length_take]; rfl)) ?_; (with_reducible refine (zp.calls k9 a0 x5_9 t139 _ A99.out).mono ?_); rintro e w' ⟨rfl, ⟨nd, rfl⟩⟩; refine ⟨_, rfl, ?_⟩; obtain ⟨hcz103_0, hcz103_1, hcz103_2, hcz103_3, hcz103_4, hcz103_5, hcz103_6, hcz103_7, hcz103_8, hcz103_9, hcz103_10, hfz103_0, hfz103_1, hfz103_2, hfz103_3, hfz103_4, hfz103_5, hfz103_6, hfz103_7, hfz103_8, hfz103_9, hfz103_10⟩ := cl11 BK108.out))
              refine bodyPost_ret (results_cell_row rfl _ _ gb108 104 #[.bool false, .string ⟨#[]⟩, .string ⟨#[]⟩, .string ⟨#[]⟩, .string ⟨#[]⟩, .string ⟨#[]⟩, .string ⟨#[]⟩, .string ⟨#[]⟩, .string ⟨#[]⟩, .string ⟨#[]⟩, .string ⟨#[]⟩] (0, 0) _ rfl (by refine zm (cs := #[.bool false, .string ⟨#[]⟩, .string ⟨#[]⟩, .string ⟨#[]⟩, .string ⟨#[]⟩, .string ⟨#[]⟩, .string ⟨#[]⟩, .string ⟨#[]⟩, .string ⟨#[]⟩, .string ⟨#[]⟩, .string ⟨#[]⟩]) ?_ 10 _ rfl; refine zm (cs := #[.bool false, .string ⟨#[]⟩, .string ⟨#[]⟩, .string ⟨#[]⟩, .string ⟨#[]⟩, .string ⟨#[]⟩, .string ⟨#[]⟩, .string ⟨#[]⟩, .string ⟨#[]⟩, .string ⟨#[]⟩, .string ⟨#[]⟩]) ?_ 9 _ rfl; refine zm (cs := #[.bool false, .string ⟨#[]⟩, .string ⟨#[]⟩, .string ⟨#[]⟩, .string ⟨#[]⟩, .string ⟨#[]⟩, .string ⟨#[]⟩, .string ⟨#[]⟩, .string ⟨#[]⟩, .string ⟨#[]⟩, .string ⟨#[]⟩]) ?_ 8 _ rfl; refine zm (cs := #[.bool false, .string ⟨#[]⟩, .string ⟨#[]⟩, .string ⟨#[]⟩, .string ⟨#[]⟩, .string ⟨#[]⟩, .string ⟨#[]⟩, .string ⟨#[]⟩, .string ⟨#[]⟩, .string ⟨#[]⟩, .string ⟨#[]⟩]) ?_ 7 _ rfl; refine zm (cs := #[.bool false, .string ⟨#[]⟩, .string ⟨#[]⟩, .string ⟨#[]⟩, .string ⟨#[]⟩, .string ⟨#[]⟩, .string ⟨#[]⟩, .string ⟨#[]⟩, .string ⟨#[]⟩, .string ⟨#[]⟩, .string ⟨#[]⟩]) ?_ 6 _ rfl; refine zm (cs := #[.bool false, .string ⟨#[]⟩, .string ⟨#[]⟩, .string ⟨#[]⟩, .string ⟨#[]⟩, .string ⟨#[]⟩, .string ⟨#[]⟩, .string ⟨#[]⟩, .string ⟨#[]⟩, .string ⟨#[]⟩, .string ⟨#[]⟩]) ?_ 5 _ rfl; refine zm (cs := #[.bool false, .string ⟨#[]⟩, .string ⟨#[]⟩, .string ⟨#[]⟩, .string ⟨#[]⟩, .string ⟨#[]⟩, .string ⟨#[]⟩, .string ⟨#[]⟩, .string ⟨#[]⟩, .string ⟨#[]⟩, .string ⟨#[]⟩]) ?_ 4 _ rfl; refine zm (cs := #[.bool false, .string ⟨#[]⟩, .string ⟨#[]⟩, .string ⟨#[]⟩, .string ⟨#[]⟩, .string ⟨#[]⟩, .string ⟨#[]⟩, .string ⟨#[]⟩, .string ⟨#[]⟩, .string ⟨#[]⟩, .string ⟨#[]⟩]) ?_ 3 _ rfl; refine zm (cs := #[.bool false, .string ⟨#[]⟩, .string ⟨#[]⟩, .string ⟨#[]⟩, .string ⟨#[]⟩, .string ⟨#[]⟩, .string ⟨#[]⟩, .string ⟨#[]⟩, .string ⟨#[]⟩, .string ⟨#[]⟩, .string ⟨#[]⟩]) ?_ 2 _ rfl; refine zm (cs := #[.bool false, .string ⟨#[]⟩, .string ⟨#[]⟩, .string ⟨#[]⟩, .string ⟨#[]⟩, .string ⟨#[]⟩, .string ⟨#[]⟩, .string ⟨#[]⟩, .string ⟨#[]⟩, .string ⟨#[]⟩, .string ⟨#[]⟩]) ?_ 1 _ rfl; refine zm (cs := #[.bool false, .string ⟨#[]⟩, .string ⟨#[]⟩, .string ⟨#[]⟩, .string ⟨#[]⟩, .string ⟨#[]⟩, .string ⟨#[]⟩, .string ⟨#[]⟩, .string ⟨#[]⟩, .string ⟨#[]⟩, .string ⟨#[]⟩]) ?_ 0 _ rfl; (with_reducible (refine zl ?_ _)); refine zic ?_ NB108_109.out _; exact BK108.out) Tryz.underlying104 rfl (by kernel_rfl)) rfl ?_
              exact ⟨by rfl, by repeat (first | (with_reducible first | exact HB.out | apply zg | apply ze | apply below_drew1 | refine zo ?_ GE108.out | refine zo ?_ GE109.out) | exact HB.out)⟩
             ·rw [if_neg c100] at H
              have c100b0 : decide (t139 < (a0.size : Int)) = false := decide_eq_false c100
              clear c100
              simp only [Option.some.injEq, Prod.mk.injEq] at H
              obtain ⟨rfl, rfl, rfl, rfl, rfl, rfl, rfl, rfl, rfl, rfl, rfl⟩ := H
              go_wp2_with (first | ((with_reducible refine zbb (f := 107) rfl ?_); refine zcc (some 160) rfl rfl Tryz.func107 (by kernel_rfl) rfl #[.string a0, .int .i64 x5_9] rfl (by (try simp only [List.map_toArray, List.map_cons, List.map_nil]); first | done | rfl | (simp only [List.length_drop, List.length_take]; rfl)) ?_; (with_reducible refine (zib.calls a0 x5_9 t136 _ A90.out).mono ?_); rintro e w' ⟨rfl, ⟨nd, rfl⟩⟩; refine ⟨_, rfl, ?_⟩; (try (rw [zvc wr]; generalize hq_ : World.drewN wr _ = wr; have n0_ : za (wr.heap[gb108]? = some (.cells #[.bool false, .string ⟨#[]⟩, .string ⟨#[]⟩, .string ⟨#[]⟩, .string ⟨#[]⟩, .string ⟨#[]⟩, .string ⟨#[]⟩, .string ⟨#[]⟩, .string ⟨#[]⟩, .string ⟨#[]⟩, .string ⟨#[]⟩] 104 (0, 0))) := ⟨by rw [← hq_]; exact (by (with_reducible (refine zl ?_ _)); exact BK108.out)⟩; have n1_ : za (wr.heap[gb109]? = some (.cells #[.bool false, .string x110001_16, .string (a0.extract (x4_16 : Int).toNat (x5_27 : Int).toNat), .string t118, .string t119, .string x110005_59, .string x110006_59, .string x110007_59, .string t132, .string t133, .string ⟨#[]⟩] 104 (0, 0))) := ⟨by rw [← hq_]; exact (by (with_reducible (refine zl ?_ _)); exact BK109.out)⟩; have n2_ : za (Below w.heap.size w wr) := ⟨by rw [← hq_]; exact (by (with_reducible apply ze; with_reducible exact HB.out))⟩; clear BK108 BK109 HB hq_; have BK108 := n0_; have BK109 := n1_; have HB := n2_; clear n0_ n1_ n2_))) | (go_at_call 106; (with_reducible refine (zy.calls k9 a0 (wrap64 (x5_9 + 1)) t137 _ A92.out).mono ?_); rintro e w' ⟨rfl, ⟨nd, rfl⟩⟩; (try (rw [zvc wr]; generalize hq_ : World.drewN wr _ = wr; have n0_ : za (wr.heap[gb108]? = some (.cells #[.bool false, .string ⟨#[]⟩, .string ⟨#[]⟩, .string ⟨#[]⟩, .string ⟨#[]⟩, .string ⟨#[]⟩, .string ⟨#[]⟩, .string ⟨#[]⟩, .string ⟨#[]⟩, .string ⟨#[]⟩, .string ⟨#[]⟩] 104 (0, 0))) := ⟨by rw [← hq_]; exact (by (with_reducible (refine zl ?_ _)); exact BK108.out)⟩; have n1_ : za (wr.heap[gb109]? = some (.cells #[.bool false, .string x110001_16, .string (a0.extract (x4_16 : Int).toNat (x5_27 : Int).toNat), .string t118, .string t119, .string x110005_59, .string x110006_59, .string x110007_59, .string t132, .string t133, .string ⟨#[]⟩] 104 (0, 0))) := ⟨by rw [← hq_]; exact (by (with_reducible (refine zl ?_ _)); exact BK109.out)⟩; have n2_ : za (Below w.heap.size w wr) := ⟨by rw [← hq_]; exact (by (with_reducible apply ze; with_reducible exact HB.out))⟩; clear BK108 BK109 HB hq_; have BK108 := n0_; have BK109 := n1_; have HB := n2_; clear n0_ n1_ n2_)); have hnb104 := NB109_108.out; have hnc104 := NB108_109.out; obtain ⟨hcz105_0, hcz105_1, hcz105_2, hcz105_3, hcz105_4, hcz105_5, hcz105_6, hcz105_7, hcz105_8, hcz105_9, hcz105_10, hfz105_0, hfz105_1, hfz105_2, hfz105_3, hfz105_4, hfz105_5, hfz105_6, hfz105_7, hfz105_8, hfz105_9, hfz105_10⟩ := cl11 BK109.out) | ((with_reducible refine zbb (f := 102) rfl ?_); refine zcc (some 184) rfl rfl Tryz.func102 (by kernel_rfl) rfl #[.string a0, .int .i64 x5_9] rfl (by (try simp only [List.map_toArray, List.map_cons, List.map_nil]); first | done | rfl | (simp only [List.length_drop, List.length_take]; rfl)) ?_; (with_reducible refine (zp.calls k9 a0 x5_9 t139 _ A99.out).mono ?_); rintro e w' ⟨rfl, ⟨nd, rfl⟩⟩; refine ⟨_, rfl, ?_⟩; obtain ⟨hcz106_0, hcz106_1, hcz106_2, hcz106_3, hcz106_4, hcz106_5, hcz106_6, hcz106_7, hcz106_8, hcz106_9, hcz106_10, hfz106_0, hfz106_1, hfz106_2, hfz106_3, hfz106_4, hfz106_5, hfz106_6, hfz106_7, hfz106_8, hfz106_9, hfz106_10⟩ := cl11 BK108.out))
              refine bodyPost_ret (results_cell_row rfl _ _ gb108 104 #[.bool true, .string x110001_16, .string (a0.extract (x4_16 : Int).toNat (x5_27 : Int).toNat), .string t118, .string t119, .string x110005_59, .string x110006_59, .string x110007_59, .string t132, .string t133, .string (a0.extract ((ji95) : Int).toNat (x5_9 : Int).toNat)] (0, 0) _ rfl (by refine zm (cs := #[.bool true, .string x110001_16, .string (a0.extract (x4_16 : Int).toNat (x5_27 : Int).toNat), .string t118, .string t119, .string x110005_59, .string x110006_59, .string x110007_59, .string t132, .string t133, .string ⟨#[]⟩]) ?_ 10 _ rfl; refine zm (cs := #[.bool true, .string x110001_16, .string (a0.extract (x4_16 : Int).toNat (x5_27 : Int).toNat), .string t118, .string t119, .string x110005_59, .string x110006_59, .string x110007_59, .string t132, .string ⟨#[]⟩, .string ⟨#[]⟩]) ?_ 9 _ rfl; refine zm (cs := #[.bool true, .string x110001_16, .string (a0.extract (x4_16 : Int).toNat (x5_27 : Int).toNat), .string t118, .string t119, .string x110005_59, .string x110006_59, .string x110007_59, .string ⟨#[]⟩, .string ⟨#[]⟩, .string ⟨#[]⟩]) ?_ 8 _ rfl; refine zm (cs := #[.bool true, .string x110001_16, .string (a0.extract (x4_16 : Int).toNat (x5_27 : Int).toNat), .string t118, .string t119, .string x110005_59, .string x110006_59, .string ⟨#[]⟩, .string ⟨#[]⟩, .string ⟨#[]⟩, .string ⟨#[]⟩]) ?_ 7 _ rfl; refine zm (cs := #[.bool true, .string x110001_16, .string (a0.extract (x4_16 : Int).toNat (x5_27 : Int).toNat), .string t118, .string t119, .string x110005_59, .string ⟨#[]⟩, .string ⟨#[]⟩, .string ⟨#[]⟩, .string ⟨#[]⟩, .string ⟨#[]⟩]) ?_ 6 _ rfl; refine zm (cs := #[.bool true, .string x110001_16, .string (a0.extract (x4_16 : Int).toNat (x5_27 : Int).toNat), .string t118, .string t119, .string ⟨#[]⟩, .string ⟨#[]⟩, .string ⟨#[]⟩, .string ⟨#[]⟩, .string ⟨#[]⟩, .string ⟨#[]⟩]) ?_ 5 _ rfl; refine zm (cs := #[.bool true, .string x110001_16, .string (a0.extract (x4_16 : Int).toNat (x5_27 : Int).toNat), .string t118, .string ⟨#[]⟩, .string ⟨#[]⟩, .string ⟨#[]⟩, .string ⟨#[]⟩, .string ⟨#[]⟩, .string ⟨#[]⟩, .string ⟨#[]⟩]) ?_ 4 _ rfl; refine zm (cs := #[.bool true, .string x110001_16, .string (a0.extract (x4_16 : Int).toNat (x5_27 : Int).toNat), .string ⟨#[]⟩, .string ⟨#[]⟩, .string ⟨#[]⟩, .string ⟨#[]⟩, .string ⟨#[]⟩, .string ⟨#[]⟩, .string ⟨#[]⟩, .string ⟨#[]⟩]) ?_ 3 _ rfl; refine zm (cs := #[.bool true, .string x110001_16, .string ⟨#[]⟩, .string ⟨#[]⟩, .string ⟨#[]⟩, .string ⟨#[]⟩, .string ⟨#[]⟩, .string ⟨#[]⟩, .string ⟨#[]⟩, .string ⟨#[]⟩, .string ⟨#[]⟩]) ?_ 2 _ rfl; refine zm (cs := #[.bool true, .string ⟨#[]⟩, .string ⟨#[]⟩, .string ⟨#[]⟩, .string ⟨#[]⟩, .string ⟨#[]⟩, .string ⟨#[]⟩, .string ⟨#[]⟩, .string ⟨#[]⟩, .string ⟨#[]⟩, .string ⟨#[]⟩]) ?_ 1 _ rfl; refine zm (cs := #[.bool false, .string ⟨#[]⟩, .string ⟨#[]⟩, .string ⟨#[]⟩, .string ⟨#[]⟩, .string ⟨#[]⟩, .string ⟨#[]⟩, .string ⟨#[]⟩, .string ⟨#[]⟩, .string ⟨#[]⟩, .string ⟨#[]⟩]) ?_ 0 _ rfl; refine zic ?_ NB108_109.out _; (with_reducible (refine zl ?_ _)); refine zic ?_ NB108_109.out _; exact BK108.out) Tryz.underlying104 rfl (by kernel_rfl)) rfl ?_
              exact ⟨by rfl, by repeat (first | (with_reducible first | exact HB.out | apply zg | apply ze | apply below_drew1 | refine zo ?_ GE108.out | refine zo ?_ GE109.out) | exact HB.out)⟩
            ·rw [if_neg c98] at H
             exact absurd H (by simp)
           ·rw [if_neg c97] at H
            exact absurd H (by simp)
          ·rw [if_neg c96] at H
           exact absurd H (by simp)
        ·rw [if_neg c91] at H
         have c91b0 : decide (x5_9 < t136) = false := decide_eq_false c91
         clear c91
         obtain ⟨ji107, hji107⟩ : ∃ j_ : Int, (wrap64 (t134 + 1)) = j_ := ⟨_, rfl⟩
         (try rw [hji107] at hji34)
         (try rw [hji107] at hji56)
         (try rw [hji107] at hji63)
         (try rw [hji107] at hji95)
         (try rw [hji107] at hji34w)
         (try rw [hji107] at hji56w)
         (try rw [hji107] at hji63w)
         (try rw [hji107] at hji95w)
         replace H : (if 0 ≤ (ji107) then (if (ji107) ≤ x5_9 then (if x5_9 ≤ (a0.size : Int) then ((zp.f k9 a0 x5_9).bind fun t140 => (if t140 < (a0.size : Int) then (some (false, (⟨#[]⟩ : ByteArray), (⟨#[]⟩ : ByteArray), (⟨#[]⟩ : ByteArray), (⟨#[]⟩ : ByteArray), (⟨#[]⟩ : ByteArray), (⟨#[]⟩ : ByteArray), (⟨#[]⟩ : ByteArray), (⟨#[]⟩ : ByteArray), (⟨#[]⟩ : ByteArray), (⟨#[]⟩ : ByteArray))) else (some (true, x110001_16, (a0.extract (x4_16 : Int).toNat (x5_27 : Int).toNat), t118, t119, x110005_59, x110006_59, x110007_59, t132, t133, a0.extract ((ji107) : Int).toNat (x5_9 : Int).toNat)))) else (none)) else (none)) else (none)) = some (r1, r2, r3, r4, r5, r6, r7, r8, r9, r10, r11) := by (rw [hji107] at H; exact H)
         (try rw [hji107] at c87b0)
         (try rw [hji107] at c87b1)
         (try rw [hji107] at A90)
         have hji107w : (IntKind.i64.wrap (t134 + 1)) = ji107 := (i64_w _).trans hji107
         by_cases c108 : 0 ≤ (ji107)
         ·rw [if_pos c108] at H
          have c108b0 := eq_true c108
          have c108b1 : decide (0 ≤ (ji107)) = true := decide_eq_true c108
          clear c108
          by_cases c109 : (ji107) ≤ x5_9
          ·rw [if_pos c109] at H
           have c109b0 := eq_true c109
           have c109b1 : decide ((ji107) ≤ x5_9) = true := decide_eq_true c109
           clear c109
           by_cases c110 : x5_9 ≤ (a0.size : Int)
           ·rw [if_pos c110] at H
            have c110b0 := eq_true c110
            have c110b1 : decide (x5_9 ≤ (a0.size : Int)) = true := decide_eq_true c110
            clear c110
            replace H := Option.bind_eq_some_iff.mp H
            obtain ⟨t140, A1110, H⟩ := H
            replace H : (if t140 < (a0.size : Int) then (some (false, (⟨#[]⟩ : ByteArray), (⟨#[]⟩ : ByteArray), (⟨#[]⟩ : ByteArray), (⟨#[]⟩ : ByteArray), (⟨#[]⟩ : ByteArray), (⟨#[]⟩ : ByteArray), (⟨#[]⟩ : ByteArray), (⟨#[]⟩ : ByteArray), (⟨#[]⟩ : ByteArray), (⟨#[]⟩ : ByteArray))) else (some (true, x110001_16, (a0.extract (x4_16 : Int).toNat (x5_27 : Int).toNat), t118, t119, x110005_59, x110006_59, x110007_59, t132, t133, a0.extract ((ji107) : Int).toNat (x5_9 : Int).toNat))) = some (r1, r2, r3, r4, r5, r6, r7, r8, r9, r10, r11) := H
            have A111 := za.mk A1110
            clear A1110
            by_cases c112 : t140 < (a0.size : Int)
            ·rw [if_pos c112] at H
             have c112b0 : decide (t140 < (a0.size : Int)) = true := decide_eq_true c112
             clear c112
             simp only [Option.some.injEq, Prod.mk.injEq] at H
             obtain ⟨rfl, rfl, rfl, rfl, rfl, rfl, rfl, rfl, rfl, rfl, rfl⟩ := H
             go_wp2_with (first | ((with_reducible refine zbb (f := 107) rfl ?_); refine zcc (some 160) rfl rfl Tryz.func107 (by kernel_rfl) rfl #[.string a0, .int .i64 x5_9] rfl (by (try simp only [List.map_toArray, List.map_cons, List.map_nil]); first | done | rfl | (simp only [List.length_drop, List.length_take]; rfl)) ?_; (with_reducible refine (zib.calls a0 x5_9 t136 _ A90.out).mono ?_); rintro e w' ⟨rfl, ⟨nd, rfl⟩⟩; refine ⟨_, rfl, ?_⟩; (try (rw [zvc wr]; generalize hq_ : World.drewN wr _ = wr; have n0_ : za (wr.heap[gb108]? = some (.cells #[.bool false, .string ⟨#[]⟩, .string ⟨#[]⟩, .string ⟨#[]⟩, .string ⟨#[]⟩, .string ⟨#[]⟩, .string ⟨#[]⟩, .string ⟨#[]⟩, .string ⟨#[]⟩, .string ⟨#[]⟩, .string ⟨#[]⟩] 104 (0, 0))) := ⟨by rw [← hq_]; exact (by (with_reducible (refine zl ?_ _)); exact BK108.out)⟩; have n1_ : za (wr.heap[gb109]? = some (.cells #[.bool false, .string x110001_16, .string (a0.extract (x4_16 : Int).toNat (x5_27 : Int).toNat), .string t118, .string t119, .string x110005_59, .string x110006_59, .string x110007_59, .string t132, .string t133, .string ⟨#[]⟩] 104 (0, 0))) := ⟨by rw [← hq_]; exact (by (with_reducible (refine zl ?_ _)); exact BK109.out)⟩; have n2_ : za (Below w.heap.size w wr) := ⟨by rw [← hq_]; exact (by (with_reducible apply ze; with_reducible exact HB.out))⟩; clear BK108 BK109 HB hq_; have BK108 := n0_; have BK109 := n1_; have HB := n2_; clear n0_ n1_ n2_)); have hnb113 := NB109_108.out; have hnc113 := NB108_109.out; obtain ⟨hcz114_0, hcz114_1, hcz114_2, hcz114_3, hcz114_4, hcz114_5, hcz114_6, hcz114_7, hcz114_8, hcz114_9, hcz114_10, hfz114_0, hfz114_1, hfz114_2, hfz114_3, hfz114_4, hfz114_5, hfz114_6, hfz114_7, hfz114_8, hfz114_9, hfz114_10⟩ := cl11 BK109.out) | ((with_reducible refine zbb (f := 102) rfl ?_); refine zcc (some 184) rfl rfl Tryz.func102 (by kernel_rfl) rfl #[.string a0, .int .i64 x5_9] rfl (by (try simp only [List.map_toArray, List.map_cons, List.map_nil]); first | done | rfl | (simp only [List.length_drop, List.length_take]; rfl)) ?_; (with_reducible refine (zp.calls k9 a0 x5_9 t140 _ A111.out).mono ?_); rintro e w' ⟨rfl, ⟨nd, rfl⟩⟩; refine ⟨_, rfl, ?_⟩; obtain ⟨hcz115_0, hcz115_1, hcz115_2, hcz115_3, hcz115_4, hcz115_5, hcz115_6, hcz115_7, hcz115_8, hcz115_9, hcz115_10, hfz115_0, hfz115_1, hfz115_2, hfz115_3, hfz115_4, hfz115_5, hfz115_6, hfz115_7, hfz115_8, hfz115_9, hfz115_10⟩ := cl11 BK108.out))
             refine bodyPost_ret (results_cell_row rfl _ _ gb108 104 #[.bool false, .string ⟨#[]⟩, .string ⟨#[]⟩, .string ⟨#[]⟩, .string ⟨#[]⟩, .string ⟨#[]⟩, .string ⟨#[]⟩, .string ⟨#[]⟩, .string ⟨#[]⟩, .string ⟨#[]⟩, .string ⟨#[]⟩] (0, 0) _ rfl (by refine zm (cs := #[.bool false, .string ⟨#[]⟩, .string ⟨#[]⟩, .string ⟨#[]⟩, .string ⟨#[]⟩, .string ⟨#[]⟩, .string ⟨#[]⟩, .string ⟨#[]⟩, .string ⟨#[]⟩, .string ⟨#[]⟩, .string ⟨#[]⟩]) ?_ 10 _ rfl; refine zm (cs := #[.bool false, .string ⟨#[]⟩, .string ⟨#[]⟩, .string ⟨#[]⟩, .string ⟨#[]⟩, .string ⟨#[]⟩, .string ⟨#[]⟩, .string ⟨#[]⟩, .string ⟨#[]⟩, .string ⟨#[]⟩, .string ⟨#[]⟩]) ?_ 9 _ rfl; refine zm (cs := #[.bool false, .string ⟨#[]⟩, .string ⟨#[]⟩, .string ⟨#[]⟩, .string ⟨#[]⟩, .string ⟨#[]⟩, .string ⟨#[]⟩, .string ⟨#[]⟩, .string ⟨#[]⟩, .string ⟨#[]⟩, .string ⟨#[]⟩]) ?_ 8 _ rfl; refine zm (cs := #[.bool false, .string ⟨#[]⟩, .string ⟨#[]⟩, .string ⟨#[]⟩, .string ⟨#[]⟩, .string ⟨#[]⟩, .string ⟨#[]⟩, .string ⟨#[]⟩, .string ⟨#[]⟩, .string ⟨#[]⟩, .string ⟨#[]⟩]) ?_ 7 _ rfl; refine zm (cs := #[.bool false, .string ⟨#[]⟩, .string ⟨#[]⟩, .string ⟨#[]⟩, .string ⟨#[]⟩, .string ⟨#[]⟩, .string ⟨#[]⟩, .string ⟨#[]⟩, .string ⟨#[]⟩, .string ⟨#[]⟩, .string ⟨#[]⟩]) ?_ 6 _ rfl; refine zm (cs := #[.bool false, .string ⟨#[]⟩, .string ⟨#[]⟩, .string ⟨#[]⟩, .string ⟨#[]⟩, .string ⟨#[]⟩, .string ⟨#[]⟩, .string ⟨#[]⟩, .string ⟨#[]⟩, .string ⟨#[]⟩, .string ⟨#[]⟩]) ?_ 5 _ rfl; refine zm (cs := #[.bool false, .string ⟨#[]⟩, .string ⟨#[]⟩, .string ⟨#[]⟩, .string ⟨#[]⟩, .string ⟨#[]⟩, .string ⟨#[]⟩, .string ⟨#[]⟩, .string ⟨#[]⟩, .string ⟨#[]⟩, .string ⟨#[]⟩]) ?_ 4 _ rfl; refine zm (cs := #[.bool false, .string ⟨#[]⟩, .string ⟨#[]⟩, .string ⟨#[]⟩, .string ⟨#[]⟩, .string ⟨#[]⟩, .string ⟨#[]⟩, .string ⟨#[]⟩, .string ⟨#[]⟩, .string ⟨#[]⟩, .string ⟨#[]⟩]) ?_ 3 _ rfl; refine zm (cs := #[.bool false, .string ⟨#[]⟩, .string ⟨#[]⟩, .string ⟨#[]⟩, .string ⟨#[]⟩, .string ⟨#[]⟩, .string ⟨#[]⟩, .string ⟨#[]⟩, .string ⟨#[]⟩, .string ⟨#[]⟩, .string ⟨#[]⟩]) ?_ 2 _ rfl; refine zm (cs := #[.bool false, .string ⟨#[]⟩, .string ⟨#[]⟩, .string ⟨#[]⟩, .string ⟨#[]⟩, .string ⟨#[]⟩, .string ⟨#[]⟩, .string ⟨#[]⟩, .string ⟨#[]⟩, .string ⟨#[]⟩, .string ⟨#[]⟩]) ?_ 1 _ rfl; refine zm (cs := #[.bool false, .string ⟨#[]⟩, .string ⟨#[]⟩, .string ⟨#[]⟩, .string ⟨#[]⟩, .string ⟨#[]⟩, .string ⟨#[]⟩, .string ⟨#[]⟩, .string ⟨#[]⟩, .string ⟨#[]⟩, .string ⟨#[]⟩]) ?_ 0 _ rfl; (with_reducible (refine zl ?_ _)); refine zic ?_ NB108_109.out _; exact BK108.out) Tryz.underlying104 rfl (by kernel_rfl)) rfl ?_
             exact ⟨by rfl, by repeat (first | (with_reducible first | exact HB.out | apply zg | apply ze | apply below_drew1 | refine zo ?_ GE108.out | refine zo ?_ GE109.out) | exact HB.out)⟩
            ·rw [if_neg c112] at H
             have c112b0 : decide (t140 < (a0.size : Int)) = false := decide_eq_false c112
             clear c112
             simp only [Option.some.injEq, Prod.mk.injEq] at H
             obtain ⟨rfl, rfl, rfl, rfl, rfl, rfl, rfl, rfl, rfl, rfl, rfl⟩ := H
             go_wp2_with (first | ((with_reducible refine zbb (f := 107) rfl ?_); refine zcc (some 160) rfl rfl Tryz.func107 (by kernel_rfl) rfl #[.string a0, .int .i64 x5_9] rfl (by (try simp only [List.map_toArray, List.map_cons, List.map_nil]); first | done | rfl | (simp only [List.length_drop, List.length_take]; rfl)) ?_; (with_reducible refine (zib.calls a0 x5_9 t136 _ A90.out).mono ?_); rintro e w' ⟨rfl, ⟨nd, rfl⟩⟩; refine ⟨_, rfl, ?_⟩; (try (rw [zvc wr]; generalize hq_ : World.drewN wr _ = wr; have n0_ : za (wr.heap[gb108]? = some (.cells #[.bool false, .string ⟨#[]⟩, .string ⟨#[]⟩, .string ⟨#[]⟩, .string ⟨#[]⟩, .string ⟨#[]⟩, .string ⟨#[]⟩, .string ⟨#[]⟩, .string ⟨#[]⟩, .string ⟨#[]⟩, .string ⟨#[]⟩] 104 (0, 0))) := ⟨by rw [← hq_]; exact (by (with_reducible (refine zl ?_ _)); exact BK108.out)⟩; have n1_ : za (wr.heap[gb109]? = some (.cells #[.bool false, .string x110001_16, .string (a0.extract (x4_16 : Int).toNat (x5_27 : Int).toNat), .string t118, .string t119, .string x110005_59, .string x110006_59, .string x110007_59, .string t132, .string t133, .string ⟨#[]⟩] 104 (0, 0))) := ⟨by rw [← hq_]; exact (by (with_reducible (refine zl ?_ _)); exact BK109.out)⟩; have n2_ : za (Below w.heap.size w wr) := ⟨by rw [← hq_]; exact (by (with_reducible apply ze; with_reducible exact HB.out))⟩; clear BK108 BK109 HB hq_; have BK108 := n0_; have BK109 := n1_; have HB := n2_; clear n0_ n1_ n2_)); have hnb116 := NB109_108.out; have hnc116 := NB108_109.out; obtain ⟨hcz117_0, hcz117_1, hcz117_2, hcz117_3, hcz117_4, hcz117_5, hcz117_6, hcz117_7, hcz117_8, hcz117_9, hcz117_10, hfz117_0, hfz117_1, hfz117_2, hfz117_3, hfz117_4, hfz117_5, hfz117_6, hfz117_7, hfz117_8, hfz117_9, hfz117_10⟩ := cl11 BK109.out) | ((with_reducible refine zbb (f := 102) rfl ?_); refine zcc (some 184) rfl rfl Tryz.func102 (by kernel_rfl) rfl #[.string a0, .int .i64 x5_9] rfl (by (try simp only [List.map_toArray, List.map_cons, List.map_nil]); first | done | rfl | (simp only [List.length_drop, List.length_take]; rfl)) ?_; (with_reducible refine (zp.calls k9 a0 x5_9 t140 _ A111.out).mono ?_); rintro e w' ⟨rfl, ⟨nd, rfl⟩⟩; refine ⟨_, rfl, ?_⟩; obtain ⟨hcz118_0, hcz118_1, hcz118_2, hcz118_3, hcz118_4, hcz118_5, hcz118_6, hcz118_7, hcz118_8, hcz118_9, hcz118_10, hfz118_0, hfz118_1, hfz118_2, hfz118_3, hfz118_4, hfz118_5, hfz118_6, hfz118_7, hfz118_8, hfz118_9, hfz118_10⟩ := cl11 BK108.out))
             refine bodyPost_ret (results_cell_row rfl _ _ gb108 104 #[.bool true, .string x110001_16, .string (a0.extract (x4_16 : Int).toNat (x5_27 : Int).toNat), .string t118, .string t119, .string x110005_59, .string x110006_59, .string x110007_59, .string t132, .string t133, .string (a0.extract ((ji107) : Int).toNat (x5_9 : Int).toNat)] (0, 0) _ rfl (by refine zm (cs := #[.bool true, .string x110001_16, .string (a0.extract (x4_16 : Int).toNat (x5_27 : Int).toNat), .string t118, .string t119, .string x110005_59, .string x110006_59, .string x110007_59, .string t132, .string t133, .string ⟨#[]⟩]) ?_ 10 _ rfl; refine zm (cs := #[.bool true, .string x110001_16, .string (a0.extract (x4_16 : Int).toNat (x5_27 : Int).toNat), .string t118, .string t119, .string x110005_59, .string x110006_59, .string x110007_59, .string t132, .string ⟨#[]⟩, .string ⟨#[]⟩]) ?_ 9 _ rfl; refine zm (cs := #[.bool true, .string x110001_16, .string (a0.extract (x4_16 : Int).toNat (x5_27 : Int).toNat), .string t118, .string t119, .string x110005_59, .string x110006_59, .string x110007_59, .string ⟨#[]⟩, .string ⟨#[]⟩, .string ⟨#[]⟩]) ?_ 8 _ rfl; refine zm (cs := #[.bool true, .string x110001_16, .string (a0.extract (x4_16 : Int).toNat (x5_27 : Int).toNat), .string t118, .string t119, .string x110005_59, .string x110006_59, .string ⟨#[]⟩, .string ⟨#[]⟩, .string ⟨#[]⟩, .string ⟨#[]⟩]) ?_ 7 _ rfl; refine zm (cs := #[.bool true, .string x110001_16, .string (a0.extract (x4_16 : Int).toNat (x5_27 : Int).toNat), .string t118, .string t119, .string x110005_59, .string ⟨#[]⟩, .string ⟨#[]⟩, .string ⟨#[]⟩, .string ⟨#[]⟩, .string ⟨#[]⟩]) ?_ 6 _ rfl; refine zm (cs := #[.bool true, .string x110001_16, .string (a0.extract (x4_16 : Int).toNat (x5_27 : Int).toNat), .string t118, .string t119, .string ⟨#[]⟩, .string ⟨#[]⟩, .string ⟨#[]⟩, .string ⟨#[]⟩, .string ⟨#[]⟩, .string ⟨#[]⟩]) ?_ 5 _ rfl; refine zm (cs := #[.bool true, .string x110001_16, .string (a0.extract (x4_16 : Int).toNat (x5_27 : Int).toNat), .string t118, .string ⟨#[]⟩, .string ⟨#[]⟩, .string ⟨#[]⟩, .string ⟨#[]⟩, .string ⟨#[]⟩, .string ⟨#[]⟩, .string ⟨#[]⟩]) ?_ 4 _ rfl; refine zm (cs := #[.bool true, .string x110001_16, .string (a0.extract (x4_16 : Int).toNat (x5_27 : Int).toNat), .string ⟨#[]⟩, .string ⟨#[]⟩, .string ⟨#[]⟩, .string ⟨#[]⟩, .string ⟨#[]⟩, .string ⟨#[]⟩, .string ⟨#[]⟩, .string ⟨#[]⟩]) ?_ 3 _ rfl; refine zm (cs := #[.bool true, .string x110001_16, .string ⟨#[]⟩, .string ⟨#[]⟩, .string ⟨#[]⟩, .string ⟨#[]⟩, .string ⟨#[]⟩, .string ⟨#[]⟩, .string ⟨#[]⟩, .string ⟨#[]⟩, .string ⟨#[]⟩]) ?_ 2 _ rfl; refine zm (cs := #[.bool true, .string ⟨#[]⟩, .string ⟨#[]⟩, .string ⟨#[]⟩, .string ⟨#[]⟩, .string ⟨#[]⟩, .string ⟨#[]⟩, .string ⟨#[]⟩, .string ⟨#[]⟩, .string ⟨#[]⟩, .string ⟨#[]⟩]) ?_ 1 _ rfl; refine zm (cs := #[.bool false, .string ⟨#[]⟩, .string ⟨#[]⟩, .string ⟨#[]⟩, .string ⟨#[]⟩, .string ⟨#[]⟩, .string ⟨#[]⟩, .string ⟨#[]⟩, .string ⟨#[]⟩, .string ⟨#[]⟩, .string ⟨#[]⟩]) ?_ 0 _ rfl; refine zic ?_ NB108_109.out _; (with_reducible (refine zl ?_ _)); refine zic ?_ NB108_109.out _; exact BK108.out) Tryz.underlying104 rfl (by kernel_rfl)) rfl ?_
             exact ⟨by rfl, by repeat (first | (with_reducible first | exact HB.out | apply zg | apply ze | apply below_drew1 | refine zo ?_ GE108.out | refine zo ?_ GE109.out) | exact HB.out)⟩
           ·rw [if_neg c110] at H
            exact absurd H (by simp)
          ·rw [if_neg c109] at H
           exact absurd H (by simp)
         ·rw [if_neg c108] at H
          exact absurd H (by simp)
    ·replace c85 := Bool.eq_false_iff.mpr c85
     subst c85
     have H1 : ((zp.f kj75 a0 t134).bind fun t141 => (if t141 < (a0.size : Int) then (some (false, (⟨#[]⟩ : ByteArray), (⟨#[]⟩ : ByteArray), (⟨#[]⟩ : ByteArray), (⟨#[]⟩ : ByteArray), (⟨#[]⟩ : ByteArray), (⟨#[]⟩ : ByteArray), (⟨#[]⟩ : ByteArray), (⟨#[]⟩ : ByteArray), (⟨#[]⟩ : ByteArray), (⟨#[]⟩ : ByteArray))) else (some (true, x110001_16, (a0.extract (x4_16 : Int).toNat (x5_27 : Int).toNat), t118, t119, x110005_59, x110006_59, x110007_59, t132, t133, (⟨#[]⟩ : ByteArray))))) = some (r1, r2, r3, r4, r5, r6, r7, r8, r9, r10, r11) := by rw [if_neg (show ¬ (false = true) by decide)] at H; exact H
     clear H
     have H := H1
     clear H1
     replace H := Option.bind_eq_some_iff.mp H
     obtain ⟨t141, A1190, H⟩ := H
     replace H : (if t141 < (a0.size : Int) then (some (false, (⟨#[]⟩ : ByteArray), (⟨#[]⟩ : ByteArray), (⟨#[]⟩ : ByteArray), (⟨#[]⟩ : ByteArray), (⟨#[]⟩ : ByteArray), (⟨#[]⟩ : ByteArray), (⟨#[]⟩ : ByteArray), (⟨#[]⟩ : ByteArray), (⟨#[]⟩ : ByteArray), (⟨#[]⟩ : ByteArray))) else (some (true, x110001_16, (a0.extract (x4_16 : Int).toNat (x5_27 : Int).toNat), t118, t119, x110005_59, x110006_59, x110007_59, t132, t133, (⟨#[]⟩ : ByteArray)))) = some (r1, r2, r3, r4, r5, r6, r7, r8, r9, r10, r11) := H
     have A119 := za.mk A1190
     clear A1190
     by_cases c120 : t141 < (a0.size : Int)
     ·rw [if_pos c120] at H
      have c120b0 : decide (t141 < (a0.size : Int)) = true := decide_eq_true c120
      clear c120
      simp only [Option.some.injEq, Prod.mk.injEq] at H
      obtain ⟨rfl, rfl, rfl, rfl, rfl, rfl, rfl, rfl, rfl, rfl, rfl⟩ := H
      go_wp2_with (((with_reducible refine zbb (f := 102) rfl ?_); refine zcc (some 184) rfl rfl Tryz.func102 (by kernel_rfl) rfl #[.string a0, .int .i64 t134] rfl (by (try simp only [List.map_toArray, List.map_cons, List.map_nil]); first | done | rfl | (simp only [List.length_drop, List.length_take]; rfl)) ?_; (with_reducible refine (zp.calls kj75 a0 t134 t141 _ A119.out).mono ?_); rintro e w' ⟨rfl, ⟨nd, rfl⟩⟩; refine ⟨_, rfl, ?_⟩; (try (rw [zvc wc]; generalize hq_ : World.drewN wc _ = wc; have n0_ : za (wc.heap[gb108]? = some (.cells #[.bool false, .string ⟨#[]⟩, .string ⟨#[]⟩, .string ⟨#[]⟩, .string ⟨#[]⟩, .string ⟨#[]⟩, .string ⟨#[]⟩, .string ⟨#[]⟩, .string ⟨#[]⟩, .string ⟨#[]⟩, .string ⟨#[]⟩] 104 (0, 0))) := ⟨by rw [← hq_]; exact (by (with_reducible (refine zl ?_ _)); exact BK108.out)⟩; have n1_ : za (wc.heap[gb109]? = some (.cells #[.bool false, .string x110001_16, .string (a0.extract (x4_16 : Int).toNat (x5_27 : Int).toNat), .string t118, .string t119, .string x110005_59, .string x110006_59, .string x110007_59, .string t132, .string t133, .string ⟨#[]⟩] 104 (0, 0))) := ⟨by rw [← hq_]; exact (by (with_reducible (refine zl ?_ _)); exact BK109.out)⟩; have n2_ : za (Below w.heap.size w wc) := ⟨by rw [← hq_]; exact (by (with_reducible apply ze; with_reducible exact HB.out))⟩; clear BK108 BK109 HB hq_; have BK108 := n0_; have BK109 := n1_; have HB := n2_; clear n0_ n1_ n2_)); have hnb121 := NB108_109.out; have hnc121 := NB109_108.out; obtain ⟨hcz122_0, hcz122_1, hcz122_2, hcz122_3, hcz122_4, hcz122_5, hcz122_6, hcz122_7, hcz122_8, hcz122_9, hcz122_10, hfz122_0, hfz122_1, hfz122_2, hfz122_3, hfz122_4, hfz122_5, hfz122_6, hfz122_7, hfz122_8, hfz122_9, hfz122_10⟩ := cl11 BK108.out))
      refine bodyPost_ret (results_cell_row rfl _ _ gb108 104 #[.bool false, .string ⟨#[]⟩, .string ⟨#[]⟩, .string ⟨#[]⟩, .string ⟨#[]⟩, .string ⟨#[]⟩, .string ⟨#[]⟩, .string ⟨#[]⟩, .string ⟨#[]⟩, .string ⟨#[]⟩, .string ⟨#[]⟩] (0, 0) _ rfl (by exact put11 BK108.out) Tryz.underlying104 rfl (by kernel_rfl)) rfl ?_
      exact ⟨by rfl, by repeat (first | (with_reducible first | exact HB.out | apply zg | apply ze | apply below_drew1 | refine zo ?_ GE108.out | refine zo ?_ GE109.out) | exact HB.out)⟩
     ·rw [if_neg c120] at H
      have c120b0 : decide (t141 < (a0.size : Int)) = false := decide_eq_false c120
      clear c120
      simp only [Option.some.injEq, Prod.mk.injEq] at H
      obtain ⟨rfl, rfl, rfl, rfl, rfl, rfl, rfl, rfl, rfl, rfl, rfl⟩ := H
      go_wp2_with (((with_reducible refine zbb (f := 102) rfl ?_); refine zcc (some 184) rfl rfl Tryz.func102 (by kernel_rfl) rfl #[.string a0, .int .i64 t134] rfl (by (try simp only [List.map_toArray, List.map_cons, List.map_nil]); first | done | rfl | (simp only [List.length_drop, List.length_take]; rfl)) ?_; (with_reducible refine (zp.calls kj75 a0 t134 t141 _ A119.out).mono ?_); rintro e w' ⟨rfl, ⟨nd, rfl⟩⟩; refine ⟨_, rfl, ?_⟩; (try (rw [zvc wc]; generalize hq_ : World.drewN wc _ = wc; have n0_ : za (wc.heap[gb108]? = some (.cells #[.bool false, .string ⟨#[]⟩, .string ⟨#[]⟩, .string ⟨#[]⟩, .string ⟨#[]⟩, .string ⟨#[]⟩, .string ⟨#[]⟩, .string ⟨#[]⟩, .string ⟨#[]⟩, .string ⟨#[]⟩, .string ⟨#[]⟩] 104 (0, 0))) := ⟨by rw [← hq_]; exact (by (with_reducible (refine zl ?_ _)); exact BK108.out)⟩; have n1_ : za (wc.heap[gb109]? = some (.cells #[.bool false, .string x110001_16, .string (a0.extract (x4_16 : Int).toNat (x5_27 : Int).toNat), .string t118, .string t119, .string x110005_59, .string x110006_59, .string x110007_59, .string t132, .string t133, .string ⟨#[]⟩] 104 (0, 0))) := ⟨by rw [← hq_]; exact (by (with_reducible (refine zl ?_ _)); exact BK109.out)⟩; have n2_ : za (Below w.heap.size w wc) := ⟨by rw [← hq_]; exact (by (with_reducible apply ze; with_reducible exact HB.out))⟩; clear BK108 BK109 HB hq_; have BK108 := n0_; have BK109 := n1_; have HB := n2_; clear n0_ n1_ n2_)); have hnb123 := NB109_108.out; have hnc123 := NB108_109.out; obtain ⟨hcz124_0, hcz124_1, hcz124_2, hcz124_3, hcz124_4, hcz124_5, hcz124_6, hcz124_7, hcz124_8, hcz124_9, hcz124_10, hfz124_0, hfz124_1, hfz124_2, hfz124_3, hfz124_4, hfz124_5, hfz124_6, hfz124_7, hfz124_8, hfz124_9, hfz124_10⟩ := cl11 BK109.out; obtain ⟨hcz125_0, hcz125_1, hcz125_2, hcz125_3, hcz125_4, hcz125_5, hcz125_6, hcz125_7, hcz125_8, hcz125_9, hcz125_10, hfz125_0, hfz125_1, hfz125_2, hfz125_3, hfz125_4, hfz125_5, hfz125_6, hfz125_7, hfz125_8, hfz125_9, hfz125_10⟩ := cl11 BK108.out))
      refine bodyPost_ret (results_cell_row rfl _ _ gb108 104 #[.bool true, .string x110001_16, .string (a0.extract (x4_16 : Int).toNat (x5_27 : Int).toNat), .string t118, .string t119, .string x110005_59, .string x110006_59, .string x110007_59, .string t132, .string t133, .string ⟨#[]⟩] (0, 0) _ rfl (by refine zm (cs := #[.bool true, .string x110001_16, .string (a0.extract (x4_16 : Int).toNat (x5_27 : Int).toNat), .string t118, .string t119, .string x110005_59, .string x110006_59, .string x110007_59, .string t132, .string t133, .string ⟨#[]⟩]) ?_ 10 _ rfl; refine zm (cs := #[.bool true, .string x110001_16, .string (a0.extract (x4_16 : Int).toNat (x5_27 : Int).toNat), .string t118, .string t119, .string x110005_59, .string x110006_59, .string x110007_59, .string t132, .string ⟨#[]⟩, .string ⟨#[]⟩]) ?_ 9 _ rfl; refine zm (cs := #[.bool true, .string x110001_16, .string (a0.extract (x4_16 : Int).toNat (x5_27 : Int).toNat), .string t118, .string t119, .string x110005_59, .string x110006_59, .string x110007_59, .string ⟨#[]⟩, .string ⟨#[]⟩, .string ⟨#[]⟩]) ?_ 8 _ rfl; refine zm (cs := #[.bool true, .string x110001_16, .string (a0.extract (x4_16 : Int).toNat (x5_27 : Int).toNat), .string t118, .string t119, .string x110005_59, .string x110006_59, .string ⟨#[]⟩, .string ⟨#[]⟩, .string ⟨#[]⟩, .string ⟨#[]⟩]) ?_ 7 _ rfl; refine zm (cs := #[.bool true, .string x110001_16, .string (a0.extract (x4_16 : Int).toNat (x5_27 : Int).toNat), .string t118, .string t119, .string x110005_59, .string ⟨#[]⟩, .string ⟨#[]⟩, .string ⟨#[]⟩, .string ⟨#[]⟩, .string ⟨#[]⟩]) ?_ 6 _ rfl; refine zm (cs := #[.bool true, .string x110001_16, .string (a0.extract (x4_16 : Int).toNat (x5_27 : Int).toNat), .string t118, .string t119, .string ⟨#[]⟩, .string ⟨#[]⟩, .string ⟨#[]⟩, .string ⟨#[]⟩, .string ⟨#[]⟩, .string ⟨#[]⟩]) ?_ 5 _ rfl; refine zm (cs := #[.bool true, .string x110001_16, .string (a0.extract (x4_16 : Int).toNat (x5_27 : Int).toNat), .string t118, .string ⟨#[]⟩, .string ⟨#[]⟩, .string ⟨#[]⟩, .string ⟨#[]⟩, .string ⟨#[]⟩, .string ⟨#[]⟩, .string ⟨#[]⟩]) ?_ 4 _ rfl; refine zm (cs := #[.bool true, .string x110001_16, .string (a0.extract (x4_16 : Int).toNat (x5_27 : Int).toNat), .string ⟨#[]⟩, .string ⟨#[]⟩, .string ⟨#[]⟩, .string ⟨#[]⟩, .string ⟨#[]⟩, .string ⟨#[]⟩, .string ⟨#[]⟩, .string ⟨#[]⟩]) ?_ 3 _ rfl; refine zm (cs := #[.bool true, .string x110001_16, .string ⟨#[]⟩, .string ⟨#[]⟩, .string ⟨#[]⟩, .string ⟨#[]⟩, .string ⟨#[]⟩, .string ⟨#[]⟩, .string ⟨#[]⟩, .string ⟨#[]⟩, .string ⟨#[]⟩]) ?_ 2 _ rfl; refine zm (cs := #[.bool true, .string ⟨#[]⟩, .string ⟨#[]⟩, .string ⟨#[]⟩, .string ⟨#[]⟩, .string ⟨#[]⟩, .string ⟨#[]⟩, .string ⟨#[]⟩, .string ⟨#[]⟩, .string ⟨#[]⟩, .string ⟨#[]⟩]) ?_ 1 _ rfl; refine zm (cs := #[.bool false, .string ⟨#[]⟩, .string ⟨#[]⟩, .string ⟨#[]⟩, .string ⟨#[]⟩, .string ⟨#[]⟩, .string ⟨#[]⟩, .string ⟨#[]⟩, .string ⟨#[]⟩, .string ⟨#[]⟩, .string ⟨#[]⟩]) ?_ 0 _ rfl; refine zic ?_ NB108_109.out _; exact BK108.out) Tryz.underlying104 rfl (by kernel_rfl)) rfl ?_
      exact ⟨by rfl, by repeat (first | (with_reducible first | exact HB.out | apply zg | apply ze | apply below_drew1 | refine zo ?_ GE108.out | refine zo ?_ GE109.out) | exact HB.out)⟩
set_option maxRecDepth 1000000 in
theorem zb.st4 (a0 : ByteArray) (r1 : Bool) (r2 : ByteArray) (r3 : ByteArray) (r4 : ByteArray) (r5 : ByteArray) (r6 : ByteArray) (r7 : ByteArray) (r8 : ByteArray) (r9 : ByteArray) (r10 : ByteArray) (r11 : ByteArray) (w : World) (wc : World) (gb108 : Nat) (gb109 : Nat) (kj16 : Nat) (kq : Nat) (x5_27 : Int) (x4_16 : Int) (x110001_16 : ByteArray) (u1 u6 u7 u8 u9 u10 u11 u12 u13 u14 u15 u16 u17 u18 u19 u20 u21 u22 u23 u24 u25 u26 u27 u28 u29 u30 u31 u32 u33 u34 u35 u36 u37 u38 u39 u40 u41 u42 u43 u44 u45 u46 u47 u48 u49 u50 u51 u52 u53 u54 u55 u56 u57 u58 u59 u60 u61 u62 u63 u64 u65 u66 u67 u68 u69 u70 u71 u72 u73 u74 u75 u76 u77 u78 u79 u80 u81 u82 u83 u84 u85 u86 u87 u88 u89 u90 u91 u92 u93 u94 u95 u96 u97 u98 u99 u100 u101 u102 u103 u104 u105 u106 u107 u108 u109 u110 u111 u112 u113 u114 u115 u116 u117 u118 u119 u120 u121 u122 u123 u124 u125 u126 u127 u128 u129 u130 u131 u132 u133 u134 u135 u136 u137 u138 u139 u140 u141 u142 u143 u144 u145 u146 u147 u148 u149 u150 u151 u152 u153 u154 u155 u156 u157 u158 u159 u160 u161 u162 u163 u164 u165 u166 u167 u168 u169 u170 u171 u172 u173 u174 u175 u176 u177 u178 u179 u180 u181 u182 u183 u184 u185 u186 u187 u188 u189 u190 : Value) (HA : za (zb.j5 kq a0 x4_16 x5_27 false x110001_16 (⟨#[]⟩ : ByteArray) (⟨#[]⟩ : ByteArray) (⟨#[]⟩ : ByteArray) (⟨#[]⟩ : ByteArray) (⟨#[]⟩ : ByteArray) (⟨#[]⟩ : ByteArray) (⟨#[]⟩ : ByteArray) (⟨#[]⟩ : ByteArray) (⟨#[]⟩ : ByteArray) = some (r1, r2, r3, r4, r5, r6, r7, r8, r9, r10, r11))) (HJ27 : za (kq ≤ kj16)) (BK108 : za (wc.heap[gb108]? = some (.cells #[.bool false, .string ⟨#[]⟩, .string ⟨#[]⟩, .string ⟨#[]⟩, .string ⟨#[]⟩, .string ⟨#[]⟩, .string ⟨#[]⟩, .string ⟨#[]⟩, .string ⟨#[]⟩, .string ⟨#[]⟩, .string ⟨#[]⟩] 104 (0, 0)))) (BK109 : za (wc.heap[gb109]? = some (.cells #[.bool false, .string x110001_16, .string ⟨#[]⟩, .string ⟨#[]⟩, .string ⟨#[]⟩, .string ⟨#[]⟩, .string ⟨#[]⟩, .string ⟨#[]⟩, .string ⟨#[]⟩, .string ⟨#[]⟩, .string ⟨#[]⟩] 104 (0, 0)))) (HB : za (Below w.heap.size w wc)) (GW108 : za (w.heap.size ≤ gb108)) (GE108 : za (w.heap.size ≤ gb108)) (GW109 : za (w.heap.size ≤ gb109)) (GE109 : za (w.heap.size ≤ gb109)) (NB108_109 : za (gb108 ≠ gb109)) (NB109_108 : za (gb109 ≠ gb108)) :
  Code.wp Tryz.prog ((sndN 8 (Tryz.f67.body.getD .skip))) (bodyPost Tryz.prog Tryz.f67 fun e w' => e = .returned (.agg #[.bool r1, .string r2, .string r3, .string r4, .string r5, .string r6, .string r7, .string r8, .string r9, .string r10, .string r11]) ∧ Below w.heap.size w w') ⟨#[.string a0, u1, .pointer (some ⟨gb108, 0, none⟩), .pointer (some ⟨gb109, 0, none⟩), .int .i64 x4_16, .int .i64 x5_27, u6, u7, u8, u9, u10, u11, u12, u13, u14, u15, u16, u17, u18, u19, u20, u21, u22, u23, u24, u25, u26, u27, u28, u29, u30, u31, u32, u33, u34, u35, u36, u37, u38, u39, u40, u41, u42, u43, u44, u45, u46, u47, u48, u49, u50, u51, u52, u53, u54, u55, u56, u57, u58, u59, u60, u61, u62, u63, u64, u65, u66, u67, u68, u69, u70, u71, u72, u73, u74, u75, u76, u77, u78, u79, u80, u81, u82, u83, u84, u85, u86, u87, u88, u89, u90, u91, u92, u93, u94, u95, u96, u97, u98, u99, u100, u101, u102, u103, u104, u105, u106, u107, u108, u109, u110, u111, u112, u113, u114, u115, u116, u117, u118, u119, u120, u121, u122, u123, u124, u125, u126, u127, u128, u129, u130, u131, u132, u133, u134, u135, u136, u137, u138, u139, u140, u141, u142, u143, u144, u145, u146, u147, u148, u149, u150, u151, u152, u153, u154, u155, u156, u157, u158, u159, u160, u161, u162, u163, u164, u165, u166, u167, u168, u169, u170, u171, u172, u173, u174, u175, u176, u177, u178, u179, u180, u181, u182, u183, u184, u185, u186, u187, u188, u189, u190], []⟩ wc := by
 have hu104 := Tryz.underlying104
 conv => arg 2; whnf
 cases kq with
 | zero => exact absurd HA.out (by simp [zb.j5])
 | succ kj27 =>
  have H := HA.out
  clear HA
  simp only [zb.j5] at H
  by_cases c40 : 0 ≤ x4_16
  ·rw [if_pos c40] at H
   have c40b0 := eq_true c40
   have c40b1 : decide (0 ≤ x4_16) = true := decide_eq_true c40
   clear c40
   by_cases c41 : x4_16 ≤ x5_27
   ·rw [if_pos c41] at H
    have c41b0 := eq_true c41
    have c41b1 : decide (x4_16 ≤ x5_27) = true := decide_eq_true c41
    clear c41
    by_cases c42 : x5_27 ≤ (a0.size : Int)
    ·rw [if_pos c42] at H
     have c42b0 := eq_true c42
     have c42b1 : decide (x5_27 ≤ (a0.size : Int)) = true := decide_eq_true c42
     clear c42
     obtain ⟨y115, hy115⟩ : ∃ y_ : List ByteArray, y_ = (([(⟨#[97, 108, 112, 104, 97]⟩ : ByteArray), (⟨#[98, 101, 116, 97]⟩ : ByteArray), (⟨#[112, 114, 101, 118, 105, 101, 119]⟩ : ByteArray), (⟨#[112, 114, 101]⟩ : ByteArray), (⟨#[114, 99]⟩ : ByteArray), (⟨#[97]⟩ : ByteArray), (⟨#[98]⟩ : ByteArray), (⟨#[99]⟩ : ByteArray)] : List ByteArray)) := ⟨_, rfl⟩
     replace H : ((zn.f kj27 a0 x5_27 y115).bind fun bt118 => (if (wrap64 (bt118.2.2 + 1)) < (a0.size : Int) then (if 0 ≤ bt118.2.2 then (if bt118.2.2 < (a0.size : Int) then (if (bt a0 bt118.2.2) = 45 then (if 0 ≤ (wrap64 (bt118.2.2 + 1)) then ((zdb.f (bt a0 (wrap64 (bt118.2.2 + 1)))).bind fun t121 => (zb.j6 kj27 a0 bt118.2.2 t121 false x110001_16 (a0.extract (x4_16 : Int).toNat (x5_27 : Int).toNat) bt118.1 bt118.2.1 (⟨#[]⟩ : ByteArray) (⟨#[]⟩ : ByteArray) (⟨#[]⟩ : ByteArray) (⟨#[]⟩ : ByteArray) (⟨#[]⟩ : ByteArray) (⟨#[]⟩ : ByteArray))) else (none)) else (zb.j6 kj27 a0 bt118.2.2 false false x110001_16 (a0.extract (x4_16 : Int).toNat (x5_27 : Int).toNat) bt118.1 bt118.2.1 (⟨#[]⟩ : ByteArray) (⟨#[]⟩ : ByteArray) (⟨#[]⟩ : ByteArray) (⟨#[]⟩ : ByteArray) (⟨#[]⟩ : ByteArray) (⟨#[]⟩ : ByteArray))) else (none)) else (none)) else (zb.j6 kj27 a0 bt118.2.2 false false x110001_16 (a0.extract (x4_16 : Int).toNat (x5_27 : Int).toNat) bt118.1 bt118.2.1 (⟨#[]⟩ : ByteArray) (⟨#[]⟩ : ByteArray) (⟨#[]⟩ : ByteArray) (⟨#[]⟩ : ByteArray) (⟨#[]⟩ : ByteArray) (⟨#[]⟩ : ByteArray)))) = some (r1, r2, r3, r4, r5, r6, r7, r8, r9, r10, r11) := by (rw [hy115]; with_reducible exact H)
     have Ny115 := za.mk hy115
     clear hy115
     replace H := Option.bind_eq_some_iff.mp H
     obtain ⟨⟨t118, t119, t120⟩, A430, H⟩ := H
     replace H : (if (wrap64 (t120 + 1)) < (a0.size : Int) then (if 0 ≤ t120 then (if t120 < (a0.size : Int) then (if (bt a0 t120) = 45 then (if 0 ≤ (wrap64 (t120 + 1)) then ((zdb.f (bt a0 (wrap64 (t120 + 1)))).bind fun t121 => (zb.j6 kj27 a0 t120 t121 false x110001_16 (a0.extract (x4_16 : Int).toNat (x5_27 : Int).toNat) t118 t119 (⟨#[]⟩ : ByteArray) (⟨#[]⟩ : ByteArray) (⟨#[]⟩ : ByteArray) (⟨#[]⟩ : ByteArray) (⟨#[]⟩ : ByteArray) (⟨#[]⟩ : ByteArray))) else (none)) else (zb.j6 kj27 a0 t120 false false x110001_16 (a0.extract (x4_16 : Int).toNat (x5_27 : Int).toNat) t118 t119 (⟨#[]⟩ : ByteArray) (⟨#[]⟩ : ByteArray) (⟨#[]⟩ : ByteArray) (⟨#[]⟩ : ByteArray) (⟨#[]⟩ : ByteArray) (⟨#[]⟩ : ByteArray))) else (none)) else (none)) else (zb.j6 kj27 a0 t120 false false x110001_16 (a0.extract (x4_16 : Int).toNat (x5_27 : Int).toNat) t118 t119 (⟨#[]⟩ : ByteArray) (⟨#[]⟩ : ByteArray) (⟨#[]⟩ : ByteArray) (⟨#[]⟩ : ByteArray) (⟨#[]⟩ : ByteArray) (⟨#[]⟩ : ByteArray))) = some (r1, r2, r3, r4, r5, r6, r7, r8, r9, r10, r11) := H
     have A43 := za.mk A430
     clear A430
     have HC44 := za.mk H
     clear H
     have hnb45 := NB109_108.out
     have hnc45 := NB108_109.out
     obtain ⟨hcz46_0, hcz46_1, hcz46_2, hcz46_3, hcz46_4, hcz46_5, hcz46_6, hcz46_7, hcz46_8, hcz46_9, hcz46_10, hfz46_0, hfz46_1, hfz46_2, hfz46_3, hfz46_4, hfz46_5, hfz46_6, hfz46_7, hfz46_8, hfz46_9, hfz46_10⟩ := cl11 BK109.out
     go_upto_region 16 with (first | ((with_reducible refine zrb (N := 83) rfl ?_); (try (refine zsb (by rfl) ?_; dsimp only)); refine Kd.R_lit Kd.string _ 9 ?hg (N := 83) ?hd (xs := ([(⟨#[97, 108, 112, 104, 97]⟩ : ByteArray), (⟨#[98, 101, 116, 97]⟩ : ByteArray), (⟨#[112, 114, 101, 118, 105, 101, 119]⟩ : ByteArray), (⟨#[112, 114, 101]⟩ : ByteArray), (⟨#[114, 99]⟩ : ByteArray), (⟨#[97]⟩ : ByteArray), (⟨#[98]⟩ : ByteArray), (⟨#[99]⟩ : ByteArray)] : List ByteArray)) (inner := [.string (⟨#[97, 108, 112, 104, 97]⟩ : ByteArray), .string (⟨#[98, 101, 116, 97]⟩ : ByteArray), .string (⟨#[112, 114, 101, 118, 105, 101, 119]⟩ : ByteArray), .string (⟨#[112, 114, 101]⟩ : ByteArray), .string (⟨#[114, 99]⟩ : ByteArray), .string (⟨#[97]⟩ : ByteArray), .string (⟨#[98]⟩ : ByteArray), .string (⟨#[99]⟩ : ByteArray)]) (ok := fun _ => True) (okp := fun _ => True) ?hr ?hp (fun _ hk => hk) trivial (Below.refl _ _) (Nat.le_refl _) (by simp) ?_; (case hd => rfl); (case hg => rfl); (case hr => first | (go_simp; done) | (go_simp; rfl)); (case hp => exact (Reps.one (show Kd.M Kd.string _ _ _ (⟨#[97, 108, 112, 104, 97]⟩ : ByteArray) [.string (⟨#[97, 108, 112, 104, 97]⟩ : ByteArray)] from rfl) (Reps.one (show Kd.M Kd.string _ _ _ (⟨#[98, 101, 116, 97]⟩ : ByteArray) [.string (⟨#[98, 101, 116, 97]⟩ : ByteArray)] from rfl) (Reps.one (show Kd.M Kd.string _ _ _ (⟨#[112, 114, 101, 118, 105, 101, 119]⟩ : ByteArray) [.string (⟨#[112, 114, 101, 118, 105, 101, 119]⟩ : ByteArray)] from rfl) (Reps.one (show Kd.M Kd.string _ _ _ (⟨#[112, 114, 101]⟩ : ByteArray) [.string (⟨#[112, 114, 101]⟩ : ByteArray)] from rfl) (Reps.one (show Kd.M Kd.string _ _ _ (⟨#[114, 99]⟩ : ByteArray) [.string (⟨#[114, 99]⟩ : ByteArray)] from rfl) (Reps.one (show Kd.M Kd.string _ _ _ (⟨#[97]⟩ : ByteArray) [.string (⟨#[97]⟩ : ByteArray)] from rfl) (Reps.one (show Kd.M Kd.string _ _ _ (⟨#[98]⟩ : ByteArray) [.string (⟨#[98]⟩ : ByteArray)] from rfl) (Reps.one (show Kd.M Kd.string _ _ _ (⟨#[99]⟩ : ByteArray) [.string (⟨#[99]⟩ : ByteArray)] from rfl) (Reps.none _ _)))))))))); intro v116 w47 ho48 hb hg_ hnew_; clear hg_ hnew_; (first | rw [← Ny115.out] at ho48 | (simp only [Int.reduceToNat] at ho48; rw [← Ny115.out] at ho48)); have HO117 := za.mk (Kd.R_lower ho48 (zab (by (with_reducible refine zo ?_ GE109.out; with_reducible exact HB.out)))); replace BK108 := za.mk (zr (g := gb108) (o := .cells #[.bool false, .string ⟨#[]⟩, .string ⟨#[]⟩, .string ⟨#[]⟩, .string ⟨#[]⟩, .string ⟨#[]⟩, .string ⟨#[]⟩, .string ⟨#[]⟩, .string ⟨#[]⟩, .string ⟨#[]⟩, .string ⟨#[]⟩] 104 (0, 0)) (by refine zic ?_ NB108_109.out _; exact BK108.out) hb); replace BK109 := za.mk (zr (g := gb109) (o := .cells #[.bool false, .string x110001_16, .string (a0.extract (x4_16 : Int).toNat (x5_27 : Int).toNat), .string ⟨#[]⟩, .string ⟨#[]⟩, .string ⟨#[]⟩, .string ⟨#[]⟩, .string ⟨#[]⟩, .string ⟨#[]⟩, .string ⟨#[]⟩, .string ⟨#[]⟩] 104 (0, 0)) (by refine zm (cs := #[.bool false, .string x110001_16, .string ⟨#[]⟩, .string ⟨#[]⟩, .string ⟨#[]⟩, .string ⟨#[]⟩, .string ⟨#[]⟩, .string ⟨#[]⟩, .string ⟨#[]⟩, .string ⟨#[]⟩, .string ⟨#[]⟩]) ?_ 2 _ rfl; exact BK109.out) hb); replace HB := za.mk (zw (by (with_reducible refine zo ?_ GE109.out; with_reducible exact HB.out)) hb); clear hb ho48; obtain ⟨Ao49, co49, eo49⟩ := Kd.R_slice HO117.out; subst eo49) | ((with_reducible refine zbb (f := 105) rfl ?_); refine zcc (some 84) rfl rfl Tryz.func105 (by kernel_rfl) rfl #[.string a0, .int .i64 x5_27, .slice Ao49 y115.length co49] rfl (by (try simp only [List.map_toArray, List.map_cons, List.map_nil]); first | done | rfl | (simp only [List.length_drop, List.length_take]; rfl)) ?_; (with_reducible refine (zn.calls kj27 a0 x5_27 _ _ y115 t118 t119 t120 _ ?side1 ?side2 A43.out).mono ?_); (case side1 => repeat (first | exact (Kd.R_reads' HO117.out).2.2 | (with_reducible refine Kd.C_alloc ?_ _) | (with_reducible refine Kd.C_drewN ?_ _) | (with_reducible refine Kd.C_drew ?_))); (case side2 => exact (Kd.R_reads' HO117.out).2.1); rintro e w' ⟨rfl, ⟨nd, rfl⟩⟩; refine ⟨_, rfl, ?_⟩; (try (rw [zvc w47]; generalize hq_ : World.drewN w47 _ = w47; have n0_ : za (Kd.R Kd.string 9 w47 w.heap.size (fun _ => True) (.slice Ao49 y115.length co49) y115) := ⟨by rw [← hq_]; exact (by (with_reducible repeat (first | apply Kd.R_alloc | apply Kd.R_drewN | apply Kd.R_drew)); exact HO117.out)⟩; have n1_ : za (w47.heap[gb108]? = some (.cells #[.bool false, .string ⟨#[]⟩, .string ⟨#[]⟩, .string ⟨#[]⟩, .string ⟨#[]⟩, .string ⟨#[]⟩, .string ⟨#[]⟩, .string ⟨#[]⟩, .string ⟨#[]⟩, .string ⟨#[]⟩, .string ⟨#[]⟩] 104 (0, 0))) := ⟨by rw [← hq_]; exact (by (with_reducible (refine zl ?_ _)); exact BK108.out)⟩; have n2_ : za (w47.heap[gb109]? = some (.cells #[.bool false, .string x110001_16, .string (a0.extract (x4_16 : Int).toNat (x5_27 : Int).toNat), .string ⟨#[]⟩, .string ⟨#[]⟩, .string ⟨#[]⟩, .string ⟨#[]⟩, .string ⟨#[]⟩, .string ⟨#[]⟩, .string ⟨#[]⟩, .string ⟨#[]⟩] 104 (0, 0))) := ⟨by rw [← hq_]; exact (by (with_reducible (refine zl ?_ _)); exact BK109.out)⟩; have n3_ : za (Below w.heap.size w w47) := ⟨by rw [← hq_]; exact (by (with_reducible apply ze; with_reducible exact HB.out))⟩; clear HO117 BK108 BK109 HB hq_; have HO117 := n0_; have BK108 := n1_; have BK109 := n2_; have HB := n3_; clear n0_ n1_ n2_ n3_)); obtain ⟨hcz50_0, hcz50_1, hcz50_2, hcz50_3, hcz50_4, hcz50_5, hcz50_6, hcz50_7, hcz50_8, hcz50_9, hcz50_10, hfz50_0, hfz50_1, hfz50_2, hfz50_3, hfz50_4, hfz50_5, hfz50_6, hfz50_7, hfz50_8, hfz50_9, hfz50_10⟩ := cl11 BK109.out))
     (try simp only [Act.put, List.setIfInBounds_toArray, List.set_cons_zero, List.set_cons_succ])
     go_cut [107] (fun v107 wc => ∃ (kq : Nat) (x107_43 : Bool), v107 = .bool x107_43 ∧ za (zb.j6 kq a0 t120 x107_43 false x110001_16 (a0.extract (x4_16 : Int).toNat (x5_27 : Int).toNat) t118 t119 (⟨#[]⟩ : ByteArray) (⟨#[]⟩ : ByteArray) (⟨#[]⟩ : ByteArray) (⟨#[]⟩ : ByteArray) (⟨#[]⟩ : ByteArray) (⟨#[]⟩ : ByteArray) = some (r1, r2, r3, r4, r5, r6, r7, r8, r9, r10, r11)) ∧ za (kq ≤ kj27) ∧ za (wc.heap[gb108]? = some (.cells #[.bool false, .string ⟨#[]⟩, .string ⟨#[]⟩, .string ⟨#[]⟩, .string ⟨#[]⟩, .string ⟨#[]⟩, .string ⟨#[]⟩, .string ⟨#[]⟩, .string ⟨#[]⟩, .string ⟨#[]⟩, .string ⟨#[]⟩] 104 (0, 0))) ∧ za (wc.heap[gb109]? = some (.cells #[.bool false, .string x110001_16, .string (a0.extract (x4_16 : Int).toNat (x5_27 : Int).toNat), .string t118, .string t119, .string ⟨#[]⟩, .string ⟨#[]⟩, .string ⟨#[]⟩, .string ⟨#[]⟩, .string ⟨#[]⟩, .string ⟨#[]⟩] 104 (0, 0))) ∧ za (Below w.heap.size w wc))
     case first =>
      have H := HC44.out
      clear HC44
      by_cases c51 : (wrap64 (t120 + 1)) < (a0.size : Int)
      ·rw [if_pos c51] at H
       have c51b0 : decide ((wrap64 (t120 + 1)) < (a0.size : Int)) = true := decide_eq_true c51
       clear c51
       (first | rw [c51b0] | (simp only [i64_w, i32_w]; rw [c51b0]) | skip)
       by_cases c52 : 0 ≤ t120
       ·rw [if_pos c52] at H
        have c52b0 : decide (0 ≤ t120) = true := decide_eq_true c52
        clear c52
        by_cases c53 : t120 < (a0.size : Int)
        ·rw [if_pos c53] at H
         have c53b0 : decide (t120 < (a0.size : Int)) = true := decide_eq_true c53
         clear c53
         by_cases c55 : (bt a0 t120) = 45
         ·rw [if_pos c55] at H
          have c55b0 : ((bt a0 t120) == 45) = true := beq_iff_eq.mpr c55
          have c55b1 : ((bt a0 t120) != 45) = false := bne_eq_false_iff_eq.mpr c55
          clear c55
          obtain ⟨ji56, hji56⟩ : ∃ j_ : Int, (wrap64 (t120 + 1)) = j_ := ⟨_, rfl⟩
          (try rw [hji56] at hji34)
          (try rw [hji56] at hji34w)
          replace H : (if 0 ≤ (ji56) then ((zdb.f (bt a0 (ji56))).bind fun t121 => (zb.j6 kj27 a0 t120 t121 false x110001_16 (a0.extract (x4_16 : Int).toNat (x5_27 : Int).toNat) t118 t119 (⟨#[]⟩ : ByteArray) (⟨#[]⟩ : ByteArray) (⟨#[]⟩ : ByteArray) (⟨#[]⟩ : ByteArray) (⟨#[]⟩ : ByteArray) (⟨#[]⟩ : ByteArray))) else (none)) = some (r1, r2, r3, r4, r5, r6, r7, r8, r9, r10, r11) := by (rw [hji56] at H; exact H)
          (try rw [hji56] at c51b0)
          have hji56w : (IntKind.i64.wrap (t120 + 1)) = ji56 := (i64_w _).trans hji56
          by_cases c57 : 0 ≤ (ji56)
          ·rw [if_pos c57] at H
           have c57b0 : decide (0 ≤ (ji56)) = true := decide_eq_true c57
           clear c57
           replace H := Option.bind_eq_some_iff.mp H
           obtain ⟨t121, A590, H⟩ := H
           replace H : (zb.j6 kj27 a0 t120 t121 false x110001_16 (a0.extract (x4_16 : Int).toNat (x5_27 : Int).toNat) t118 t119 (⟨#[]⟩ : ByteArray) (⟨#[]⟩ : ByteArray) (⟨#[]⟩ : ByteArray) (⟨#[]⟩ : ByteArray) (⟨#[]⟩ : ByteArray) (⟨#[]⟩ : ByteArray)) = some (r1, r2, r3, r4, r5, r6, r7, r8, r9, r10, r11) := H
           have A59 := za.mk A590
           clear A590
           have H' := za.mk H
           clear H
           have p54 : 0 ≤ (t120 : Int) := of_decide_eq_true (by (with_reducible assumption))
           have q54 : t120 < (a0.size : Int) := of_decide_eq_true (by (with_reducible assumption))
           have hx54 := bt_at a0 t120
           replace p54 := eq_true p54
           replace q54 := eq_true q54
           have p58 : 0 ≤ ((ji56) : Int) := of_decide_eq_true (by (with_reducible assumption))
           have q58 : (ji56) < (a0.size : Int) := of_decide_eq_true (by (with_reducible assumption))
           have hx58 := bt_at a0 (ji56)
           replace p58 := eq_true p58
           replace q58 := eq_true q58
           go_wp2_with ((go_at_call 104; (with_reducible refine (zdb.calls (bt a0 (ji56)) t121 _ A59.out).mono ?_); rintro e w' ⟨rfl, ⟨nd, rfl⟩⟩))
           go_meet
           case rel => exact ⟨_, (t121), (by rfl), (by exact H'), ⟨by have := HJ27.out; first | omega | exact Nat.le_refl _⟩, ⟨by (with_reducible (refine zl ?_ _)); refine zic ?_ NB108_109.out _; refine zic ?_ NB108_109.out _; exact BK108.out⟩, ⟨by (with_reducible (refine zl ?_ _)); refine zm (cs := #[.bool false, .string x110001_16, .string (a0.extract (x4_16 : Int).toNat (x5_27 : Int).toNat), .string t118, .string ⟨#[]⟩, .string ⟨#[]⟩, .string ⟨#[]⟩, .string ⟨#[]⟩, .string ⟨#[]⟩, .string ⟨#[]⟩, .string ⟨#[]⟩]) ?_ 4 _ rfl; refine zm (cs := #[.bool false, .string x110001_16, .string (a0.extract (x4_16 : Int).toNat (x5_27 : Int).toNat), .string ⟨#[]⟩, .string ⟨#[]⟩, .string ⟨#[]⟩, .string ⟨#[]⟩, .string ⟨#[]⟩, .string ⟨#[]⟩, .string ⟨#[]⟩, .string ⟨#[]⟩]) ?_ 3 _ rfl; exact BK109.out⟩, ⟨by (with_reducible apply ze; with_reducible refine zo ?_ GE109.out; with_reducible refine zo ?_ GE109.out; with_reducible exact HB.out)⟩⟩
          ·rw [if_neg c57] at H
           exact absurd H (by simp)
         ·rw [if_neg c55] at H
          have c55b0 : ((bt a0 t120) == 45) = false := beq_eq_false_iff_ne.mpr c55
          have c55b1 : ((bt a0 t120) != 45) = true := bne_iff_ne.mpr c55
          have H' := za.mk H
          clear H
          have p54 : 0 ≤ (t120 : Int) := of_decide_eq_true (by (with_reducible assumption))
          have q54 : t120 < (a0.size : Int) := of_decide_eq_true (by (with_reducible assumption))
          have hx54 := bt_at a0 t120
          replace p54 := eq_true p54
          replace q54 := eq_true q54
          go_wp2
          go_meet
          case rel => exact ⟨_, (false), (by rfl), (by exact H'), ⟨by have := HJ27.out; first | omega | exact Nat.le_refl _⟩, ⟨by refine zic ?_ NB108_109.out _; refine zic ?_ NB108_109.out _; exact BK108.out⟩, ⟨by refine zm (cs := #[.bool false, .string x110001_16, .string (a0.extract (x4_16 : Int).toNat (x5_27 : Int).toNat), .string t118, .string ⟨#[]⟩, .string ⟨#[]⟩, .string ⟨#[]⟩, .string ⟨#[]⟩, .string ⟨#[]⟩, .string ⟨#[]⟩, .string ⟨#[]⟩]) ?_ 4 _ rfl; refine zm (cs := #[.bool false, .string x110001_16, .string (a0.extract (x4_16 : Int).toNat (x5_27 : Int).toNat), .string ⟨#[]⟩, .string ⟨#[]⟩, .string ⟨#[]⟩, .string ⟨#[]⟩, .string ⟨#[]⟩, .string ⟨#[]⟩, .string ⟨#[]⟩, .string ⟨#[]⟩]) ?_ 3 _ rfl; exact BK109.out⟩, ⟨by (with_reducible refine zo ?_ GE109.out; with_reducible refine zo ?_ GE109.out; with_reducible exact HB.out)⟩⟩
        ·rw [if_neg c53] at H
         exact absurd H (by simp)
       ·rw [if_neg c52] at H
        exact absurd H (by simp)
      ·rw [if_neg c51] at H
       have c51b0 : decide ((wrap64 (t120 + 1)) < (a0.size : Int)) = false := decide_eq_false c51
       clear c51
       (first | rw [c51b0] | (simp only [i64_w, i32_w]; rw [c51b0]) | skip)
       have H' := za.mk H
       clear H
       go_wp2
       go_meet
       case rel => exact ⟨_, (false), (by rfl), (by exact H'), ⟨by have := HJ27.out; first | omega | exact Nat.le_refl _⟩, ⟨by refine zic ?_ NB108_109.out _; refine zic ?_ NB108_109.out _; exact BK108.out⟩, ⟨by refine zm (cs := #[.bool false, .string x110001_16, .string (a0.extract (x4_16 : Int).toNat (x5_27 : Int).toNat), .string t118, .string ⟨#[]⟩, .string ⟨#[]⟩, .string ⟨#[]⟩, .string ⟨#[]⟩, .string ⟨#[]⟩, .string ⟨#[]⟩, .string ⟨#[]⟩]) ?_ 4 _ rfl; refine zm (cs := #[.bool false, .string x110001_16, .string (a0.extract (x4_16 : Int).toNat (x5_27 : Int).toNat), .string ⟨#[]⟩, .string ⟨#[]⟩, .string ⟨#[]⟩, .string ⟨#[]⟩, .string ⟨#[]⟩, .string ⟨#[]⟩, .string ⟨#[]⟩, .string ⟨#[]⟩]) ?_ 3 _ rfl; exact BK109.out⟩, ⟨by (with_reducible refine zo ?_ GE109.out; with_reducible refine zo ?_ GE109.out; with_reducible exact HB.out)⟩⟩
     case rest =>
      clear HC44
      clear c40b0 c40b1 c41b0 c41b1 c42b0 c42b1 hcz46_0 hcz46_1 hcz46_10 hcz46_2 hcz46_3 hcz46_4 hcz46_5 hcz46_6 hcz46_7 hcz46_8 hcz46_9 hcz50_0 hcz50_1 hcz50_10 hcz50_2 hcz50_3 hcz50_4 hcz50_5 hcz50_6 hcz50_7 hcz50_8 hcz50_9 hfz46_0 hfz46_1 hfz46_10 hfz46_2 hfz46_3 hfz46_4 hfz46_5 hfz46_6 hfz46_7 hfz46_8 hfz46_9 hfz50_0 hfz50_1 hfz50_10 hfz50_2 hfz50_3 hfz50_4 hfz50_5 hfz50_6 hfz50_7 hfz50_8 hfz50_9
      obtain ⟨kq, x107_43, rfl, HA, HJ43, BK108, BK109, HB⟩ := hcut
      cases kq with
      | zero => exact absurd HA.out (by simp [zb.j6])
      | succ kj43 =>
       have H := HA.out
       clear HA
       simp only [zb.j6] at H
       have HC60 := za.mk H
       clear H
       go_upto_if 107 with (fail)
       go_cut [4, 107] (fun v4 v107 wc => ∃ (kq : Nat) (x4_59 : Int) (x110005_59 : ByteArray) (x110006_59 : ByteArray) (x110007_59 : ByteArray), v4 = .int .i64 x4_59 ∧ za (zb.j7 kq a0 x4_59 false x110001_16 (a0.extract (x4_16 : Int).toNat (x5_27 : Int).toNat) t118 t119 x110005_59 x110006_59 x110007_59 (⟨#[]⟩ : ByteArray) (⟨#[]⟩ : ByteArray) (⟨#[]⟩ : ByteArray) = some (r1, r2, r3, r4, r5, r6, r7, r8, r9, r10, r11)) ∧ za (kq ≤ kj43) ∧ za (wc.heap[gb108]? = some (.cells #[.bool false, .string ⟨#[]⟩, .string ⟨#[]⟩, .string ⟨#[]⟩, .string ⟨#[]⟩, .string ⟨#[]⟩, .string ⟨#[]⟩, .string ⟨#[]⟩, .string ⟨#[]⟩, .string ⟨#[]⟩, .string ⟨#[]⟩] 104 (0, 0))) ∧ za (wc.heap[gb109]? = some (.cells #[.bool false, .string x110001_16, .string (a0.extract (x4_16 : Int).toNat (x5_27 : Int).toNat), .string t118, .string t119, .string x110005_59, .string x110006_59, .string x110007_59, .string ⟨#[]⟩, .string ⟨#[]⟩, .string ⟨#[]⟩] 104 (0, 0))) ∧ za (Below w.heap.size w wc))
       case first =>
        have H := HC60.out
        clear HC60
        by_cases c61 : x107_43 = true
        ·subst c61
         have H1 : ((zq.f kj43 a0 (wrap64 (t120 + 1))).bind fun t122 => (if 0 ≤ (wrap64 (t120 + 1)) then (if (wrap64 (t120 + 1)) ≤ t122 then (if t122 ≤ (a0.size : Int) then (zb.j7 kj43 a0 t122 false x110001_16 (a0.extract (x4_16 : Int).toNat (x5_27 : Int).toNat) t118 t119 (a0.extract ((wrap64 (t120 + 1)) : Int).toNat (t122 : Int).toNat) (⟨#[]⟩ : ByteArray) (⟨#[]⟩ : ByteArray) (⟨#[]⟩ : ByteArray) (⟨#[]⟩ : ByteArray) (⟨#[]⟩ : ByteArray)) else (none)) else (none)) else (none))) = some (r1, r2, r3, r4, r5, r6, r7, r8, r9, r10, r11) := by rw [if_pos rfl] at H; exact H
         clear H
         have H := H1
         clear H1
         replace H := Option.bind_eq_some_iff.mp H
         obtain ⟨t122, A620, H⟩ := H
         replace H : (if 0 ≤ (wrap64 (t120 + 1)) then (if (wrap64 (t120 + 1)) ≤ t122 then (if t122 ≤ (a0.size : Int) then (zb.j7 kj43 a0 t122 false x110001_16 (a0.extract (x4_16 : Int).toNat (x5_27 : Int).toNat) t118 t119 (a0.extract ((wrap64 (t120 + 1)) : Int).toNat (t122 : Int).toNat) (⟨#[]⟩ : ByteArray) (⟨#[]⟩ : ByteArray) (⟨#[]⟩ : ByteArray) (⟨#[]⟩ : ByteArray) (⟨#[]⟩ : ByteArray)) else (none)) else (none)) else (none)) = some (r1, r2, r3, r4, r5, r6, r7, r8, r9, r10, r11) := H
         have A62 := za.mk A620
         clear A620
         obtain ⟨ji63, hji63⟩ : ∃ j_ : Int, (wrap64 (t120 + 1)) = j_ := ⟨_, rfl⟩
         (try rw [hji63] at hji34)
         (try rw [hji63] at hji56)
         (try rw [hji63] at hji34w)
         (try rw [hji63] at hji56w)
         replace H : (if 0 ≤ (ji63) then (if (ji63) ≤ t122 then (if t122 ≤ (a0.size : Int) then (zb.j7 kj43 a0 t122 false x110001_16 (a0.extract (x4_16 : Int).toNat (x5_27 : Int).toNat) t118 t119 (a0.extract ((ji63) : Int).toNat (t122 : Int).toNat) (⟨#[]⟩ : ByteArray) (⟨#[]⟩ : ByteArray) (⟨#[]⟩ : ByteArray) (⟨#[]⟩ : ByteArray) (⟨#[]⟩ : ByteArray)) else (none)) else (none)) else (none)) = some (r1, r2, r3, r4, r5, r6, r7, r8, r9, r10, r11) := by (rw [hji63] at H; exact H)
         (try rw [hji63] at A62)
         have hji63w : (IntKind.i64.wrap (t120 + 1)) = ji63 := (i64_w _).trans hji63
         by_cases c64 : 0 ≤ (ji63)
         ·rw [if_pos c64] at H
          have c64b0 := eq_true c64
          have c64b1 : decide (0 ≤ (ji63)) = true := decide_eq_true c64
          clear c64
          by_cases c65 : (ji63) ≤ t122
          ·rw [if_pos c65] at H
           have c65b0 := eq_true c65
           have c65b1 : decide ((ji63) ≤ t122) = true := decide_eq_true c65
           clear c65
           by_cases c66 : t122 ≤ (a0.size : Int)
           ·rw [if_pos c66] at H
            have c66b0 := eq_true c66
            have c66b1 : decide (t122 ≤ (a0.size : Int)) = true := decide_eq_true c66
            clear c66
            have H' := za.mk H
            clear H
            go_wp2_with (((with_reducible refine zbb (f := 103) rfl ?_); refine zcc (some 111) rfl rfl Tryz.func103 (by kernel_rfl) rfl #[.string a0, .int .i64 ji63] rfl (by (try simp only [List.map_toArray, List.map_cons, List.map_nil]); first | done | (simp only [hji63]; rfl) | rfl | (simp only [List.length_drop, List.length_take]; rfl)) ?_; (with_reducible refine (zq.calls kj43 a0 ji63 t122 _ A62.out).mono ?_); rintro e w' ⟨rfl, ⟨nd, rfl⟩⟩; refine ⟨_, rfl, ?_⟩; (try (rw [zvc wc]; generalize hq_ : World.drewN wc _ = wc; have n0_ : za (wc.heap[gb108]? = some (.cells #[.bool false, .string ⟨#[]⟩, .string ⟨#[]⟩, .string ⟨#[]⟩, .string ⟨#[]⟩, .string ⟨#[]⟩, .string ⟨#[]⟩, .string ⟨#[]⟩, .string ⟨#[]⟩, .string ⟨#[]⟩, .string ⟨#[]⟩] 104 (0, 0))) := ⟨by rw [← hq_]; exact (by (with_reducible (refine zl ?_ _)); exact BK108.out)⟩; have n1_ : za (wc.heap[gb109]? = some (.cells #[.bool false, .string x110001_16, .string (a0.extract (x4_16 : Int).toNat (x5_27 : Int).toNat), .string t118, .string t119, .string ⟨#[]⟩, .string ⟨#[]⟩, .string ⟨#[]⟩, .string ⟨#[]⟩, .string ⟨#[]⟩, .string ⟨#[]⟩] 104 (0, 0))) := ⟨by rw [← hq_]; exact (by (with_reducible (refine zl ?_ _)); exact BK109.out)⟩; have n2_ : za (Below w.heap.size w wc) := ⟨by rw [← hq_]; exact (by (with_reducible apply ze; with_reducible exact HB.out))⟩; clear BK108 BK109 HB hq_; have BK108 := n0_; have BK109 := n1_; have HB := n2_; clear n0_ n1_ n2_)); have hnb67 := NB109_108.out; have hnc67 := NB108_109.out; obtain ⟨hcz68_0, hcz68_1, hcz68_2, hcz68_3, hcz68_4, hcz68_5, hcz68_6, hcz68_7, hcz68_8, hcz68_9, hcz68_10, hfz68_0, hfz68_1, hfz68_2, hfz68_3, hfz68_4, hfz68_5, hfz68_6, hfz68_7, hfz68_8, hfz68_9, hfz68_10⟩ := cl11 BK109.out))
            go_meet
            case rel => exact ⟨_, (t122), (a0.extract ((ji63) : Int).toNat (t122 : Int).toNat), ((⟨#[]⟩ : ByteArray)), ((⟨#[]⟩ : ByteArray)), (by rfl), (by exact H'), ⟨by have := HJ27.out; have := HJ43.out; first | omega | exact Nat.le_refl _⟩, ⟨by refine zic ?_ NB108_109.out _; exact BK108.out⟩, ⟨by refine zm (cs := #[.bool false, .string x110001_16, .string (a0.extract (x4_16 : Int).toNat (x5_27 : Int).toNat), .string t118, .string t119, .string ⟨#[]⟩, .string ⟨#[]⟩, .string ⟨#[]⟩, .string ⟨#[]⟩, .string ⟨#[]⟩, .string ⟨#[]⟩]) ?_ 5 _ rfl; exact BK109.out⟩, ⟨by (with_reducible refine zo ?_ GE109.out; with_reducible exact HB.out)⟩⟩
           ·rw [if_neg c66] at H
            exact absurd H (by simp)
          ·rw [if_neg c65] at H
           exact absurd H (by simp)
         ·rw [if_neg c64] at H
          exact absurd H (by simp)
        ·replace c61 := Bool.eq_false_iff.mpr c61
         subst c61
         have H1 : ((zn.f kj43 a0 t120 (([(⟨#[112, 111, 115, 116]⟩ : ByteArray), (⟨#[114, 101, 118]⟩ : ByteArray), (⟨#[114]⟩ : ByteArray)] : List ByteArray))).bind fun bt126 => (zb.j7 kj43 a0 bt126.2.2 false x110001_16 (a0.extract (x4_16 : Int).toNat (x5_27 : Int).toNat) t118 t119 (⟨#[]⟩ : ByteArray) bt126.2.1 bt126.1 (⟨#[]⟩ : ByteArray) (⟨#[]⟩ : ByteArray) (⟨#[]⟩ : ByteArray))) = some (r1, r2, r3, r4, r5, r6, r7, r8, r9, r10, r11) := by rw [if_neg (show ¬ (false = true) by decide)] at H; exact H
         clear H
         have H := H1
         clear H1
         obtain ⟨y123, hy123⟩ : ∃ y_ : List ByteArray, y_ = (([(⟨#[112, 111, 115, 116]⟩ : ByteArray), (⟨#[114, 101, 118]⟩ : ByteArray), (⟨#[114]⟩ : ByteArray)] : List ByteArray)) := ⟨_, rfl⟩
         replace H : ((zn.f kj43 a0 t120 y123).bind fun bt126 => (zb.j7 kj43 a0 bt126.2.2 false x110001_16 (a0.extract (x4_16 : Int).toNat (x5_27 : Int).toNat) t118 t119 (⟨#[]⟩ : ByteArray) bt126.2.1 bt126.1 (⟨#[]⟩ : ByteArray) (⟨#[]⟩ : ByteArray) (⟨#[]⟩ : ByteArray))) = some (r1, r2, r3, r4, r5, r6, r7, r8, r9, r10, r11) := by (rw [hy123]; with_reducible exact H)
         have Ny123 := za.mk hy123
         clear hy123
         replace H := Option.bind_eq_some_iff.mp H
         obtain ⟨⟨t126, t127, t128⟩, A690, H⟩ := H
         replace H : (zb.j7 kj43 a0 t128 false x110001_16 (a0.extract (x4_16 : Int).toNat (x5_27 : Int).toNat) t118 t119 (⟨#[]⟩ : ByteArray) t127 t126 (⟨#[]⟩ : ByteArray) (⟨#[]⟩ : ByteArray) (⟨#[]⟩ : ByteArray)) = some (r1, r2, r3, r4, r5, r6, r7, r8, r9, r10, r11) := H
         have A69 := za.mk A690
         clear A690
         have H' := za.mk H
         clear H
         go_wp2_with (first | ((with_reducible refine zrb (N := 122) rfl ?_); (try (refine zsb (by rfl) ?_; dsimp only)); refine Kd.R_lit Kd.string _ 9 ?hg (N := 122) ?hd (xs := ([(⟨#[112, 111, 115, 116]⟩ : ByteArray), (⟨#[114, 101, 118]⟩ : ByteArray), (⟨#[114]⟩ : ByteArray)] : List ByteArray)) (inner := [.string (⟨#[112, 111, 115, 116]⟩ : ByteArray), .string (⟨#[114, 101, 118]⟩ : ByteArray), .string (⟨#[114]⟩ : ByteArray)]) (ok := fun _ => True) (okp := fun _ => True) ?hr ?hp (fun _ hk => hk) trivial (Below.refl _ _) (Nat.le_refl _) (by simp) ?_; (case hd => rfl); (case hg => rfl); (case hr => first | (go_simp; done) | (go_simp; rfl)); (case hp => exact (Reps.one (show Kd.M Kd.string _ _ _ (⟨#[112, 111, 115, 116]⟩ : ByteArray) [.string (⟨#[112, 111, 115, 116]⟩ : ByteArray)] from rfl) (Reps.one (show Kd.M Kd.string _ _ _ (⟨#[114, 101, 118]⟩ : ByteArray) [.string (⟨#[114, 101, 118]⟩ : ByteArray)] from rfl) (Reps.one (show Kd.M Kd.string _ _ _ (⟨#[114]⟩ : ByteArray) [.string (⟨#[114]⟩ : ByteArray)] from rfl) (Reps.none _ _))))); intro v124 w70 ho71 hb hg_ hnew_; clear hg_ hnew_; (first | rw [← Ny123.out] at ho71 | (simp only [Int.reduceToNat] at ho71; rw [← Ny123.out] at ho71)); have HO125 := za.mk (Kd.R_lower ho71 (zab (by (with_reducible exact HB.out)))); replace BK108 := za.mk (zr BK108.out hb); replace BK109 := za.mk (zr BK109.out hb); replace HB := za.mk (zw (by (with_reducible exact HB.out)) hb); clear hb ho71; obtain ⟨Ao72, co72, eo72⟩ := Kd.R_slice HO125.out; subst eo72) | ((with_reducible refine zbb (f := 105) rfl ?_); refine zcc (some 123) rfl rfl Tryz.func105 (by kernel_rfl) rfl #[.string a0, .int .i64 t120, .slice Ao72 y123.length co72] rfl (by (try simp only [List.map_toArray, List.map_cons, List.map_nil]); first | done | rfl | (simp only [List.length_drop, List.length_take]; rfl)) ?_; (with_reducible refine (zn.calls kj43 a0 t120 _ _ y123 t126 t127 t128 _ ?side1 ?side2 A69.out).mono ?_); (case side1 => repeat (first | exact (Kd.R_reads' HO125.out).2.2 | (with_reducible refine Kd.C_alloc ?_ _) | (with_reducible refine Kd.C_drewN ?_ _) | (with_reducible refine Kd.C_drew ?_))); (case side2 => exact (Kd.R_reads' HO125.out).2.1); rintro e w' ⟨rfl, ⟨nd, rfl⟩⟩; refine ⟨_, rfl, ?_⟩; (try (rw [zvc w70]; generalize hq_ : World.drewN w70 _ = w70; have n0_ : za (Kd.R Kd.string 9 w70 w.heap.size (fun _ => True) (.slice Ao72 y123.length co72) y123) := ⟨by rw [← hq_]; exact (by (with_reducible repeat (first | apply Kd.R_alloc | apply Kd.R_drewN | apply Kd.R_drew)); exact HO125.out)⟩; have n1_ : za (w70.heap[gb108]? = some (.cells #[.bool false, .string ⟨#[]⟩, .string ⟨#[]⟩, .string ⟨#[]⟩, .string ⟨#[]⟩, .string ⟨#[]⟩, .string ⟨#[]⟩, .string ⟨#[]⟩, .string ⟨#[]⟩, .string ⟨#[]⟩, .string ⟨#[]⟩] 104 (0, 0))) := ⟨by rw [← hq_]; exact (by (with_reducible (refine zl ?_ _)); exact BK108.out)⟩; have n2_ : za (w70.heap[gb109]? = some (.cells #[.bool false, .string x110001_16, .string (a0.extract (x4_16 : Int).toNat (x5_27 : Int).toNat), .string t118, .string t119, .string ⟨#[]⟩, .string ⟨#[]⟩, .string ⟨#[]⟩, .string ⟨#[]⟩, .string ⟨#[]⟩, .string ⟨#[]⟩] 104 (0, 0))) := ⟨by rw [← hq_]; exact (by (with_reducible (refine zl ?_ _)); exact BK109.out)⟩; have n3_ : za (Below w.heap.size w w70) := ⟨by rw [← hq_]; exact (by (with_reducible apply ze; with_reducible exact HB.out))⟩; clear HO125 BK108 BK109 HB hq_; have HO125 := n0_; have BK108 := n1_; have BK109 := n2_; have HB := n3_; clear n0_ n1_ n2_ n3_)); have hnb73 := NB109_108.out; have hnc73 := NB108_109.out; obtain ⟨hcz74_0, hcz74_1, hcz74_2, hcz74_3, hcz74_4, hcz74_5, hcz74_6, hcz74_7, hcz74_8, hcz74_9, hcz74_10, hfz74_0, hfz74_1, hfz74_2, hfz74_3, hfz74_4, hfz74_5, hfz74_6, hfz74_7, hfz74_8, hfz74_9, hfz74_10⟩ := cl11 BK109.out))
         go_meet
         case rel => exact ⟨_, (t128), ((⟨#[]⟩ : ByteArray)), (t127), (t126), (by rfl), (by exact H'), ⟨by have := HJ27.out; have := HJ43.out; first | omega | exact Nat.le_refl _⟩, ⟨by refine zic ?_ NB108_109.out _; refine zic ?_ NB108_109.out _; exact BK108.out⟩, ⟨by refine zm (cs := #[.bool false, .string x110001_16, .string (a0.extract (x4_16 : Int).toNat (x5_27 : Int).toNat), .string t118, .string t119, .string ⟨#[]⟩, .string ⟨#[]⟩, .string t126, .string ⟨#[]⟩, .string ⟨#[]⟩, .string ⟨#[]⟩]) ?_ 6 _ rfl; refine zm (cs := #[.bool false, .string x110001_16, .string (a0.extract (x4_16 : Int).toNat (x5_27 : Int).toNat), .string t118, .string t119, .string ⟨#[]⟩, .string ⟨#[]⟩, .string ⟨#[]⟩, .string ⟨#[]⟩, .string ⟨#[]⟩, .string ⟨#[]⟩]) ?_ 7 _ rfl; exact BK109.out⟩, ⟨by (with_reducible refine zo ?_ GE109.out; with_reducible refine zo ?_ GE109.out; with_reducible exact HB.out)⟩⟩
       case rest =>
        clear HC60
        obtain ⟨kq, x4_59, x110005_59, x110006_59, x110007_59, rfl, HA, HJ59, BK108, BK109, HB⟩ := hcut
        exact (by assumption : ∀ (a : Act) (w : World), Code.wp Tryz.prog _ _ a w → _) _ _ (zb.st6 _ _ _ _ _ _ _ _ _ _ _ _ _ _ _ _ _ _ _ _ _ _ _ _ _ _ _ _ _ _ _ _ _ _ _ _ _ _ _ _ _ _ _ _ _ _ _ _ _ _ _ _ _ _ _ _ _ _ _ _ _ _ _ _ _ _ _ _ _ _ _ _ _ _ _ _ _ _ _ _ _ _ _ _ _ _ _ _ _ _ _ _ _ _ _ _ _ _ _ _ _ _ _ _ _ _ _ _ _ _ _ _ _ _ _ _ _ _ _ _ _ _ _ _ _ _ _ _ _ _ _ _ _ _ _ _ _ _ _ _ _ _ _ _ _ _ _ _ _ _ _ _ _ _ _ _ _ _ _ _ _ _ _ _ _ _ _ _ _ _ _ _ _ _ _ _ _ _ _ _ _ _ _ _ _ _ _ _ _ _ _ _ _ _ _ _ _ _ _ _ _ _ _ _ _ _ _ _ _ _ _ _ _ _ HA HJ59 BK108 BK109 HB GW108 GE108 GW109 GE109 NB108_109 NB109_108)
    ·rw [if_neg c42] at H
     exact absurd H (by simp)
   ·rw [if_neg c41] at H
    exact absurd H (by simp)
  ·rw [if_neg c40] at H
   exact absurd H (by simp)
set_option maxRecDepth 1000000 in
theorem zb.st3 (a0 : ByteArray) (r1 : Bool) (r2 : ByteArray) (r3 : ByteArray) (r4 : ByteArray) (r5 : ByteArray) (r6 : ByteArray) (r7 : ByteArray) (r8 : ByteArray) (r9 : ByteArray) (r10 : ByteArray) (r11 : ByteArray) (w : World) (wc : World) (gb108 : Nat) (gb109 : Nat) (kj11 : Nat) (kq : Nat) (x4_16 : Int) (x5_16 : Int) (x110001_16 : ByteArray) (u1 u6 u7 u8 u9 u10 u11 u12 u13 u14 u15 u16 u17 u18 u19 u20 u21 u22 u23 u24 u25 u26 u27 u28 u29 u30 u31 u32 u33 u34 u35 u36 u37 u38 u39 u40 u41 u42 u43 u44 u45 u46 u47 u48 u49 u50 u51 u52 u53 u54 u55 u56 u57 u58 u59 u60 u61 u62 u63 u64 u65 u66 u67 u68 u69 u70 u71 u72 u73 u74 u75 u76 u77 u78 u79 u80 u81 u82 u83 u84 u85 u86 u87 u88 u89 u90 u91 u92 u93 u94 u95 u96 u97 u98 u99 u100 u101 u102 u103 u104 u105 u106 u107 u108 u109 u110 u111 u112 u113 u114 u115 u116 u117 u118 u119 u120 u121 u122 u123 u124 u125 u126 u127 u128 u129 u130 u131 u132 u133 u134 u135 u136 u137 u138 u139 u140 u141 u142 u143 u144 u145 u146 u147 u148 u149 u150 u151 u152 u153 u154 u155 u156 u157 u158 u159 u160 u161 u162 u163 u164 u165 u166 u167 u168 u169 u170 u171 u172 u173 u174 u175 u176 u177 u178 u179 u180 u181 u182 u183 u184 u185 u186 u187 u188 u189 u190 : Value) (HA : za (zb.j3 kq a0 x4_16 x5_16 false x110001_16 (⟨#[]⟩ : ByteArray) (⟨#[]⟩ : ByteArray) (⟨#[]⟩ : ByteArray) (⟨#[]⟩ : ByteArray) (⟨#[]⟩ : ByteArray) (⟨#[]⟩ : ByteArray) (⟨#[]⟩ : ByteArray) (⟨#[]⟩ : ByteArray) (⟨#[]⟩ : ByteArray) = some (r1, r2, r3, r4, r5, r6, r7, r8, r9, r10, r11))) (HJ16 : za (kq ≤ kj11)) (BK108 : za (wc.heap[gb108]? = some (.cells #[.bool false, .string ⟨#[]⟩, .string ⟨#[]⟩, .string ⟨#[]⟩, .string ⟨#[]⟩, .string ⟨#[]⟩, .string ⟨#[]⟩, .string ⟨#[]⟩, .string ⟨#[]⟩, .string ⟨#[]⟩, .string ⟨#[]⟩] 104 (0, 0)))) (BK109 : za (wc.heap[gb109]? = some (.cells #[.bool false, .string x110001_16, .string ⟨#[]⟩, .string ⟨#[]⟩, .string ⟨#[]⟩, .string ⟨#[]⟩, .string ⟨#[]⟩, .string ⟨#[]⟩, .string ⟨#[]⟩, .string ⟨#[]⟩, .string ⟨#[]⟩] 104 (0, 0)))) (HB : za (Below w.heap.size w wc)) (GW108 : za (w.heap.size ≤ gb108)) (GE108 : za (w.heap.size ≤ gb108)) (GW109 : za (w.heap.size ≤ gb109)) (GE109 : za (w.heap.size ≤ gb109)) (NB108_109 : za (gb108 ≠ gb109)) (NB109_108 : za (gb109 ≠ gb108)) :
  Code.wp Tryz.prog ((sndN 6 (Tryz.f67.body.getD .skip))) (bodyPost Tryz.prog Tryz.f67 fun e w' => e = .returned (.agg #[.bool r1, .string r2, .string r3, .string r4, .string r5, .string r6, .string r7, .string r8, .string r9, .string r10, .string r11]) ∧ Below w.heap.size w w') ⟨#[.string a0, u1, .pointer (some ⟨gb108, 0, none⟩), .pointer (some ⟨gb109, 0, none⟩), .int .i64 x4_16, .int .i64 x5_16, u6, u7, u8, u9, u10, u11, u12, u13, u14, u15, u16, u17, u18, u19, u20, u21, u22, u23, u24, u25, u26, u27, u28, u29, u30, u31, u32, u33, u34, u35, u36, u37, u38, u39, u40, u41, u42, u43, u44, u45, u46, u47, u48, u49, u50, u51, u52, u53, u54, u55, u56, u57, u58, u59, u60, u61, u62, u63, u64, u65, u66, u67, u68, u69, u70, u71, u72, u73, u74, u75, u76, u77, u78, u79, u80, u81, u82, u83, u84, u85, u86, u87, u88, u89, u90, u91, u92, u93, u94, u95, u96, u97, u98, u99, u100, u101, u102, u103, u104, u105, u106, u107, u108, u109, u110, u111, u112, u113, u114, u115, u116, u117, u118, u119, u120, u121, u122, u123, u124, u125, u126, u127, u128, u129, u130, u131, u132, u133, u134, u135, u136, u137, u138, u139, u140, u141, u142, u143, u144, u145, u146, u147, u148, u149, u150, u151, u152, u153, u154, u155, u156, u157, u158, u159, u160, u161, u162, u163, u164, u165, u166, u167, u168, u169, u170, u171, u172, u173, u174, u175, u176, u177, u178, u179, u180, u181, u182, u183, u184, u185, u186, u187, u188, u189, u190], []⟩ wc := by
 have hu104 := Tryz.underlying104
 conv => arg 2; whnf
 cases kq with
 | zero => exact absurd HA.out (by simp [zb.j3])
 | succ kj16 =>
  have H := HA.out
  clear HA
  simp only [zb.j3] at H
  by_cases c25 : x5_16 = x4_16
  ·rw [if_pos c25] at H
   have c25b0 : (x5_16 == x4_16) = true := beq_iff_eq.mpr c25
   have c25b1 : (x5_16 != x4_16) = false := bne_eq_false_iff_eq.mpr c25
   clear c25
   simp only [Option.some.injEq, Prod.mk.injEq] at H
   obtain ⟨rfl, rfl, rfl, rfl, rfl, rfl, rfl, rfl, rfl, rfl, rfl⟩ := H
   have hnb26 := NB108_109.out
   have hnc26 := NB109_108.out
   obtain ⟨hcz27_0, hcz27_1, hcz27_2, hcz27_3, hcz27_4, hcz27_5, hcz27_6, hcz27_7, hcz27_8, hcz27_9, hcz27_10, hfz27_0, hfz27_1, hfz27_2, hfz27_3, hfz27_4, hfz27_5, hfz27_6, hfz27_7, hfz27_8, hfz27_9, hfz27_10⟩ := cl11 BK108.out
   go_wp2
   refine bodyPost_ret (results_cell_row rfl _ _ gb108 104 #[.bool false, .string ⟨#[]⟩, .string ⟨#[]⟩, .string ⟨#[]⟩, .string ⟨#[]⟩, .string ⟨#[]⟩, .string ⟨#[]⟩, .string ⟨#[]⟩, .string ⟨#[]⟩, .string ⟨#[]⟩, .string ⟨#[]⟩] (0, 0) _ rfl (by exact put11 BK108.out) Tryz.underlying104 rfl (by kernel_rfl)) rfl ?_
   exact ⟨by rfl, by repeat (first | (with_reducible first | exact HB.out | apply zg | apply ze | apply below_drew1 | refine zo ?_ GE108.out | refine zo ?_ GE109.out) | exact HB.out)⟩
  ·rw [if_neg c25] at H
   have c25b0 : (x5_16 == x4_16) = false := beq_eq_false_iff_ne.mpr c25
   have c25b1 : (x5_16 != x4_16) = true := bne_iff_ne.mpr c25
   have HC28 := za.mk H
   clear H
   go_upto_block 0 with (fail)
   go_cut [5] (fun v5 wc => ∃ (kq : Nat) (x5_27 : Int), v5 = .int .i64 x5_27 ∧ za (zb.j5 kq a0 x4_16 x5_27 false x110001_16 (⟨#[]⟩ : ByteArray) (⟨#[]⟩ : ByteArray) (⟨#[]⟩ : ByteArray) (⟨#[]⟩ : ByteArray) (⟨#[]⟩ : ByteArray) (⟨#[]⟩ : ByteArray) (⟨#[]⟩ : ByteArray) (⟨#[]⟩ : ByteArray) (⟨#[]⟩ : ByteArray) = some (r1, r2, r3, r4, r5, r6, r7, r8, r9, r10, r11)) ∧ za (kq ≤ kj16) ∧ za (wc.heap[gb108]? = some (.cells #[.bool false, .string ⟨#[]⟩, .string ⟨#[]⟩, .string ⟨#[]⟩, .string ⟨#[]⟩, .string ⟨#[]⟩, .string ⟨#[]⟩, .string ⟨#[]⟩, .string ⟨#[]⟩, .string ⟨#[]⟩, .string ⟨#[]⟩] 104 (0, 0))) ∧ za (wc.heap[gb109]? = some (.cells #[.bool false, .string x110001_16, .string ⟨#[]⟩, .string ⟨#[]⟩, .string ⟨#[]⟩, .string ⟨#[]⟩, .string ⟨#[]⟩, .string ⟨#[]⟩, .string ⟨#[]⟩, .string ⟨#[]⟩, .string ⟨#[]⟩] 104 (0, 0))) ∧ za (Below w.heap.size w wc))
   case first =>
    have H := HC28.out
    clear HC28
    have H' := za.mk H
    clear H
    go_wp2
    (try simp only [Act.put, List.setIfInBounds_toArray, List.set_cons_zero, List.set_cons_succ])
    go_loopg [5] kj16 (fun kq v5 w' => ∃ (x5_5 : Int), v5 = .int .i64 x5_5 ∧ za (zb.l0 kq a0 x4_16 x5_5 false x110001_16 (⟨#[]⟩ : ByteArray) (⟨#[]⟩ : ByteArray) (⟨#[]⟩ : ByteArray) (⟨#[]⟩ : ByteArray) (⟨#[]⟩ : ByteArray) (⟨#[]⟩ : ByteArray) (⟨#[]⟩ : ByteArray) (⟨#[]⟩ : ByteArray) (⟨#[]⟩ : ByteArray) = some (r1, r2, r3, r4, r5, r6, r7, r8, r9, r10, r11)) ∧ za (kq ≤ kj16) ∧ za (w'.heap[gb108]? = some (.cells #[.bool false, .string ⟨#[]⟩, .string ⟨#[]⟩, .string ⟨#[]⟩, .string ⟨#[]⟩, .string ⟨#[]⟩, .string ⟨#[]⟩, .string ⟨#[]⟩, .string ⟨#[]⟩, .string ⟨#[]⟩, .string ⟨#[]⟩] 104 (0, 0))) ∧ za (w'.heap[gb109]? = some (.cells #[.bool false, .string x110001_16, .string ⟨#[]⟩, .string ⟨#[]⟩, .string ⟨#[]⟩, .string ⟨#[]⟩, .string ⟨#[]⟩, .string ⟨#[]⟩, .string ⟨#[]⟩, .string ⟨#[]⟩, .string ⟨#[]⟩] 104 (0, 0))) ∧ za (Below w.heap.size w w'))
    case atStart => exact ⟨(x5_16), (by rfl), H', ⟨Nat.le_refl _⟩, ⟨by exact BK108.out⟩, ⟨by exact BK109.out⟩, ⟨by (with_reducible exact HB.out)⟩⟩
    case round =>
     clear H'
     clear c25 c25b0 c25b1
     obtain ⟨x5_5, rfl, HA, HK5, BK108, BK109, HB⟩ := hrel
     cases gk with
     | zero => exact absurd HA.out (by simp [zb.l0])
     | succ k5 =>
      have H := HA.out
      clear HA
      simp only [zb.l0] at H
      by_cases c29 : (wrap64 (x5_5 + 1)) < (a0.size : Int)
      ·rw [if_pos c29] at H
       have c29b0 : decide ((wrap64 (x5_5 + 1)) < (a0.size : Int)) = true := decide_eq_true c29
       clear c29
       (first | rw [c29b0] | (simp only [i64_w, i32_w]; rw [c29b0]) | skip)
       by_cases c30 : 0 ≤ x5_5
       ·rw [if_pos c30] at H
        have c30b0 : decide (0 ≤ x5_5) = true := decide_eq_true c30
        clear c30
        by_cases c31 : x5_5 < (a0.size : Int)
        ·rw [if_pos c31] at H
         have c31b0 : decide (x5_5 < (a0.size : Int)) = true := decide_eq_true c31
         clear c31
         by_cases c33 : (bt a0 x5_5) = 46
         ·rw [if_pos c33] at H
          have c33b0 : ((bt a0 x5_5) == 46) = true := beq_iff_eq.mpr c33
          have c33b1 : ((bt a0 x5_5) != 46) = false := bne_eq_false_iff_eq.mpr c33
          clear c33
          obtain ⟨ji34, hji34⟩ : ∃ j_ : Int, (wrap64 (x5_5 + 1)) = j_ := ⟨_, rfl⟩
          replace H : (if 0 ≤ (ji34) then ((zdb.f (bt a0 (ji34))).bind fun t113 => (if t113 = true then ((zq.f k5 a0 (ji34)).bind fun t114 => (zb.l0 k5 a0 x4_16 t114 false x110001_16 (⟨#[]⟩ : ByteArray) (⟨#[]⟩ : ByteArray) (⟨#[]⟩ : ByteArray) (⟨#[]⟩ : ByteArray) (⟨#[]⟩ : ByteArray) (⟨#[]⟩ : ByteArray) (⟨#[]⟩ : ByteArray) (⟨#[]⟩ : ByteArray) (⟨#[]⟩ : ByteArray))) else (zb.j5 k5 a0 x4_16 x5_5 false x110001_16 (⟨#[]⟩ : ByteArray) (⟨#[]⟩ : ByteArray) (⟨#[]⟩ : ByteArray) (⟨#[]⟩ : ByteArray) (⟨#[]⟩ : ByteArray) (⟨#[]⟩ : ByteArray) (⟨#[]⟩ : ByteArray) (⟨#[]⟩ : ByteArray) (⟨#[]⟩ : ByteArray)))) else (none)) = some (r1, r2, r3, r4, r5, r6, r7, r8, r9, r10, r11) := by (rw [hji34] at H; exact H)
          (try rw [hji34] at c29b0)
          have hji34w : (IntKind.i64.wrap (x5_5 + 1)) = ji34 := (i64_w _).trans hji34
          by_cases c35 : 0 ≤ (ji34)
          ·rw [if_pos c35] at H
           have c35b0 : decide (0 ≤ (ji34)) = true := decide_eq_true c35
           clear c35
           replace H := Option.bind_eq_some_iff.mp H
           obtain ⟨t113, A370, H⟩ := H
           replace H : (if t113 = true then ((zq.f k5 a0 (ji34)).bind fun t114 => (zb.l0 k5 a0 x4_16 t114 false x110001_16 (⟨#[]⟩ : ByteArray) (⟨#[]⟩ : ByteArray) (⟨#[]⟩ : ByteArray) (⟨#[]⟩ : ByteArray) (⟨#[]⟩ : ByteArray) (⟨#[]⟩ : ByteArray) (⟨#[]⟩ : ByteArray) (⟨#[]⟩ : ByteArray) (⟨#[]⟩ : ByteArray))) else (zb.j5 k5 a0 x4_16 x5_5 false x110001_16 (⟨#[]⟩ : ByteArray) (⟨#[]⟩ : ByteArray) (⟨#[]⟩ : ByteArray) (⟨#[]⟩ : ByteArray) (⟨#[]⟩ : ByteArray) (⟨#[]⟩ : ByteArray) (⟨#[]⟩ : ByteArray) (⟨#[]⟩ : ByteArray) (⟨#[]⟩ : ByteArray))) = some (r1, r2, r3, r4, r5, r6, r7, r8, r9, r10, r11) := H
           have A37 := za.mk A370
           clear A370
           by_cases c38 : t113 = true
           ·subst c38
            have H1 : ((zq.f k5 a0 (ji34)).bind fun t114 => (zb.l0 k5 a0 x4_16 t114 false x110001_16 (⟨#[]⟩ : ByteArray) (⟨#[]⟩ : ByteArray) (⟨#[]⟩ : ByteArray) (⟨#[]⟩ : ByteArray) (⟨#[]⟩ : ByteArray) (⟨#[]⟩ : ByteArray) (⟨#[]⟩ : ByteArray) (⟨#[]⟩ : ByteArray) (⟨#[]⟩ : ByteArray))) = some (r1, r2, r3, r4, r5, r6, r7, r8, r9, r10, r11) := by rw [if_pos rfl] at H; exact H
            clear H
            have H := H1
            clear H1
            replace H := Option.bind_eq_some_iff.mp H
            obtain ⟨t114, A390, H⟩ := H
            replace H : (zb.l0 k5 a0 x4_16 t114 false x110001_16 (⟨#[]⟩ : ByteArray) (⟨#[]⟩ : ByteArray) (⟨#[]⟩ : ByteArray) (⟨#[]⟩ : ByteArray) (⟨#[]⟩ : ByteArray) (⟨#[]⟩ : ByteArray) (⟨#[]⟩ : ByteArray) (⟨#[]⟩ : ByteArray) (⟨#[]⟩ : ByteArray)) = some (r1, r2, r3, r4, r5, r6, r7, r8, r9, r10, r11) := H
            have A39 := za.mk A390
            clear A390
            have H' := za.mk H
            clear H
            have p32 : 0 ≤ (x5_5 : Int) := of_decide_eq_true (by (with_reducible assumption))
            have q32 : x5_5 < (a0.size : Int) := of_decide_eq_true (by (with_reducible assumption))
            have hx32 := bt_at a0 x5_5
            replace p32 := eq_true p32
            replace q32 := eq_true q32
            have p36 : 0 ≤ ((ji34) : Int) := of_decide_eq_true (by (with_reducible assumption))
            have q36 : (ji34) < (a0.size : Int) := of_decide_eq_true (by (with_reducible assumption))
            have hx36 := bt_at a0 (ji34)
            replace p36 := eq_true p36
            replace q36 := eq_true q36
            go_wp2_with (first | (go_at_call 104; (with_reducible refine (zdb.calls (bt a0 (ji34)) true _ A37.out).mono ?_); rintro e w' ⟨rfl, ⟨nd, rfl⟩⟩) | ((with_reducible refine zbb (f := 103) rfl ?_); refine zcc (some 74) rfl rfl Tryz.func103 (by kernel_rfl) rfl #[.string a0, .int .i64 ji34] rfl (by (try simp only [List.map_toArray, List.map_cons, List.map_nil]); first | done | (simp only [hji34]; rfl) | rfl | (simp only [List.length_drop, List.length_take]; rfl)) ?_; (with_reducible refine (zq.calls k5 a0 ji34 t114 _ A39.out).mono ?_); rintro e w' ⟨rfl, ⟨nd, rfl⟩⟩; refine ⟨_, rfl, ?_⟩))
            go_roundg k5
            case measure => have := HJ16.out; have := HK5.out; omega
            case rel => exact ⟨(t114), (by rfl), (by exact H'), ⟨by have := HJ16.out; have := HK5.out; omega⟩, ⟨by (with_reducible (refine zl ?_ _)); exact BK108.out⟩, ⟨by (with_reducible (refine zl ?_ _)); exact BK109.out⟩, ⟨by (with_reducible apply ze; with_reducible exact HB.out)⟩⟩
           ·replace c38 := Bool.eq_false_iff.mpr c38
            subst c38
            have H1 : (zb.j5 k5 a0 x4_16 x5_5 false x110001_16 (⟨#[]⟩ : ByteArray) (⟨#[]⟩ : ByteArray) (⟨#[]⟩ : ByteArray) (⟨#[]⟩ : ByteArray) (⟨#[]⟩ : ByteArray) (⟨#[]⟩ : ByteArray) (⟨#[]⟩ : ByteArray) (⟨#[]⟩ : ByteArray) (⟨#[]⟩ : ByteArray)) = some (r1, r2, r3, r4, r5, r6, r7, r8, r9, r10, r11) := by rw [if_neg (show ¬ (false = true) by decide)] at H; exact H
            clear H
            have H := H1
            clear H1
            have H' := za.mk H
            clear H
            have p32 : 0 ≤ (x5_5 : Int) := of_decide_eq_true (by (with_reducible assumption))
            have q32 : x5_5 < (a0.size : Int) := of_decide_eq_true (by (with_reducible assumption))
            have hx32 := bt_at a0 x5_5
            replace p32 := eq_true p32
            replace q32 := eq_true q32
            have p36 : 0 ≤ ((ji34) : Int) := of_decide_eq_true (by (with_reducible assumption))
            have q36 : (ji34) < (a0.size : Int) := of_decide_eq_true (by (with_reducible assumption))
            have hx36 := bt_at a0 (ji34)
            replace p36 := eq_true p36
            replace q36 := eq_true q36
            go_wp2_with ((go_at_call 104; (with_reducible refine (zdb.calls (bt a0 (ji34)) false _ A37.out).mono ?_); rintro e w' ⟨rfl, ⟨nd, rfl⟩⟩))
            go_meet
            case rel => exact ⟨_, (x5_5), (by rfl), (by exact H'), ⟨by have := HJ16.out; have := HK5.out; first | omega | exact Nat.le_refl _⟩, ⟨by (with_reducible (refine zl ?_ _)); exact BK108.out⟩, ⟨by (with_reducible (refine zl ?_ _)); exact BK109.out⟩, ⟨by (with_reducible apply ze; with_reducible exact HB.out)⟩⟩
          ·rw [if_neg c35] at H
           exact absurd H (by simp)
         ·rw [if_neg c33] at H
          have c33b0 : ((bt a0 x5_5) == 46) = false := beq_eq_false_iff_ne.mpr c33
          have c33b1 : ((bt a0 x5_5) != 46) = true := bne_iff_ne.mpr c33
          have H' := za.mk H
          clear H
          have p32 : 0 ≤ (x5_5 : Int) := of_decide_eq_true (by (with_reducible assumption))
          have q32 : x5_5 < (a0.size : Int) := of_decide_eq_true (by (with_reducible assumption))
          have hx32 := bt_at a0 x5_5
          replace p32 := eq_true p32
          replace q32 := eq_true q32
          go_wp2
          go_meet
          case rel => exact ⟨_, (x5_5), (by rfl), (by exact H'), ⟨by have := HJ16.out; have := HK5.out; first | omega | exact Nat.le_refl _⟩, ⟨by exact BK108.out⟩, ⟨by exact BK109.out⟩, ⟨by (with_reducible exact HB.out)⟩⟩
        ·rw [if_neg c31] at H
         exact absurd H (by simp)
       ·rw [if_neg c30] at H
        exact absurd H (by simp)
      ·rw [if_neg c29] at H
       have c29b0 : decide ((wrap64 (x5_5 + 1)) < (a0.size : Int)) = false := decide_eq_false c29
       clear c29
       (first | rw [c29b0] | (simp only [i64_w, i32_w]; rw [c29b0]) | skip)
       have H' := za.mk H
       clear H
       go_wp2
       go_meet
       case rel => exact ⟨_, (x5_5), (by rfl), (by exact H'), ⟨by have := HJ16.out; have := HK5.out; first | omega | exact Nat.le_refl _⟩, ⟨by exact BK108.out⟩, ⟨by exact BK109.out⟩, ⟨by (with_reducible exact HB.out)⟩⟩
   case rest =>
    clear HC28
    clear c25 c25b0 c25b1
    obtain ⟨kq, x5_27, rfl, HA, HJ27, BK108, BK109, HB⟩ := hcut
    exact (by assumption : ∀ (a : Act) (w : World), Code.wp Tryz.prog _ _ a w → _) _ _ (zb.st4 _ _ _ _ _ _ _ _ _ _ _ _ _ _ _ _ _ _ _ _ _ _ _ _ _ _ _ _ _ _ _ _ _ _ _ _ _ _ _ _ _ _ _ _ _ _ _ _ _ _ _ _ _ _ _ _ _ _ _ _ _ _ _ _ _ _ _ _ _ _ _ _ _ _ _ _ _ _ _ _ _ _ _ _ _ _ _ _ _ _ _ _ _ _ _ _ _ _ _ _ _ _ _ _ _ _ _ _ _ _ _ _ _ _ _ _ _ _ _ _ _ _ _ _ _ _ _ _ _ _ _ _ _ _ _ _ _ _ _ _ _ _ _ _ _ _ _ _ _ _ _ _ _ _ _ _ _ _ _ _ _ _ _ _ _ _ _ _ _ _ _ _ _ _ _ _ _ _ _ _ _ _ _ _ _ _ _ _ _ _ _ _ _ _ _ _ _ _ _ _ _ _ _ _ _ _ _ HA HJ27 BK108 BK109 HB GW108 GE108 GW109 GE109 NB108_109 NB109_108)
set_option maxRecDepth 1000000 in
theorem zb.st1 (a0 : ByteArray) (r1 : Bool) (r2 : ByteArray) (r3 : ByteArray) (r4 : ByteArray) (r5 : ByteArray) (r6 : ByteArray) (r7 : ByteArray) (r8 : ByteArray) (r9 : ByteArray) (r10 : ByteArray) (r11 : ByteArray) (w : World) (wc : World) (gb108 : Nat) (gb109 : Nat) (kj2 : Nat) (kq : Nat) (x4_8 : Int) (u1 u5 u6 u7 u8 u9 u10 u11 u12 u13 u14 u15 u16 u17 u18 u19 u20 u21 u22 u23 u24 u25 u26 u27 u28 u29 u30 u31 u32 u33 u34 u35 u36 u37 u38 u39 u40 u41 u42 u43 u44 u45 u46 u47 u48 u49 u50 u51 u52 u53 u54 u55 u56 u57 u58 u59 u60 u61 u62 u63 u64 u65 u66 u67 u68 u69 u70 u71 u72 u73 u74 u75 u76 u77 u78 u79 u80 u81 u82 u83 u84 u85 u86 u87 u88 u89 u90 u91 u92 u93 u94 u95 u96 u97 u98 u99 u100 u101 u102 u103 u104 u105 u106 u107 u108 u109 u110 u111 u112 u113 u114 u115 u116 u117 u118 u119 u120 u121 u122 u123 u124 u125 u126 u127 u128 u129 u130 u131 u132 u133 u134 u135 u136 u137 u138 u139 u140 u141 u142 u143 u144 u145 u146 u147 u148 u149 u150 u151 u152 u153 u154 u155 u156 u157 u158 u159 u160 u161 u162 u163 u164 u165 u166 u167 u168 u169 u170 u171 u172 u173 u174 u175 u176 u177 u178 u179 u180 u181 u182 u183 u184 u185 u186 u187 u188 u189 u190 : Value) (HA : za (zb.j1 kq a0 x4_8 false (⟨#[]⟩ : ByteArray) (⟨#[]⟩ : ByteArray) (⟨#[]⟩ : ByteArray) (⟨#[]⟩ : ByteArray) (⟨#[]⟩ : ByteArray) (⟨#[]⟩ : ByteArray) (⟨#[]⟩ : ByteArray) (⟨#[]⟩ : ByteArray) (⟨#[]⟩ : ByteArray) (⟨#[]⟩ : ByteArray) = some (r1, r2, r3, r4, r5, r6, r7, r8, r9, r10, r11))) (HJ8 : za (kq ≤ kj2)) (BK108 : za (wc.heap[gb108]? = some (.cells #[.bool false, .string ⟨#[]⟩, .string ⟨#[]⟩, .string ⟨#[]⟩, .string ⟨#[]⟩, .string ⟨#[]⟩, .string ⟨#[]⟩, .string ⟨#[]⟩, .string ⟨#[]⟩, .string ⟨#[]⟩, .string ⟨#[]⟩] 104 (0, 0)))) (BK109 : za (wc.heap[gb109]? = some (.cells #[.bool false, .string ⟨#[]⟩, .string ⟨#[]⟩, .string ⟨#[]⟩, .string ⟨#[]⟩, .string ⟨#[]⟩, .string ⟨#[]⟩, .string ⟨#[]⟩, .string ⟨#[]⟩, .string ⟨#[]⟩, .string ⟨#[]⟩] 104 (0, 0)))) (HB : za (Below w.heap.size w wc)) (GW108 : za (w.heap.size ≤ gb108)) (GE108 : za (w.heap.size ≤ gb108)) (GW109 : za (w.heap.size ≤ gb109)) (GE109 : za (w.heap.size ≤ gb109)) (NB108_109 : za (gb108 ≠ gb109)) (NB109_108 : za (gb109 ≠ gb108)) :
  Code.wp Tryz.prog ((sndN 4 (Tryz.f67.body.getD .skip))) (bodyPost Tryz.prog Tryz.f67 fun e w' => e = .returned (.agg #[.bool r1, .string r2, .string r3, .string r4, .string r5, .string r6, .string r7, .string r8, .string r9, .string r10, .string r11]) ∧ Below w.heap.size w w') ⟨#[.string a0, u1, .pointer (some ⟨gb108, 0, none⟩), .pointer (some ⟨gb109, 0, none⟩), .int .i64 x4_8, u5, u6, u7, u8, u9, u10, u11, u12, u13, u14, u15, u16, u17, u18, u19, u20, u21, u22, u23, u24, u25, u26, u27, u28, u29, u30, u31, u32, u33, u34, u35, u36, u37, u38, u39, u40, u41, u42, u43, u44, u45, u46, u47, u48, u49, u50, u51, u52, u53, u54, u55, u56, u57, u58, u59, u60, u61, u62, u63, u64, u65, u66, u67, u68, u69, u70, u71, u72, u73, u74, u75, u76, u77, u78, u79, u80, u81, u82, u83, u84, u85, u86, u87, u88, u89, u90, u91, u92, u93, u94, u95, u96, u97, u98, u99, u100, u101, u102, u103, u104, u105, u106, u107, u108, u109, u110, u111, u112, u113, u114, u115, u116, u117, u118, u119, u120, u121, u122, u123, u124, u125, u126, u127, u128, u129, u130, u131, u132, u133, u134, u135, u136, u137, u138, u139, u140, u141, u142, u143, u144, u145, u146, u147, u148, u149, u150, u151, u152, u153, u154, u155, u156, u157, u158, u159, u160, u161, u162, u163, u164, u165, u166, u167, u168, u169, u170, u171, u172, u173, u174, u175, u176, u177, u178, u179, u180, u181, u182, u183, u184, u185, u186, u187, u188, u189, u190], []⟩ wc := by
 have hu104 := Tryz.underlying104
 conv => arg 2; whnf
 cases kq with
 | zero => exact absurd HA.out (by simp [zb.j1])
 | succ kj8 =>
  have H := HA.out
  clear HA
  simp only [zb.j1] at H
  replace H := Option.bind_eq_some_iff.mp H
  obtain ⟨t111, A110, H⟩ := H
  replace H : (if t111 > x4_8 then (if t111 < (a0.size : Int) then (if 0 ≤ t111 then (zb.j2 kj8 a0 x4_8 t111 ((bt a0 t111) == 33) false (⟨#[]⟩ : ByteArray) (⟨#[]⟩ : ByteArray) (⟨#[]⟩ : ByteArray) (⟨#[]⟩ : ByteArray) (⟨#[]⟩ : ByteArray) (⟨#[]⟩ : ByteArray) (⟨#[]⟩ : ByteArray) (⟨#[]⟩ : ByteArray) (⟨#[]⟩ : ByteArray) (⟨#[]⟩ : ByteArray)) else (none)) else (zb.j2 kj8 a0 x4_8 t111 false false (⟨#[]⟩ : ByteArray) (⟨#[]⟩ : ByteArray) (⟨#[]⟩ : ByteArray) (⟨#[]⟩ : ByteArray) (⟨#[]⟩ : ByteArray) (⟨#[]⟩ : ByteArray) (⟨#[]⟩ : ByteArray) (⟨#[]⟩ : ByteArray) (⟨#[]⟩ : ByteArray) (⟨#[]⟩ : ByteArray))) else (zb.j2 kj8 a0 x4_8 t111 false false (⟨#[]⟩ : ByteArray) (⟨#[]⟩ : ByteArray) (⟨#[]⟩ : ByteArray) (⟨#[]⟩ : ByteArray) (⟨#[]⟩ : ByteArray) (⟨#[]⟩ : ByteArray) (⟨#[]⟩ : ByteArray) (⟨#[]⟩ : ByteArray) (⟨#[]⟩ : ByteArray) (⟨#[]⟩ : ByteArray))) = some (r1, r2, r3, r4, r5, r6, r7, r8, r9, r10, r11) := H
  have A11 := za.mk A110
  clear A110
  have HC12 := za.mk H
  clear H
  go_upto_region 6 with (((with_reducible refine zbb (f := 103) rfl ?_); refine zcc (some 23) rfl rfl Tryz.func103 (by kernel_rfl) rfl #[.string a0, .int .i64 x4_8] rfl (by (try simp only [List.map_toArray, List.map_cons, List.map_nil]); first | done | rfl | (simp only [List.length_drop, List.length_take]; rfl)) ?_; (with_reducible refine (zq.calls kj8 a0 x4_8 t111 _ A11.out).mono ?_); rintro e w' ⟨rfl, ⟨nd, rfl⟩⟩; refine ⟨_, rfl, ?_⟩))
  (try simp only [Act.put, List.setIfInBounds_toArray, List.set_cons_zero, List.set_cons_succ])
  go_cut [38] (fun v38 wc => ∃ (kq : Nat) (x38_11 : Bool), v38 = .bool x38_11 ∧ za (zb.j2 kq a0 x4_8 t111 x38_11 false (⟨#[]⟩ : ByteArray) (⟨#[]⟩ : ByteArray) (⟨#[]⟩ : ByteArray) (⟨#[]⟩ : ByteArray) (⟨#[]⟩ : ByteArray) (⟨#[]⟩ : ByteArray) (⟨#[]⟩ : ByteArray) (⟨#[]⟩ : ByteArray) (⟨#[]⟩ : ByteArray) (⟨#[]⟩ : ByteArray) = some (r1, r2, r3, r4, r5, r6, r7, r8, r9, r10, r11)) ∧ za (kq ≤ kj8) ∧ za (wc.heap[gb108]? = some (.cells #[.bool false, .string ⟨#[]⟩, .string ⟨#[]⟩, .string ⟨#[]⟩, .string ⟨#[]⟩, .string ⟨#[]⟩, .string ⟨#[]⟩, .string ⟨#[]⟩, .string ⟨#[]⟩, .string ⟨#[]⟩, .string ⟨#[]⟩] 104 (0, 0))) ∧ za (wc.heap[gb109]? = some (.cells #[.bool false, .string ⟨#[]⟩, .string ⟨#[]⟩, .string ⟨#[]⟩, .string ⟨#[]⟩, .string ⟨#[]⟩, .string ⟨#[]⟩, .string ⟨#[]⟩, .string ⟨#[]⟩, .string ⟨#[]⟩, .string ⟨#[]⟩] 104 (0, 0))) ∧ za (Below w.heap.size w wc))
  case first =>
   have H := HC12.out
   clear HC12
   by_cases c13 : t111 > x4_8
   ·rw [if_pos c13] at H
    have c13b0 : decide (x4_8 < t111) = true := decide_eq_true c13
    clear c13
    (first | rw [c13b0] | (simp only [i64_w, i32_w]; rw [c13b0]) | skip)
    by_cases c14 : t111 < (a0.size : Int)
    ·rw [if_pos c14] at H
     have c14b0 : decide (t111 < (a0.size : Int)) = true := decide_eq_true c14
     clear c14
     by_cases c15 : 0 ≤ t111
     ·rw [if_pos c15] at H
      have c15b0 : decide (0 ≤ t111) = true := decide_eq_true c15
      clear c15
      have H' := za.mk H
      clear H
      have p16 : 0 ≤ (t111 : Int) := of_decide_eq_true (by (with_reducible assumption))
      have q16 : t111 < (a0.size : Int) := of_decide_eq_true (by (with_reducible assumption))
      have hx16 := bt_at a0 t111
      replace p16 := eq_true p16
      replace q16 := eq_true q16
      go_wp2
      go_meet
      case rel => exact ⟨_, (((bt a0 t111) == 33)), (by rfl), (by exact H'), ⟨by have := HJ8.out; first | omega | exact Nat.le_refl _⟩, ⟨by (with_reducible (refine zl ?_ _)); exact BK108.out⟩, ⟨by (with_reducible (refine zl ?_ _)); exact BK109.out⟩, ⟨by (with_reducible apply ze; with_reducible exact HB.out)⟩⟩
     ·rw [if_neg c15] at H
      exact absurd H (by simp)
    ·rw [if_neg c14] at H
     have c14b0 : decide (t111 < (a0.size : Int)) = false := decide_eq_false c14
     clear c14
     have H' := za.mk H
     clear H
     go_wp2
     go_meet
     case rel => exact ⟨_, (false), (by rfl), (by exact H'), ⟨by have := HJ8.out; first | omega | exact Nat.le_refl _⟩, ⟨by (with_reducible (refine zl ?_ _)); exact BK108.out⟩, ⟨by (with_reducible (refine zl ?_ _)); exact BK109.out⟩, ⟨by (with_reducible apply ze; with_reducible exact HB.out)⟩⟩
   ·rw [if_neg c13] at H
    have c13b0 : decide (x4_8 < t111) = false := decide_eq_false c13
    clear c13
    (first | rw [c13b0] | (simp only [i64_w, i32_w]; rw [c13b0]) | skip)
    have H' := za.mk H
    clear H
    go_wp2
    go_meet
    case rel => exact ⟨_, (false), (by rfl), (by exact H'), ⟨by have := HJ8.out; first | omega | exact Nat.le_refl _⟩, ⟨by (with_reducible (refine zl ?_ _)); exact BK108.out⟩, ⟨by (with_reducible (refine zl ?_ _)); exact BK109.out⟩, ⟨by (with_reducible apply ze; with_reducible exact HB.out)⟩⟩
  case rest =>
   clear HC12
   obtain ⟨kq, x38_11, rfl, HA, HJ11, BK108, BK109, HB⟩ := hcut
   cases kq with
   | zero => exact absurd HA.out (by simp [zb.j2])
   | succ kj11 =>
    have H := HA.out
    clear HA
    simp only [zb.j2] at H
    have HC17 := za.mk H
    clear H
    go_upto_if 38 with (fail)
    go_cut [4, 5, 38] (fun v4 v5 v38 wc => ∃ (kq : Nat) (x4_16 : Int) (x5_16 : Int) (x110001_16 : ByteArray), v4 = .int .i64 x4_16 ∧ v5 = .int .i64 x5_16 ∧ za (zb.j3 kq a0 x4_16 x5_16 false x110001_16 (⟨#[]⟩ : ByteArray) (⟨#[]⟩ : ByteArray) (⟨#[]⟩ : ByteArray) (⟨#[]⟩ : ByteArray) (⟨#[]⟩ : ByteArray) (⟨#[]⟩ : ByteArray) (⟨#[]⟩ : ByteArray) (⟨#[]⟩ : ByteArray) (⟨#[]⟩ : ByteArray) = some (r1, r2, r3, r4, r5, r6, r7, r8, r9, r10, r11)) ∧ za (kq ≤ kj11) ∧ za (wc.heap[gb108]? = some (.cells #[.bool false, .string ⟨#[]⟩, .string ⟨#[]⟩, .string ⟨#[]⟩, .string ⟨#[]⟩, .string ⟨#[]⟩, .string ⟨#[]⟩, .string ⟨#[]⟩, .string ⟨#[]⟩, .string ⟨#[]⟩, .string ⟨#[]⟩] 104 (0, 0))) ∧ za (wc.heap[gb109]? = some (.cells #[.bool false, .string x110001_16, .string ⟨#[]⟩, .string ⟨#[]⟩, .string ⟨#[]⟩, .string ⟨#[]⟩, .string ⟨#[]⟩, .string ⟨#[]⟩, .string ⟨#[]⟩, .string ⟨#[]⟩, .string ⟨#[]⟩] 104 (0, 0))) ∧ za (Below w.heap.size w wc))
    case first =>
     have H := HC17.out
     clear HC17
     by_cases c18 : x38_11 = true
     ·subst c18
      have H1 : (if 0 ≤ x4_8 then (if x4_8 ≤ t111 then (if t111 ≤ (a0.size : Int) then ((zq.f kj11 a0 (wrap64 (t111 + 1))).bind fun t112 => (zb.j3 kj11 a0 (wrap64 (t111 + 1)) t112 false (a0.extract (x4_8 : Int).toNat (t111 : Int).toNat) (⟨#[]⟩ : ByteArray) (⟨#[]⟩ : ByteArray) (⟨#[]⟩ : ByteArray) (⟨#[]⟩ : ByteArray) (⟨#[]⟩ : ByteArray) (⟨#[]⟩ : ByteArray) (⟨#[]⟩ : ByteArray) (⟨#[]⟩ : ByteArray) (⟨#[]⟩ : ByteArray))) else (none)) else (none)) else (none)) = some (r1, r2, r3, r4, r5, r6, r7, r8, r9, r10, r11) := by rw [if_pos rfl] at H; exact H
      clear H
      have H := H1
      clear H1
      by_cases c19 : 0 ≤ x4_8
      ·rw [if_pos c19] at H
       have c19b0 := eq_true c19
       have c19b1 : decide (0 ≤ x4_8) = true := decide_eq_true c19
       clear c19
       by_cases c20 : x4_8 ≤ t111
       ·rw [if_pos c20] at H
        have c20b0 := eq_true c20
        have c20b1 : decide (x4_8 ≤ t111) = true := decide_eq_true c20
        clear c20
        by_cases c21 : t111 ≤ (a0.size : Int)
        ·rw [if_pos c21] at H
         have c21b0 := eq_true c21
         have c21b1 : decide (t111 ≤ (a0.size : Int)) = true := decide_eq_true c21
         clear c21
         replace H := Option.bind_eq_some_iff.mp H
         obtain ⟨t112, A220, H⟩ := H
         replace H : (zb.j3 kj11 a0 (wrap64 (t111 + 1)) t112 false (a0.extract (x4_8 : Int).toNat (t111 : Int).toNat) (⟨#[]⟩ : ByteArray) (⟨#[]⟩ : ByteArray) (⟨#[]⟩ : ByteArray) (⟨#[]⟩ : ByteArray) (⟨#[]⟩ : ByteArray) (⟨#[]⟩ : ByteArray) (⟨#[]⟩ : ByteArray) (⟨#[]⟩ : ByteArray) (⟨#[]⟩ : ByteArray)) = some (r1, r2, r3, r4, r5, r6, r7, r8, r9, r10, r11) := H
         have A22 := za.mk A220
         clear A220
         have H' := za.mk H
         clear H
         have hnb23 := NB109_108.out
         have hnc23 := NB108_109.out
         obtain ⟨hcz24_0, hcz24_1, hcz24_2, hcz24_3, hcz24_4, hcz24_5, hcz24_6, hcz24_7, hcz24_8, hcz24_9, hcz24_10, hfz24_0, hfz24_1, hfz24_2, hfz24_3, hfz24_4, hfz24_5, hfz24_6, hfz24_7, hfz24_8, hfz24_9, hfz24_10⟩ := cl11 BK109.out
         go_wp2_with (((with_reducible refine zbb (f := 103) rfl ?_); refine zcc (some 48) rfl rfl Tryz.func103 (by kernel_rfl) rfl #[.string a0, .int .i64 (wrap64 (t111 + 1))] rfl (by (try simp only [List.map_toArray, List.map_cons, List.map_nil]); first | done | rfl | (simp only [List.length_drop, List.length_take]; rfl)) ?_; (with_reducible refine (zq.calls kj11 a0 (wrap64 (t111 + 1)) t112 _ A22.out).mono ?_); rintro e w' ⟨rfl, ⟨nd, rfl⟩⟩; refine ⟨_, rfl, ?_⟩))
         go_meet
         case rel => exact ⟨_, (wrap64 (t111 + 1)), (t112), (a0.extract (x4_8 : Int).toNat (t111 : Int).toNat), (by rfl), (by rfl), (by exact H'), ⟨by have := HJ8.out; have := HJ11.out; first | omega | exact Nat.le_refl _⟩, ⟨by (with_reducible (refine zl ?_ _)); refine zic ?_ NB108_109.out _; exact BK108.out⟩, ⟨by (with_reducible (refine zl ?_ _)); refine zm (cs := #[.bool false, .string ⟨#[]⟩, .string ⟨#[]⟩, .string ⟨#[]⟩, .string ⟨#[]⟩, .string ⟨#[]⟩, .string ⟨#[]⟩, .string ⟨#[]⟩, .string ⟨#[]⟩, .string ⟨#[]⟩, .string ⟨#[]⟩]) ?_ 1 _ rfl; exact BK109.out⟩, ⟨by (with_reducible apply ze; with_reducible refine zo ?_ GE109.out; with_reducible exact HB.out)⟩⟩
        ·rw [if_neg c21] at H
         exact absurd H (by simp)
       ·rw [if_neg c20] at H
        exact absurd H (by simp)
      ·rw [if_neg c19] at H
       exact absurd H (by simp)
     ·replace c18 := Bool.eq_false_iff.mpr c18
      subst c18
      have H1 : (zb.j3 kj11 a0 x4_8 t111 false (⟨#[]⟩ : ByteArray) (⟨#[]⟩ : ByteArray) (⟨#[]⟩ : ByteArray) (⟨#[]⟩ : ByteArray) (⟨#[]⟩ : ByteArray) (⟨#[]⟩ : ByteArray) (⟨#[]⟩ : ByteArray) (⟨#[]⟩ : ByteArray) (⟨#[]⟩ : ByteArray) (⟨#[]⟩ : ByteArray)) = some (r1, r2, r3, r4, r5, r6, r7, r8, r9, r10, r11) := by rw [if_neg (show ¬ (false = true) by decide)] at H; exact H
      clear H
      have H := H1
      clear H1
      have H' := za.mk H
      clear H
      go_wp2
      go_meet
      case rel => exact ⟨_, (x4_8), (t111), ((⟨#[]⟩ : ByteArray)), (by rfl), (by rfl), (by exact H'), ⟨by have := HJ8.out; have := HJ11.out; first | omega | exact Nat.le_refl _⟩, ⟨by exact BK108.out⟩, ⟨by exact BK109.out⟩, ⟨by (with_reducible exact HB.out)⟩⟩
    case rest =>
     clear HC17
     obtain ⟨kq, x4_16, x5_16, x110001_16, rfl, rfl, HA, HJ16, BK108, BK109, HB⟩ := hcut
     exact (by assumption : ∀ (a : Act) (w : World), Code.wp Tryz.prog _ _ a w → _) _ _ (zb.st3 _ _ _ _ _ _ _ _ _ _ _ _ _ _ _ _ _ _ _ _ _ _ _ _ _ _ _ _ _ _ _ _ _ _ _ _ _ _ _ _ _ _ _ _ _ _ _ _ _ _ _ _ _ _ _ _ _ _ _ _ _ _ _ _ _ _ _ _ _ _ _ _ _ _ _ _ _ _ _ _ _ _ _ _ _ _ _ _ _ _ _ _ _ _ _ _ _ _ _ _ _ _ _ _ _ _ _ _ _ _ _ _ _ _ _ _ _ _ _ _ _ _ _ _ _ _ _ _ _ _ _ _ _ _ _ _ _ _ _ _ _ _ _ _ _ _ _ _ _ _ _ _ _ _ _ _ _ _ _ _ _ _ _ _ _ _ _ _ _ _ _ _ _ _ _ _ _ _ _ _ _ _ _ _ _ _ _ _ _ _ _ _ _ _ _ _ _ _ _ _ _ _ _ _ _ _ _ HA HJ16 BK108 BK109 HB GW108 GE108 GW109 GE109 NB108_109 NB109_108)
theorem zb.calls (k : Nat) (a0 : ByteArray) (r1 : Bool) (r2 : ByteArray) (r3 : ByteArray) (r4 : ByteArray) (r5 : ByteArray) (r6 : ByteArray) (r7 : ByteArray) (r8 : ByteArray) (r9 : ByteArray) (r10 : ByteArray) (r11 : ByteArray) (w : World) (h : zb.f k a0 = some (r1, r2, r3, r4, r5, r6, r7, r8, r9, r10, r11)) :
  Calls Tryz.prog 67 #[.string a0] w fun e w' => e = .returned (.agg #[.bool r1, .string r2, .string r3, .string r4, .string r5, .string r6, .string r7, .string r8, .string r9, .string r10, .string r11]) ∧ Below w.heap.size w w' := by
 have hu104 := Tryz.underlying104
 have HB := za.mk (Below.refl w.heap.size w)
 have H : ((zp.f k a0 0).bind fun t110 => (if t110 < (a0.size : Int) then (if 0 ≤ t110 then (zb.j0 k a0 t110 ((bt a0 t110) == 118) false (⟨#[]⟩ : ByteArray) (⟨#[]⟩ : ByteArray) (⟨#[]⟩ : ByteArray) (⟨#[]⟩ : ByteArray) (⟨#[]⟩ : ByteArray) (⟨#[]⟩ : ByteArray) (⟨#[]⟩ : ByteArray) (⟨#[]⟩ : ByteArray) (⟨#[]⟩ : ByteArray) (⟨#[]⟩ : ByteArray)) else (none)) else (zb.j0 k a0 t110 false false (⟨#[]⟩ : ByteArray) (⟨#[]⟩ : ByteArray) (⟨#[]⟩ : ByteArray) (⟨#[]⟩ : ByteArray) (⟨#[]⟩ : ByteArray) (⟨#[]⟩ : ByteArray) (⟨#[]⟩ : ByteArray) (⟨#[]⟩ : ByteArray) (⟨#[]⟩ : ByteArray) (⟨#[]⟩ : ByteArray)))) = some (r1, r2, r3, r4, r5, r6, r7, r8, r9, r10, r11) := h
 clear h
 replace H := Option.bind_eq_some_iff.mp H
 obtain ⟨t110, A20, H⟩ := H
 replace H : (if t110 < (a0.size : Int) then (if 0 ≤ t110 then (zb.j0 k a0 t110 ((bt a0 t110) == 118) false (⟨#[]⟩ : ByteArray) (⟨#[]⟩ : ByteArray) (⟨#[]⟩ : ByteArray) (⟨#[]⟩ : ByteArray) (⟨#[]⟩ : ByteArray) (⟨#[]⟩ : ByteArray) (⟨#[]⟩ : ByteArray) (⟨#[]⟩ : ByteArray) (⟨#[]⟩ : ByteArray) (⟨#[]⟩ : ByteArray)) else (none)) else (zb.j0 k a0 t110 false false (⟨#[]⟩ : ByteArray) (⟨#[]⟩ : ByteArray) (⟨#[]⟩ : ByteArray) (⟨#[]⟩ : ByteArray) (⟨#[]⟩ : ByteArray) (⟨#[]⟩ : ByteArray) (⟨#[]⟩ : ByteArray) (⟨#[]⟩ : ByteArray) (⟨#[]⟩ : ByteArray) (⟨#[]⟩ : ByteArray))) = some (r1, r2, r3, r4, r5, r6, r7, r8, r9, r10, r11) := H
 have A2 := za.mk A20
 clear A20
 have HC3 := za.mk H
 clear H
 go_enter Tryz.func67, Tryz.ntmps67
 go_upto_region 3 with (first | ((with_reducible refine zrb (N := 2) rfl ?_); (try (refine zsb (by rfl) ?_; dsimp only)); refine ztb ?hg (N := 2) ?hd (cs := #[.bool false, .string ⟨#[]⟩, .string ⟨#[]⟩, .string ⟨#[]⟩, .string ⟨#[]⟩, .string ⟨#[]⟩, .string ⟨#[]⟩, .string ⟨#[]⟩, .string ⟨#[]⟩, .string ⟨#[]⟩, .string ⟨#[]⟩]) (t := 104) ?hr ?_; (case hd => rfl); (case hg => rfl); (case hr => first | (go_simp; done) | (go_simp; rfl)); intro gb108 hg w4 hbox hb; have BK108 := za.mk hbox; have GW108 := za.mk ((by rw [hg]; exact (zab (by (with_reducible exact HB.out))) : w.heap.size ≤ gb108)); have GE108 := za.mk ((by rw [hg]; exact (zab (by (with_reducible exact HB.out))) : w.heap.size ≤ gb108)); replace HB := za.mk (zw (by (with_reducible exact HB.out)) hb); clear hb hbox hg) | ((with_reducible refine zrb (N := 3) rfl ?_); (try (refine zsb (by rfl) ?_; dsimp only)); refine ztb ?hg (N := 3) ?hd (cs := #[.bool false, .string ⟨#[]⟩, .string ⟨#[]⟩, .string ⟨#[]⟩, .string ⟨#[]⟩, .string ⟨#[]⟩, .string ⟨#[]⟩, .string ⟨#[]⟩, .string ⟨#[]⟩, .string ⟨#[]⟩, .string ⟨#[]⟩]) (t := 104) ?hr ?_; (case hd => rfl); (case hg => rfl); (case hr => first | (go_simp; done) | (go_simp; rfl)); intro gb109 hg w5 hbox hb; have n0_ := za.mk (zr BK108.out hb); have n1_ := za.mk (zw (by (with_reducible exact HB.out)) hb); have n2_ := za.mk hbox; have n3_ := za.mk ((by rw [hg]; exact (zab (by (with_reducible exact HB.out))) : w.heap.size ≤ gb109)); have n4_ := za.mk ((by rw [hg]; exact (zab (by (with_reducible exact HB.out))) : w.heap.size ≤ gb109)); have n5_ := za.mk ((by rw [hg]; exact Nat.ne_of_lt (zhf BK108.out) : gb108 ≠ gb109)); have n6_ := za.mk ((by rw [hg]; exact Nat.ne_of_gt (zhf BK108.out) : gb109 ≠ gb108)); clear BK108; clear HB; have BK108 := n0_; have HB := n1_; have BK109 := n2_; have GW109 := n3_; have GE109 := n4_; have NB108_109 := n5_; have NB109_108 := n6_; clear n0_ n1_ n2_ n3_ n4_ n5_ n6_; clear hb hbox hg) | ((with_reducible refine zbb (f := 102) rfl ?_); refine zcc (some 8) rfl rfl Tryz.func102 (by kernel_rfl) rfl #[.string a0, .int .i64 0] rfl (by (try simp only [List.map_toArray, List.map_cons, List.map_nil]); first | done | rfl | (simp only [List.length_drop, List.length_take]; rfl)) ?_; (with_reducible refine (zp.calls k a0 0 t110 _ A2.out).mono ?_); rintro e w' ⟨rfl, ⟨nd, rfl⟩⟩; refine ⟨_, rfl, ?_⟩))
 (try simp only [Act.put, List.setIfInBounds_toArray, List.set_cons_zero, List.set_cons_succ])
 go_cut [18] (fun v18 wc => ∃ (kq : Nat) (x18_2 : Bool), v18 = .bool x18_2 ∧ za (zb.j0 kq a0 t110 x18_2 false (⟨#[]⟩ : ByteArray) (⟨#[]⟩ : ByteArray) (⟨#[]⟩ : ByteArray) (⟨#[]⟩ : ByteArray) (⟨#[]⟩ : ByteArray) (⟨#[]⟩ : ByteArray) (⟨#[]⟩ : ByteArray) (⟨#[]⟩ : ByteArray) (⟨#[]⟩ : ByteArray) (⟨#[]⟩ : ByteArray) = some (r1, r2, r3, r4, r5, r6, r7, r8, r9, r10, r11)) ∧ za (kq ≤ k) ∧ za (wc.heap[gb108]? = some (.cells #[.bool false, .string ⟨#[]⟩, .string ⟨#[]⟩, .string ⟨#[]⟩, .string ⟨#[]⟩, .string ⟨#[]⟩, .string ⟨#[]⟩, .string ⟨#[]⟩, .string ⟨#[]⟩, .string ⟨#[]⟩, .string ⟨#[]⟩] 104 (0, 0))) ∧ za (wc.heap[gb109]? = some (.cells #[.bool false, .string ⟨#[]⟩, .string ⟨#[]⟩, .string ⟨#[]⟩, .string ⟨#[]⟩, .string ⟨#[]⟩, .string ⟨#[]⟩, .string ⟨#[]⟩, .string ⟨#[]⟩, .string ⟨#[]⟩, .string ⟨#[]⟩] 104 (0, 0))) ∧ za (Below w.heap.size w wc))
 case first =>
  have H := HC3.out
  clear HC3
  by_cases c6 : t110 < (a0.size : Int)
  ·rw [if_pos c6] at H
   have c6b0 : decide (t110 < (a0.size : Int)) = true := decide_eq_true c6
   clear c6
   (first | rw [c6b0] | (simp only [i64_w, i32_w]; rw [c6b0]) | skip)
   by_cases c7 : 0 ≤ t110
   ·rw [if_pos c7] at H
    have c7b0 : decide (0 ≤ t110) = true := decide_eq_true c7
    clear c7
    have H' := za.mk H
    clear H
    have p8 : 0 ≤ (t110 : Int) := of_decide_eq_true (by (with_reducible assumption))
    have q8 : t110 < (a0.size : Int) := of_decide_eq_true (by (with_reducible assumption))
    have hx8 := bt_at a0 t110
    replace p8 := eq_true p8
    replace q8 := eq_true q8
    go_wp2
    go_meet
    case rel => exact ⟨_, (((bt a0 t110) == 118)), (by rfl), H', ⟨by omega⟩, ⟨by (with_reducible (refine zl ?_ _)); exact BK108.out⟩, ⟨by (with_reducible (refine zl ?_ _)); exact BK109.out⟩, ⟨by (with_reducible apply ze; with_reducible exact HB.out)⟩⟩
   ·rw [if_neg c7] at H
    exact absurd H (by simp)
  ·rw [if_neg c6] at H
   have c6b0 : decide (t110 < (a0.size : Int)) = false := decide_eq_false c6
   clear c6
   (first | rw [c6b0] | (simp only [i64_w, i32_w]; rw [c6b0]) | skip)
   have H' := za.mk H
   clear H
   go_wp2
   go_meet
   case rel => exact ⟨_, (false), (by rfl), H', ⟨by omega⟩, ⟨by (with_reducible (refine zl ?_ _)); exact BK108.out⟩, ⟨by (with_reducible (refine zl ?_ _)); exact BK109.out⟩, ⟨by (with_reducible apply ze; with_reducible exact HB.out)⟩⟩
 case rest =>
  clear HC3
  obtain ⟨kq, x18_2, rfl, HA, HJ2, BK108, BK109, HB⟩ := hcut
  cases kq with
  | zero => exact absurd HA.out (by simp [zb.j0])
  | succ kj2 =>
   have H := HA.out
   clear HA
   simp only [zb.j0] at H
   have HC9 := za.mk H
   clear H
   go_upto_if 18 with (fail)
   go_cut [4, 18] (fun v4 v18 wc => ∃ (kq : Nat) (x4_8 : Int), v4 = .int .i64 x4_8 ∧ za (zb.j1 kq a0 x4_8 false (⟨#[]⟩ : ByteArray) (⟨#[]⟩ : ByteArray) (⟨#[]⟩ : ByteArray) (⟨#[]⟩ : ByteArray) (⟨#[]⟩ : ByteArray) (⟨#[]⟩ : ByteArray) (⟨#[]⟩ : ByteArray) (⟨#[]⟩ : ByteArray) (⟨#[]⟩ : ByteArray) (⟨#[]⟩ : ByteArray) = some (r1, r2, r3, r4, r5, r6, r7, r8, r9, r10, r11)) ∧ za (kq ≤ kj2) ∧ za (wc.heap[gb108]? = some (.cells #[.bool false, .string ⟨#[]⟩, .string ⟨#[]⟩, .string ⟨#[]⟩, .string ⟨#[]⟩, .string ⟨#[]⟩, .string ⟨#[]⟩, .string ⟨#[]⟩, .string ⟨#[]⟩, .string ⟨#[]⟩, .string ⟨#[]⟩] 104 (0, 0))) ∧ za (wc.heap[gb109]? = some (.cells #[.bool false, .string ⟨#[]⟩, .string ⟨#[]⟩, .string ⟨#[]⟩, .string ⟨#[]⟩, .string ⟨#[]⟩, .string ⟨#[]⟩, .string ⟨#[]⟩, .string ⟨#[]⟩, .string ⟨#[]⟩, .string ⟨#[]⟩] 104 (0, 0))) ∧ za (Below w.heap.size w wc))
   case first =>
    have H := HC9.out
    clear HC9
    by_cases c10 : x18_2 = true
    ·subst c10
     have H1 : (zb.j1 kj2 a0 (wrap64 (t110 + 1)) false (⟨#[]⟩ : ByteArray) (⟨#[]⟩ : ByteArray) (⟨#[]⟩ : ByteArray) (⟨#[]⟩ : ByteArray) (⟨#[]⟩ : ByteArray) (⟨#[]⟩ : ByteArray) (⟨#[]⟩ : ByteArray) (⟨#[]⟩ : ByteArray) (⟨#[]⟩ : ByteArray) (⟨#[]⟩ : ByteArray)) = some (r1, r2, r3, r4, r5, r6, r7, r8, r9, r10, r11) := by rw [if_pos rfl] at H; exact H
     clear H
     have H := H1
     clear H1
     have H' := za.mk H
     clear H
     go_wp2
     go_meet
     case rel => exact ⟨_, (wrap64 (t110 + 1)), (by rfl), (by exact H'), ⟨by have := HJ2.out; first | omega | exact Nat.le_refl _⟩, ⟨by exact BK108.out⟩, ⟨by exact BK109.out⟩, ⟨by (with_reducible exact HB.out)⟩⟩
    ·replace c10 := Bool.eq_false_iff.mpr c10
     subst c10
     have H1 : (zb.j1 kj2 a0 t110 false (⟨#[]⟩ : ByteArray) (⟨#[]⟩ : ByteArray) (⟨#[]⟩ : ByteArray) (⟨#[]⟩ : ByteArray) (⟨#[]⟩ : ByteArray) (⟨#[]⟩ : ByteArray) (⟨#[]⟩ : ByteArray) (⟨#[]⟩ : ByteArray) (⟨#[]⟩ : ByteArray) (⟨#[]⟩ : ByteArray)) = some (r1, r2, r3, r4, r5, r6, r7, r8, r9, r10, r11) := by rw [if_neg (show ¬ (false = true) by decide)] at H; exact H
     clear H
     have H := H1
     clear H1
     have H' := za.mk H
     clear H
     go_wp2
     go_meet
     case rel => exact ⟨_, (t110), (by rfl), (by exact H'), ⟨by have := HJ2.out; first | omega | exact Nat.le_refl _⟩, ⟨by exact BK108.out⟩, ⟨by exact BK109.out⟩, ⟨by (with_reducible exact HB.out)⟩⟩
   case rest =>
    clear HC9
    obtain ⟨kq, x4_8, rfl, HA, HJ8, BK108, BK109, HB⟩ := hcut
    exact (by assumption : ∀ (a : Act) (w : World), Code.wp Tryz.prog _ _ a w → _) _ _ (zb.st1 _ _ _ _ _ _ _ _ _ _ _ _ _ _ _ _ _ _ _ _ _ _ _ _ _ _ _ _ _ _ _ _ _ _ _ _ _ _ _ _ _ _ _ _ _ _ _ _ _ _ _ _ _ _ _ _ _ _ _ _ _ _ _ _ _ _ _ _ _ _ _ _ _ _ _ _ _ _ _ _ _ _ _ _ _ _ _ _ _ _ _ _ _ _ _ _ _ _ _ _ _ _ _ _ _ _ _ _ _ _ _ _ _ _ _ _ _ _ _ _ _ _ _ _ _ _ _ _ _ _ _ _ _ _ _ _ _ _ _ _ _ _ _ _ _ _ _ _ _ _ _ _ _ _ _ _ _ _ _ _ _ _ _ _ _ _ _ _ _ _ _ _ _ _ _ _ _ _ _ _ _ _ _ _ _ _ _ _ _ _ _ _ _ _ _ _ _ _ _ _ _ _ _ _ _ _ HA HJ8 BK108 BK109 HB GW108 GE108 GW109 GE109 NB108_109 NB109_108)
end Go.Proofs.YtlijjnjpomnphaaGreatDoor.S
end
section
namespace Go.Proofs.YtlijjnjpomnphaaGreatDoor.S
open Go.RowKit YtlijjnjpomnphaaGreatDoorH YtlijjnjpomnphaaGreatDoorW.PrintWords YtlijjnjpomnphaaGreatDoorW.PrintLast YtlijjnjpomnphaaGreatDoorW.PrintMore
attribute [local go_sem] zgd zhd zbe zce zxc zyc zfd zid
def zjb.l0 : Nat → ByteArray → ByteArray → Int → Option (Int)
 | 0, _, _, _ => none
 | k + 1, x0, x1, x5 => if (wrap64 (x5 + (x1.size : Int))) ≤ (x0.size : Int) then (if 0 ≤ x5 then (if x5 ≤ (wrap64 (x5 + (x1.size : Int))) then (if (x0.extract (x5 : Int).toNat ((wrap64 (x5 + (x1.size : Int))) : Int).toNat).toList = x1.toList then (some x5) else (zjb.l0 k x0 x1 (wrap64 (x5 + 1)))) else (none)) else (none)) else (some (-1))
def zjb.f (k : Nat) (a0 : ByteArray) (a1 : ByteArray) : Option (Int) := zjb.l0 k a0 a1 0
theorem zjb.calls (k : Nat) (a0 : ByteArray) (a1 : ByteArray) (r : Int) (w : World) (h : zjb.f k a0 a1 = some r) :
  Calls Tryz.prog 109 #[.string a0, .string a1] w fun e w' => e = .returned (.int .i64 r) ∧ zk w w' := by
 have H : (zjb.l0 k a0 a1 0) = some r := h
 clear h
 have H' := za.mk H
 clear H
 go_enter Tryz.func109, Tryz.ntmps109
 go_wp2
 (try simp only [Act.put, List.setIfInBounds_toArray, List.set_cons_zero, List.set_cons_succ])
 go_loopg [5] k (fun kq v5 w' => ∃ (x5_1 : Int), v5 = .int .i64 x5_1 ∧ za (zjb.l0 kq a0 a1 x5_1 = some r) ∧ za (kq ≤ k) ∧ zk w w')
 case atStart => exact ⟨(0), (by first | rfl | (simp; done) | (simp [*]; done) | (simp [zc]; done) | (simp [zc, *]; done)), H', ⟨Nat.le_refl _⟩, by repeat (first | exact zk.refl _ | apply zk.step)⟩
 case round =>
  clear H'
  try clear c1
  try clear p2
  obtain ⟨x5_1, rfl, HA, HK1, ⟨m1, rfl⟩⟩ := hrel
  cases gk with
  | zero => exact absurd HA.out (by simp [zjb.l0])
  | succ k1 =>
   have H := HA.out
   clear HA
   simp only [zjb.l0] at H
   by_cases c3 : (wrap64 (x5_1 + (a1.size : Int))) ≤ (a0.size : Int)
   ·rw [if_pos c3] at H
    have c3b0 : decide ((wrap64 (x5_1 + (a1.size : Int))) ≤ (a0.size : Int)) = true := decide_eq_true c3
    clear c3
    by_cases c4 : 0 ≤ x5_1
    ·rw [if_pos c4] at H
     have c4b0 := eq_true c4
     have c4b1 : decide (0 ≤ x5_1) = true := decide_eq_true c4
     clear c4
     by_cases c5 : x5_1 ≤ (wrap64 (x5_1 + (a1.size : Int)))
     ·rw [if_pos c5] at H
      have c5b0 := eq_true c5
      have c5b1 : decide (x5_1 ≤ (wrap64 (x5_1 + (a1.size : Int)))) = true := decide_eq_true c5
      have c6b0 := eq_true (of_decide_eq_true (by first | (with_reducible assumption) | assumption) : (wrap64 (x5_1 + (a1.size : Int))) ≤ (a0.size : Int))
      by_cases c7 : (a0.extract (x5_1 : Int).toNat ((wrap64 (x5_1 + (a1.size : Int))) : Int).toNat).toList = a1.toList
      ·rw [if_pos c7] at H
       have c7b0 : ((a0.extract (x5_1 : Int).toNat ((wrap64 (x5_1 + (a1.size : Int))) : Int).toNat).toList == a1.toList) = true := beq_iff_eq.mpr c7
       have c7b1 : ((a0.extract (x5_1 : Int).toNat ((wrap64 (x5_1 + (a1.size : Int))) : Int).toNat).toList != a1.toList) = false := bne_eq_false_iff_eq.mpr c7
       clear c7
       obtain rfl := Option.some.inj H
       go_wp2
       go_ret
       exact ⟨by first | rfl | (simp; done) | (simp [*]; done) | (simp [zc]; done) | (simp [zc, *]; done), by repeat (first | exact zk.refl _ | apply zk.step)⟩
      ·rw [if_neg c7] at H
       have c7b0 : ((a0.extract (x5_1 : Int).toNat ((wrap64 (x5_1 + (a1.size : Int))) : Int).toNat).toList == a1.toList) = false := beq_eq_false_iff_ne.mpr c7
       have c7b1 : ((a0.extract (x5_1 : Int).toNat ((wrap64 (x5_1 + (a1.size : Int))) : Int).toNat).toList != a1.toList) = true := bne_iff_ne.mpr c7
       have H' := za.mk H
       clear H
       go_wp2
       go_roundg k1
       case measure => have := HK1.out; omega
       case rel => exact ⟨(wrap64 (x5_1 + 1)), (by first | rfl | (simp; done) | (simp [*]; done) | (simp [zc]; done) | (simp [zc, *]; done)), H', ⟨by have := HK1.out; omega⟩, by repeat (first | exact zk.refl _ | apply zk.step)⟩
     ·rw [if_neg c5] at H
      exact absurd H (by simp)
    ·rw [if_neg c4] at H
     exact absurd H (by simp)
   ·rw [if_neg c3] at H
    have c3b0 : decide ((wrap64 (x5_1 + (a1.size : Int))) ≤ (a0.size : Int)) = false := decide_eq_false c3
    clear c3
    obtain rfl := Option.some.inj H
    go_wp2
    go_ret
    exact ⟨by first | rfl | (simp; done) | (simp [*]; done) | (simp [zc]; done) | (simp [zc, *]; done), by repeat (first | exact zk.refl _ | apply zk.step)⟩
def zfb.l1 : Nat → ByteArray → ByteArray → List ByteArray → Option (List ByteArray)
 | 0, _, _, _ => none
 | k + 1, x0, x1, x5 => (zjb.f k x0 x1).bind fun t142 => (if t142 < 0 then (if x5.length < 8796093022208 then (some (x5 ++ [x0])) else (none)) else (if 0 ≤ t142 then (if t142 ≤ (x0.size : Int) then (if x5.length < 8796093022208 then (if 0 ≤ (wrap64 (t142 + (x1.size : Int))) then (if (wrap64 (t142 + (x1.size : Int))) ≤ (x0.size : Int) then (zfb.l1 k (x0.extract ((wrap64 (t142 + (x1.size : Int))) : Int).toNat x0.size) x1 (x5 ++ [x0.extract 0 (t142 : Int).toNat])) else (none)) else (none)) else (none)) else (none)) else (none)))
def zfb.f (k : Nat) (a0 : ByteArray) (a1 : ByteArray) : Option (List ByteArray) := if (a1.size : Int) = 0 then (none) else (zfb.l1 k a0 a1 ([] : List ByteArray))
theorem zfb.calls (k : Nat) (a0 : ByteArray) (a1 : ByteArray) (r : List ByteArray) (w : World) (h : zfb.f k a0 a1 = some r) :
  Calls Tryz.prog 71 #[.string a0, .string a1] w fun e w' => ∃ v0_ : Value, e = .returned (v0_) ∧ Kd.R Kd.string 9 w' w.heap.size (fun _ => True) v0_ r ∧ Below w.heap.size w w' := by
 have HB := za.mk (Below.refl w.heap.size w)
 have H : (if (a1.size : Int) = 0 then (none) else (zfb.l1 k a0 a1 ([] : List ByteArray))) = some r := h
 clear h
 by_cases c3 : (a1.size : Int) = 0
 ·rw [if_pos c3] at H
  exact absurd H (by simp)
 ·rw [if_neg c3] at H
  have c3b0 : ((a1.size : Int) == 0) = false := beq_eq_false_iff_ne.mpr c3
  have c3b1 : ((a1.size : Int) != 0) = true := bne_iff_ne.mpr c3
  have H' := za.mk H
  clear H
  go_enter Tryz.func71, Tryz.ntmps71
  go_wp2
  (try simp only [Act.put, List.setIfInBounds_toArray, List.set_cons_zero, List.set_cons_succ])
  go_loopg [0, 5] k (fun kq v0 v5 w' => ∃ (x0_1 : ByteArray) (x5_1 : List ByteArray), v0 = .string x0_1 ∧ za (zfb.l1 kq x0_1 a1 x5_1 = some r) ∧ za (kq ≤ k) ∧ za (Kd.R Kd.string 9 w' w.heap.size (fun _ => True) v5 x5_1) ∧ za (Below w.heap.size w w'))
  case atStart => exact ⟨(a0), (([] : List ByteArray)), (by first | rfl | (simp; done) | (simp [*]; done) | (simp [zc]; done) | (simp [zc, *]; done)), H', ⟨Nat.le_refl _⟩, ⟨by first | exact Kd.R_nil _ _ _ _ _ | exact Kd.N_nil _ _ _ _ _ | exact Kd.V_nil _ _ _ _ _ | exact Kd.Q_nil _ _ _ _ _ | exact Kd.S_nil _ _ _ _ _⟩, ⟨by repeat (first | (with_reducible first | exact HB.out | apply zg | apply ze | apply below_drew1) | exact HB.out)⟩⟩
  case round =>
   clear H'
   try clear p2
   try clear c3
   try clear c3b0
   try clear c3b1
   obtain ⟨x0_1, x5_1, rfl, HA, HK1, HO_5, HB⟩ := hrel
   cases gk with
   | zero => exact absurd HA.out (by simp [zfb.l1])
   | succ k1 =>
    have H := HA.out
    clear HA
    simp only [zfb.l1] at H
    replace H := Option.bind_eq_some_iff.mp H
    obtain ⟨t142, A40, H⟩ := H
    replace H : (if t142 < 0 then (if x5_1.length < 8796093022208 then (some (x5_1 ++ [x0_1])) else (none)) else (if 0 ≤ t142 then (if t142 ≤ (x0_1.size : Int) then (if x5_1.length < 8796093022208 then (if 0 ≤ (wrap64 (t142 + (a1.size : Int))) then (if (wrap64 (t142 + (a1.size : Int))) ≤ (x0_1.size : Int) then (zfb.l1 k1 (x0_1.extract ((wrap64 (t142 + (a1.size : Int))) : Int).toNat x0_1.size) a1 (x5_1 ++ [x0_1.extract 0 (t142 : Int).toNat])) else (none)) else (none)) else (none)) else (none)) else (none))) = some r := H
    have A4 := za.mk A40
    clear A40
    by_cases c5 : t142 < 0
    ·rw [if_pos c5] at H
     have c5b0 : decide (t142 < 0) = true := decide_eq_true c5
     clear c5
     by_cases c6 : x5_1.length < 8796093022208
     ·rw [if_pos c6] at H
      have LMc6 := za.mk c6
      clear c6
      obtain ⟨y143, hy143⟩ : ∃ y_ : List ByteArray, y_ = (x5_1 ++ [x0_1]) := ⟨_, rfl⟩
      replace H : (some y143) = some r := by first | (rw [hy143]; with_reducible exact H) | (have H2_ := (Option.bind_some _ _).symm.trans H; rw [hy143]; with_reducible exact H2_) | (have H2_ := (Option.bind_some _ _).symm.trans H; with_reducible exact H2_) | with_reducible exact H | (rw [hy143]; exact H) | exact H
      have Ny143 := za.mk hy143
      clear hy143
      obtain rfl := Option.some.inj H
      go_wp2_with (first | ((with_reducible refine zbb (f := 109) rfl ?_); refine zcc (some 39) rfl rfl Tryz.func109 (by kernel_rfl) rfl #[.string x0_1, .string a1] rfl (by (try simp only [List.map_toArray, List.map_cons, List.map_nil]); first | done | rfl | (simp only [List.length_drop, List.length_take]; rfl)) ?_; (with_reducible refine (zjb.calls k1 x0_1 a1 t142 _ A4.out).mono ?_); rintro e w' ⟨rfl, ⟨nd, rfl⟩⟩; refine ⟨_, rfl, ?_⟩) | ((with_reducible refine zub (b := .append) (xs := #[.tmp 42, .tmp 44]) rfl ?_); at_builtin; refine Kd.R_append Kd.string (w0 := w) w.heap.size rfl (.tmp 42) (.tmp 44) 24 9 (.string ⟨#[]⟩) 16 rfl Tryz.underlying24 info9 rfl (by decide) (by omega) u5 x5_1 x0_1 [.string x0_1] (fun _ => True) (fun _ => False) rfl rfl ?aP (fun _ hk => hk.elim) ?aF ?aO ?aB ?aS ?aL ?_; (case aP => exact rfl); (case aB => exact (by repeat (first | (with_reducible first | exact HB.out | apply zg | apply ze | apply below_drew1) | exact HB.out))); (case aF => exact (fun _ _ => trivial)); (case aO => exact (by (with_reducible repeat (first | apply Kd.R_alloc | apply Kd.R_drewN | apply Kd.R_drew)); exact HO_5.out)); (case aS => exact (zab (by repeat (first | (with_reducible first | exact HB.out | apply zg | apply ze | apply below_drew1) | exact HB.out)))); (case aL => have := LMc6.out; omega); intro v144 w7 ho hb hg hat; rw [← Ny143.out] at ho; have n0_ := za.mk (hb); have n1_ := za.mk (ho); clear HB; clear HO_5; have HB := n0_; have HO145 := n1_; clear n0_ n1_; clear ho hb hg hat))
      go_ret
      exact ⟨_, by first | rfl | (simp [znb, zmb] <;> rfl) | (simp [*, znb, zmb] <;> rfl) | (simp [zc]; done), by (with_reducible repeat (first | apply Kd.R_alloc | apply Kd.R_drewN | apply Kd.R_drew)); exact HO145.out, by repeat (first | (with_reducible first | exact HB.out | apply zg | apply ze | apply below_drew1) | exact HB.out)⟩
     ·rw [if_neg c6] at H
      exact absurd H (by simp)
    ·rw [if_neg c5] at H
     have c5b0 : decide (t142 < 0) = false := decide_eq_false c5
     clear c5
     by_cases c8 : 0 ≤ t142
     ·rw [if_pos c8] at H
      have c8b0 := eq_true c8
      have c8b1 : decide (0 ≤ t142) = true := decide_eq_true c8
      clear c8
      by_cases c9 : t142 ≤ (x0_1.size : Int)
      ·rw [if_pos c9] at H
       have c9b0 := eq_true c9
       have c9b1 : decide (t142 ≤ (x0_1.size : Int)) = true := decide_eq_true c9
       clear c9
       by_cases c10 : x5_1.length < 8796093022208
       ·rw [if_pos c10] at H
        have LMc10 := za.mk c10
        clear c10
        obtain ⟨y146, hy146⟩ : ∃ y_ : List ByteArray, y_ = (x5_1 ++ [x0_1.extract 0 (t142 : Int).toNat]) := ⟨_, rfl⟩
        replace H : (if 0 ≤ (wrap64 (t142 + (a1.size : Int))) then (if (wrap64 (t142 + (a1.size : Int))) ≤ (x0_1.size : Int) then (zfb.l1 k1 (x0_1.extract ((wrap64 (t142 + (a1.size : Int))) : Int).toNat x0_1.size) a1 y146) else (none)) else (none)) = some r := by first | (rw [hy146]; with_reducible exact H) | (have H2_ := (Option.bind_some _ _).symm.trans H; rw [hy146]; with_reducible exact H2_) | (have H2_ := (Option.bind_some _ _).symm.trans H; with_reducible exact H2_) | with_reducible exact H | (rw [hy146]; exact H) | exact H
        have Ny146 := za.mk hy146
        clear hy146
        obtain ⟨ji11, hji11⟩ : ∃ j_ : Int, (wrap64 (t142 + (a1.size : Int))) = j_ := ⟨_, rfl⟩
        replace H : (if 0 ≤ (ji11) then (if (ji11) ≤ (x0_1.size : Int) then (zfb.l1 k1 (x0_1.extract ((ji11) : Int).toNat x0_1.size) a1 y146) else (none)) else (none)) = some r := by first | (rw [hji11] at H; exact H) | (simp only [hji11] at H ⊢; exact H)
        (try rw [hji11] at A4)
        have hji11w : (IntKind.i64.wrap (t142 + (a1.size : Int))) = ji11 := (i64_w _).trans hji11
        by_cases c12 : 0 ≤ (ji11)
        ·rw [if_pos c12] at H
         have c12b0 := eq_true c12
         have c12b1 : decide (0 ≤ (ji11)) = true := decide_eq_true c12
         clear c12
         by_cases c13 : (ji11) ≤ (x0_1.size : Int)
         ·rw [if_pos c13] at H
          have c13b0 := eq_true c13
          have c13b1 : decide ((ji11) ≤ (x0_1.size : Int)) = true := decide_eq_true c13
          clear c13
          have H' := za.mk H
          clear H
          go_wp2_with (first | ((with_reducible refine zbb (f := 109) rfl ?_); refine zcc (some 39) rfl rfl Tryz.func109 (by kernel_rfl) rfl #[.string x0_1, .string a1] rfl (by (try simp only [List.map_toArray, List.map_cons, List.map_nil]); first | done | rfl | (simp only [List.length_drop, List.length_take]; rfl)) ?_; (with_reducible refine (zjb.calls k1 x0_1 a1 t142 _ A4.out).mono ?_); rintro e w' ⟨rfl, ⟨nd, rfl⟩⟩; refine ⟨_, rfl, ?_⟩) | ((with_reducible refine zub (b := .append) (xs := #[.tmp 46, .tmp 50]) rfl ?_); at_builtin; refine Kd.R_append Kd.string (w0 := w) w.heap.size rfl (.tmp 46) (.tmp 50) 24 9 (.string ⟨#[]⟩) 16 rfl Tryz.underlying24 info9 rfl (by decide) (by omega) u5 x5_1 (x0_1.extract 0 (t142 : Int).toNat) [.string (x0_1.extract 0 (t142 : Int).toNat)] (fun _ => True) (fun _ => False) rfl rfl ?aP (fun _ hk => hk.elim) ?aF ?aO ?aB ?aS ?aL ?_; (case aP => exact rfl); (case aB => exact (by repeat (first | (with_reducible first | exact HB.out | apply zg | apply ze | apply below_drew1) | exact HB.out))); (case aF => exact (fun _ _ => trivial)); (case aO => exact (by (with_reducible repeat (first | apply Kd.R_alloc | apply Kd.R_drewN | apply Kd.R_drew)); exact HO_5.out)); (case aS => exact (zab (by repeat (first | (with_reducible first | exact HB.out | apply zg | apply ze | apply below_drew1) | exact HB.out)))); (case aL => have := LMc10.out; omega); intro v147 w14 ho hb hg hat; rw [← Ny146.out] at ho; have n0_ := za.mk (hb); have n1_ := za.mk (ho); clear HB; clear HO_5; have HB := n0_; have HO148 := n1_; clear n0_ n1_; clear ho hb hg hat))
          go_roundg k1
          case measure => have := HK1.out; omega
          case rel => exact ⟨(x0_1.extract ((ji11) : Int).toNat x0_1.size), (y146), (by first | rfl | (simp; done) | (simp only [← hji11] <;> (first | rfl | simp)) | (simp [*]; done)), H', ⟨by have := HK1.out; omega⟩, ⟨by (with_reducible repeat (first | apply Kd.R_alloc | apply Kd.R_drewN | apply Kd.R_drew)); exact HO148.out⟩, ⟨by repeat (first | (with_reducible first | exact HB.out | apply zg | apply ze | apply below_drew1) | exact HB.out)⟩⟩
         ·rw [if_neg c13] at H
          exact absurd H (by simp)
        ·rw [if_neg c12] at H
         exact absurd H (by simp)
       ·rw [if_neg c10] at H
        exact absurd H (by simp)
      ·rw [if_neg c9] at H
       exact absurd H (by simp)
     ·rw [if_neg c8] at H
      exact absurd H (by simp)
mutual
def zh.l0 : Nat → ByteArray → List ByteArray → Int → Option (List ByteArray)
 | 0, _, _, _ => none
 | k + 1, x0, x3, x4 => if x4 < (x0.size : Int) then ((zq.f k x0 x4).bind fun t149 => (if t149 = x4 then (zh.l1 k x0 x3 x4 t149) else (zh.j2 k x0 x3 x4 t149))) else (some x3)
def zh.j2 : Nat → ByteArray → List ByteArray → Int → Int → Option (List ByteArray)
 | 0, _, _, _, _ => none
 | k + 1, x0, x3, x4, x5 => if x5 = x4 then (if 0 ≤ x4 then (if x4 < (x0.size : Int) then (if (bt x0 x4) = 46 then (zh.j3 k x0 x3 x4 x5 true) else (zh.j3 k x0 x3 x4 x5 ((bt x0 x4) == 45))) else (none)) else (none)) else (zh.j3 k x0 x3 x4 x5 false)
def zh.j3 : Nat → ByteArray → List ByteArray → Int → Int → Bool → Option (List ByteArray)
 | 0, _, _, _, _, _ => none
 | k + 1, x0, x3, x4, x5, x48 => if x48 = true then (if (wrap64 (x5 + 1)) = x4 then (zh.l0 k x0 x3 (wrap64 (x4 + 1))) else (if 0 ≤ x4 then (if x4 ≤ (wrap64 (x5 + 1)) then (if (wrap64 (x5 + 1)) ≤ (x0.size : Int) then (if x3.length < 8796093022208 then (zh.l0 k x0 (x3 ++ [x0.extract (x4 : Int).toNat ((wrap64 (x5 + 1)) : Int).toNat]) (wrap64 (x5 + 1))) else (none)) else (none)) else (none)) else (none))) else (if x5 = x4 then (zh.l0 k x0 x3 (wrap64 (x4 + 1))) else (if 0 ≤ x4 then (if x4 ≤ x5 then (if x5 ≤ (x0.size : Int) then (if x3.length < 8796093022208 then (zh.l0 k x0 (x3 ++ [x0.extract (x4 : Int).toNat (x5 : Int).toNat]) x5) else (none)) else (none)) else (none)) else (none)))
def zh.l1 : Nat → ByteArray → List ByteArray → Int → Int → Option (List ByteArray)
 | 0, _, _, _, _ => none
 | k + 1, x0, x3, x4, x5 => if x5 < (x0.size : Int) then (if 0 ≤ x5 then (if (bt x0 x5) ≥ 97 then (if (bt x0 x5) ≤ 122 then (zh.l1 k x0 x3 x4 (wrap64 (x5 + 1))) else (zh.j2 k x0 x3 x4 x5)) else (zh.j2 k x0 x3 x4 x5)) else (none)) else (zh.j2 k x0 x3 x4 x5)
end
def zh.f (k : Nat) (a0 : ByteArray) : Option (List ByteArray) := zh.l0 k a0 ([] : List ByteArray) 0
theorem zh.calls (k : Nat) (a0 : ByteArray) (r : List ByteArray) (w : World) (h : zh.f k a0 = some r) :
  Calls Tryz.prog 121 #[.string a0] w fun e w' => ∃ v0_ : Value, e = .returned (v0_) ∧ Kd.R Kd.string 9 w' w.heap.size (fun _ => True) v0_ r ∧ Below w.heap.size w w' := by
 have HB := za.mk (Below.refl w.heap.size w)
 have H : (zh.l0 k a0 ([] : List ByteArray) 0) = some r := h
 clear h
 have H' := za.mk H
 clear H
 go_enter Tryz.func121, Tryz.ntmps121
 go_wp2
 (try simp only [Act.put, List.setIfInBounds_toArray, List.set_cons_zero, List.set_cons_succ])
 go_loopg [3, 4] k (fun kq v3 v4 w' => ∃ (x3_1 : List ByteArray) (x4_1 : Int), v4 = .int .i64 x4_1 ∧ za (zh.l0 kq a0 x3_1 x4_1 = some r) ∧ za (kq ≤ k) ∧ za (Kd.R Kd.string 9 w' w.heap.size (fun _ => True) v3 x3_1) ∧ za (Below w.heap.size w w'))
 case atStart => exact ⟨(([] : List ByteArray)), (0), (by first | rfl | (simp; done) | (simp [*]; done) | (simp [zc]; done) | (simp [zc, *]; done)), H', ⟨Nat.le_refl _⟩, ⟨by first | exact Kd.R_nil _ _ _ _ _ | exact Kd.N_nil _ _ _ _ _ | exact Kd.V_nil _ _ _ _ _ | exact Kd.Q_nil _ _ _ _ _ | exact Kd.S_nil _ _ _ _ _⟩, ⟨by repeat (first | (with_reducible first | exact HB.out | apply zg | apply ze | apply below_drew1) | exact HB.out)⟩⟩
 case round =>
  clear H'
  try clear c1
  obtain ⟨x3_1, x4_1, rfl, HA, HK1, HO_3, HB⟩ := hrel
  cases gk with
  | zero => exact absurd HA.out (by simp [zh.l0])
  | succ k1 =>
   have H := HA.out
   clear HA
   simp only [zh.l0] at H
   by_cases c2 : x4_1 < (a0.size : Int)
   ·rw [if_pos c2] at H
    have c2b0 : decide (x4_1 < (a0.size : Int)) = true := decide_eq_true c2
    clear c2
    replace H := Option.bind_eq_some_iff.mp H
    obtain ⟨t149, A30, H⟩ := H
    replace H : (if t149 = x4_1 then (zh.l1 k1 a0 x3_1 x4_1 t149) else (zh.j2 k1 a0 x3_1 x4_1 t149)) = some r := H
    have A3 := za.mk A30
    clear A30
    have HC4 := za.mk H
    clear H
    go_upto_if 15 with (first | ((with_reducible refine zbb (f := 103) rfl ?_); refine zcc (some 12) rfl rfl Tryz.func103 (by kernel_rfl) rfl #[.string a0, .int .i64 x4_1] rfl (by (try simp only [List.map_toArray, List.map_cons, List.map_nil]); first | done | rfl | (simp only [List.length_drop, List.length_take]; rfl)) ?_; (with_reducible refine (zq.calls k1 a0 x4_1 t149 _ A3.out).mono ?_); rintro e w' ⟨rfl, ⟨nd, rfl⟩⟩; refine ⟨_, rfl, ?_⟩))
    (try simp only [Act.put, List.setIfInBounds_toArray, List.set_cons_zero, List.set_cons_succ])
    go_cut [5, 15] (fun v5 v15 wc => ∃ (kq : Nat) (x5_3 : Int), v5 = .int .i64 x5_3 ∧ za (zh.j2 kq a0 x3_1 x4_1 x5_3 = some r) ∧ za (kq ≤ k1) ∧ za (Kd.R Kd.string 9 wc w.heap.size (fun _ => True) u3 x3_1) ∧ za (Below w.heap.size w wc))
    case first =>
     have H := HC4.out
     clear HC4
     by_cases c5 : t149 = x4_1
     ·rw [if_pos c5] at H
      have c5b0 : (t149 == x4_1) = true := beq_iff_eq.mpr c5
      have c5b1 : (t149 != x4_1) = false := bne_eq_false_iff_eq.mpr c5
      clear c5
      (first | rw [c5b0] | (simp only [i64_w, i32_w]; rw [c5b0]) | skip)
      have H' := za.mk H
      clear H
      go_wp2
      (try simp only [Act.put, List.setIfInBounds_toArray, List.set_cons_zero, List.set_cons_succ])
      go_loopg [5] k1 (fun kq v5 w' => ∃ (x5_2 : Int), v5 = .int .i64 x5_2 ∧ za (zh.l1 kq a0 x3_1 x4_1 x5_2 = some r) ∧ za (kq ≤ k1) ∧ za (Kd.R Kd.string 9 w' w.heap.size (fun _ => True) u3 x3_1) ∧ za (Below w.heap.size w w'))
      case atStart => exact ⟨(t149), (by first | rfl | (simp; done) | (simp [*]; done) | (simp [zc]; done) | (simp [zc, *]; done)), H', ⟨Nat.le_refl _⟩, ⟨by (with_reducible repeat (first | apply Kd.R_alloc | apply Kd.R_drewN | apply Kd.R_drew)); exact HO_3.out⟩, ⟨by repeat (first | (with_reducible first | exact HB.out | apply zg | apply ze | apply below_drew1) | exact HB.out)⟩⟩
      case round =>
       clear H'
       try clear c1
       try clear c2
       try clear c2b0
       try clear p2
       try clear c5
       try clear c5b0
       try clear c5b1
       obtain ⟨x5_2, rfl, HA, HK2, HO_3, HB⟩ := hrel
       cases gk with
       | zero => exact absurd HA.out (by simp [zh.l1])
       | succ k2 =>
        have H := HA.out
        clear HA
        simp only [zh.l1] at H
        by_cases c6 : x5_2 < (a0.size : Int)
        ·rw [if_pos c6] at H
         have c6b0 : decide (x5_2 < (a0.size : Int)) = true := decide_eq_true c6
         clear c6
         by_cases c7 : 0 ≤ x5_2
         ·rw [if_pos c7] at H
          have c7b0 : decide (0 ≤ x5_2) = true := decide_eq_true c7
          clear c7
          by_cases c9 : (bt a0 x5_2) ≥ 97
          ·rw [if_pos c9] at H
           have c9b0 : decide (97 ≤ (bt a0 x5_2)) = true := decide_eq_true c9
           clear c9
           by_cases c11 : (bt a0 x5_2) ≤ 122
           ·rw [if_pos c11] at H
            have c11b0 : decide ((bt a0 x5_2) ≤ 122) = true := decide_eq_true c11
            clear c11
            have H' := za.mk H
            clear H
            have p8 : 0 ≤ (x5_2 : Int) := of_decide_eq_true (by first | (with_reducible assumption) | assumption)
            have q8 : x5_2 < (a0.size : Int) := of_decide_eq_true (by first | (with_reducible assumption) | assumption)
            have hx8 := bt_at a0 x5_2
            replace p8 := eq_true p8
            replace q8 := eq_true q8
            have p10 : 0 ≤ (x5_2 : Int) := of_decide_eq_true (by first | (with_reducible assumption) | assumption)
            have q10 : x5_2 < (a0.size : Int) := of_decide_eq_true (by first | (with_reducible assumption) | assumption)
            have hx10 := bt_at a0 x5_2
            replace p10 := eq_true p10
            replace q10 := eq_true q10
            go_wp2
            go_roundg k2
            case measure => have := HK1.out; have := HK2.out; omega
            case rel => exact ⟨(wrap64 (x5_2 + 1)), (by first | rfl | (simp; done) | (simp [*]; done) | (simp [zc]; done) | (simp [zc, *]; done)), H', ⟨by have := HK1.out; have := HK2.out; omega⟩, ⟨by (with_reducible repeat (first | apply Kd.R_alloc | apply Kd.R_drewN | apply Kd.R_drew)); exact HO_3.out⟩, ⟨by repeat (first | (with_reducible first | exact HB.out | apply zg | apply ze | apply below_drew1) | exact HB.out)⟩⟩
           ·rw [if_neg c11] at H
            have c11b0 : decide ((bt a0 x5_2) ≤ 122) = false := decide_eq_false c11
            clear c11
            have H' := za.mk H
            clear H
            have p8 : 0 ≤ (x5_2 : Int) := of_decide_eq_true (by first | (with_reducible assumption) | assumption)
            have q8 : x5_2 < (a0.size : Int) := of_decide_eq_true (by first | (with_reducible assumption) | assumption)
            have hx8 := bt_at a0 x5_2
            replace p8 := eq_true p8
            replace q8 := eq_true q8
            have p10 : 0 ≤ (x5_2 : Int) := of_decide_eq_true (by first | (with_reducible assumption) | assumption)
            have q10 : x5_2 < (a0.size : Int) := of_decide_eq_true (by first | (with_reducible assumption) | assumption)
            have hx10 := bt_at a0 x5_2
            replace p10 := eq_true p10
            replace q10 := eq_true q10
            go_wp2
            go_meet
            case rel => exact ⟨_, (x5_2), (by first | rfl | (simp; done) | (simp [*]; done) | (simp [zc]; done) | (simp [zc, *]; done)), H', ⟨by have := HK1.out; have := HK2.out; first | omega | exact Nat.le_refl _⟩, ⟨by (with_reducible repeat (first | apply Kd.R_alloc | apply Kd.R_drewN | apply Kd.R_drew)); exact HO_3.out⟩, ⟨by repeat (first | (with_reducible first | exact HB.out | apply zg | apply ze | apply below_drew1) | exact HB.out)⟩⟩
          ·rw [if_neg c9] at H
           have c9b0 : decide (97 ≤ (bt a0 x5_2)) = false := decide_eq_false c9
           clear c9
           have H' := za.mk H
           clear H
           have p8 : 0 ≤ (x5_2 : Int) := of_decide_eq_true (by first | (with_reducible assumption) | assumption)
           have q8 : x5_2 < (a0.size : Int) := of_decide_eq_true (by first | (with_reducible assumption) | assumption)
           have hx8 := bt_at a0 x5_2
           replace p8 := eq_true p8
           replace q8 := eq_true q8
           go_wp2
           go_meet
           case rel => exact ⟨_, (x5_2), (by first | rfl | (simp; done) | (simp [*]; done) | (simp [zc]; done) | (simp [zc, *]; done)), H', ⟨by have := HK1.out; have := HK2.out; first | omega | exact Nat.le_refl _⟩, ⟨by (with_reducible repeat (first | apply Kd.R_alloc | apply Kd.R_drewN | apply Kd.R_drew)); exact HO_3.out⟩, ⟨by repeat (first | (with_reducible first | exact HB.out | apply zg | apply ze | apply below_drew1) | exact HB.out)⟩⟩
         ·rw [if_neg c7] at H
          exact absurd H (by simp)
        ·rw [if_neg c6] at H
         have c6b0 : decide (x5_2 < (a0.size : Int)) = false := decide_eq_false c6
         clear c6
         have H' := za.mk H
         clear H
         go_wp2
         go_meet
         case rel => exact ⟨_, (x5_2), (by first | rfl | (simp; done) | (simp [*]; done) | (simp [zc]; done) | (simp [zc, *]; done)), H', ⟨by have := HK1.out; have := HK2.out; first | omega | exact Nat.le_refl _⟩, ⟨by (with_reducible repeat (first | apply Kd.R_alloc | apply Kd.R_drewN | apply Kd.R_drew)); exact HO_3.out⟩, ⟨by repeat (first | (with_reducible first | exact HB.out | apply zg | apply ze | apply below_drew1) | exact HB.out)⟩⟩
     ·rw [if_neg c5] at H
      have c5b0 : (t149 == x4_1) = false := beq_eq_false_iff_ne.mpr c5
      have c5b1 : (t149 != x4_1) = true := bne_iff_ne.mpr c5
      (first | rw [c5b0] | (simp only [i64_w, i32_w]; rw [c5b0]) | skip)
      have H' := za.mk H
      clear H
      go_wp2
      go_meet
      case rel => exact ⟨_, (t149), (by first | rfl | (simp; done) | (simp [*]; done) | (simp [zc]; done) | (simp [zc, *]; done)), H', ⟨by have := HK1.out; first | omega | exact Nat.le_refl _⟩, ⟨by (with_reducible repeat (first | apply Kd.R_alloc | apply Kd.R_drewN | apply Kd.R_drew)); exact HO_3.out⟩, ⟨by repeat (first | (with_reducible first | exact HB.out | apply zg | apply ze | apply below_drew1) | exact HB.out)⟩⟩
    case rest =>
     clear HC4
     try clear c1
     try clear p1
     try clear q1
     try clear hx1
     try clear c2
     try clear c2b0
     try clear p2
     try clear c5
     try clear c5b0
     try clear c5b1
     try clear c6
     try clear c6b0
     try clear p6
     try clear c7
     try clear c7b0
     try clear p8
     try clear q8
     try clear hx8
     try clear c9
     try clear c9b0
     try clear c10
     try clear p10
     try clear q10
     try clear hx10
     try clear c11
     try clear c11b0
     try clear p10
     try clear p2
     try clear p8
     try clear q10
     try clear q8
     obtain ⟨kq, x5_3, rfl, HA, HJ3, HO_3, HB⟩ := hcut
     cases kq with
     | zero => exact absurd HA.out (by simp [zh.j2])
     | succ kj3 =>
      have H := HA.out
      clear HA
      simp only [zh.j2] at H
      have HC12 := za.mk H
      clear H
      go_upto_region 8 with (fail)
      go_cut [48] (fun v48 wc => ∃ (kq : Nat) (x48_11 : Bool), v48 = .bool x48_11 ∧ za (zh.j3 kq a0 x3_1 x4_1 x5_3 x48_11 = some r) ∧ za (kq ≤ kj3) ∧ za (Kd.R Kd.string 9 wc w.heap.size (fun _ => True) u3 x3_1) ∧ za (Below w.heap.size w wc))
      case first =>
       have H := HC12.out
       clear HC12
       by_cases c13 : x5_3 = x4_1
       ·rw [if_pos c13] at H
        have c13b0 : (x5_3 == x4_1) = true := beq_iff_eq.mpr c13
        have c13b1 : (x5_3 != x4_1) = false := bne_eq_false_iff_eq.mpr c13
        clear c13
        (first | rw [c13b0] | (simp only [i64_w, i32_w]; rw [c13b0]) | skip)
        by_cases c14 : 0 ≤ x4_1
        ·rw [if_pos c14] at H
         have c14b0 : decide (0 ≤ x4_1) = true := decide_eq_true c14
         clear c14
         by_cases c15 : x4_1 < (a0.size : Int)
         ·rw [if_pos c15] at H
          have c15b0 : decide (x4_1 < (a0.size : Int)) = true := decide_eq_true c15
          clear c15
          by_cases c17 : (bt a0 x4_1) = 46
          ·rw [if_pos c17] at H
           have c17b0 : ((bt a0 x4_1) == 46) = true := beq_iff_eq.mpr c17
           have c17b1 : ((bt a0 x4_1) != 46) = false := bne_eq_false_iff_eq.mpr c17
           clear c17
           have H' := za.mk H
           clear H
           have p16 : 0 ≤ (x4_1 : Int) := of_decide_eq_true (by first | (with_reducible assumption) | assumption)
           have q16 : x4_1 < (a0.size : Int) := of_decide_eq_true (by first | (with_reducible assumption) | assumption)
           have hx16 := bt_at a0 x4_1
           replace p16 := eq_true p16
           replace q16 := eq_true q16
           go_wp2
           go_meet
           case rel => exact ⟨_, (true), (by first | rfl | (simp; done) | (simp [*]; done) | (simp [zc]; done) | (simp [zc, *]; done)), H', ⟨by have := HK1.out; have := HJ3.out; first | omega | exact Nat.le_refl _⟩, ⟨by (with_reducible repeat (first | apply Kd.R_alloc | apply Kd.R_drewN | apply Kd.R_drew)); exact HO_3.out⟩, ⟨by repeat (first | (with_reducible first | exact HB.out | apply zg | apply ze | apply below_drew1) | exact HB.out)⟩⟩
          ·rw [if_neg c17] at H
           have c17b0 : ((bt a0 x4_1) == 46) = false := beq_eq_false_iff_ne.mpr c17
           have c17b1 : ((bt a0 x4_1) != 46) = true := bne_iff_ne.mpr c17
           have H' := za.mk H
           clear H
           have p16 : 0 ≤ (x4_1 : Int) := of_decide_eq_true (by first | (with_reducible assumption) | assumption)
           have q16 : x4_1 < (a0.size : Int) := of_decide_eq_true (by first | (with_reducible assumption) | assumption)
           have hx16 := bt_at a0 x4_1
           replace p16 := eq_true p16
           replace q16 := eq_true q16
           have p18 : 0 ≤ (x4_1 : Int) := of_decide_eq_true (by first | (with_reducible assumption) | assumption)
           have q18 : x4_1 < (a0.size : Int) := of_decide_eq_true (by first | (with_reducible assumption) | assumption)
           have hx18 := bt_at a0 x4_1
           replace p18 := eq_true p18
           replace q18 := eq_true q18
           go_wp2
           go_meet
           case rel => exact ⟨_, (((bt a0 x4_1) == 45)), (by first | rfl | (simp; done) | (simp [*]; done) | (simp [zc]; done) | (simp [zc, *]; done)), H', ⟨by have := HK1.out; have := HJ3.out; first | omega | exact Nat.le_refl _⟩, ⟨by (with_reducible repeat (first | apply Kd.R_alloc | apply Kd.R_drewN | apply Kd.R_drew)); exact HO_3.out⟩, ⟨by repeat (first | (with_reducible first | exact HB.out | apply zg | apply ze | apply below_drew1) | exact HB.out)⟩⟩
         ·rw [if_neg c15] at H
          exact absurd H (by simp)
        ·rw [if_neg c14] at H
         exact absurd H (by simp)
       ·rw [if_neg c13] at H
        have c13b0 : (x5_3 == x4_1) = false := beq_eq_false_iff_ne.mpr c13
        have c13b1 : (x5_3 != x4_1) = true := bne_iff_ne.mpr c13
        (first | rw [c13b0] | (simp only [i64_w, i32_w]; rw [c13b0]) | skip)
        have H' := za.mk H
        clear H
        go_wp2
        go_meet
        case rel => exact ⟨_, (false), (by first | rfl | (simp; done) | (simp [*]; done) | (simp [zc]; done) | (simp [zc, *]; done)), H', ⟨by have := HK1.out; have := HJ3.out; first | omega | exact Nat.le_refl _⟩, ⟨by (with_reducible repeat (first | apply Kd.R_alloc | apply Kd.R_drewN | apply Kd.R_drew)); exact HO_3.out⟩, ⟨by repeat (first | (with_reducible first | exact HB.out | apply zg | apply ze | apply below_drew1) | exact HB.out)⟩⟩
      case rest =>
       clear HC12
       try clear c1
       try clear p1
       try clear q1
       try clear hx1
       try clear c2
       try clear c2b0
       try clear p2
       try clear c5
       try clear c5b0
       try clear c5b1
       try clear c6
       try clear c6b0
       try clear p6
       try clear c7
       try clear c7b0
       try clear p8
       try clear q8
       try clear hx8
       try clear c9
       try clear c9b0
       try clear c10
       try clear p10
       try clear q10
       try clear hx10
       try clear c11
       try clear c11b0
       try clear c12
       try clear c13
       try clear c13b0
       try clear c13b1
       try clear c14
       try clear c14b0
       try clear c15
       try clear c15b0
       try clear p16
       try clear q16
       try clear hx16
       try clear c17
       try clear c17b0
       try clear c17b1
       try clear p18
       try clear q18
       try clear hx18
       try clear p1
       try clear p10
       try clear p16
       try clear p18
       try clear p2
       try clear p6
       try clear p8
       try clear q1
       try clear q10
       try clear q16
       try clear q18
       try clear q8
       obtain ⟨kq, x48_11, rfl, HA, HJ11, HO_3, HB⟩ := hcut
       cases kq with
       | zero => exact absurd HA.out (by simp [zh.j3])
       | succ kj11 =>
        have H := HA.out
        clear HA
        simp only [zh.j3] at H
        by_cases c19 : x48_11 = true
        ·subst c19
         have H1 : (if (wrap64 (x5_3 + 1)) = x4_1 then (zh.l0 kj11 a0 x3_1 (wrap64 (x4_1 + 1))) else (if 0 ≤ x4_1 then (if x4_1 ≤ (wrap64 (x5_3 + 1)) then (if (wrap64 (x5_3 + 1)) ≤ (a0.size : Int) then (if x3_1.length < 8796093022208 then (zh.l0 kj11 a0 (x3_1 ++ [a0.extract (x4_1 : Int).toNat ((wrap64 (x5_3 + 1)) : Int).toNat]) (wrap64 (x5_3 + 1))) else (none)) else (none)) else (none)) else (none))) = some r := by rw [if_pos rfl] at H; exact H
         clear H
         have H := H1
         clear H1
         by_cases c20 : (wrap64 (x5_3 + 1)) = x4_1
         ·rw [if_pos c20] at H
          have c20b0 : ((wrap64 (x5_3 + 1)) == x4_1) = true := beq_iff_eq.mpr c20
          have c20b1 : ((wrap64 (x5_3 + 1)) != x4_1) = false := bne_eq_false_iff_eq.mpr c20
          clear c20
          have H' := za.mk H
          clear H
          go_wp2
          go_roundg kj11
          case measure => have := HK1.out; have := HJ3.out; have := HJ11.out; omega
          case rel => exact ⟨(x3_1), (wrap64 (x4_1 + 1)), (by first | rfl | (simp; done) | (simp [*]; done) | (simp [zc]; done) | (simp [zc, *]; done)), H', ⟨by have := HK1.out; have := HJ3.out; have := HJ11.out; omega⟩, ⟨by (with_reducible repeat (first | apply Kd.R_alloc | apply Kd.R_drewN | apply Kd.R_drew)); exact HO_3.out⟩, ⟨by repeat (first | (with_reducible first | exact HB.out | apply zg | apply ze | apply below_drew1) | exact HB.out)⟩⟩
         ·rw [if_neg c20] at H
          have c20b0 : ((wrap64 (x5_3 + 1)) == x4_1) = false := beq_eq_false_iff_ne.mpr c20
          have c20b1 : ((wrap64 (x5_3 + 1)) != x4_1) = true := bne_iff_ne.mpr c20
          by_cases c21 : 0 ≤ x4_1
          ·rw [if_pos c21] at H
           have c21b0 := eq_true c21
           have c21b1 : decide (0 ≤ x4_1) = true := decide_eq_true c21
           clear c21
           by_cases c22 : x4_1 ≤ (wrap64 (x5_3 + 1))
           ·rw [if_pos c22] at H
            have c22b0 := eq_true c22
            have c22b1 : decide (x4_1 ≤ (wrap64 (x5_3 + 1))) = true := decide_eq_true c22
            by_cases c23 : (wrap64 (x5_3 + 1)) ≤ (a0.size : Int)
            ·rw [if_pos c23] at H
             have c23b0 := eq_true c23
             have c23b1 : decide ((wrap64 (x5_3 + 1)) ≤ (a0.size : Int)) = true := decide_eq_true c23
             by_cases c24 : x3_1.length < 8796093022208
             ·rw [if_pos c24] at H
              have LMc24 := za.mk c24
              clear c24
              obtain ⟨y150, hy150⟩ : ∃ y_ : List ByteArray, y_ = (x3_1 ++ [a0.extract (x4_1 : Int).toNat ((wrap64 (x5_3 + 1)) : Int).toNat]) := ⟨_, rfl⟩
              replace H : (zh.l0 kj11 a0 y150 (wrap64 (x5_3 + 1))) = some r := by first | (rw [hy150]; with_reducible exact H) | (have H2_ := (Option.bind_some _ _).symm.trans H; rw [hy150]; with_reducible exact H2_) | (have H2_ := (Option.bind_some _ _).symm.trans H; with_reducible exact H2_) | with_reducible exact H | (rw [hy150]; exact H) | exact H
              have Ny150 := za.mk hy150
              clear hy150
              have H' := za.mk H
              clear H
              go_wp2_with (first | ((with_reducible refine zub (b := .append) (xs := #[.tmp 56, .tmp 61]) rfl ?_); at_builtin; refine Kd.R_append Kd.string (w0 := w) w.heap.size rfl (.tmp 56) (.tmp 61) 24 9 (.string ⟨#[]⟩) 16 rfl Tryz.underlying24 info9 rfl (by decide) (by omega) u3 x3_1 (a0.extract (x4_1 : Int).toNat ((wrap64 (x5_3 + 1)) : Int).toNat) [.string (a0.extract (x4_1 : Int).toNat ((wrap64 (x5_3 + 1)) : Int).toNat)] (fun _ => True) (fun _ => False) rfl rfl ?aP (fun _ hk => hk.elim) ?aF ?aO ?aB ?aS ?aL ?_; (case aP => exact rfl); (case aB => exact (by repeat (first | (with_reducible first | exact HB.out | apply zg | apply ze | apply below_drew1) | exact HB.out))); (case aF => exact (fun _ _ => trivial)); (case aO => exact (by (with_reducible repeat (first | apply Kd.R_alloc | apply Kd.R_drewN | apply Kd.R_drew)); exact HO_3.out)); (case aS => exact (zab (by repeat (first | (with_reducible first | exact HB.out | apply zg | apply ze | apply below_drew1) | exact HB.out)))); (case aL => have := LMc24.out; omega); intro v151 w25 ho hb hg hat; rw [← Ny150.out] at ho; have n0_ := za.mk (hb); have n1_ := za.mk (ho); clear HB; clear HO_3; have HB := n0_; have HO152 := n1_; clear n0_ n1_; clear ho hb hg hat))
              go_roundg kj11
              case measure => have := HK1.out; have := HJ3.out; have := HJ11.out; omega
              case rel => exact ⟨(y150), (wrap64 (x5_3 + 1)), (by first | rfl | (simp; done) | (simp [*]; done) | (simp [zc]; done) | (simp [zc, *]; done)), H', ⟨by have := HK1.out; have := HJ3.out; have := HJ11.out; omega⟩, ⟨by (with_reducible repeat (first | apply Kd.R_alloc | apply Kd.R_drewN | apply Kd.R_drew)); exact HO152.out⟩, ⟨by repeat (first | (with_reducible first | exact HB.out | apply zg | apply ze | apply below_drew1) | exact HB.out)⟩⟩
             ·rw [if_neg c24] at H
              exact absurd H (by simp)
            ·rw [if_neg c23] at H
             exact absurd H (by simp)
           ·rw [if_neg c22] at H
            exact absurd H (by simp)
          ·rw [if_neg c21] at H
           exact absurd H (by simp)
        ·replace c19 := Bool.eq_false_iff.mpr c19
         subst c19
         have H1 : (if x5_3 = x4_1 then (zh.l0 kj11 a0 x3_1 (wrap64 (x4_1 + 1))) else (if 0 ≤ x4_1 then (if x4_1 ≤ x5_3 then (if x5_3 ≤ (a0.size : Int) then (if x3_1.length < 8796093022208 then (zh.l0 kj11 a0 (x3_1 ++ [a0.extract (x4_1 : Int).toNat (x5_3 : Int).toNat]) x5_3) else (none)) else (none)) else (none)) else (none))) = some r := by rw [if_neg (show ¬ (false = true) by decide)] at H; exact H
         clear H
         have H := H1
         clear H1
         by_cases c26 : x5_3 = x4_1
         ·rw [if_pos c26] at H
          have c26b0 : (x5_3 == x4_1) = true := beq_iff_eq.mpr c26
          have c26b1 : (x5_3 != x4_1) = false := bne_eq_false_iff_eq.mpr c26
          clear c26
          have H' := za.mk H
          clear H
          go_wp2
          go_roundg kj11
          case measure => have := HK1.out; have := HJ3.out; have := HJ11.out; omega
          case rel => exact ⟨(x3_1), (wrap64 (x4_1 + 1)), (by first | rfl | (simp; done) | (simp [*]; done) | (simp [zc]; done) | (simp [zc, *]; done)), H', ⟨by have := HK1.out; have := HJ3.out; have := HJ11.out; omega⟩, ⟨by (with_reducible repeat (first | apply Kd.R_alloc | apply Kd.R_drewN | apply Kd.R_drew)); exact HO_3.out⟩, ⟨by repeat (first | (with_reducible first | exact HB.out | apply zg | apply ze | apply below_drew1) | exact HB.out)⟩⟩
         ·rw [if_neg c26] at H
          have c26b0 : (x5_3 == x4_1) = false := beq_eq_false_iff_ne.mpr c26
          have c26b1 : (x5_3 != x4_1) = true := bne_iff_ne.mpr c26
          by_cases c27 : 0 ≤ x4_1
          ·rw [if_pos c27] at H
           have c27b0 := eq_true c27
           have c27b1 : decide (0 ≤ x4_1) = true := decide_eq_true c27
           clear c27
           by_cases c28 : x4_1 ≤ x5_3
           ·rw [if_pos c28] at H
            have c28b0 := eq_true c28
            have c28b1 : decide (x4_1 ≤ x5_3) = true := decide_eq_true c28
            clear c28
            by_cases c29 : x5_3 ≤ (a0.size : Int)
            ·rw [if_pos c29] at H
             have c29b0 := eq_true c29
             have c29b1 : decide (x5_3 ≤ (a0.size : Int)) = true := decide_eq_true c29
             clear c29
             by_cases c30 : x3_1.length < 8796093022208
             ·rw [if_pos c30] at H
              have LMc30 := za.mk c30
              clear c30
              obtain ⟨y153, hy153⟩ : ∃ y_ : List ByteArray, y_ = (x3_1 ++ [a0.extract (x4_1 : Int).toNat (x5_3 : Int).toNat]) := ⟨_, rfl⟩
              replace H : (zh.l0 kj11 a0 y153 x5_3) = some r := by first | (rw [hy153]; with_reducible exact H) | (have H2_ := (Option.bind_some _ _).symm.trans H; rw [hy153]; with_reducible exact H2_) | (have H2_ := (Option.bind_some _ _).symm.trans H; with_reducible exact H2_) | with_reducible exact H | (rw [hy153]; exact H) | exact H
              have Ny153 := za.mk hy153
              clear hy153
              have H' := za.mk H
              clear H
              go_wp2_with (first | ((with_reducible refine zub (b := .append) (xs := #[.tmp 56, .tmp 61]) rfl ?_); at_builtin; refine Kd.R_append Kd.string (w0 := w) w.heap.size rfl (.tmp 56) (.tmp 61) 24 9 (.string ⟨#[]⟩) 16 rfl Tryz.underlying24 info9 rfl (by decide) (by omega) u3 x3_1 (a0.extract (x4_1 : Int).toNat (x5_3 : Int).toNat) [.string (a0.extract (x4_1 : Int).toNat (x5_3 : Int).toNat)] (fun _ => True) (fun _ => False) rfl rfl ?aP (fun _ hk => hk.elim) ?aF ?aO ?aB ?aS ?aL ?_; (case aP => exact rfl); (case aB => exact (by repeat (first | (with_reducible first | exact HB.out | apply zg | apply ze | apply below_drew1) | exact HB.out))); (case aF => exact (fun _ _ => trivial)); (case aO => exact (by (with_reducible repeat (first | apply Kd.R_alloc | apply Kd.R_drewN | apply Kd.R_drew)); exact HO_3.out)); (case aS => exact (zab (by repeat (first | (with_reducible first | exact HB.out | apply zg | apply ze | apply below_drew1) | exact HB.out)))); (case aL => have := LMc30.out; omega); intro v154 w31 ho hb hg hat; rw [← Ny153.out] at ho; have n0_ := za.mk (hb); have n1_ := za.mk (ho); clear HB; clear HO_3; have HB := n0_; have HO155 := n1_; clear n0_ n1_; clear ho hb hg hat))
              go_roundg kj11
              case measure => have := HK1.out; have := HJ3.out; have := HJ11.out; omega
              case rel => exact ⟨(y153), (x5_3), (by first | rfl | (simp; done) | (simp [*]; done) | (simp [zc]; done) | (simp [zc, *]; done)), H', ⟨by have := HK1.out; have := HJ3.out; have := HJ11.out; omega⟩, ⟨by (with_reducible repeat (first | apply Kd.R_alloc | apply Kd.R_drewN | apply Kd.R_drew)); exact HO155.out⟩, ⟨by repeat (first | (with_reducible first | exact HB.out | apply zg | apply ze | apply below_drew1) | exact HB.out)⟩⟩
             ·rw [if_neg c30] at H
              exact absurd H (by simp)
            ·rw [if_neg c29] at H
             exact absurd H (by simp)
           ·rw [if_neg c28] at H
            exact absurd H (by simp)
          ·rw [if_neg c27] at H
           exact absurd H (by simp)
   ·rw [if_neg c2] at H
    have c2b0 : decide (x4_1 < (a0.size : Int)) = false := decide_eq_false c2
    clear c2
    obtain rfl := Option.some.inj H
    go_wp2
    go_ret
    exact ⟨_, by first | rfl | (simp [znb, zmb] <;> rfl) | (simp [*, znb, zmb] <;> rfl) | (simp [zc]; done), by (with_reducible repeat (first | apply Kd.R_alloc | apply Kd.R_drewN | apply Kd.R_drew)); exact HO_3.out, by repeat (first | (with_reducible first | exact HB.out | apply zg | apply ze | apply below_drew1) | exact HB.out)⟩
def zwb.f (a0 : Int) : Option (Bool) := if a0 ≥ 48 then (some (decide (a0 ≤ 57))) else (some false)
theorem zwb.calls (a0 : Int) (r : Bool) (w : World) (h : zwb.f a0 = some r) :
  Calls Tryz.prog 146 #[.int .i32 a0] w fun e w' => e = .returned (.bool r) ∧ zk w w' := by
 have H : (if a0 ≥ 48 then (some (decide (a0 ≤ 57))) else (some false)) = some r := h
 clear h
 by_cases c2 : a0 ≥ 48
 ·rw [if_pos c2] at H
  have c2b0 : decide (48 ≤ a0) = true := decide_eq_true c2
  clear c2
  obtain rfl := Option.some.inj H
  go_enter Tryz.func146, Tryz.ntmps146
  go_wp2
  go_ret
  exact ⟨by first | rfl | (simp; done) | (simp [*]; done) | (simp [zc]; done) | (simp [zc, *]; done), by repeat (first | exact zk.refl _ | apply zk.step)⟩
 ·rw [if_neg c2] at H
  have c2b0 : decide (48 ≤ a0) = false := decide_eq_false c2
  clear c2
  obtain rfl := Option.some.inj H
  go_enter Tryz.func146, Tryz.ntmps146
  go_wp2
  go_ret
  exact ⟨by first | rfl | (simp; done) | (simp [*]; done) | (simp [zc]; done) | (simp [zc, *]; done), by repeat (first | exact zk.refl _ | apply zk.step)⟩
end Go.Proofs.YtlijjnjpomnphaaGreatDoor.S
end
section
namespace Go.Proofs.YtlijjnjpomnphaaGreatDoor.S
open Go.RowKit YtlijjnjpomnphaaGreatDoorH YtlijjnjpomnphaaGreatDoorW.PrintWords YtlijjnjpomnphaaGreatDoorW.PrintLast YtlijjnjpomnphaaGreatDoorW.PrintMore
attribute [local go_sem] zgd zhd zbe zce zxc zyc zfd zid
def zgb.l0 : Nat → ByteArray → Int → Option (ByteArray)
 | 0, _, _ => none
 | k + 1, x0, x3 => if x3 < 8 then (if 1 + x0.size ≤ 9223372036854775807 then (zgb.l0 k ((⟨#[48]⟩ : ByteArray) ++ x0) (wrap64 (x3 + 1))) else (none)) else (some x0)
def zgb.f (k : Nat) (a0 : ByteArray) : Option (ByteArray) := zgb.l0 k a0 (a0.size : Int)
theorem zgb.calls (k : Nat) (a0 : ByteArray) (r : ByteArray) (w : World) (h : zgb.f k a0 = some r) :
  Calls Tryz.prog 147 #[.string a0] w fun e w' => e = .returned (.string r) ∧ zk w w' := by
 have H : (zgb.l0 k a0 (a0.size : Int)) = some r := h
 clear h
 have H' := za.mk H
 clear H
 go_enter Tryz.func147, Tryz.ntmps147
 go_wp2
 (try simp only [Act.put, List.setIfInBounds_toArray, List.set_cons_zero, List.set_cons_succ])
 go_loopg [0, 3] k (fun kq v0 v3 w' => ∃ (x0_1 : ByteArray) (x3_1 : Int), v0 = .string x0_1 ∧ v3 = .int .i64 x3_1 ∧ za (zgb.l0 kq x0_1 x3_1 = some r) ∧ za (kq ≤ k) ∧ zk w w')
 case atStart => exact ⟨(a0), ((a0.size : Int)), (by first | rfl | (simp; done) | (simp [*]; done) | (simp [zc]; done) | (simp [zc, *]; done)), (by first | rfl | (simp; done) | (simp [*]; done) | (simp [zc]; done) | (simp [zc, *]; done)), H', ⟨Nat.le_refl _⟩, by repeat (first | exact zk.refl _ | apply zk.step)⟩
 case round =>
  clear H'
  try clear c1
  obtain ⟨x0_1, x3_1, rfl, rfl, HA, HK1, ⟨m1, rfl⟩⟩ := hrel
  cases gk with
  | zero => exact absurd HA.out (by simp [zgb.l0])
  | succ k1 =>
   have H := HA.out
   clear HA
   simp only [zgb.l0] at H
   by_cases c2 : x3_1 < 8
   ·rw [if_pos c2] at H
    have c2b0 : decide (x3_1 < 8) = true := decide_eq_true c2
    clear c2
    by_cases c3 : 1 + x0_1.size ≤ 9223372036854775807
    ·rw [if_pos c3] at H
     have c3b0 := eq_true c3
     have c3b1 : decide (1 + x0_1.size ≤ 9223372036854775807) = true := decide_eq_true c3
     try have c3b2 : (9223372036854775807 < 1 + x0_1.size) = False := eq_false (Nat.not_lt.2 c3)
     have H' := za.mk H
     clear H
     go_wp2
     go_roundg k1
     case measure => have := HK1.out; omega
     case rel => exact ⟨((⟨#[48]⟩ : ByteArray) ++ x0_1), (wrap64 (x3_1 + 1)), (by first | rfl | (simp; done) | (simp [*]; done) | (simp [zc]; done) | (simp [zc, *]; done)), (by first | rfl | (simp; done) | (simp [*]; done) | (simp [zc]; done) | (simp [zc, *]; done)), H', ⟨by have := HK1.out; omega⟩, by repeat (first | exact zk.refl _ | apply zk.step)⟩
    ·rw [if_neg c3] at H
     exact absurd H (by simp)
   ·rw [if_neg c2] at H
    have c2b0 : decide (x3_1 < 8) = false := decide_eq_false c2
    clear c2
    obtain rfl := Option.some.inj H
    go_wp2
    go_ret
    exact ⟨by first | rfl | (simp; done) | (simp [*]; done) | (simp [zc]; done) | (simp [zc, *]; done), by repeat (first | exact zk.refl _ | apply zk.step)⟩
def zj.j0 : Nat → ByteArray → Option (ByteArray)
 | 0, _ => none
 | k + 1, x0 => if 0 < (x0.size : Int) then ((zwb.f (wrap32 (bt x0 0))).bind fun t156 => (if t156 = true then ((zgb.f k x0).bind fun t157 => (some t157)) else (if 1 + x0.size ≤ 9223372036854775807 then (some ((⟨#[42]⟩ : ByteArray) ++ x0)) else (none)))) else (none)
def zj.f (k : Nat) (a0 : ByteArray) : Option (ByteArray) := if a0.toList = ([112, 114, 101] : List UInt8) then (zj.j0 k (⟨#[99]⟩ : ByteArray)) else (if a0.toList = ([112, 114, 101, 118, 105, 101, 119] : List UInt8) then (zj.j0 k (⟨#[99]⟩ : ByteArray)) else (if a0.toList = ([45] : List UInt8) then (zj.j0 k (⟨#[102, 105, 110, 97, 108, 45]⟩ : ByteArray)) else (if a0.toList = ([114, 99] : List UInt8) then (zj.j0 k (⟨#[99]⟩ : ByteArray)) else (if a0.toList = ([100, 101, 118] : List UInt8) then (zj.j0 k (⟨#[64]⟩ : ByteArray)) else (zj.j0 k a0)))))
theorem zj.calls (k : Nat) (a0 : ByteArray) (r : ByteArray) (w : World) (h : zj.f k a0 = some r) :
  Calls Tryz.prog 122 #[.string a0] w fun e w' => e = .returned (.string r) ∧ zk w w' := by
 have H : (if a0.toList = ([112, 114, 101] : List UInt8) then (zj.j0 k (⟨#[99]⟩ : ByteArray)) else (if a0.toList = ([112, 114, 101, 118, 105, 101, 119] : List UInt8) then (zj.j0 k (⟨#[99]⟩ : ByteArray)) else (if a0.toList = ([45] : List UInt8) then (zj.j0 k (⟨#[102, 105, 110, 97, 108, 45]⟩ : ByteArray)) else (if a0.toList = ([114, 99] : List UInt8) then (zj.j0 k (⟨#[99]⟩ : ByteArray)) else (if a0.toList = ([100, 101, 118] : List UInt8) then (zj.j0 k (⟨#[64]⟩ : ByteArray)) else (zj.j0 k a0)))))) = some r := h
 clear h
 have HC2 := za.mk H
 clear H
 go_enter Tryz.func122, Tryz.ntmps122
 go_upto_block 0 with (fail)
 go_cut [0] (fun v0 wc => ∃ (kq : Nat) (x0_1 : ByteArray), v0 = .string x0_1 ∧ za (zj.j0 kq x0_1 = some r) ∧ za (kq ≤ k) ∧ zk w wc)
 case first =>
  have H := HC2.out
  clear HC2
  by_cases c3 : a0.toList = ([112, 114, 101] : List UInt8)
  ·rw [if_pos c3] at H
   have c3b0 : (a0.toList == ([112, 114, 101] : List UInt8)) = true := beq_iff_eq.mpr c3
   have c3b1 : (a0.toList != ([112, 114, 101] : List UInt8)) = false := bne_eq_false_iff_eq.mpr c3
   clear c3
   (first | rw [c3b0] | (simp only [i64_w, i32_w]; rw [c3b0]) | skip)
   have H' := za.mk H
   clear H
   go_wp2
   go_meet
   case rel => exact ⟨_, ((⟨#[99]⟩ : ByteArray)), (by first | rfl | (simp; done) | (simp [*]; done) | (simp [zc]; done) | (simp [zc, *]; done)), H', ⟨by first | omega | exact Nat.le_refl _⟩, by repeat (first | exact zk.refl _ | apply zk.step)⟩
  ·rw [if_neg c3] at H
   have c3b0 : (a0.toList == ([112, 114, 101] : List UInt8)) = false := beq_eq_false_iff_ne.mpr c3
   have c3b1 : (a0.toList != ([112, 114, 101] : List UInt8)) = true := bne_iff_ne.mpr c3
   (first | rw [c3b0] | (simp only [i64_w, i32_w]; rw [c3b0]) | skip)
   by_cases c4 : a0.toList = ([112, 114, 101, 118, 105, 101, 119] : List UInt8)
   ·rw [if_pos c4] at H
    have c4b0 : (a0.toList == ([112, 114, 101, 118, 105, 101, 119] : List UInt8)) = true := beq_iff_eq.mpr c4
    have c4b1 : (a0.toList != ([112, 114, 101, 118, 105, 101, 119] : List UInt8)) = false := bne_eq_false_iff_eq.mpr c4
    clear c4
    have H' := za.mk H
    clear H
    go_wp2
    go_meet
    case rel => exact ⟨_, ((⟨#[99]⟩ : ByteArray)), (by first | rfl | (simp; done) | (simp [*]; done) | (simp [zc]; done) | (simp [zc, *]; done)), H', ⟨by first | omega | exact Nat.le_refl _⟩, by repeat (first | exact zk.refl _ | apply zk.step)⟩
   ·rw [if_neg c4] at H
    have c4b0 : (a0.toList == ([112, 114, 101, 118, 105, 101, 119] : List UInt8)) = false := beq_eq_false_iff_ne.mpr c4
    have c4b1 : (a0.toList != ([112, 114, 101, 118, 105, 101, 119] : List UInt8)) = true := bne_iff_ne.mpr c4
    by_cases c5 : a0.toList = ([45] : List UInt8)
    ·rw [if_pos c5] at H
     have c5b0 : (a0.toList == ([45] : List UInt8)) = true := beq_iff_eq.mpr c5
     have c5b1 : (a0.toList != ([45] : List UInt8)) = false := bne_eq_false_iff_eq.mpr c5
     clear c5
     have H' := za.mk H
     clear H
     go_wp2
     go_meet
     case rel => exact ⟨_, ((⟨#[102, 105, 110, 97, 108, 45]⟩ : ByteArray)), (by first | rfl | (simp; done) | (simp [*]; done) | (simp [zc]; done) | (simp [zc, *]; done)), H', ⟨by first | omega | exact Nat.le_refl _⟩, by repeat (first | exact zk.refl _ | apply zk.step)⟩
    ·rw [if_neg c5] at H
     have c5b0 : (a0.toList == ([45] : List UInt8)) = false := beq_eq_false_iff_ne.mpr c5
     have c5b1 : (a0.toList != ([45] : List UInt8)) = true := bne_iff_ne.mpr c5
     by_cases c6 : a0.toList = ([114, 99] : List UInt8)
     ·rw [if_pos c6] at H
      have c6b0 : (a0.toList == ([114, 99] : List UInt8)) = true := beq_iff_eq.mpr c6
      have c6b1 : (a0.toList != ([114, 99] : List UInt8)) = false := bne_eq_false_iff_eq.mpr c6
      clear c6
      have H' := za.mk H
      clear H
      go_wp2
      go_meet
      case rel => exact ⟨_, ((⟨#[99]⟩ : ByteArray)), (by first | rfl | (simp; done) | (simp [*]; done) | (simp [zc]; done) | (simp [zc, *]; done)), H', ⟨by first | omega | exact Nat.le_refl _⟩, by repeat (first | exact zk.refl _ | apply zk.step)⟩
     ·rw [if_neg c6] at H
      have c6b0 : (a0.toList == ([114, 99] : List UInt8)) = false := beq_eq_false_iff_ne.mpr c6
      have c6b1 : (a0.toList != ([114, 99] : List UInt8)) = true := bne_iff_ne.mpr c6
      by_cases c7 : a0.toList = ([100, 101, 118] : List UInt8)
      ·rw [if_pos c7] at H
       have c7b0 : (a0.toList == ([100, 101, 118] : List UInt8)) = true := beq_iff_eq.mpr c7
       have c7b1 : (a0.toList != ([100, 101, 118] : List UInt8)) = false := bne_eq_false_iff_eq.mpr c7
       clear c7
       have H' := za.mk H
       clear H
       go_wp2
       go_meet
       case rel => exact ⟨_, ((⟨#[64]⟩ : ByteArray)), (by first | rfl | (simp; done) | (simp [*]; done) | (simp [zc]; done) | (simp [zc, *]; done)), H', ⟨by first | omega | exact Nat.le_refl _⟩, by repeat (first | exact zk.refl _ | apply zk.step)⟩
      ·rw [if_neg c7] at H
       have c7b0 : (a0.toList == ([100, 101, 118] : List UInt8)) = false := beq_eq_false_iff_ne.mpr c7
       have c7b1 : (a0.toList != ([100, 101, 118] : List UInt8)) = true := bne_iff_ne.mpr c7
       have H' := za.mk H
       clear H
       go_wp2
       go_meet
       case rel => exact ⟨_, (a0), (by first | rfl | (simp; done) | (simp [*]; done) | (simp [zc]; done) | (simp [zc, *]; done)), H', ⟨by first | omega | exact Nat.le_refl _⟩, by repeat (first | exact zk.refl _ | apply zk.step)⟩
 case rest =>
  clear HC2
  try clear c1
  try clear p2
  try clear c3
  try clear c3b0
  try clear c3b1
  try clear c4
  try clear c4b0
  try clear c4b1
  try clear c5
  try clear c5b0
  try clear c5b1
  try clear c6
  try clear c6b0
  try clear c6b1
  try clear c7
  try clear c7b0
  try clear c7b1
  obtain ⟨kq, x0_1, rfl, HA, HJ1, ⟨mc1, rfl⟩⟩ := hcut
  cases kq with
  | zero => exact absurd HA.out (by simp [zj.j0])
  | succ kj1 =>
   have H := HA.out
   clear HA
   simp only [zj.j0] at H
   by_cases c8 : 0 < (x0_1.size : Int)
   ·rw [if_pos c8] at H
    have c8b0 : decide (0 < (x0_1.size : Int)) = true := decide_eq_true c8
    have c8b1 : decide (0 < x0_1.size) = true := decide_eq_true (by omega)
    clear c8
    replace H := Option.bind_eq_some_iff.mp H
    obtain ⟨t156, A100, H⟩ := H
    replace H : (if t156 = true then ((zgb.f kj1 x0_1).bind fun t157 => (some t157)) else (if 1 + x0_1.size ≤ 9223372036854775807 then (some ((⟨#[42]⟩ : ByteArray) ++ x0_1)) else (none))) = some r := H
    have A10 := za.mk A100
    clear A100
    by_cases c11 : t156 = true
    ·subst c11
     have H1 : ((zgb.f kj1 x0_1).bind fun t157 => (some t157)) = some r := by rw [if_pos rfl] at H; exact H
     clear H
     have H := H1
     clear H1
     replace H := Option.bind_eq_some_iff.mp H
     obtain ⟨t157, A120, H⟩ := H
     replace H : (some t157) = some r := H
     have A12 := za.mk A120
     clear A120
     obtain rfl := Option.some.inj H
     have p9 : 0 ≤ (0 : Int) := (by omega)
     have q9 : 0 < x0_1.size := (by have : (0 : Int) < (x0_1.size : Int) := of_decide_eq_true (by first | (with_reducible assumption) | assumption); omega)
     have hx9 : ∀ h : 0 < x0_1.size, ((x0_1[0]'h).toNat : Int) = bt x0_1 0 := bt_at x0_1 0
     clear p9
     have qi9 : (0 < (x0_1.size : Int)) = True := eq_true (of_decide_eq_true (by first | (with_reducible assumption) | assumption))
     replace q9 := eq_true q9
     go_wp2_with (first | ((with_reducible refine zbb (f := 146) rfl ?_); refine zcc (some 17) rfl rfl Tryz.func146 (by kernel_rfl) rfl #[.int .i32 (wrap32 (bt x0_1 0))] rfl (by (try simp only [List.map_toArray, List.map_cons, List.map_nil]); first | done | rfl | (simp only [List.length_drop, List.length_take]; rfl)) ?_; (with_reducible refine (zwb.calls (wrap32 (bt x0_1 0)) true _ A10.out).mono ?_); rintro e w' ⟨rfl, ⟨nd, rfl⟩⟩; refine ⟨_, rfl, ?_⟩) | ((with_reducible refine zbb (f := 147) rfl ?_); refine zcc (some 19) rfl rfl Tryz.func147 (by kernel_rfl) rfl #[.string x0_1] rfl (by (try simp only [List.map_toArray, List.map_cons, List.map_nil]); first | done | rfl | (simp only [List.length_drop, List.length_take]; rfl)) ?_; (with_reducible refine (zgb.calls kj1 x0_1 t157 _ A12.out).mono ?_); rintro e w' ⟨rfl, ⟨nd, rfl⟩⟩; refine ⟨_, rfl, ?_⟩))
     go_ret
     exact ⟨by first | rfl | (simp; done) | (simp [*]; done) | (simp [zc]; done) | (simp [zc, *]; done), by repeat (first | exact zk.refl _ | apply zk.step)⟩
    ·replace c11 := Bool.eq_false_iff.mpr c11
     subst c11
     have H1 : (if 1 + x0_1.size ≤ 9223372036854775807 then (some ((⟨#[42]⟩ : ByteArray) ++ x0_1)) else (none)) = some r := by rw [if_neg (show ¬ (false = true) by decide)] at H; exact H
     clear H
     have H := H1
     clear H1
     by_cases c13 : 1 + x0_1.size ≤ 9223372036854775807
     ·rw [if_pos c13] at H
      have c13b0 := eq_true c13
      have c13b1 : decide (1 + x0_1.size ≤ 9223372036854775807) = true := decide_eq_true c13
      try have c13b2 : (9223372036854775807 < 1 + x0_1.size) = False := eq_false (Nat.not_lt.2 c13)
      obtain rfl := Option.some.inj H
      have p9 : 0 ≤ (0 : Int) := (by omega)
      have q9 : 0 < x0_1.size := (by have : (0 : Int) < (x0_1.size : Int) := of_decide_eq_true (by first | (with_reducible assumption) | assumption); omega)
      have hx9 : ∀ h : 0 < x0_1.size, ((x0_1[0]'h).toNat : Int) = bt x0_1 0 := bt_at x0_1 0
      clear p9
      have qi9 : (0 < (x0_1.size : Int)) = True := eq_true (of_decide_eq_true (by first | (with_reducible assumption) | assumption))
      replace q9 := eq_true q9
      go_wp2_with (first | ((with_reducible refine zbb (f := 146) rfl ?_); refine zcc (some 17) rfl rfl Tryz.func146 (by kernel_rfl) rfl #[.int .i32 (wrap32 (bt x0_1 0))] rfl (by (try simp only [List.map_toArray, List.map_cons, List.map_nil]); first | done | rfl | (simp only [List.length_drop, List.length_take]; rfl)) ?_; (with_reducible refine (zwb.calls (wrap32 (bt x0_1 0)) false _ A10.out).mono ?_); rintro e w' ⟨rfl, ⟨nd, rfl⟩⟩; refine ⟨_, rfl, ?_⟩))
      go_ret
      exact ⟨by first | rfl | (simp; done) | (simp [*]; done) | (simp [zc]; done) | (simp [zc, *]; done), by repeat (first | exact zk.refl _ | apply zk.step)⟩
     ·rw [if_neg c13] at H
      exact absurd H (by simp)
   ·rw [if_neg c8] at H
    exact absurd H (by simp)
def zec.f (a0 : ByteArray) (a1 : ByteArray) : Option (Bool) := if (a0.size : Int) ≥ (a1.size : Int) then (if 0 ≤ (a1.size : Int) then (if (a1.size : Int) ≤ (a0.size : Int) then (some ((a0.extract 0 ((a1.size : Int) : Int).toNat).toList == a1.toList)) else (none)) else (none)) else (some false)
theorem zec.calls (a0 : ByteArray) (a1 : ByteArray) (r : Bool) (w : World) (h : zec.f a0 a1 = some r) :
  Calls Tryz.prog 148 #[.string a0, .string a1] w fun e w' => e = .returned (.bool r) ∧ zk w w' := by
 have H : (if (a0.size : Int) ≥ (a1.size : Int) then (if 0 ≤ (a1.size : Int) then (if (a1.size : Int) ≤ (a0.size : Int) then (some ((a0.extract 0 ((a1.size : Int) : Int).toNat).toList == a1.toList)) else (none)) else (none)) else (some false)) = some r := h
 clear h
 by_cases c3 : (a0.size : Int) ≥ (a1.size : Int)
 ·rw [if_pos c3] at H
  have c3b0 : decide ((a1.size : Int) ≤ (a0.size : Int)) = true := decide_eq_true c3
  have c3b1 : decide (a1.size ≤ a0.size) = true := decide_eq_true (Int.ofNat_le.mp c3)
  clear c3
  by_cases c4 : 0 ≤ (a1.size : Int)
  ·rw [if_pos c4] at H
   have c4b0 := eq_true c4
   have c4b1 : decide (0 ≤ (a1.size : Int)) = true := decide_eq_true c4
   clear c4
   by_cases c5 : (a1.size : Int) ≤ (a0.size : Int)
   ·rw [if_pos c5] at H
    have c5b0 := eq_true c5
    have c5b1 : decide ((a1.size : Int) ≤ (a0.size : Int)) = true := decide_eq_true c5
    clear c5
    obtain rfl := Option.some.inj H
    go_enter Tryz.func148, Tryz.ntmps148
    go_wp2
    go_ret
    exact ⟨by first | rfl | (simp; done) | (simp [*]; done) | (simp [zc]; done) | (simp [zc, *]; done), by repeat (first | exact zk.refl _ | apply zk.step)⟩
   ·rw [if_neg c5] at H
    exact absurd H (by simp)
  ·rw [if_neg c4] at H
   exact absurd H (by simp)
 ·rw [if_neg c3] at H
  have c3b0 : decide ((a1.size : Int) ≤ (a0.size : Int)) = false := decide_eq_false c3
  have c3b1 : decide (a1.size ≤ a0.size) = false := decide_eq_false (fun h => c3 (Int.ofNat_le.mpr h))
  clear c3
  obtain rfl := Option.some.inj H
  go_enter Tryz.func148, Tryz.ntmps148
  go_wp2
  go_ret
  exact ⟨by first | rfl | (simp; done) | (simp [*]; done) | (simp [zc]; done) | (simp [zc, *]; done), by repeat (first | exact zk.refl _ | apply zk.step)⟩
def zyb.f (a0 : ByteArray) (a1 : ByteArray) : Option (Bool) := (zec.f a0 a1).bind fun t158 => (some t158)
theorem zyb.calls (a0 : ByteArray) (a1 : ByteArray) (r : Bool) (w : World) (h : zyb.f a0 a1 = some r) :
  Calls Tryz.prog 123 #[.string a0, .string a1] w fun e w' => e = .returned (.bool r) ∧ zk w w' := by
 have H : ((zec.f a0 a1).bind fun t158 => (some t158)) = some r := h
 clear h
 replace H := Option.bind_eq_some_iff.mp H
 obtain ⟨t158, A30, H⟩ := H
 replace H : (some t158) = some r := H
 have A3 := za.mk A30
 clear A30
 obtain rfl := Option.some.inj H
 go_enter Tryz.func123, Tryz.ntmps123
 go_wp2_with (first | ((with_reducible refine zbb (f := 148) rfl ?_); refine zcc (some 7) rfl rfl Tryz.func148 (by kernel_rfl) rfl #[.string a0, .string a1] rfl (by (try simp only [List.map_toArray, List.map_cons, List.map_nil]); first | done | rfl | (simp only [List.length_drop, List.length_take]; rfl)) ?_; (with_reducible refine (zec.calls a0 a1 t158 _ A3.out).mono ?_); rintro e w' ⟨rfl, ⟨nd, rfl⟩⟩; refine ⟨_, rfl, ?_⟩))
 go_ret
 exact ⟨by first | rfl | (simp; done) | (simp [*]; done) | (simp [zc]; done) | (simp [zc, *]; done), by repeat (first | exact zk.refl _ | apply zk.step)⟩
end Go.Proofs.YtlijjnjpomnphaaGreatDoor.S
end
