/-
  Region 15 of keepRoles: one appended pair.
-/
import Derived.Test.Qxb6605479aKOne
import Derived.Deep.RegionLaw
import Derived.Deep.RegionHeld3
import Derived.Deep.DrawnRows
namespace Go.Proofs.Qxb6605479a
open Go.RowKit

noncomputable def findR (n : Nat) : Code → Option Code
  | .region i ops d => if i = n then some (.region i ops d) else none
  | .seq a b => (findR n a).orElse fun _ => findR n b
  | .cond _ a b => (findR n a).orElse fun _ => findR n b
  | .block _ b => findR n b
  | .loop b => findR n b
  | .scope b => findR n b
  | _ => none

/-- Only the plain way out. -/
def OnlyN (KK : Act → World → Prop) : Exit → Act → World → Prop
  | .normal => KK
  | _ => fun _ _ => False

/-- The region of that number in keepRoles. -/
noncomputable def reg (n : Nat) : Code := (Try.f43.body.bind (findR n)).getD .skip

set_option maxRecDepth 100000 in
set_option maxHeartbeats 4000000 in
theorem reg15_wp (B K R n xi cu : Nat) (a0 a1 rv : Int) (v : Value) (vals : List Value) (i68 : TypeInfo) (X : World) (KK : Act → World → Prop) (u0 u1 u2 u3 u4 u5 u6 u7 u8 u11 u12 u13 u15 u16 u17 u18 u19 u20 u21 u22 u23 u24 u25 u26 u27 u28 u29 u30 u31 u32 u33 u34 u35 u36 u37 u38 u39 u40 u41 u42 u43 u44 u45 u46 u47 u48 u49 u50 u51 u52 u53 u54 u55 u56 u57 u58 u59 u60 u61 u62 u63 u64 u65 u66 u67 u68 u69 u70 u71 u72 u73 u74 u75 u76 u77 u78 u79 u80 u81 u82 u83 u84 u85 u86 u87 u88 u89 u90 u91 u92 u93 u94 u95 u96 u97 u98 u99 u100 u101 u102 u103 u104 u105 u106 u107 u108 u109 u110 u111 u112 u113 u114 u115 u116 u117 u118 u119 u120 u121 u122 u123 u124 u125 u126 u127 u128 u129 u130 u131 u132 u133 u134 u135 u136 u137 u138 u139 u140 u141 u142 u143 u144 u145 u146 u147 u148 u149 u150 u151 u152 u153 u154 u155 u156 u157 u158 u159 u160 u161 u162 u163 u164 u165 u166 u167 u168 u169 u170 u171 u172 u173 u174 u175 u176 u177 u178 u179 u180 u181 u182 u183 u184 u185 u186 u187 u188 u189 u190 u191 u192 u193 u194 u195 u196 u197 u198 u199 : Value)
    (hi68 : Try.prog.info? 68 = some i68) (hy0 : i68.zero = some (Value.agg #[Value.int IntKind.i64 0, Value.int IntKind.i64 0])) (hy1 : i68.size = 2) (hy2 : i68.bytes = 16)
    (x0 : X.cell? ⟨xi, 0, none⟩ = some (.int .i64 a0)) (x1 : X.cell? ⟨xi, 1, none⟩ = some (.int .i64 a1)) (xK : X.cell? ⟨K, 2, none⟩ = some v) (xR : X.cell? ⟨R, a1.toNat, none⟩ = some (.int .i64 rv))
    (hu0 : 0 ≤ a1) (hu1 : a1 < n) (_yx : xi < X.heap.size) (yK : K < X.heap.size) (_yR : R < X.heap.size) (HO : Hid (X.ownsRow B 68 2 v cu vals)) (hBX : B ≤ X.heap.size) (hcu : cu ≤ 65536)
    (far : ∀ w1, (X.alloc (.cells #[.int .i64 a0, .int .i64 rv] 68)).drew.grownBy w1 v.ownBlock → w1.cell? ⟨K, 2, none⟩ = some v ∧ w1.frozen? ⟨K, 2, none⟩ = false)
    (hK : ∀ gg cap w1, w1.ownsRow B 68 2 (.slice (some ⟨gg, 0, none⟩) (cu + 1) cap) (cu + 1) (vals ++ [.int .i64 a0, .int .i64 rv]) → (X.alloc (.cells #[.int .i64 a0, .int .i64 rv] 68)).drew.grownBy w1 v.ownBlock → (v.ownBlock = some gg ∨ gg = X.heap.size + 1) → gg < w1.heap.size →
      KK ⟨#[u0, u1, u2, u3, u4, u5, u6, u7, u8, .pointer (some ⟨K, 0, none⟩), .slice (some ⟨R, 0, none⟩) n n, u11, u12, u13, .pointer (some ⟨xi, 0, none⟩), u15, u16, u17, u18, u19, u20, u21, u22, u23, u24, u25, u26, u27, u28, u29, u30, u31, u32, u33, u34, u35, u36, u37, u38, u39, u40, u41, u42, u43, u44, u45, u46, u47, u48, u49, u50, u51, u52, u53, u54, u55, u56, u57, u58, u59, u60, u61, u62, u63, u64, u65, u66, u67, u68, u69, u70, u71, u72, u73, u74, u75, u76, u77, u78, u79, u80, u81, u82, u83, u84, u85, u86, u87, u88, u89, u90, .pointer (some ⟨K, 0, none⟩), .pointer (some ⟨K, 0, none⟩), .pointer (some ⟨K, 0, none⟩), .pointer (some ⟨K, 2, none⟩), v, .pointer (some ⟨xi, 0, none⟩), .int .i64 a0, .slice (some ⟨R, 0, none⟩) n n, .pointer (some ⟨xi, 1, none⟩), .int .i64 a1, .pointer (some ⟨R, a1.toNat, none⟩), .int .i64 rv, .agg #[.int .i64 a0, .int .i64 rv], .slice (some ⟨X.heap.size, 0, none⟩) 1 1, .slice (some ⟨gg, 0, none⟩) (cu + 1) cap, .pointer (some ⟨K, 0, none⟩), .pointer (some ⟨K, 2, none⟩), u108, u109, u110, u111, u112, u113, u114, u115, u116, u117, u118, u119, u120, u121, u122, u123, u124, u125, u126, u127, u128, u129, u130, u131, u132, u133, u134, u135, u136, u137, u138, u139, u140, u141, u142, u143, u144, u145, u146, u147, u148, u149, u150, u151, u152, u153, u154, u155, u156, u157, u158, u159, u160, u161, u162, u163, u164, u165, u166, u167, u168, u169, u170, u171, u172, u173, u174, u175, u176, u177, u178, u179, u180, u181, u182, u183, u184, u185, u186, u187, u188, u189, u190, u191, u192, u193, u194, u195, u196, u197, u198, u199], []⟩ (w1.setCell ⟨K, 2, none⟩ (.slice (some ⟨gg, 0, none⟩) (cu + 1) cap))) :
    Code.wp Try.prog (reg 15) (OnlyN KK) ⟨#[u0, u1, u2, u3, u4, u5, u6, u7, u8, .pointer (some ⟨K, 0, none⟩), .slice (some ⟨R, 0, none⟩) n n, u11, u12, u13, .pointer (some ⟨xi, 0, none⟩), u15, u16, u17, u18, u19, u20, u21, u22, u23, u24, u25, u26, u27, u28, u29, u30, u31, u32, u33, u34, u35, u36, u37, u38, u39, u40, u41, u42, u43, u44, u45, u46, u47, u48, u49, u50, u51, u52, u53, u54, u55, u56, u57, u58, u59, u60, u61, u62, u63, u64, u65, u66, u67, u68, u69, u70, u71, u72, u73, u74, u75, u76, u77, u78, u79, u80, u81, u82, u83, u84, u85, u86, u87, u88, u89, u90, u91, u92, u93, u94, u95, u96, u97, u98, u99, u100, u101, u102, u103, u104, u105, u106, u107, u108, u109, u110, u111, u112, u113, u114, u115, u116, u117, u118, u119, u120, u121, u122, u123, u124, u125, u126, u127, u128, u129, u130, u131, u132, u133, u134, u135, u136, u137, u138, u139, u140, u141, u142, u143, u144, u145, u146, u147, u148, u149, u150, u151, u152, u153, u154, u155, u156, u157, u158, u159, u160, u161, u162, u163, u164, u165, u166, u167, u168, u169, u170, u171, u172, u173, u174, u175, u176, u177, u178, u179, u180, u181, u182, u183, u184, u185, u186, u187, u188, u189, u190, u191, u192, u193, u194, u195, u196, u197, u198, u199], []⟩ X := by
  have FAR := hid far
  have HK := hid hK
  clear far hK
  show Code.wp Try.prog (Code.region 15 _ true) (OnlyN KK) _ _
  go_region_law ((refine step_append_lies _ (by rfl) _ _ _ (by rfl) B 68 i68 _ 2 16 Try.underlying59 hi68 hy0 hy1 hy2 rfl (by omega) v cu vals (by rfl) (World.ownsRow.drew (World.ownsRow.alloc HO.out _)) ⟨X.heap.size, 0, none⟩ 1 1 [.int .i64 a0, .int .i64 rv] (by rfl) (by rfl) (World.news_of_block (cs := #[.int .i64 a0, .int .i64 rv]) (t := 68) (fr := (0, 0)) (heap_alloc_new X _)) (by simp [Value.oneCell']) (by omega) (by unfold maxLen; omega) (by omega) (by simp; omega) (X.heap.size + 1) (by simp) ?_; intro gg cap w1 hown1 hgrow hat hlt1; have hff := FAR.out w1 hgrow; have hf1 := hff.1; have hf2 := hff.2; clear hff))
  all_goals exact HK.out _ _ _ hown1 hgrow hat hlt1

end Go.Proofs.Qxb6605479a
