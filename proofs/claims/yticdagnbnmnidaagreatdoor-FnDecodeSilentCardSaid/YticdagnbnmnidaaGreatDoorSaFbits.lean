/- Decimals of many digits: the bits of the nearest float. Conditions: none. -/
import Derived.Test.YticdagnbnmnidaaGreatDoorSaDct
import Derived.Test.YticdagnbnmnidaaGreatDoorSaFlh
import Derived.Scope
set_option linter.unusedSimpArgs false
set_option linter.unusedVariables false
namespace Go.Proofs.YticdagnbnmnidaaGreatDoor
open Go.RowKit

/-- As Q; by a goto to the first of two labels J0, to the second J1. -/
def Exit.jump2 (J0 J1 : Act → World → Prop) (Q : Exit → Act → World → Prop) : Exit → Act → World → Prop
  | .goto l, a, w => (l = 0 ∧ J0 a w) ∨ (l = 1 ∧ J1 a w)
  | e, a, w => Q e a w

/-- A scope out of which the run jumps ahead to one of two labels. -/
theorem wp_scope_two {P : Program} {a : Act} {w : World} {Q : Exit → Act → World → Prop} {c rest0 rest1 : Code} (J0 J1 : Act → World → Prop) (hf0 : findLabel c 0 = some rest0) (hf1 : findLabel c 1 = some rest1)
    (pass0 : ∀ a w, J0 a w → rest0.wp P (Exit.noGoto Q) a w) (pass1 : ∀ a w, J1 a w → rest1.wp P (Exit.noGoto Q) a w)
    (first : c.wp P (Exit.jump2 J0 J1 Q) a w) : (Code.scope c).wp P Q a w := by
  intro b k cs
  have hg0 : gotoIn 0 (.inScope c :: k) = some (.code rest0 :: .inScope c :: k) := by simp [gotoIn, hf0]
  have hg1 : gotoIn 1 (.inScope c :: k) = some (.code rest1 :: .inScope c :: k) := by simp [gotoIn, hf1]
  have key : ∀ (rest : Code) a w, rest.wp P (Exit.noGoto Q) a w → ∃ e a' w', Q e a' w' ∧ Arrives P (lone (b.at a (.code rest :: .inScope c :: k)) cs w) b k cs e a' w' := by
    intro rest a w hp
    obtain ⟨e, a₁, w₁, hq, harr⟩ := hp b (.inScope c :: k) cs
    cases e with
    | normal => exact ⟨.normal, a₁, w₁, hq, Steps.trans harr (.one step_inScope)⟩
    | exit id => exact ⟨.exit id, a₁, w₁, hq, fun k' hk => harr k' (by simp [exitTo, hk])⟩
    | goto l => exact hq.elim
    | ret => exact ⟨_, a₁, w₁, hq, harr⟩
    | panic ch => exact ⟨_, a₁, w₁, hq, harr⟩
    | outgrown => exact ⟨_, a₁, w₁, hq, harr⟩
  obtain ⟨e, a₁, w₁, hq, harr⟩ := first b (.inScope c :: k) cs
  cases e with
  | normal => exact ⟨.normal, a₁, w₁, hq, .head step_scope (Steps.trans harr (.one step_inScope))⟩
  | exit id => exact ⟨.exit id, a₁, w₁, hq, fun k' hk => .head step_scope (harr k' (by simp [exitTo, hk]))⟩
  | goto l =>
    rcases hq with ⟨rfl, hJ⟩ | ⟨rfl, hJ⟩
    · obtain ⟨e₂, a₂, w₂, hq₂, harr₂⟩ := key _ a₁ w₁ (pass0 _ _ hJ)
      exact ⟨e₂, a₂, w₂, hq₂, .of_steps (.head step_scope (harr _ hg0)) harr₂⟩
    · obtain ⟨e₂, a₂, w₂, hq₂, harr₂⟩ := key _ a₁ w₁ (pass1 _ _ hJ)
      exact ⟨e₂, a₂, w₂, hq₂, .of_steps (.head step_scope (harr _ hg1)) harr₂⟩
  | ret => exact ⟨_, a₁, w₁, hq, .of_steps (.one step_scope) harr⟩
  | panic ch => exact ⟨_, a₁, w₁, hq, .of_steps (.one step_scope) harr⟩
  | outgrown => exact ⟨_, a₁, w₁, hq, .of_steps (.one step_scope) harr⟩

/-- the body's scope -/
noncomputable def inner295 : Code := match Tryz.f295.body with
  | some (.seq _ (.scope c)) => c
  | _ => .skip
/-- what stands behind a label -/
noncomputable def rest295 (l : Nat) : Code := (findLabel inner295 l).getD .skip

/-- the steps of a shift by tens -/
def pwt (i : Nat) : Nat := [1, 3, 6, 9, 13, 16, 19, 23, 26].getD i 0
theorem pwt_le {i : Nat} (h : i < 9) : 1 ≤ pwt i ∧ pwt i ≤ 26 ∧ (1 ≤ i → 3 ≤ pwt i) ∧ (2 ≤ i → 6 ≤ pwt i) := by
  have all : ∀ j : Fin 9, 1 ≤ pwt j.val ∧ pwt j.val ≤ 26 ∧ (1 ≤ j.val → 3 ≤ pwt j.val) ∧ (2 ≤ j.val → 6 ≤ pwt j.val) := by decide
  exact all ⟨i, h⟩
/-- the table of these steps -/
def PwTab (w : World) : Prop := ∃ b off cap, w.cell? ⟨18, 0, none⟩ = some (.slice (some ⟨b, off, none⟩) 9 cap) ∧ ∀ i, i < 9 → w.cell? ⟨b, off + i, none⟩ = some (.int .i64 (pwt i : Nat))
theorem PwTab.lay {w0 w : World} (h : PwTab w0) (hl : Lay w0 w) : PwTab w := by
  obtain ⟨b, off, cap, h0, h1⟩ := h
  exact ⟨b, off, cap, hl.cell h0, fun i hi => hl.cell (h1 i hi)⟩
theorem InfoRow.lay {w0 w : World} (h : InfoRow w0) (hl : Lay w0 w) : InfoRow w := by
  obtain ⟨ca, ta, cb, tb, h1, h2⟩ := h
  exact ⟨ca, ta, cb, tb, by rw [hl 16 (Array.getElem?_eq_some_iff.1 h1).1]; exact h1, by rw [hl 15 (Array.getElem?_eq_some_iff.1 h2).1]; exact h2⟩

/-- all tables that ParseFloat reads -/
structure FTabs (w : World) : Prop where
  opt : w.cell? ⟨7, 0, none⟩ = some (.bool true)
  pow : PowTab w
  ten : TenTab w
  info : InfoTab w
  row : InfoRow w
  cheat : CheatTab w
  pw : PwTab w
theorem FTabs.lay {w0 w : World} (h : FTabs w0) (hl : Lay w0 w) : FTabs w :=
  ⟨hl.cell h.opt, h.pow.lay hl, h.ten.lay hl, h.info.lay hl, h.row.lay hl, h.cheat.lay hl, h.pw.lay hl⟩

/-- what floatBits hands back -/
def GivesBits (g : Nat) (w : World) (e : Ending) (w' : World) : Prop := (∃ (n : Int) (b : Bool), e = .returned (.tuple #[.int .u64 n, .bool b])) ∧ Keep (fun k => k = g) w w'

set_option maxRecDepth 1000000 in
/-- how it stands at the label 'out' -/
def AtOut (g : Nat) (w : World) (a : Act) (wr : World) : Prop :=
  ∃ (ov : Bool) (x m : Int) (u2 u3 u4 u8 u9 u10 u11 u12 u13 u14 u15 u16 u17 u18 u19 u20 u21 u22 u23 u24 u25 u26 u27 u28 u29 u30 u31 u32 u33 u34 u35 u36 u37 u38 u39 u40 u41 u42 u43 u44 u45 u46 u47 u48 u49 u50 u51 u52 u53 u54 u55 u56 u57 u58 u59 u60 u61 u62 u63 u64 u65 u66 u67 u68 u69 u70 u71 u72 u73 u74 u75 u76 u77 u78 u79 u80 u81 u82 u83 u84 u85 u86 u87 u88 u89 u90 u91 u92 u93 u94 u95 u96 u97 u98 u99 u100 u101 u102 u103 u104 u105 u106 u107 u108 u109 u110 u111 u112 u113 u114 u115 u116 u117 u118 u119 u120 u121 u122 u123 u124 u125 u126 u127 u128 u129 u130 u131 u132 u133 u134 u135 u136 u137 u138 u139 u140 u141 u142 u143 u144 u145 u146 u147 u148 u149 u150 u151 u152 u153 u154 u155 u156 u157 u158 u159 u160 u161 u162 u163 u164 u165 u166 u167 u168 u169 u170 u171 u172 u173 u174 u175 u176 u177 u178 u179 u180 u181 u182 u183 u184 u185 u186 u187 u188 u189 u190 u191 u192 u193 u194 u195 u196 u197 u198 u199 u200 u201 u202 u203 u204 u205 u206 u207 u208 u209 u210 u211 u212 u213 u214 u215 u216 u217 u218 u219 u220 u221 u222 u223 u224 u225 u226 u227 u228 u229 u230 u231 u232 u233 u234 u235 u236 u237 u238 u239 u240 u241 u242 : Value), a = ⟨#[.pointer (some ⟨g, 0, none⟩), .pointer (some ⟨16, 0, none⟩), u2, u3, u4, .bool ov, .int .i64 x, .int .u64 m, u8, u9, u10, u11, u12, u13, u14, u15, u16, u17, u18, u19, u20, u21, u22, u23, u24, u25, u26, u27, u28, u29, u30, u31, u32, u33, u34, u35, u36, u37, u38, u39, u40, u41, u42, u43, u44, u45, u46, u47, u48, u49, u50, u51, u52, u53, u54, u55, u56, u57, u58, u59, u60, u61, u62, u63, u64, u65, u66, u67, u68, u69, u70, u71, u72, u73, u74, u75, u76, u77, u78, u79, u80, u81, u82, u83, u84, u85, u86, u87, u88, u89, u90, u91, u92, u93, u94, u95, u96, u97, u98, u99, u100, u101, u102, u103, u104, u105, u106, u107, u108, u109, u110, u111, u112, u113, u114, u115, u116, u117, u118, u119, u120, u121, u122, u123, u124, u125, u126, u127, u128, u129, u130, u131, u132, u133, u134, u135, u136, u137, u138, u139, u140, u141, u142, u143, u144, u145, u146, u147, u148, u149, u150, u151, u152, u153, u154, u155, u156, u157, u158, u159, u160, u161, u162, u163, u164, u165, u166, u167, u168, u169, u170, u171, u172, u173, u174, u175, u176, u177, u178, u179, u180, u181, u182, u183, u184, u185, u186, u187, u188, u189, u190, u191, u192, u193, u194, u195, u196, u197, u198, u199, u200, u201, u202, u203, u204, u205, u206, u207, u208, u209, u210, u211, u212, u213, u214, u215, u216, u217, u218, u219, u220, u221, u222, u223, u224, u225, u226, u227, u228, u229, u230, u231, u232, u233, u234, u235, u236, u237, u238, u239, u240, u241, u242], []⟩ ∧ Hid (InfoTab wr) ∧ Hid (∃ b : Bool, wr.cell? ⟨g, 802, none⟩ = some (.bool b)) ∧ Hid (Keep (fun k => k = g) w wr)

set_option maxRecDepth 1000000 in
set_option maxHeartbeats 8000000 in
theorem out_295 (g : Nat) (w : World) (a : Act) (wr : World) (hJ : AtOut g w a wr) : (rest295 0).wp Tryz.prog (Exit.noGoto (bodyPost Tryz.prog Tryz.f295 (GivesBits g w))) a wr := by
  conv => arg 2; whnf
  unfold AtOut at hJ
  obtain ⟨ov, hJ⟩ := hJ
  obtain ⟨x, hJ⟩ := hJ
  obtain ⟨m, hJ⟩ := hJ
  obtain ⟨u2, hJ⟩ := hJ
  obtain ⟨u3, hJ⟩ := hJ
  obtain ⟨u4, hJ⟩ := hJ
  obtain ⟨u8, hJ⟩ := hJ
  obtain ⟨u9, hJ⟩ := hJ
  obtain ⟨u10, hJ⟩ := hJ
  obtain ⟨u11, hJ⟩ := hJ
  obtain ⟨u12, hJ⟩ := hJ
  obtain ⟨u13, hJ⟩ := hJ
  obtain ⟨u14, hJ⟩ := hJ
  obtain ⟨u15, hJ⟩ := hJ
  obtain ⟨u16, hJ⟩ := hJ
  obtain ⟨u17, hJ⟩ := hJ
  obtain ⟨u18, hJ⟩ := hJ
  obtain ⟨u19, hJ⟩ := hJ
  obtain ⟨u20, hJ⟩ := hJ
  obtain ⟨u21, hJ⟩ := hJ
  obtain ⟨u22, hJ⟩ := hJ
  obtain ⟨u23, hJ⟩ := hJ
  obtain ⟨u24, hJ⟩ := hJ
  obtain ⟨u25, hJ⟩ := hJ
  obtain ⟨u26, hJ⟩ := hJ
  obtain ⟨u27, hJ⟩ := hJ
  obtain ⟨u28, hJ⟩ := hJ
  obtain ⟨u29, hJ⟩ := hJ
  obtain ⟨u30, hJ⟩ := hJ
  obtain ⟨u31, hJ⟩ := hJ
  obtain ⟨u32, hJ⟩ := hJ
  obtain ⟨u33, hJ⟩ := hJ
  obtain ⟨u34, hJ⟩ := hJ
  obtain ⟨u35, hJ⟩ := hJ
  obtain ⟨u36, hJ⟩ := hJ
  obtain ⟨u37, hJ⟩ := hJ
  obtain ⟨u38, hJ⟩ := hJ
  obtain ⟨u39, hJ⟩ := hJ
  obtain ⟨u40, hJ⟩ := hJ
  obtain ⟨u41, hJ⟩ := hJ
  obtain ⟨u42, hJ⟩ := hJ
  obtain ⟨u43, hJ⟩ := hJ
  obtain ⟨u44, hJ⟩ := hJ
  obtain ⟨u45, hJ⟩ := hJ
  obtain ⟨u46, hJ⟩ := hJ
  obtain ⟨u47, hJ⟩ := hJ
  obtain ⟨u48, hJ⟩ := hJ
  obtain ⟨u49, hJ⟩ := hJ
  obtain ⟨u50, hJ⟩ := hJ
  obtain ⟨u51, hJ⟩ := hJ
  obtain ⟨u52, hJ⟩ := hJ
  obtain ⟨u53, hJ⟩ := hJ
  obtain ⟨u54, hJ⟩ := hJ
  obtain ⟨u55, hJ⟩ := hJ
  obtain ⟨u56, hJ⟩ := hJ
  obtain ⟨u57, hJ⟩ := hJ
  obtain ⟨u58, hJ⟩ := hJ
  obtain ⟨u59, hJ⟩ := hJ
  obtain ⟨u60, hJ⟩ := hJ
  obtain ⟨u61, hJ⟩ := hJ
  obtain ⟨u62, hJ⟩ := hJ
  obtain ⟨u63, hJ⟩ := hJ
  obtain ⟨u64, hJ⟩ := hJ
  obtain ⟨u65, hJ⟩ := hJ
  obtain ⟨u66, hJ⟩ := hJ
  obtain ⟨u67, hJ⟩ := hJ
  obtain ⟨u68, hJ⟩ := hJ
  obtain ⟨u69, hJ⟩ := hJ
  obtain ⟨u70, hJ⟩ := hJ
  obtain ⟨u71, hJ⟩ := hJ
  obtain ⟨u72, hJ⟩ := hJ
  obtain ⟨u73, hJ⟩ := hJ
  obtain ⟨u74, hJ⟩ := hJ
  obtain ⟨u75, hJ⟩ := hJ
  obtain ⟨u76, hJ⟩ := hJ
  obtain ⟨u77, hJ⟩ := hJ
  obtain ⟨u78, hJ⟩ := hJ
  obtain ⟨u79, hJ⟩ := hJ
  obtain ⟨u80, hJ⟩ := hJ
  obtain ⟨u81, hJ⟩ := hJ
  obtain ⟨u82, hJ⟩ := hJ
  obtain ⟨u83, hJ⟩ := hJ
  obtain ⟨u84, hJ⟩ := hJ
  obtain ⟨u85, hJ⟩ := hJ
  obtain ⟨u86, hJ⟩ := hJ
  obtain ⟨u87, hJ⟩ := hJ
  obtain ⟨u88, hJ⟩ := hJ
  obtain ⟨u89, hJ⟩ := hJ
  obtain ⟨u90, hJ⟩ := hJ
  obtain ⟨u91, hJ⟩ := hJ
  obtain ⟨u92, hJ⟩ := hJ
  obtain ⟨u93, hJ⟩ := hJ
  obtain ⟨u94, hJ⟩ := hJ
  obtain ⟨u95, hJ⟩ := hJ
  obtain ⟨u96, hJ⟩ := hJ
  obtain ⟨u97, hJ⟩ := hJ
  obtain ⟨u98, hJ⟩ := hJ
  obtain ⟨u99, hJ⟩ := hJ
  obtain ⟨u100, hJ⟩ := hJ
  obtain ⟨u101, hJ⟩ := hJ
  obtain ⟨u102, hJ⟩ := hJ
  obtain ⟨u103, hJ⟩ := hJ
  obtain ⟨u104, hJ⟩ := hJ
  obtain ⟨u105, hJ⟩ := hJ
  obtain ⟨u106, hJ⟩ := hJ
  obtain ⟨u107, hJ⟩ := hJ
  obtain ⟨u108, hJ⟩ := hJ
  obtain ⟨u109, hJ⟩ := hJ
  obtain ⟨u110, hJ⟩ := hJ
  obtain ⟨u111, hJ⟩ := hJ
  obtain ⟨u112, hJ⟩ := hJ
  obtain ⟨u113, hJ⟩ := hJ
  obtain ⟨u114, hJ⟩ := hJ
  obtain ⟨u115, hJ⟩ := hJ
  obtain ⟨u116, hJ⟩ := hJ
  obtain ⟨u117, hJ⟩ := hJ
  obtain ⟨u118, hJ⟩ := hJ
  obtain ⟨u119, hJ⟩ := hJ
  obtain ⟨u120, hJ⟩ := hJ
  obtain ⟨u121, hJ⟩ := hJ
  obtain ⟨u122, hJ⟩ := hJ
  obtain ⟨u123, hJ⟩ := hJ
  obtain ⟨u124, hJ⟩ := hJ
  obtain ⟨u125, hJ⟩ := hJ
  obtain ⟨u126, hJ⟩ := hJ
  obtain ⟨u127, hJ⟩ := hJ
  obtain ⟨u128, hJ⟩ := hJ
  obtain ⟨u129, hJ⟩ := hJ
  obtain ⟨u130, hJ⟩ := hJ
  obtain ⟨u131, hJ⟩ := hJ
  obtain ⟨u132, hJ⟩ := hJ
  obtain ⟨u133, hJ⟩ := hJ
  obtain ⟨u134, hJ⟩ := hJ
  obtain ⟨u135, hJ⟩ := hJ
  obtain ⟨u136, hJ⟩ := hJ
  obtain ⟨u137, hJ⟩ := hJ
  obtain ⟨u138, hJ⟩ := hJ
  obtain ⟨u139, hJ⟩ := hJ
  obtain ⟨u140, hJ⟩ := hJ
  obtain ⟨u141, hJ⟩ := hJ
  obtain ⟨u142, hJ⟩ := hJ
  obtain ⟨u143, hJ⟩ := hJ
  obtain ⟨u144, hJ⟩ := hJ
  obtain ⟨u145, hJ⟩ := hJ
  obtain ⟨u146, hJ⟩ := hJ
  obtain ⟨u147, hJ⟩ := hJ
  obtain ⟨u148, hJ⟩ := hJ
  obtain ⟨u149, hJ⟩ := hJ
  obtain ⟨u150, hJ⟩ := hJ
  obtain ⟨u151, hJ⟩ := hJ
  obtain ⟨u152, hJ⟩ := hJ
  obtain ⟨u153, hJ⟩ := hJ
  obtain ⟨u154, hJ⟩ := hJ
  obtain ⟨u155, hJ⟩ := hJ
  obtain ⟨u156, hJ⟩ := hJ
  obtain ⟨u157, hJ⟩ := hJ
  obtain ⟨u158, hJ⟩ := hJ
  obtain ⟨u159, hJ⟩ := hJ
  obtain ⟨u160, hJ⟩ := hJ
  obtain ⟨u161, hJ⟩ := hJ
  obtain ⟨u162, hJ⟩ := hJ
  obtain ⟨u163, hJ⟩ := hJ
  obtain ⟨u164, hJ⟩ := hJ
  obtain ⟨u165, hJ⟩ := hJ
  obtain ⟨u166, hJ⟩ := hJ
  obtain ⟨u167, hJ⟩ := hJ
  obtain ⟨u168, hJ⟩ := hJ
  obtain ⟨u169, hJ⟩ := hJ
  obtain ⟨u170, hJ⟩ := hJ
  obtain ⟨u171, hJ⟩ := hJ
  obtain ⟨u172, hJ⟩ := hJ
  obtain ⟨u173, hJ⟩ := hJ
  obtain ⟨u174, hJ⟩ := hJ
  obtain ⟨u175, hJ⟩ := hJ
  obtain ⟨u176, hJ⟩ := hJ
  obtain ⟨u177, hJ⟩ := hJ
  obtain ⟨u178, hJ⟩ := hJ
  obtain ⟨u179, hJ⟩ := hJ
  obtain ⟨u180, hJ⟩ := hJ
  obtain ⟨u181, hJ⟩ := hJ
  obtain ⟨u182, hJ⟩ := hJ
  obtain ⟨u183, hJ⟩ := hJ
  obtain ⟨u184, hJ⟩ := hJ
  obtain ⟨u185, hJ⟩ := hJ
  obtain ⟨u186, hJ⟩ := hJ
  obtain ⟨u187, hJ⟩ := hJ
  obtain ⟨u188, hJ⟩ := hJ
  obtain ⟨u189, hJ⟩ := hJ
  obtain ⟨u190, hJ⟩ := hJ
  obtain ⟨u191, hJ⟩ := hJ
  obtain ⟨u192, hJ⟩ := hJ
  obtain ⟨u193, hJ⟩ := hJ
  obtain ⟨u194, hJ⟩ := hJ
  obtain ⟨u195, hJ⟩ := hJ
  obtain ⟨u196, hJ⟩ := hJ
  obtain ⟨u197, hJ⟩ := hJ
  obtain ⟨u198, hJ⟩ := hJ
  obtain ⟨u199, hJ⟩ := hJ
  obtain ⟨u200, hJ⟩ := hJ
  obtain ⟨u201, hJ⟩ := hJ
  obtain ⟨u202, hJ⟩ := hJ
  obtain ⟨u203, hJ⟩ := hJ
  obtain ⟨u204, hJ⟩ := hJ
  obtain ⟨u205, hJ⟩ := hJ
  obtain ⟨u206, hJ⟩ := hJ
  obtain ⟨u207, hJ⟩ := hJ
  obtain ⟨u208, hJ⟩ := hJ
  obtain ⟨u209, hJ⟩ := hJ
  obtain ⟨u210, hJ⟩ := hJ
  obtain ⟨u211, hJ⟩ := hJ
  obtain ⟨u212, hJ⟩ := hJ
  obtain ⟨u213, hJ⟩ := hJ
  obtain ⟨u214, hJ⟩ := hJ
  obtain ⟨u215, hJ⟩ := hJ
  obtain ⟨u216, hJ⟩ := hJ
  obtain ⟨u217, hJ⟩ := hJ
  obtain ⟨u218, hJ⟩ := hJ
  obtain ⟨u219, hJ⟩ := hJ
  obtain ⟨u220, hJ⟩ := hJ
  obtain ⟨u221, hJ⟩ := hJ
  obtain ⟨u222, hJ⟩ := hJ
  obtain ⟨u223, hJ⟩ := hJ
  obtain ⟨u224, hJ⟩ := hJ
  obtain ⟨u225, hJ⟩ := hJ
  obtain ⟨u226, hJ⟩ := hJ
  obtain ⟨u227, hJ⟩ := hJ
  obtain ⟨u228, hJ⟩ := hJ
  obtain ⟨u229, hJ⟩ := hJ
  obtain ⟨u230, hJ⟩ := hJ
  obtain ⟨u231, hJ⟩ := hJ
  obtain ⟨u232, hJ⟩ := hJ
  obtain ⟨u233, hJ⟩ := hJ
  obtain ⟨u234, hJ⟩ := hJ
  obtain ⟨u235, hJ⟩ := hJ
  obtain ⟨u236, hJ⟩ := hJ
  obtain ⟨u237, hJ⟩ := hJ
  obtain ⟨u238, hJ⟩ := hJ
  obtain ⟨u239, hJ⟩ := hJ
  obtain ⟨u240, hJ⟩ := hJ
  obtain ⟨u241, hJ⟩ := hJ
  obtain ⟨u242, hJ⟩ := hJ
  obtain ⟨rfl, hi, hn, hk⟩ := hJ
  obtain ⟨ng, f2⟩ := hn.out
  have i0 := hi.out.mant
  have i1 := hi.out.exp
  have i2 := hi.out.bias
  clear hi hn
  cases ng
  · go_wp2_with fail
    go_quiet (fail)
    go_wp2_with fail
    try rw [Exit.noGoto_ret]
    go_ret2
    exact ⟨⟨_, _, rfl⟩, hk.out.drewN nq⟩
  · go_wp2_with fail
    go_quiet (fail)
    go_wp2_with fail
    go_quiet (fail)
    go_wp2_with fail
    try rw [Exit.noGoto_ret]
    go_ret2
    exact ⟨⟨_, _, rfl⟩, (hk.out.drewN _).drewN nq⟩

set_option maxRecDepth 1000000 in
/-- how it stands at the label 'overflow' -/
def AtOver (g : Nat) (w : World) (a : Act) (wr : World) : Prop :=
  ∃ (x : Int) (ov : Bool) (m : Int) (u2 u3 u4 u8 u9 u10 u11 u12 u13 u14 u15 u16 u17 u18 u19 u20 u21 u22 u23 u24 u25 u26 u27 u28 u29 u30 u31 u32 u33 u34 u35 u36 u37 u38 u39 u40 u41 u42 u43 u44 u45 u46 u47 u48 u49 u50 u51 u52 u53 u54 u55 u56 u57 u58 u59 u60 u61 u62 u63 u64 u65 u66 u67 u68 u69 u70 u71 u72 u73 u74 u75 u76 u77 u78 u79 u80 u81 u82 u83 u84 u85 u86 u87 u88 u89 u90 u91 u92 u93 u94 u95 u96 u97 u98 u99 u100 u101 u102 u103 u104 u105 u106 u107 u108 u109 u110 u111 u112 u113 u114 u115 u116 u117 u118 u119 u120 u121 u122 u123 u124 u125 u126 u127 u128 u129 u130 u131 u132 u133 u134 u135 u136 u137 u138 u139 u140 u141 u142 u143 u144 u145 u146 u147 u148 u149 u150 u151 u152 u153 u154 u155 u156 u157 u158 u159 u160 u161 u162 u163 u164 u165 u166 u167 u168 u169 u170 u171 u172 u173 u174 u175 u176 u177 u178 u179 u180 u181 u182 u183 u184 u185 u186 u187 u188 u189 u190 u191 u192 u193 u194 u195 u196 u197 u198 u199 u200 u201 u202 u203 u204 u205 u206 u207 u208 u209 u210 u211 u212 u213 u214 u215 u216 u217 u218 u219 u220 u221 u222 u223 u224 u225 u226 u227 u228 u229 u230 u231 u232 u233 u234 u235 u236 u237 u238 u239 u240 u241 u242 : Value), a = ⟨#[.pointer (some ⟨g, 0, none⟩), .pointer (some ⟨16, 0, none⟩), u2, u3, u4, .bool ov, .int .i64 x, .int .u64 m, u8, u9, u10, u11, u12, u13, u14, u15, u16, u17, u18, u19, u20, u21, u22, u23, u24, u25, u26, u27, u28, u29, u30, u31, u32, u33, u34, u35, u36, u37, u38, u39, u40, u41, u42, u43, u44, u45, u46, u47, u48, u49, u50, u51, u52, u53, u54, u55, u56, u57, u58, u59, u60, u61, u62, u63, u64, u65, u66, u67, u68, u69, u70, u71, u72, u73, u74, u75, u76, u77, u78, u79, u80, u81, u82, u83, u84, u85, u86, u87, u88, u89, u90, u91, u92, u93, u94, u95, u96, u97, u98, u99, u100, u101, u102, u103, u104, u105, u106, u107, u108, u109, u110, u111, u112, u113, u114, u115, u116, u117, u118, u119, u120, u121, u122, u123, u124, u125, u126, u127, u128, u129, u130, u131, u132, u133, u134, u135, u136, u137, u138, u139, u140, u141, u142, u143, u144, u145, u146, u147, u148, u149, u150, u151, u152, u153, u154, u155, u156, u157, u158, u159, u160, u161, u162, u163, u164, u165, u166, u167, u168, u169, u170, u171, u172, u173, u174, u175, u176, u177, u178, u179, u180, u181, u182, u183, u184, u185, u186, u187, u188, u189, u190, u191, u192, u193, u194, u195, u196, u197, u198, u199, u200, u201, u202, u203, u204, u205, u206, u207, u208, u209, u210, u211, u212, u213, u214, u215, u216, u217, u218, u219, u220, u221, u222, u223, u224, u225, u226, u227, u228, u229, u230, u231, u232, u233, u234, u235, u236, u237, u238, u239, u240, u241, u242], []⟩ ∧ Hid (InfoTab wr) ∧ Hid (∃ b : Bool, wr.cell? ⟨g, 802, none⟩ = some (.bool b)) ∧ Hid (Keep (fun k => k = g) w wr)

set_option maxRecDepth 1000000 in
set_option maxHeartbeats 8000000 in
theorem over_295 (g : Nat) (w : World) (a : Act) (wr : World) (hJ : AtOver g w a wr) : (rest295 1).wp Tryz.prog (Exit.noGoto (bodyPost Tryz.prog Tryz.f295 (GivesBits g w))) a wr := by
  conv => arg 2; whnf
  unfold AtOver at hJ
  obtain ⟨x, hJ⟩ := hJ
  obtain ⟨ov, hJ⟩ := hJ
  obtain ⟨m, hJ⟩ := hJ
  obtain ⟨u2, hJ⟩ := hJ
  obtain ⟨u3, hJ⟩ := hJ
  obtain ⟨u4, hJ⟩ := hJ
  obtain ⟨u8, hJ⟩ := hJ
  obtain ⟨u9, hJ⟩ := hJ
  obtain ⟨u10, hJ⟩ := hJ
  obtain ⟨u11, hJ⟩ := hJ
  obtain ⟨u12, hJ⟩ := hJ
  obtain ⟨u13, hJ⟩ := hJ
  obtain ⟨u14, hJ⟩ := hJ
  obtain ⟨u15, hJ⟩ := hJ
  obtain ⟨u16, hJ⟩ := hJ
  obtain ⟨u17, hJ⟩ := hJ
  obtain ⟨u18, hJ⟩ := hJ
  obtain ⟨u19, hJ⟩ := hJ
  obtain ⟨u20, hJ⟩ := hJ
  obtain ⟨u21, hJ⟩ := hJ
  obtain ⟨u22, hJ⟩ := hJ
  obtain ⟨u23, hJ⟩ := hJ
  obtain ⟨u24, hJ⟩ := hJ
  obtain ⟨u25, hJ⟩ := hJ
  obtain ⟨u26, hJ⟩ := hJ
  obtain ⟨u27, hJ⟩ := hJ
  obtain ⟨u28, hJ⟩ := hJ
  obtain ⟨u29, hJ⟩ := hJ
  obtain ⟨u30, hJ⟩ := hJ
  obtain ⟨u31, hJ⟩ := hJ
  obtain ⟨u32, hJ⟩ := hJ
  obtain ⟨u33, hJ⟩ := hJ
  obtain ⟨u34, hJ⟩ := hJ
  obtain ⟨u35, hJ⟩ := hJ
  obtain ⟨u36, hJ⟩ := hJ
  obtain ⟨u37, hJ⟩ := hJ
  obtain ⟨u38, hJ⟩ := hJ
  obtain ⟨u39, hJ⟩ := hJ
  obtain ⟨u40, hJ⟩ := hJ
  obtain ⟨u41, hJ⟩ := hJ
  obtain ⟨u42, hJ⟩ := hJ
  obtain ⟨u43, hJ⟩ := hJ
  obtain ⟨u44, hJ⟩ := hJ
  obtain ⟨u45, hJ⟩ := hJ
  obtain ⟨u46, hJ⟩ := hJ
  obtain ⟨u47, hJ⟩ := hJ
  obtain ⟨u48, hJ⟩ := hJ
  obtain ⟨u49, hJ⟩ := hJ
  obtain ⟨u50, hJ⟩ := hJ
  obtain ⟨u51, hJ⟩ := hJ
  obtain ⟨u52, hJ⟩ := hJ
  obtain ⟨u53, hJ⟩ := hJ
  obtain ⟨u54, hJ⟩ := hJ
  obtain ⟨u55, hJ⟩ := hJ
  obtain ⟨u56, hJ⟩ := hJ
  obtain ⟨u57, hJ⟩ := hJ
  obtain ⟨u58, hJ⟩ := hJ
  obtain ⟨u59, hJ⟩ := hJ
  obtain ⟨u60, hJ⟩ := hJ
  obtain ⟨u61, hJ⟩ := hJ
  obtain ⟨u62, hJ⟩ := hJ
  obtain ⟨u63, hJ⟩ := hJ
  obtain ⟨u64, hJ⟩ := hJ
  obtain ⟨u65, hJ⟩ := hJ
  obtain ⟨u66, hJ⟩ := hJ
  obtain ⟨u67, hJ⟩ := hJ
  obtain ⟨u68, hJ⟩ := hJ
  obtain ⟨u69, hJ⟩ := hJ
  obtain ⟨u70, hJ⟩ := hJ
  obtain ⟨u71, hJ⟩ := hJ
  obtain ⟨u72, hJ⟩ := hJ
  obtain ⟨u73, hJ⟩ := hJ
  obtain ⟨u74, hJ⟩ := hJ
  obtain ⟨u75, hJ⟩ := hJ
  obtain ⟨u76, hJ⟩ := hJ
  obtain ⟨u77, hJ⟩ := hJ
  obtain ⟨u78, hJ⟩ := hJ
  obtain ⟨u79, hJ⟩ := hJ
  obtain ⟨u80, hJ⟩ := hJ
  obtain ⟨u81, hJ⟩ := hJ
  obtain ⟨u82, hJ⟩ := hJ
  obtain ⟨u83, hJ⟩ := hJ
  obtain ⟨u84, hJ⟩ := hJ
  obtain ⟨u85, hJ⟩ := hJ
  obtain ⟨u86, hJ⟩ := hJ
  obtain ⟨u87, hJ⟩ := hJ
  obtain ⟨u88, hJ⟩ := hJ
  obtain ⟨u89, hJ⟩ := hJ
  obtain ⟨u90, hJ⟩ := hJ
  obtain ⟨u91, hJ⟩ := hJ
  obtain ⟨u92, hJ⟩ := hJ
  obtain ⟨u93, hJ⟩ := hJ
  obtain ⟨u94, hJ⟩ := hJ
  obtain ⟨u95, hJ⟩ := hJ
  obtain ⟨u96, hJ⟩ := hJ
  obtain ⟨u97, hJ⟩ := hJ
  obtain ⟨u98, hJ⟩ := hJ
  obtain ⟨u99, hJ⟩ := hJ
  obtain ⟨u100, hJ⟩ := hJ
  obtain ⟨u101, hJ⟩ := hJ
  obtain ⟨u102, hJ⟩ := hJ
  obtain ⟨u103, hJ⟩ := hJ
  obtain ⟨u104, hJ⟩ := hJ
  obtain ⟨u105, hJ⟩ := hJ
  obtain ⟨u106, hJ⟩ := hJ
  obtain ⟨u107, hJ⟩ := hJ
  obtain ⟨u108, hJ⟩ := hJ
  obtain ⟨u109, hJ⟩ := hJ
  obtain ⟨u110, hJ⟩ := hJ
  obtain ⟨u111, hJ⟩ := hJ
  obtain ⟨u112, hJ⟩ := hJ
  obtain ⟨u113, hJ⟩ := hJ
  obtain ⟨u114, hJ⟩ := hJ
  obtain ⟨u115, hJ⟩ := hJ
  obtain ⟨u116, hJ⟩ := hJ
  obtain ⟨u117, hJ⟩ := hJ
  obtain ⟨u118, hJ⟩ := hJ
  obtain ⟨u119, hJ⟩ := hJ
  obtain ⟨u120, hJ⟩ := hJ
  obtain ⟨u121, hJ⟩ := hJ
  obtain ⟨u122, hJ⟩ := hJ
  obtain ⟨u123, hJ⟩ := hJ
  obtain ⟨u124, hJ⟩ := hJ
  obtain ⟨u125, hJ⟩ := hJ
  obtain ⟨u126, hJ⟩ := hJ
  obtain ⟨u127, hJ⟩ := hJ
  obtain ⟨u128, hJ⟩ := hJ
  obtain ⟨u129, hJ⟩ := hJ
  obtain ⟨u130, hJ⟩ := hJ
  obtain ⟨u131, hJ⟩ := hJ
  obtain ⟨u132, hJ⟩ := hJ
  obtain ⟨u133, hJ⟩ := hJ
  obtain ⟨u134, hJ⟩ := hJ
  obtain ⟨u135, hJ⟩ := hJ
  obtain ⟨u136, hJ⟩ := hJ
  obtain ⟨u137, hJ⟩ := hJ
  obtain ⟨u138, hJ⟩ := hJ
  obtain ⟨u139, hJ⟩ := hJ
  obtain ⟨u140, hJ⟩ := hJ
  obtain ⟨u141, hJ⟩ := hJ
  obtain ⟨u142, hJ⟩ := hJ
  obtain ⟨u143, hJ⟩ := hJ
  obtain ⟨u144, hJ⟩ := hJ
  obtain ⟨u145, hJ⟩ := hJ
  obtain ⟨u146, hJ⟩ := hJ
  obtain ⟨u147, hJ⟩ := hJ
  obtain ⟨u148, hJ⟩ := hJ
  obtain ⟨u149, hJ⟩ := hJ
  obtain ⟨u150, hJ⟩ := hJ
  obtain ⟨u151, hJ⟩ := hJ
  obtain ⟨u152, hJ⟩ := hJ
  obtain ⟨u153, hJ⟩ := hJ
  obtain ⟨u154, hJ⟩ := hJ
  obtain ⟨u155, hJ⟩ := hJ
  obtain ⟨u156, hJ⟩ := hJ
  obtain ⟨u157, hJ⟩ := hJ
  obtain ⟨u158, hJ⟩ := hJ
  obtain ⟨u159, hJ⟩ := hJ
  obtain ⟨u160, hJ⟩ := hJ
  obtain ⟨u161, hJ⟩ := hJ
  obtain ⟨u162, hJ⟩ := hJ
  obtain ⟨u163, hJ⟩ := hJ
  obtain ⟨u164, hJ⟩ := hJ
  obtain ⟨u165, hJ⟩ := hJ
  obtain ⟨u166, hJ⟩ := hJ
  obtain ⟨u167, hJ⟩ := hJ
  obtain ⟨u168, hJ⟩ := hJ
  obtain ⟨u169, hJ⟩ := hJ
  obtain ⟨u170, hJ⟩ := hJ
  obtain ⟨u171, hJ⟩ := hJ
  obtain ⟨u172, hJ⟩ := hJ
  obtain ⟨u173, hJ⟩ := hJ
  obtain ⟨u174, hJ⟩ := hJ
  obtain ⟨u175, hJ⟩ := hJ
  obtain ⟨u176, hJ⟩ := hJ
  obtain ⟨u177, hJ⟩ := hJ
  obtain ⟨u178, hJ⟩ := hJ
  obtain ⟨u179, hJ⟩ := hJ
  obtain ⟨u180, hJ⟩ := hJ
  obtain ⟨u181, hJ⟩ := hJ
  obtain ⟨u182, hJ⟩ := hJ
  obtain ⟨u183, hJ⟩ := hJ
  obtain ⟨u184, hJ⟩ := hJ
  obtain ⟨u185, hJ⟩ := hJ
  obtain ⟨u186, hJ⟩ := hJ
  obtain ⟨u187, hJ⟩ := hJ
  obtain ⟨u188, hJ⟩ := hJ
  obtain ⟨u189, hJ⟩ := hJ
  obtain ⟨u190, hJ⟩ := hJ
  obtain ⟨u191, hJ⟩ := hJ
  obtain ⟨u192, hJ⟩ := hJ
  obtain ⟨u193, hJ⟩ := hJ
  obtain ⟨u194, hJ⟩ := hJ
  obtain ⟨u195, hJ⟩ := hJ
  obtain ⟨u196, hJ⟩ := hJ
  obtain ⟨u197, hJ⟩ := hJ
  obtain ⟨u198, hJ⟩ := hJ
  obtain ⟨u199, hJ⟩ := hJ
  obtain ⟨u200, hJ⟩ := hJ
  obtain ⟨u201, hJ⟩ := hJ
  obtain ⟨u202, hJ⟩ := hJ
  obtain ⟨u203, hJ⟩ := hJ
  obtain ⟨u204, hJ⟩ := hJ
  obtain ⟨u205, hJ⟩ := hJ
  obtain ⟨u206, hJ⟩ := hJ
  obtain ⟨u207, hJ⟩ := hJ
  obtain ⟨u208, hJ⟩ := hJ
  obtain ⟨u209, hJ⟩ := hJ
  obtain ⟨u210, hJ⟩ := hJ
  obtain ⟨u211, hJ⟩ := hJ
  obtain ⟨u212, hJ⟩ := hJ
  obtain ⟨u213, hJ⟩ := hJ
  obtain ⟨u214, hJ⟩ := hJ
  obtain ⟨u215, hJ⟩ := hJ
  obtain ⟨u216, hJ⟩ := hJ
  obtain ⟨u217, hJ⟩ := hJ
  obtain ⟨u218, hJ⟩ := hJ
  obtain ⟨u219, hJ⟩ := hJ
  obtain ⟨u220, hJ⟩ := hJ
  obtain ⟨u221, hJ⟩ := hJ
  obtain ⟨u222, hJ⟩ := hJ
  obtain ⟨u223, hJ⟩ := hJ
  obtain ⟨u224, hJ⟩ := hJ
  obtain ⟨u225, hJ⟩ := hJ
  obtain ⟨u226, hJ⟩ := hJ
  obtain ⟨u227, hJ⟩ := hJ
  obtain ⟨u228, hJ⟩ := hJ
  obtain ⟨u229, hJ⟩ := hJ
  obtain ⟨u230, hJ⟩ := hJ
  obtain ⟨u231, hJ⟩ := hJ
  obtain ⟨u232, hJ⟩ := hJ
  obtain ⟨u233, hJ⟩ := hJ
  obtain ⟨u234, hJ⟩ := hJ
  obtain ⟨u235, hJ⟩ := hJ
  obtain ⟨u236, hJ⟩ := hJ
  obtain ⟨u237, hJ⟩ := hJ
  obtain ⟨u238, hJ⟩ := hJ
  obtain ⟨u239, hJ⟩ := hJ
  obtain ⟨u240, hJ⟩ := hJ
  obtain ⟨u241, hJ⟩ := hJ
  obtain ⟨u242, hJ⟩ := hJ
  obtain ⟨rfl, hi, hn, hk⟩ := hJ
  obtain ⟨ng, f2⟩ := hn.out
  have i0 := hi.out.mant
  have i1 := hi.out.exp
  have i2 := hi.out.bias
  clear hi hn
  cases ng
  · go_wp2_with fail
    go_quiet (fail)
    go_wp2_with fail
    go_step3
    go_wp2_with fail
    go_quiet (fail)
    go_wp2_with fail
    try rw [Exit.noGoto_ret]
    go_ret2
    exact ⟨⟨_, _, rfl⟩, hk.out.drewN _⟩
  · go_wp2_with fail
    go_quiet (fail)
    go_wp2_with fail
    go_step3
    go_wp2_with fail
    go_quiet (fail)
    go_wp2_with fail
    go_quiet (fail)
    go_wp2_with fail
    try rw [Exit.noGoto_ret]
    go_ret2
    exact ⟨⟨_, _, rfl⟩, (hk.out.drewN _).drewN nq⟩
end Go.Proofs.YticdagnbnmnidaaGreatDoor
