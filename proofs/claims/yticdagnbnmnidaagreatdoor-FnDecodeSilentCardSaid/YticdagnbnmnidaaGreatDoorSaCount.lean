/- zzCount of a single byte, and how long a text is when it is escaped. Conditions: none. The error variables that the decoder reads. Conditions: none. How newValueFromBytes hands back. Conditions: none. -/
import Derived.Test.YticdagnbnmnidaaGreatDoorSaSect
import Derived.Lib.Strings
import Derived.Test.YticdagnbnmnidaaGreatDoorSaTake
import Derived.Test.YticdagnbnmnidaaGreatDoorSaTail
import Derived.LaidEql
import Derived.Test.YticdagnbnmnidaaGreatDoorSaBase
import Derived.Laws.ResultCell
import Derived.Laws.Rows
set_option linter.unusedSimpArgs false
set_option linter.unusedVariables false
namespace Go.Proofs.YticdagnbnmnidaaGreatDoor
open Go.RowKit

/-- how many of the first k bytes are b -/
def cntB (s : ByteArray) (b : UInt8) (k : Nat) : Nat := (s.data.toList.take k).count b
theorem cntB_le (s : ByteArray) (b : UInt8) (k : Nat) : cntB s b k ≤ k := by
  unfold cntB
  exact Nat.le_trans List.count_le_length (List.length_take_le _ _)
theorem cntB_succ (s : ByteArray) (b : UInt8) {k : Nat} (h : k < s.size) : cntB s b (k + 1) = cntB s b k + if s[k] = b then 1 else 0 := by
  unfold cntB
  have e : s.data.toList.take (k + 1) = s.data.toList.take k ++ [s[k]] := by
    rw [List.take_succ_eq_append_getElem (by simpa using h)]; rfl
  rw [e, List.count_append, List.count_singleton]
  by_cases hb : s[k] = b <;> simp [hb]
theorem piece_one (s : ByteArray) {k : Nat} (h : k < s.size) : (s.extract k (k + 1)).toList = [s[k]] := by
  rw [Lib.extract_toList, Nat.add_sub_cancel_left]
  have h' : k < s.data.toList.length := by simpa using h
  rw [List.drop_eq_getElem_cons h']
  rfl

set_option maxRecDepth 20000 in
set_option maxHeartbeats 800000 in
theorem zzCount_byte (s : ByteArray) (b : UInt8) (w : World) (hs : s.size ≤ 3000000) :
    Calls Tryz.prog 195 #[.string s, .string ⟨#[b]⟩] w fun e w' => e = .returned (.int .i64 (cntB s b s.size : Nat)) ∧ w = w' := by
  go_enter Tryz.func195, Tryz.ntmps195
  go_wp2_with fail
  go_loop [5, 6] (fun t i => ∃ k : Nat, k ≤ s.size ∧ i = .int .i64 k ∧ t = .int .i64 (cntB s b k : Nat)) (fun _ i => s.size - (intOf i).toNat)
  case atStart => exact ⟨0, Nat.zero_le _, rfl, rfl⟩
  case round =>
    obtain ⟨k, hk, rfl, rfl⟩ := hrel
    have hcl := cntB_le s b k
    by_cases hkn : k < s.size
    · have Hs := hid (cntB_succ s b hkn)
      have hp := piece_one s hkn
      by_cases hb : s[k] = b
      · have he : ((s.extract k (k + 1)).toList == [b]) = true := by rw [hp, hb]; simp
        have Hb := hid hb
        clear hp hb
        go_wp2_with fail
        go_round
        case rel => exact ⟨k + 1, by omega, by go_num, by rw [Hs.out, if_pos Hb.out]; go_num⟩
        case measure => simp [intOf]; omega
      · have he : ((s.extract k (k + 1)).toList == [b]) = false := by rw [hp]; simpa using hb
        have Hb := hid hb
        clear hp hb
        go_wp2_with fail
        go_round
        case rel => exact ⟨k + 1, by omega, by go_num, by rw [Hs.out, if_neg Hb.out]; simp⟩
        case measure => simp [intOf]; omega
    · obtain rfl : k = s.size := by omega
      go_wp2_with fail
      go_ret
      exact ⟨rfl, rfl⟩

theorem piece_str (t : Array UInt8) {k : Nat} (h : k < t.size) : (ByteArray.mk t).extract k (k + 1) = ⟨#[t[k]]⟩ := by
  have e := Lib.extract_data (ByteArray.mk t) k (k + 1)
  have h' : k < t.toList.length := by simpa using h
  rw [Nat.add_sub_cancel_left] at e
  have e2 : ((ByteArray.mk t).data.toList.drop k).take 1 = [t[k]] := by
    show (t.toList.drop k).take 1 = _
    rw [List.drop_eq_getElem_cons h']
    rfl
  rw [e2] at e
  have e3 : ((ByteArray.mk t).extract k (k + 1)).data = #[t[k]] := Array.toList_inj.1 e
  exact ByteArray.ext e3
/-- an escaper's bytes stand there -/
structure EscAt (w : World) (g : Nat) (t : Array UInt8) : Prop where
  cell : w.cell? ⟨g, 512, none⟩ = some (.string ⟨t⟩)

/-- how much longer a text is escaped, by the first k of an escaper's bytes -/
def moreBy (s : ByteArray) : List UInt8 → Nat
  | [] => 0
  | b :: l => cntB s b s.size + moreBy s l
theorem moreBy_snoc (s : ByteArray) (b : UInt8) (l : List UInt8) : moreBy s (l ++ [b]) = moreBy s l + cntB s b s.size := by
  induction l with
  | nil => simp [moreBy]
  | cons a l ih => simp only [List.cons_append, moreBy, ih]; omega
theorem moreBy_le (s : ByteArray) (l : List UInt8) : moreBy s l ≤ l.length * s.size := by
  induction l with
  | nil => simp [moreBy]
  | cons a l ih =>
    have := cntB_le s a s.size
    simp only [moreBy, List.length_cons, Nat.add_mul]
    omega

/-- bytes 44, 61, 32: what escapedLen says of a key -/
theorem escLen_count (l : List Nat) (hl : ∀ b ∈ l, b < 256) : escLen l = l.length + (l.count 44 + l.count 61 + l.count 32) := by
  induction l with
  | nil => rfl
  | cons c l ih =>
    have h1 := ih fun b hb => hl b (by simp [hb])
    simp only [escLen, h1, List.length_cons, List.count_cons, beq_iff_eq]
    split
    · rename_i h
      rcases h with rfl | rfl | rfl <;> simp <;> omega
    · rename_i h
      have e1 : ¬ c = 44 := fun e => h (.inl e)
      have e2 : ¬ c = 61 := fun e => h (.inr (.inl e))
      have e3 : ¬ c = 32 := fun e => h (.inr (.inr e))
      rw [if_neg e1, if_neg e2, if_neg e3]
      omega

set_option maxRecDepth 20000 in
set_option maxHeartbeats 800000 in
theorem escapedLen_any (g : Nat) (t : Array UInt8) (s : ByteArray) (w : World) (hg : w.cell? ⟨g, 512, none⟩ = some (.string ⟨t⟩)) (ht : t.size ≤ 5) (hs : s.size ≤ 3000000) :
    Calls Tryz.prog 142 #[.pointer (some ⟨g, 0, none⟩), .string s] w fun e w' => e = .returned (.int .i64 (s.size + moreBy s t.toList : Nat)) ∧ w = w' := by
  go_enter Tryz.func142, Tryz.ntmps142
  go_wp2_with fail
  go_loop [5, 6] (fun a i => ∃ k : Nat, k ≤ t.size ∧ i = .int .i64 k ∧ a = .int .i64 (s.size + moreBy s (t.toList.take k) : Nat)) (fun _ i => t.size - (intOf i).toNat)
  case atStart => exact ⟨0, Nat.zero_le _, rfl, by simp [moreBy]⟩
  case round =>
    obtain ⟨k, hk, rfl, rfl⟩ := hrel
    by_cases hkn : k < t.size
    · have hm := moreBy_le s (t.toList.take k)
      have hl : (t.toList.take k).length ≤ 5 := by rw [List.length_take]; simp; omega
      have hm2 : moreBy s (t.toList.take k) ≤ 15000000 := Nat.le_trans hm (Nat.le_trans (Nat.mul_le_mul hl hs) (by omega))
      have hcb := cntB_le s t[k] s.size
      have hsn : Hid (moreBy s (t.toList.take (k + 1)) = moreBy s (t.toList.take k) + cntB s t[k] s.size) := by
        have e : t.toList.take (k + 1) = t.toList.take k ++ [t[k]] := by
          rw [List.take_succ_eq_append_getElem (by simpa using hkn)]; simp
        show _ = _
        rw [e, moreBy_snoc]
      have Hp := hid (piece_str t hkn)
      clear hm hl
      go_wp2_with fail
      rw [Hp.out]
      refine (zzCount_byte s t[k] _ hs).mono ?_
      rintro e w1 ⟨rfl, rfl⟩
      go_wp2_with fail
      go_round
      case rel => exact ⟨k + 1, by omega, by go_num, by rw [hsn.out]; go_num⟩
      case measure => simp [intOf]; omega
    · obtain rfl : k = t.size := by omega
      go_wp2_with fail
      go_ret
      have e : t.toList.take t.size = t.toList := List.take_of_length_le (by simp)
      exact ⟨by rw [e]; simp, rfl⟩
end Go.Proofs.YticdagnbnmnidaaGreatDoor
namespace Go.Proofs.YticdagnbnmnidaaGreatDoor
open Go.RowKit

/-- a variable holds a pointer to an error of errors.New -/
structure EPtr (w : World) (g : Nat) (a : Addr) : Prop where
  cell : w.cell? ⟨g, 0, none⟩ = some (.iface 240 (.pointer (some a)))
  row : ∃ cs t, w.heap[a.block]? = some (.cells cs t (0, 0))
/-- the four variables: ErrValueOutOfRange, ErrRange, errInvalidBool, ErrSyntax -/
structure EVars (w : World) (a0 a4 a5 a10 : Addr) : Prop where
  oor : EPtr w 0 a0
  rng : EPtr w 4 a4
  bad : EPtr w 5 a5
  syn : EPtr w 10 a10

theorem EPtr.lay {w0 w : World} {g : Nat} {a : Addr} (h : EPtr w0 g a) (hl : Lay w0 w) : EPtr w g a := by
  obtain ⟨hc, cs, t, hr⟩ := h
  refine ⟨?_, cs, t, ?_⟩
  · rw [← hc]; exact World.cell?_of_block (hl g (lt_of_cell hc))
  · rw [hl a.block (Array.getElem?_eq_some_iff.1 hr).1]; exact hr
theorem EPtr.same {w w' : World} {g : Nat} {a : Addr} (h : EPtr w g a) (hk : Same w w') : EPtr w' g a := by
  obtain ⟨hc, cs, t, hr⟩ := h
  refine ⟨?_, cs, t, ?_⟩
  · rw [← hc]; exact World.cell?_of_block (hk.block g (lt_of_cell hc) id)
  · rw [hk.block a.block (Array.getElem?_eq_some_iff.1 hr).1 id]; exact hr
theorem EVars.lay {w0 w : World} {a0 a4 a5 a10 : Addr} (h : EVars w0 a0 a4 a5 a10) (hl : Lay w0 w) : EVars w a0 a4 a5 a10 := ⟨h.oor.lay hl, h.rng.lay hl, h.bad.lay hl, h.syn.lay hl⟩
theorem EVars.same {w w' : World} {a0 a4 a5 a10 : Addr} (h : EVars w a0 a4 a5 a10) (hk : Same w w') : EVars w' a0 a4 a5 a10 := ⟨h.oor.same hk, h.rng.same hk, h.bad.same hk, h.syn.same hk⟩

theorem info240 : (Tryz.prog.info? 240).map (·.comparable) = some true := by kernel_rfl
theorem info242 : (Tryz.prog.info? 242).map (·.size) = some 1 := by kernel_rfl
/-- Two pointers to errors of errors.New are compared by their addresses. -/
theorem eql_errs {w : World} {a b : Addr} {ca cb : Array Value} {ta tb : TypeId} (ha : w.heap[a.block]? = some (.cells ca ta (0, 0))) (hb : w.heap[b.block]? = some (.cells cb tb (0, 0))) :
    ∃ t : Bool, ∀ m, (binOp .eql 80 (.iface 240 (.pointer (some a))) (.iface 240 (.pointer (some b)))).run Tryz.prog (w.drewN m) = .ok (.bool t) (w.drewN m) := by
  obtain ⟨i, hi, hcmp⟩ := Option.map_eq_some_iff.1 info240
  obtain ⟨j, hj, hjs⟩ := Option.map_eq_some_iff.1 info242
  by_cases e : a = b
  · subst e
    exact ⟨true, fun m => run_eql_iface_ptr_same (P := Tryz.prog) (w.drewN m) a Tryz.underlying80 Tryz.underlying240 hi hcmp hj⟩
  · exact ⟨false, fun m => run_eql_iface_ptr_other (P := Tryz.prog) (w.drewN m) Tryz.underlying80 Tryz.underlying240 hi hcmp hj (by rw [hjs]; decide) e ha hb⟩
end Go.Proofs.YticdagnbnmnidaaGreatDoor
namespace Go.Proofs.YticdagnbnmnidaaGreatDoor
open Go.RowKit

theorem info102 : (Tryz.prog.info? 102).map (·.size) = some 3 := by kernel_rfl
theorem ret106 {Q : Ending → World → Prop} {a : Act} {W : World} {g : Nat} {c0 c1 c2 x : Value} (h6 : a.tmps.getD 6 undef = .pointer (some ⟨g, 0, none⟩)) (h7 : a.tmps.getD 7 undef = x)
    (hr : Row W g 102 #[c0, c1, c2]) (hQ : Q (.returned (.tuple #[.agg #[c0, c1, c2], x])) W) (hd : a.defers = []) : bodyPost Tryz.prog Tryz.f106 Q Exit.ret a W := by
  refine bodyPost_ret (v := .tuple #[.agg #[c0, c1, c2], x]) ?_ hd hQ
  rw [results_cell_tmp Tryz.results106, h6, h7]
  simp [asAddr, run_loadVar_row W g 102 102 _ _ _ hr Tryz.underlying102 rfl info102, Result.andThen, Sem.run]
end Go.Proofs.YticdagnbnmnidaaGreatDoor
