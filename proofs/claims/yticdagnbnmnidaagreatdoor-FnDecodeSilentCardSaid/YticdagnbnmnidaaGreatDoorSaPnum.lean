/- Bytes turned into a string; parseFloatBytes. Conditions: none. parseIntBytes and parseUintBytes. Conditions: none. -/
import Derived.Test.YticdagnbnmnidaaGreatDoorSaFat
import Derived.Test.YticdagnbnmnidaaGreatDoorSaTake
import Derived.Laws.IdiomStrings
import Derived.Laws.BytesArg
import Derived.Lib.ConvBytes
set_option linter.unusedSimpArgs false
set_option linter.unusedVariables false
namespace Go.Proofs.YticdagnbnmnidaaGreatDoor
open Go.RowKit

/-- bytes that can be read make a string -/
theorem rd_string {w : World} {v : Value} {n : Nat} {f : Nat → Nat} (h : Rd w v n f) : ∃ s : ByteArray, s.size = n ∧ (convert 75 9 v).run Tryz.prog w = .ok (.string s) w := by
  obtain ⟨⟨A, cap, rfl, h1, h2, h3⟩, h4⟩ := h
  have hl : ((List.range n).map (fun j => UInt8.ofNat (f j))).length = n := by simp
  cases A with
  | none =>
    have hn : n = 0 := by
      rcases Nat.eq_zero_or_pos n with h | h
      · exact h
      · obtain ⟨T, off, he, -⟩ := h3 h; cases he
    subst hn
    exact ⟨ByteArray.empty, rfl, run_convert_bytes_nil (P := Tryz.prog) w 75 5 Tryz.underlying75 Tryz.underlying5 0 cap 9 Tryz.underlying9⟩
  | some a =>
    refine ⟨⟨((List.range n).map (fun j => UInt8.ofNat (f j))).toArray⟩, by simp [ByteArray.size], ?_⟩
    have key := run_convert_bytes_back (P := Tryz.prog) w 75 9 5 a cap ((List.range n).map (fun j => UInt8.ofNat (f j))) Tryz.underlying75 Tryz.underlying5 Tryz.underlying9 (fun j hj => by
      rw [hl] at hj
      obtain ⟨T, off, he, hc⟩ := h3 (by omega)
      cases he
      have hlt := h4 j hj
      have e : (UInt8.ofNat (f j)).toNat = f j := by simp; omega
      simp only [List.getElem_map, List.getElem_range, e]
      have hc2 := hc j hj
      by_cases h0 : j = 0
      · subst h0; simpa [Addr.add] using hc2
      · simpa [Addr.add, h0] using hc2)
    rw [hl] at key
    exact key

set_option maxRecDepth 20000 in
set_option maxHeartbeats 1600000 in
/-- parseFloatBytes -/
theorem floatBytes_any (v : Value) (n : Nat) (f : Nat → Nat) (es er : Value) (w w0 : World) (hr : Rd w v n f) (hl : Lay w0 w) (ht : FTabs w0) (hz : 25 < w0.heap.size) (hn : n ≤ 3000000) (he : ErrAt w es er) :
    Calls Tryz.prog 176 #[v, .int .i64 64] w (GivesPF es er w) := by
  obtain ⟨s, hs, hc⟩ := rd_string hr
  have hs' : s.size ≤ 3000000 := by omega
  have HL := hid hl
  have HTT := hid ht
  have HE := hid he
  clear hl ht he hr hs hn
  go_enter Tryz.func176, Tryz.ntmps176
  go_wp2_with fail
  refine (parseFloat_any s es er _ w0 HL.out HTT.out hz hs' HE.out).mono ?_
  rintro e w1 ⟨⟨m, x, rfl, hx⟩, hk⟩
  have Hk := hid hk
  have Hx := hid hx
  clear hk hx
  go_wp2_with fail
  go_ret2
  exact ⟨⟨_, _, rfl, Hx.out⟩, Hk.out⟩
end Go.Proofs.YticdagnbnmnidaaGreatDoor
namespace Go.Proofs.YticdagnbnmnidaaGreatDoor
open Go.RowKit

/-- what ParseInt and ParseUint hand back -/
def GivesPI (k : IntKind) (es er : Value) (w : World) (e : Ending) (w' : World) : Prop :=
  (∃ (n : Int) (x : Value), e = .returned (.tuple #[.int k n, x]) ∧ (x = .nilIface ∨ ∃ ev, (ev = es ∨ ev = er) ∧ NumErr w' w.heap.size ev x)) ∧ Same w w'

theorem bytesWorld_same (w : World) (s : ByteArray) : Same w (Lib.bytesWorld w 5 s) :=
  ⟨rfl, rfl, rfl, by rw [Lib.bytesWorld_size]; omega, fun k hk _ => Lib.bytesWorld_at_old w 5 s k hk⟩

theorem parseInt_any (s : ByteArray) (es er : Value) (w : World) (hs : s.size ≤ 3000000) (he : ErrAt w es er) : Calls Tryz.prog 216 #[.string s, .int .i64 10, .int .i64 64] w (GivesPI .i64 es er w) := by
  cases h : Lib.parseIntB 64 s.data.toList with
  | ok v =>
    refine (Tryz.strconv_ParseInt_10_at64_ok s (by omega) v h w).mono ?_
    rintro e w' ⟨rfl, rfl | ⟨t, rfl⟩⟩
    · exact ⟨⟨_, _, rfl, .inl rfl⟩, Keep.refl _ _⟩
    · exact ⟨⟨_, _, rfl, .inl rfl⟩, bytesWorld_same _ _⟩
  | range =>
    refine (Tryz.strconv_ParseInt_10_at64_range s (by omega) h er w he.rng (.inr he.rng')).mono ?_
    rintro e w' ⟨N, rfl, hN, hc, hb⟩
    exact ⟨⟨_, _, rfl, .inr ⟨er, .inr rfl, N, _, _, rfl, hN, hc⟩⟩, Keep.of_below hb⟩
  | _ =>
    refine (Tryz.strconv_ParseInt_10_at64_syntax s (by omega) (h.trans (by rfl)) es w he.syn (.inr he.syn')).mono ?_
    rintro e w' ⟨N, rfl, hN, hc, hb⟩
    exact ⟨⟨_, _, rfl, .inr ⟨es, .inl rfl, N, _, _, rfl, hN, hc⟩⟩, Keep.of_below hb⟩

theorem parseUint_any (s : ByteArray) (es er : Value) (w : World) (hs : s.size ≤ 3000000) (he : ErrAt w es er) : Calls Tryz.prog 217 #[.string s, .int .i64 10, .int .i64 64] w (GivesPI .u64 es er w) := by
  cases h : Lib.parseUintB 64 s.data.toList with
  | ok v =>
    refine (Tryz.strconv_ParseUint_10_at64_ok s (by omega) v h w).mono ?_
    rintro e w' ⟨rfl, rfl | rfl⟩
    · exact ⟨⟨_, _, rfl, .inl rfl⟩, Keep.refl _ _⟩
    · exact ⟨⟨_, _, rfl, .inl rfl⟩, bytesWorld_same _ _⟩
  | range =>
    refine (Tryz.strconv_ParseUint_10_at64_range s (by omega) h er w he.rng (.inr he.rng')).mono ?_
    rintro e w' ⟨N, rfl, hN, hc, hb⟩
    exact ⟨⟨_, _, rfl, .inr ⟨er, .inr rfl, N, _, _, rfl, hN, hc⟩⟩, Keep.of_below hb⟩
  | _ =>
    refine (Tryz.strconv_ParseUint_10_at64_syntax s (by omega) (h.trans (by rfl)) es w he.syn (.inr he.syn')).mono ?_
    rintro e w' ⟨N, rfl, hN, hc, hb⟩
    exact ⟨⟨_, _, rfl, .inr ⟨es, .inl rfl, N, _, _, rfl, hN, hc⟩⟩, Keep.of_below hb⟩

set_option maxRecDepth 20000 in
set_option maxHeartbeats 1600000 in
/-- parseIntBytes -/
theorem intBytes_any (v : Value) (n : Nat) (f : Nat → Nat) (es er : Value) (w : World) (hr : Rd w v n f) (hn : n ≤ 3000000) (he : ErrAt w es er) :
    Calls Tryz.prog 173 #[v, .int .i64 10, .int .i64 64] w (GivesPI .i64 es er w) := by
  obtain ⟨s, hs, hc⟩ := rd_string hr
  have hs' : s.size ≤ 3000000 := by omega
  have HE := hid he
  clear he hr hs hn
  go_enter Tryz.func173, Tryz.ntmps173
  go_wp2_with fail
  refine (parseInt_any s es er _ hs' HE.out).mono ?_
  rintro e w1 ⟨⟨m, x, rfl, hx⟩, hk⟩
  have Hk := hid hk
  have Hx := hid hx
  clear hk hx
  go_wp2_with fail
  go_ret2
  exact ⟨⟨_, _, rfl, Hx.out⟩, Hk.out⟩

set_option maxRecDepth 20000 in
set_option maxHeartbeats 1600000 in
/-- parseUintBytes -/
theorem uintBytes_any (v : Value) (n : Nat) (f : Nat → Nat) (es er : Value) (w : World) (hr : Rd w v n f) (hn : n ≤ 3000000) (he : ErrAt w es er) :
    Calls Tryz.prog 175 #[v, .int .i64 10, .int .i64 64] w (GivesPI .u64 es er w) := by
  obtain ⟨s, hs, hc⟩ := rd_string hr
  have hs' : s.size ≤ 3000000 := by omega
  have HE := hid he
  clear he hr hs hn
  go_enter Tryz.func175, Tryz.ntmps175
  go_wp2_with fail
  refine (parseUint_any s es er _ hs' HE.out).mono ?_
  rintro e w1 ⟨⟨m, x, rfl, hx⟩, hk⟩
  have Hk := hid hk
  have Hx := hid hx
  clear hk hx
  go_wp2_with fail
  go_ret2
  exact ⟨⟨_, _, rfl, Hx.out⟩, Hk.out⟩

set_option maxRecDepth 20000 in
set_option maxHeartbeats 1600000 in
/-- parseBoolBytes -/
theorem boolBytes_any (v : Value) (n : Nat) (f : Nat → Nat) (es er : Value) (w : World) (hr : Rd w v n f) (hb : w.cell? ⟨5, 0, none⟩ = some es) :
    Calls Tryz.prog 177 #[v] w fun e w' => (∃ (b : Int) (x : Value), (b = 0 ∨ b = 1) ∧ e = .returned (.tuple #[.int .u8 b, x]) ∧ (x = .nilIface ∨ x = es)) ∧ Same w w' := by
  obtain ⟨s, hs, hc⟩ := rd_string hr
  clear hr hs
  go_enter Tryz.func177, Tryz.ntmps177
  go_wp2_with fail
  all_goals first
    | (go_ret2; exact ⟨⟨_, _, .inr rfl, rfl, .inl rfl⟩, Keep.refl _ _⟩)
    | (go_ret2; exact ⟨⟨_, _, .inl rfl, rfl, .inl rfl⟩, Keep.refl _ _⟩)
    | (go_quiet (fail); go_wp2_with fail; go_ret2; exact ⟨⟨_, _, .inl rfl, rfl, .inr rfl⟩, (Keep.refl _ _).drewN _⟩)
end Go.Proofs.YticdagnbnmnidaaGreatDoor
