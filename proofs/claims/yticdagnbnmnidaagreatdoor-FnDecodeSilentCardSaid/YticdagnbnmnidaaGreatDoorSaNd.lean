/- NewDecoderWithBytes and impl.decoder: a decoder over a text. Conditions: none. The deferred closure of DecodeScript, behind a return: it does nothing. Conditions: none. append of an answer to a slice of answers, as a step of a region that draws. Conditions: none. -/
import Derived.Test.YticdagnbnmnidaaGreatDoorSaDec
import Derived.Test.YticdagnbnmnidaaGreatDoorSaSyn
import Derived.Lib.ConvBytes
import Derived.OwnWalk
import Derived.Test.YticdagnbnmnidaaGreatDoorSaBase
import Derived.Defers
import Derived.Recover
import Derived.Laws.Pointers
import Derived.Test.YticdagnbnmnidaaGreatDoorSaEscA
set_option linter.unusedSimpArgs false
set_option linter.unusedVariables false
namespace Go.Proofs.YticdagnbnmnidaaGreatDoor
open Go.RowKit

/-- What a new decoder is. -/
def NewDec (w : World) (bs : List UInt8) (e : Ending) (w' : World) : Prop :=
  ∃ (c : DC) (s : DS), e = .returned (.pointer (some ⟨c.D, 0, none⟩)) ∧ Dec w' c s ∧ c.bs = bs ∧ s.ok ∧ s.sec = 5 ∧ s.skip = false ∧ Same w w' ∧ w.heap.size ≤ c.base

set_option maxRecDepth 20000 in
set_option maxHeartbeats 1600000 in
theorem newDecoder_any (T n cap : Nat) (bs : List UInt8) (w : World) (hT : Bs w T 0 bs) (hn : n = bs.length) (hc : n ≤ cap) (hcb : cap ≤ 9223372036854775807) (hb : bs.length ≤ 1000000) (hTw : T < w.heap.size) :
    Calls Tryz.prog 67 #[.slice (some ⟨T, 0, none⟩) n cap] w (NewDec w bs) := by
  obtain ⟨i0, hi, hz0, hz1, hz2⟩ := info_parts info5
  have HT := hid hT
  have Hn := hid hn
  clear hT hn
  go_enter Tryz.func67, Tryz.ntmps67
  go_wp2_with (at_make; refine wpList_make_own _ rfl _ _ 75 rfl w.heap.size 5 i0 (.int .u8 0) 1 Tryz.underlying75 hi hz0 hz1 _ _ _ 512 rfl rfl rfl (by rw [hz2]; omega) (by unfold maxLen; omega) (Nat.le_refl _) ?_; intro w1 hown hg)
  go_ret
  have hk1 : Same w w1 := (Keep.refl _ w).grown hg (fun k e _ => by cases e)
  have hk2 : Same w (w1.alloc (.cells #[.nilIface, .slice (some ⟨T, 0, none⟩) n cap, .int .i64 0, .int .i64 0, .bool true, .int .u8 5, .bool false, .slice (some ⟨w.heap.size, 0, none⟩) 0 512, .int .i64 1, .nilIface] 134)) := hk1.alloc _
  refine ⟨⟨w1.heap.size, T, w.heap.size, bs⟩, ⟨n, cap, 0, 0, 5, false, .slice (some ⟨w.heap.size, 0, none⟩) 0 512, [], 1⟩, rfl, ?_, rfl, Nat.le_refl _, rfl, rfl, hk2, Nat.le_refl _⟩
  have hk3 : Same w1 (w1.alloc (.cells #[.nilIface, .slice (some ⟨T, 0, none⟩) n cap, .int .i64 0, .int .i64 0, .bool true, .int .u8 5, .bool false, .slice (some ⟨w.heap.size, 0, none⟩) 0 512, .int .i64 1, .nilIface] 134)) := (Keep.refl _ _).alloc _
  exact {
    row := Row.new _ _ _
    text := HT.out.same hk2
    esc := hown.kept (row := none) ⟨hk3.os, hk3.tape, hk3.output, hk3.size, fun k hk' _ => hk3.block k hk' id⟩ (.inr (by simp [Value.ownBlock]))
    base_le := hk2.size
    L_le := by show n ≤ bs.length; have := Hn.out; omega
    cap_le := hc
    r0_le := Nat.le_refl _
    r1_le := Nat.zero_le _
    big := hb
    capBig := hcb
    D_T := by show w1.heap.size ≠ T; have := hk1.size; omega
    base_D := hk1.size
    base_T := hTw }

set_option maxRecDepth 20000 in
set_option maxHeartbeats 1600000 in
theorem decoder_any (s : ByteArray) (w : World) (hs : s.size ≤ 1000000) : Calls Tryz.prog 33 #[.string s, .slice none 0 0, .bool false] w (NewDec w s.data.toList) := by
  have hcv := Lib.run_convert_string_bytes (P := Tryz.prog) w 9 75 5 s Tryz.underlying9 Tryz.underlying75 Tryz.underlying5
  have hsz := Lib.bytesWorld_size w 5 s
  have hbs : Bs (Lib.bytesWorld w 5 s) w.heap.size 0 s.data.toList := fun i hi => by
    have e := Lib.bytesWorld_cell w 5 s i (by simpa using hi)
    simpa using e
  have hkw : Same w (Lib.bytesWorld w 5 s) := ⟨rfl, rfl, rfl, by rw [hsz]; omega, fun k hk _ => Lib.bytesWorld_at_old w 5 s k hk⟩
  have hcap1 := grownCap_ge w s.size 0 5
  have hcap2 := grownCap_le_maxLen w s.size 0 5 (by unfold maxLen; omega)
  have hl : s.data.toList.length = s.size := Array.length_toList
  have hnd := newDecoder_any w.heap.size s.size (grownCap w s.size 0 5) s.data.toList (Lib.bytesWorld w 5 s) hbs hl.symm hcap1 hcap2 (by rw [hl]; exact hs) (by rw [hsz]; omega)
  have HK := hid hkw
  have HS := hid hsz
  have HN := hid hnd
  clear hbs hkw hcap1 hcap2 hnd hsz hl
  generalize Lib.bytesWorld w 5 s = w1 at *
  generalize grownCap w s.size 0 5 = cap at *
  go_enter Tryz.func33, Tryz.ntmps33
  go_wp2_with fail
  refine HN.out.mono ?_
  rintro e w2 ⟨c, d, rfl, hd, hb, hok, hsec, hsk, hk2, hbase⟩
  have H1 := hid hd
  have H2 := hid hk2
  clear hd hk2
  go_wp2_with fail
  go_ret
  exact ⟨c, d, rfl, H1.out, hb, hok, hsec, hsk, HK.out.trans H2.out, Nat.le_trans HK.out.size hbase⟩
end Go.Proofs.YticdagnbnmnidaaGreatDoor
namespace Go.Proofs.YticdagnbnmnidaaGreatDoor
open Go.RowKit

theorem catch_idle (p q r : Value) (w : World) :
    CallsD Tryz.prog 36 #[p, q, r] .returning w fun e u' w' => e = .returned (.tuple #[]) ∧ u' = .returning ∧ w' = w := by
  refine callsD_of_wpS Tryz.func36 rfl fun c₀ cs hu => ?_
  apply wpS_seq
  apply wpS_region
  simp [wpOpsS, go_sem, recoverD, hu, Tryz.ntmps36, Exit.thenS]
  refine wpS_cond (t := false) (by simp [Act.eval, Array.replicate]) ?_
  simp only [Bool.false_eq_true, if_false]
  refine wpS_of_wp (wp_skip ?_)
  cases c₀
  simp_all [bodyPostS, results, Tryz.results36]
end Go.Proofs.YticdagnbnmnidaaGreatDoor
namespace Go.Proofs.YticdagnbnmnidaaGreatDoor
open Go.RowKit

theorem info63z : (Tryz.prog.info? 63).map (fun i => (i.size, i.bytes, i.zero.map (·.cells.size))) = some (15, 144, some 15) := by kernel_rfl

theorem step_append_told {ops : Array Oper} {o : Oper} {a : Act} {w : World} {K : Act → World → Prop} {Q : Exit → Act → World → Prop} {E : Prop}
    (hgd : o.guard = none) (s x : Operand) (ho : o.op = .call { callee := .builtin .append, args := #[s, x], argTypes := #[55, 55] })
    (base : Nat) (v : Value) (n : Nat) (xs : List Value) (hown : w.ownsRow base 63 15 v n xs) (g : Nat) (cs : Array Value) (hr : Row w g 63 cs) (hcs : cs.size = 15) (h1 : cs.all (·.oneCell') = true)
    (hs : a.eval s = v) (hx : a.eval x = .slice (some ⟨g, 0, none⟩) 1 1) (hn : n ≤ 100000) (hb : base ≤ w.heap.size)
    (h : ∀ v' w', w'.ownsRow base 63 15 v' (n + 1) (xs ++ cs.toList) → w.grownBy w' v.ownBlock → K (a.put o.dst v') w') :
    if Region.wanted o (yielded ops a.tmps) = true then Oper.wp Tryz.prog o a w K Q else E := by
  have hw : Region.wanted o (yielded ops a.tmps) = true := by simp [Region.wanted, hgd]
  rw [if_pos hw]
  obtain ⟨i, hi, hi2⟩ := Option.map_eq_some_iff.1 info63z
  injection hi2 with e1 e2
  injection e2 with e3 e4
  obtain ⟨z, hz, hzs⟩ := Option.map_eq_some_iff.1 e4
  obtain ⟨v', w', hrun, hown', hg, -⟩ := run_append_own (P := Tryz.prog) w base 55 o.type 63 i z 15 144 Tryz.underlying55 hi hz e1 e3 hzs (by decide) v n xs hown ⟨g, 0, none⟩ 1 1 cs.toList (by simp [hcs]) (fun j u hj => by
      have e : (⟨g, 0, none⟩ : Addr).add j = ⟨g, j, none⟩ := by unfold Addr.add; split <;> simp_all
      rw [e, hr.cell j]
      simpa using hj) (fun u hu => (Array.all_eq_true_iff_forall_mem.1 h1) u (by simpa using hu)) (by unfold maxLen; omega) (by omega) hb
  unfold Oper.wp execOp
  simp only [ho, resolve, invoke, builtin, Sem.run_bind, Sem.run_pure, Result.andThen_ok, List.map_toArray, List.map_cons, List.map_nil, hs, hx, hrun]
  exact h v' w' hown' hg
end Go.Proofs.YticdagnbnmnidaaGreatDoor
