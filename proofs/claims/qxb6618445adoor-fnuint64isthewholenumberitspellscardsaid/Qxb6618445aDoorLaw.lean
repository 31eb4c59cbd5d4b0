/-
  Walks of Uint64 (8) and of the law (3).
-/
import Derived.Test.Qxb6618445aDoorWhole
import Derived.Test.Qxb6618445aDoorText
namespace Go.Proofs.Qxb6618445aDoor
open Go.RowKit Go.Shelf

theorem below_drewN' {B : Nat} {a w : World} (h : Below B a w) (q : Nat) : Below B a (w.drewN q) := ⟨h.os, h.tape, h.output, h.size, h.block⟩

def ParsePost (x : Nat) (b : Bool) (w : World) (e : Ending) (w' : World) : Prop := (∃ v, e = .returned (.tuple #[.int .u64 (x : Int), v]) ∧ ((b = true ∧ v = .nilIface) ∨ (b = false ∧ ∃ p, v = .iface 55 p))) ∧ Below w.heap.size w w'

/-- What ParseUint(t, 10, 64) gives. -/
def PU (t : List UInt8) : Nat × Bool := match Lib.parseUintB 64 t with
  | .ok u => (u, true)
  | .range => (18446744073709551615, false)
  | _ => (0, false)

/-- The two sentinels' cells. -/
def Sent (w : World) : Prop := (∃ te pe, w.cell? ⟨0, 0, none⟩ = some (.iface te pe)) ∧ (∃ te pe, w.cell? ⟨1, 0, none⟩ = some (.iface te pe))
theorem Sent.later {w w' : World} (h : Sent w) (hb : Below w.heap.size w w') : Sent w' := by
  obtain ⟨⟨a, b, h1⟩, ⟨c, d, h2⟩⟩ := h
  exact ⟨⟨a, b, (hb.cell (p := ⟨0, 0, none⟩) (World.block_lt_of_cell? w _ h1)).trans h1⟩, ⟨c, d, (hb.cell (p := ⟨1, 0, none⟩) (World.block_lt_of_cell? w _ h2)).trans h2⟩⟩

theorem parse_any (t : ByteArray) (w : World) (ht : t.size ≤ 281474976710656) (hS : Sent w) : Calls Tryd.prog 11 #[.string t, .int .i64 10, .int .i64 64] w fun e w' => ParsePost (PU t.data.toList).1 (PU t.data.toList).2 w e w' := by
  obtain ⟨⟨a, b, h1⟩, ⟨c, d, h2⟩⟩ := hS
  cases h : Lib.parseUintB 64 t.data.toList
  · rename_i u
    have e1 : PU t.data.toList = (u, true) := by unfold PU; rw [h]
    rw [e1]
    refine (Any.strconv_ParseUint_10_at64_ok Tryd.laysPu14 t (by omega) u h w).mono ?_
    rintro e w' ⟨rfl, hw⟩
    refine ⟨⟨_, rfl, .inl ⟨rfl, rfl⟩⟩, ?_⟩
    rcases hw with rfl | rfl
    · exact Below.refl _ _
    · exact Lib.bytesWorld_below _ _ _
  · have e1 : PU t.data.toList = (0, false) := by unfold PU; rw [h]
    rw [e1]
    refine (Any.strconv_ParseUint_10_at64_syntax Tryd.laysPu14 t ht h _ w h1 (.inr ⟨a, b, rfl⟩)).mono ?_
    rintro e w' ⟨N, rfl, -, -, hb⟩
    exact ⟨⟨_, rfl, .inr ⟨rfl, _, rfl⟩⟩, hb⟩
  · have e1 : PU t.data.toList = (18446744073709551615, false) := by unfold PU; rw [h]
    rw [e1]
    refine (Any.strconv_ParseUint_10_at64_range Tryd.laysPu14 t ht h _ w h2 (.inr ⟨c, d, rfl⟩)).mono ?_
    rintro e w' ⟨N, rfl, -, -, hb⟩
    exact ⟨⟨_, rfl, .inr ⟨rfl, _, rfl⟩⟩, hb⟩

/-! ### The plain law -/
theorem digs_rep (l : List UInt8) (m : Nat) : digs (l ++ List.replicate m 48) = digs l ++ List.replicate m 0 := by simp [digs]
theorem digits_rep {l : List UInt8} (h : Digits l) (m : Nat) : Digits (l ++ List.replicate m 48) := by
  intro c hc
  rcases List.mem_append.1 hc with hc | hc
  · exact h c hc
  · rw [(List.mem_replicate.1 hc).2]; decide
/-- Uint64's answer is the number. -/
theorem plain_law (neg : Bool) (s : ByteArray) (exp : Int) (t : ByteArray) (ok : Bool) (hD : Digits s.data.toList) (h : TextIs neg s exp t ok) :
    (ok = false → WV neg s.data.toList exp = (0, false)) ∧ (ok = true → PU t.data.toList = WV neg s.data.toList exp) := by
  have hlen : s.data.toList.length = s.size := by simp
  rcases h with ⟨hE, rfl, rfl⟩ | ⟨hE, hx, rfl⟩ | ⟨hE, hx, h20, rfl, ht⟩
  · refine ⟨by simp, fun _ => ?_⟩
    unfold WV
    rw [if_pos hE]
    decide
  · refine ⟨fun _ => ?_, by simp⟩
    unfold WV
    rw [if_neg hE]
    cases neg with
    | true => rfl
    | false =>
      rw [if_neg (by simp)]
      by_cases h1 : exp < 0
      · rw [if_pos h1]
      · rw [if_neg h1, if_pos (by omega)]
  · refine ⟨by simp, fun _ => ?_⟩
    unfold WV
    rw [if_neg hE, ht]
    cases neg with
    | true =>
      simp [PU, Lib.parseUintB, Lib.parseUintM]
    | false =>
      have h20' : ¬ 20 < (s.data.toList.length : Int) + exp := by rw [hlen]; exact h20
      have e : Lib.parseUintB 64 (s.data.toList ++ List.replicate exp.toNat 48) = Lib.parseUintM 18446744073709551615 0 (s.data.toList ++ List.replicate exp.toNat 48) := by
        unfold Lib.parseUintB
        rw [if_neg (by simp [hE])]
      show PU (s.data.toList ++ List.replicate exp.toNat 48) = _
      rw [if_neg (by simp), if_neg hx, if_neg h20']
      unfold PU
      rw [e, parse_run _ _ (digits_rep hD _), digs_rep]
      cases (RUN (0, false) (digs s.data.toList ++ List.replicate exp.toNat 0)).2 <;> rfl

def UPost (r : Nat × Bool) (w : World) (e : Ending) (w' : World) : Prop := e = .returned (.tuple #[.int .u64 (r.1 : Int), .bool r.2]) ∧ Below w.heap.size w w'
theorem uPost {r : Nat × Bool} {w w' : World} (x : Int) (y : Bool) (h1 : x = r.1) (h2 : y = r.2) (hb : Below w.heap.size w w') : UPost r w (.returned (.tuple #[.int .u64 x, .bool y])) w' := ⟨by rw [h1, h2], hb⟩
theorem text_len {neg : Bool} {s t : ByteArray} {exp : Int} {ok : Bool} (h : TextIs neg s exp t ok) (hok : ok = true) : t.size ≤ 281474976710656 := by
  have e : t.size = t.data.toList.length := by simp
  have e2 : s.size = s.data.toList.length := by simp
  rcases h with ⟨_, rfl, _⟩ | ⟨_, _, rfl⟩ | ⟨_, hx, h20, _, ht⟩
  · decide
  · cases hok
  · rw [e, ht, List.length_append, List.length_append, List.length_replicate, ← e2]
    split
    · simp; omega
    · simp; omega

set_option maxHeartbeats 1000000 in
set_option maxRecDepth 100000 in
theorem uint_any (neg : Bool) (s : ByteArray) (exp : Int) (w : World) (hs : s.size ≤ 1048576) (hexp : exp ≤ 4611686018427387904) (hD : Digits s.data.toList) (hS : Sent w) :
    Calls Tryd.prog 8 #[.agg #[.bool neg, .string s, .int .i64 exp]] w fun e w' => UPost (WV neg s.data.toList exp) w e w' := by
  have HD : Hid (Digits s.data.toList) := hD
  have HS : Hid (Sent w) := hS
  clear hD hS
  go_enter Tryd.func8, Tryd.ntmps8
  go_upto_region 2 with (go_at_call 10; refine (text_any neg s exp _ hs hexp).mono ?_; rintro e w1 ⟨t, ok, rfl, hT, hb⟩)
  have hb1 : Below w.heap.size w w1 := ((Below.refl _ _).alloc (Nat.le_refl _) _).trans (hb.mono (by simp))
  have hP := plain_law neg s exp t ok HD.out hT
  have HL : Hid (ok = true → t.size ≤ 281474976710656) := text_len hT
  clear hb hT
  cases ok with
  | false =>
    have HW : Hid (WV neg s.data.toList exp = (0, false)) := hP.1 rfl
    clear hP
    go_wp2
    go_ret2
    exact uPost _ _ (by rw [HW.out]; rfl) (by rw [HW.out]) hb1
  | true =>
    have HW : Hid (PU t.data.toList = WV neg s.data.toList exp) := hP.2 rfl
    have HC := parse_any t w1 (HL.out rfl) (HS.out.later hb1)
    rw [HW.out] at HC
    have HC' := hid HC
    clear hP HC
    go_upto_region 5 with (go_at_call 11; refine HC'.out.mono ?_; rintro e w2 ⟨⟨v, rfl, hv⟩, hb2⟩)
    have hb3 : Below w.heap.size w w2 := hb1.trans (hb2.mono hb1.size)
    rcases hv with ⟨hb, rfl⟩ | ⟨hb, p, rfl⟩
    · have HB : Hid ((WV neg s.data.toList exp).2 = true) := hb
      clear hb
      go_quiet (fail)
      go_wp2
      go_ret2
      exact uPost _ _ rfl HB.out.symm (below_drewN' hb3 _)
    · have HB : Hid ((WV neg s.data.toList exp).2 = false) := hb
      clear hb
      go_quiet (fail)
      go_wp2
      go_ret2
      exact uPost _ _ rfl HB.out.symm (below_drewN' hb3 _)

def LawPost (w : World) (e : Ending) (w' : World) : Prop := e = .returned (.bool true) ∧ Below w.heap.size w w'
theorem lawPost {w w' : World} (hb : Below w.heap.size w w') : LawPost w (.returned (.bool true)) w' := ⟨rfl, hb⟩

set_option maxHeartbeats 1000000 in
set_option maxRecDepth 100000 in
theorem law_any (neg : Bool) (s : ByteArray) (exp : Int) (w : World) (hS : Sent w) :
    Calls Tryd.prog 3 #[.bool neg, .string s, .int .i64 exp] w fun e w' => LawPost w e w' := by
  have HS : Hid (Sent w) := hS
  clear hS
  go_enter Tryd.func3, Tryd.ntmps3
  go_upto_region 3 with (go_at_call 4; refine (guard_any neg s exp _).mono ?_; rintro e w1 ⟨v, rfl, rfl⟩; cases v)
  · go_ret
    exact lawPost (Below.refl _ _)
  by_cases h1 : 1048576 < (s.size : Int)
  · go_wp2
    go_ret
    exact lawPost (Below.refl _ _)
  by_cases h2 : 4611686018427387904 < exp
  · go_wp2
    go_ret
    exact lawPost (Below.refl _ _)
  go_upto_region 9 with (go_at_call 5; refine (canon_any s _ (by omega)).mono ?_; rintro e w2 ⟨v, rfl, hv, rfl⟩; cases v)
  · go_ret
    exact lawPost (Below.refl _ _)
  have HD : Hid (Digits s.data.toList) := hid (by simpa using hv)
  clear hv
  go_upto_region 10 with (go_at_call 6; refine (whole_any neg s exp _ (by omega) (by omega) HD.out).mono ?_; rintro e w3 ⟨rfl, rfl⟩)
  go_upto_region 11 with (first | (go_at_call 7; refine (make_any neg s exp _).mono ?_; rintro e w4 ⟨rfl, hb4⟩) | (go_at_call 8; refine (uint_any neg s exp _ (by omega) (by omega) HD.out (HS.out.later hb4)).mono ?_; rintro e w5 ⟨rfl, hb5⟩))
  have hbl := hb4.trans (hb5.mono hb4.size)
  clear hb4 hb5
  generalize ((WV neg s.data.toList exp).1 : Int) = x
  generalize (WV neg s.data.toList exp).2 = y
  have hx : (x == x) = true := by simp
  have hy : (y == y) = true := by simp
  go_wp2
  go_ret
  exact lawPost hbl
end Go.Proofs.Qxb6618445aDoor
