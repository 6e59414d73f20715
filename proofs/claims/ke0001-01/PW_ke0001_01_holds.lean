import PyProof.Rows.All
import Wide.All
import OpenK.AllK
import Wide.FinOn
import PyProof.IsiH_tuple
import PySem.Challenge.RW_ke0001_01
open PySem PySem.W PyProof.Rows PySem.Calls
set_option Elab.async false
set_option maxRecDepth 100000
namespace Mine
section
set_option hygiene false in
local macro_rules | `(tactic| o_head $H) => `(tactic| (have hh := $H; exact no.elim))
set_option maxRecDepth 100000 in
set_option maxHeartbeats 8000000 in
theorem hd (no : False) : (OpenLaw.row PySem.Challenge.rw_ke0001_01).Holds := by
  w_on
  k_head
end
theorem top_off : True := by w_top off; trivial
local macro_rules | `(tactic| walk_at $s:str) => `(tactic| k_extra $s)
local macro_rules | `(tactic| ktr_units) => `(tactic| k_extra "z ktr_units")
local macro_rules | `(tactic| ktr_room) => `(tactic| k_extra "z ktr_room")
local macro_rules | `(tactic| k_room) => `(tactic| k_extra "z k_room")
local macro_rules | `(tactic| k_units) => `(tactic| k_extra "z k_units")
local macro_rules | `(tactic| k_mem) => `(tactic| k_extra "z k_mem")
local macro_rules | `(tactic| k_ne) => `(tactic| k_extra "z k_ne")
local macro_rules | `(tactic| k_all) => `(tactic| k_extra "z k_all")
local macro_rules | `(tactic| k_handed) => `(tactic| k_extra "z k_handed")
local macro_rules | `(tactic| kba_size) => `(tactic| k_extra "z kba_size")
local macro_rules | `(tactic| kcf_bnd) => `(tactic| k_extra "z kcf_bnd")
local macro_rules | `(tactic| k_steps) => `(tactic| repeat' (first | (k_unfold; (try dsimp only)) | (k_end; wrow_close) | ((try dsimp only); walk1) | walk1 | (leave1; walk_say "STEP leave1"; try dsimp only) | fail "no step"))
section
theorem words_01_base : True := by
  k_with_none
  trivial
/-- a call of f by these values, under any frame that stands upon this ground: it ends without a raise, and what holds behind it -/
def Calls (w : World) (f : Value) (vs : List Value) (news : List (Addr × Obj)) (dm um : Nat) (Post : Heap → Addr → Heap → Value → Prop) : Prop :=
  ∀ (p : Program) (loose : List Str) (mean : ExcName → Option Value) (mg mb : Str → Option Value)
    (dp un : Nat) (gd : Option (List Code)) (cn : Str) (cs : Scope) (a : Addr) (ccd : Value) (cl : List (Str × Addr)) (outer : List Env) (A₀ : Around) (base h₀ : Heap) (L : Addr) (m : Str → Option Value) (s : Shared) (Q E : Value → Shared → Prop),
    Below A₀ base outer h₀ → Fr h₀ L s.heap m → (hd.heap_1 w.params).In h₀ → News h₀ L s.heap news → Top p loose mean mg mb h₀ → cs.kind = .function →
    dp + dm < recursionLimit → un + um < cLine →
    (∀ (v : Value) (h' : Heap) (tk' : Nat), Fr h₀ L h' m → Post h₀ L h' v → Q v { s with heap := h', toks := tk' }) →
    wpAny (model PySem.Challenge.rw_ke0001_01.row.prog w) (ktrTop dp un gd cn cs L a ccd cl outer) (call f vs) Q E s
theorem units_under_kw (A : Around) (C : Addr) (vals : List Value) (kw : List (Str × Value)) : (A.under (.builtin "type.__call__" ⟨.ref C :: vals, kw⟩)).units = A.units + 1 := rfl
theorem u2 {un A b C : Nat} (h : un + A < C) (hb : Nat.ble b A = true) : un + b < C := Nat.lt_of_le_of_lt (Nat.add_le_add_left (Nat.le_of_ble_eq_true hb) un) h
theorem u3 {un A a b C : Nat} (h : un + A < C) (hb : Nat.ble (a + b) A = true) : un + a + b < C := by rw [Nat.add_assoc]; exact u2 h hb
theorem u4 {un A a b c C : Nat} (h : un + A < C) (hb : Nat.ble (a + b + c) A = true) : un + a + b + c < C := by rw [Nat.add_assoc, Nat.add_assoc, ← Nat.add_assoc a]; exact u2 h hb
theorem u5 {un A a b c d C : Nat} (h : un + A < C) (hb : Nat.ble (a + b + c + d) A = true) : un + a + b + c + d < C := by rw [Nat.add_assoc, Nat.add_assoc, Nat.add_assoc, ← Nat.add_assoc b, ← Nat.add_assoc a, ← Nat.add_assoc a]; exact u2 h hb
theorem om_b0 {oa oN : Nat} (oh : oa ≤ 1000) (oe : Nat.ble 1000 oN = true) : oa ≤ oN := Nat.le_trans oh (Nat.le_of_ble_eq_true oe)
theorem om_b0l {oa oN : Nat} (oh : oa ≤ 1000) (oe : Nat.ble 1001 oN = true) : oa < oN := Nat.lt_of_le_of_lt oh (Nat.le_of_ble_eq_true oe)
theorem om_b1 {oa ob : Nat} (oh : oa ≤ 500) (okk : ob ≤ 500) : oa + ob ≤ 1000 := Nat.add_le_add oh okk
theorem om_b2 {oa ob : Nat} (oh : oa ≤ 250) (okk : ob ≤ 250) : oa + ob ≤ 500 := Nat.add_le_add oh okk
theorem om_b3 {oa ob : Nat} (oh : oa ≤ 125) (okk : ob ≤ 125) : oa + ob ≤ 250 := Nat.add_le_add oh okk
theorem om_b4 {oa ob : Nat} (oh : oa ≤ 62) (okk : ob ≤ 62) : oa + ob ≤ 125 := Nat.le_trans (Nat.add_le_add oh okk) (by decide)
theorem om_b5 {oa ob : Nat} (oh : oa ≤ 31) (okk : ob ≤ 31) : oa + ob ≤ 62 := Nat.add_le_add oh okk
theorem om_b6 {oa ob : Nat} (oh : oa ≤ 15) (okk : ob ≤ 15) : oa + ob ≤ 31 := Nat.le_trans (Nat.add_le_add oh okk) (by decide)
theorem om_b7 {oa ob : Nat} (oh : oa ≤ 7) (okk : ob ≤ 7) : oa + ob ≤ 15 := Nat.le_trans (Nat.add_le_add oh okk) (by decide)
theorem om_bs {oa ob oN : Nat} (oh : oa ≤ oN) : oa - ob ≤ oN := Nat.le_trans (Nat.sub_le oa ob) oh
theorem tns {oa ob : Nat} : ((oa : Int) - (ob : Int)).toNat = oa - ob := Int.toNat_sub oa ob
theorem tn0 {oa : Nat} : ((oa : Int) - 0).toNat = oa := by rw [Int.sub_zero, Int.toNat_natCast]
theorem om_bt {oa ob oN : Nat} (oh : oa ≤ oN) : ((oa : Int) - (ob : Int)).toNat ≤ oN := by rw [tns]; exact om_bs oh
theorem om_bz {oa oN : Nat} (oh : oa ≤ oN) : ((oa : Int) - 0).toNat ≤ oN := by rw [tn0]; exact oh
theorem om_bt4 {oa ob oN : Nat} (oh : oa + 4 ≤ oN) : ((oa : Int) - (ob : Int) + 4).toNat ≤ oN := by omega
theorem om_b2t {oa oN : Nat} (oh : 2 + oa ≤ oN) : ((2 : Int) + (oa : Int)).toNat ≤ oN := by omega
theorem om_bq {oq : Int} {ov oN : Nat} (oh : 0 ≤ oq ∧ oq < (ov : Int) + 2) (okk : ov + 2 ≤ oN) : (oq - 0).toNat ≤ oN := by omega
theorem om_bm {oa ob oN : Nat} (oh : ob ≤ oN) : min oa ob ≤ oN := Nat.le_trans (Nat.min_le_right oa ob) oh
theorem om_bl {oa ob oN : Nat} (oh : oa ≤ ob) (okk : ob ≤ oN) : oa ≤ oN := Nat.le_trans oh okk
theorem om_be {oa ob oN : Nat} (oh : oa = ob) (okk : ob ≤ oN) : oa ≤ oN := oh ▸ okk
theorem om_bk {oks ovs oN : Nat} (oh : 1 ≤ oks ∧ oks ≤ 5 ∧ ovs ≤ 5) (oe : Nat.ble 5 oN = true) : oks ≤ oN := Nat.le_trans oh.2.1 (Nat.le_of_ble_eq_true oe)
theorem om_bv {oks ovs oN : Nat} (oh : 1 ≤ oks ∧ oks ≤ 5 ∧ ovs ≤ 5) (oe : Nat.ble 5 oN = true) : ovs ≤ oN := Nat.le_trans oh.2.2 (Nat.le_of_ble_eq_true oe)
theorem om_sub_nn {oa ob : Nat} (oh : ob ≤ oa) : 0 ≤ (oa : Int) - (ob : Int) := Int.sub_nonneg_of_le (Int.ofNat_le.mpr oh)
theorem om_sub_le0 {oa ob : Nat} {oN : Int} (oh : (oa : Int) ≤ oN) : (oa : Int) - (ob : Int) ≤ oN := Int.le_trans (Int.sub_le_self _ (Int.natCast_nonneg ob)) oh
theorem om_sub0_le {oa : Int} {oN : Int} (oh : oa ≤ oN) : oa - 0 ≤ oN := by rw [Int.sub_zero]; exact oh
theorem om_ic {oa : Nat} (okk : Nat) {oN : Int} (oh : oa ≤ okk) (oe : (okk : Int) ≤ oN) : (oa : Int) ≤ oN := Int.le_trans (Int.ofNat_le.mpr oh) oe
theorem om_icl {oa : Nat} (okk : Nat) {oN : Int} (oh : oa ≤ okk) (oe : (okk : Int) < oN) : (oa : Int) < oN := Int.lt_of_le_of_lt (Int.ofNat_le.mpr oh) oe
theorem om_sa4 {oa ob : Nat} (oh : oa ≤ 5) : (oa : Int) - (ob : Int) + 4 ≤ 1000 := by omega
theorem om_sa0 {oa ob : Nat} (oh : ob ≤ oa) : 0 ≤ (oa : Int) - (ob : Int) + 4 := Int.add_nonneg (om_sub_nn oh) (by decide)
theorem om_lp2 {oa : Nat} : (0 : Int) < (oa : Int) + 2 := by omega
theorem om_bq4 {oq : Int} {oN : Nat} (oh : 0 ≤ oq ∧ oq < 4) (oe : Nat.ble 3 oN = true) : (oq - 0).toNat ≤ oN := by have := Nat.le_of_ble_eq_true oe; omega
theorem om_kb {okk : Int} {on : Nat} (oh : okk < 0 + (((on : Int) - 0).toNat : Int)) (ohn : on ≤ 5) : okk ≤ 4 := by omega
theorem om_kbt {okk : Int} {on : Nat} (oh : okk < 0 + (((on : Int) - 0).toNat : Int)) (ohn : on ≤ 5) : okk.toNat ≤ 1000 := by omega
theorem om_kb1 {okk : Int} {on : Nat} (oh : okk < 0 + (((on : Int) - 0).toNat : Int)) (ohn : on ≤ 5) : okk + 1 ≤ 1000 := by omega
theorem om_kb2 {okk : Int} {on : Nat} (oh : okk < 0 + (((on : Int) - 0).toNat : Int)) (ohn : on ≤ 5) : okk + 2 ≤ 1000 := by omega
theorem om_km {okk oq : Int} (ohq : 0 ≤ oq ∧ oq < 4) (oh : okk < ((oq - 0).toNat : Int)) : okk + 1 ≤ 1000000 := by omega
theorem om_kmt {okk oq : Int} (ohq : 0 ≤ oq ∧ oq < 4) (oh : okk < ((oq - 0).toNat : Int)) : (okk + 1).toNat ≤ 1000 := by omega
theorem om_lt5 {oks ovs : Nat} (oh : 1 ≤ oks ∧ oks ≤ 5 ∧ ovs ≤ 5) : ovs ≤ 5 := oh.2.2
theorem om_lk5 {oks ovs : Nat} (oh : 1 ≤ oks ∧ oks ≤ 5 ∧ ovs ≤ 5) : oks ≤ 5 := oh.2.1
theorem castD {on oks ovs : Nat} (oh : (on : Int) = 2 + (oks : Int) + 2 + (ovs : Int) + 4) : on = 2 + oks + 2 + ovs + 4 := Int.ofNat.inj oh
theorem castF {on oks : Nat} (oh : (on : Int) = 2 * 4 + 2 + (oks : Int)) : on = 2 * 4 + 2 + oks := Int.ofNat.inj oh
theorem castD' {on oks ovs : Nat} (oh : on = 2 + oks + 2 + ovs + 4) : (on : Int) = 2 + (oks : Int) + 2 + (ovs : Int) + 4 := by rw [oh]; rfl
theorem castF' {on oks : Nat} (oh : on = 2 * 4 + 2 + oks) : (on : Int) = 2 * 4 + 2 + (oks : Int) := by rw [oh]; rfl
theorem tn2 {a : Nat} : ((2 : Int) + (a : Int)).toNat = 2 + a := rfl
theorem tn4 {a b : Nat} (h : b ≤ a) : ((a : Int) - (b : Int) + 4).toNat = a - b + 4 := by rw [← Int.ofNat_sub h]; rfl
theorem ln3 {a k s : Nat} (h : k ≤ s) : a + k + (s - k) = a + s := by rw [Nat.add_assoc, Nat.add_sub_cancel' h]
theorem ite_dpos {c : Prop} [Decidable c] {a b : Prop} (h : c) (x : a) : if decide c = true then a else b := ite_pos (decide_eq_true h) x
theorem ite_dneg {c : Prop} [Decidable c] {a b : Prop} (h : ¬ c) (x : b) : if decide c = true then a else b := ite_neg (fun e => h (of_decide_eq_true e)) x
theorem om_posD {on oks ovs : Nat} (oh : on = 2 + oks + 2 + ovs + 4) : 0 < on := by rw [oh]; exact Nat.succ_pos _
theorem om_posF {on oks : Nat} (oh : on = 2 * 4 + 2 + oks) : 0 < on := by rw [oh]; exact Nat.lt_of_lt_of_le (by decide) (Nat.le_add_right (2 * 4 + 2) oks)
theorem om_lnO {oks ovs oa : Nat} (oh : oa ≤ oks) : (2 : Int) + oks + 2 + ovs + 4 = ((2 + oa + (oks - oa) + ((2 : Int) + ovs).toNat + 4 : Nat) : Int) := by rw [ln3 oh, tn2, ← Nat.add_assoc]; rfl
theorem om_lnI {oks ovs oa ob : Nat} (oh : oa ≤ oks) (ohn : ob ≤ ovs) : (2 : Int) + oks + 2 + ovs + 4 = ((2 + oa + (oks - oa) + 2 + ob + ((ovs : Int) - (ob : Int) + 4).toNat : Nat) : Int) := by rw [ln3 oh, tn4 ohn, ← Nat.add_assoc, ln3 ohn]; rfl
theorem om_lnF {oks oa : Nat} (oh : oa ≤ oks) : (2 : Int) * 4 + 2 + oks = ((4 + (2 + oa + (oks - oa)) + 4 : Nat) : Int) := by rw [ln3 oh]; omega
def AMark (_ : Env) : Prop := True
theorem hasMark {M : Model} {A : Around} {b : List Stmt} {env : Env} {Q : Flow → Shared → Prop} {E : Value → Shared → Prop} {s : Shared} (_ : AMark env) (h : wpAny M A (execs b env) Q E s) : wpAny M A (execs b env) Q E s := h
theorem let_B {M : Model} {A : Around} {b : List Stmt} {env : Env} {Q : Flow → Shared → Prop} {E : Value → Shared → Prop} {s : Shared} (h : AMark env → let A' := A; wpAny M A' (execs b env) Q E s) : wpAny M A (execs b env) Q E s := h True.intro
theorem u1 {un A C : Nat} (h : un + A < C) : un < C := Nat.lt_of_le_of_lt (Nat.le_add_right un A) h
theorem ng0 {a d : Nat} {R : Prop} (h : @LT.lt Nat _ a d ∧ R) : d ≠ a := Nat.ne_of_gt h.1
theorem nl0 {a d : Nat} {R : Prop} (h : @LT.lt Nat _ a d ∧ R) : a ≠ d := Nat.ne_of_lt h.1
theorem ng1 {a d : Nat} {P0 R : Prop} (h : P0 ∧ @LT.lt Nat _ a d ∧ R) : d ≠ a := Nat.ne_of_gt h.2.1
theorem nl1 {a d : Nat} {P0 R : Prop} (h : P0 ∧ @LT.lt Nat _ a d ∧ R) : a ≠ d := Nat.ne_of_lt h.2.1
theorem fg1 {a d : Nat} {P0 : Prop} (h : P0 ∧ @LT.lt Nat _ a d) : d ≠ a := Nat.ne_of_gt h.2
theorem fl1 {a d : Nat} {P0 : Prop} (h : P0 ∧ @LT.lt Nat _ a d) : a ≠ d := Nat.ne_of_lt h.2
theorem ng2 {a d : Nat} {P0 P1 R : Prop} (h : P0 ∧ P1 ∧ @LT.lt Nat _ a d ∧ R) : d ≠ a := Nat.ne_of_gt h.2.2.1
theorem nl2 {a d : Nat} {P0 P1 R : Prop} (h : P0 ∧ P1 ∧ @LT.lt Nat _ a d ∧ R) : a ≠ d := Nat.ne_of_lt h.2.2.1
theorem fg2 {a d : Nat} {P0 P1 : Prop} (h : P0 ∧ P1 ∧ @LT.lt Nat _ a d) : d ≠ a := Nat.ne_of_gt h.2.2
theorem fl2 {a d : Nat} {P0 P1 : Prop} (h : P0 ∧ P1 ∧ @LT.lt Nat _ a d) : a ≠ d := Nat.ne_of_lt h.2.2
theorem ng3 {a d : Nat} {P0 P1 P2 R : Prop} (h : P0 ∧ P1 ∧ P2 ∧ @LT.lt Nat _ a d ∧ R) : d ≠ a := Nat.ne_of_gt h.2.2.2.1
theorem nl3 {a d : Nat} {P0 P1 P2 R : Prop} (h : P0 ∧ P1 ∧ P2 ∧ @LT.lt Nat _ a d ∧ R) : a ≠ d := Nat.ne_of_lt h.2.2.2.1
theorem fg3 {a d : Nat} {P0 P1 P2 : Prop} (h : P0 ∧ P1 ∧ P2 ∧ @LT.lt Nat _ a d) : d ≠ a := Nat.ne_of_gt h.2.2.2
theorem fl3 {a d : Nat} {P0 P1 P2 : Prop} (h : P0 ∧ P1 ∧ P2 ∧ @LT.lt Nat _ a d) : a ≠ d := Nat.ne_of_lt h.2.2.2
theorem ng4 {a d : Nat} {P0 P1 P2 P3 R : Prop} (h : P0 ∧ P1 ∧ P2 ∧ P3 ∧ @LT.lt Nat _ a d ∧ R) : d ≠ a := Nat.ne_of_gt h.2.2.2.2.1
theorem nl4 {a d : Nat} {P0 P1 P2 P3 R : Prop} (h : P0 ∧ P1 ∧ P2 ∧ P3 ∧ @LT.lt Nat _ a d ∧ R) : a ≠ d := Nat.ne_of_lt h.2.2.2.2.1
theorem fg4 {a d : Nat} {P0 P1 P2 P3 : Prop} (h : P0 ∧ P1 ∧ P2 ∧ P3 ∧ @LT.lt Nat _ a d) : d ≠ a := Nat.ne_of_gt h.2.2.2.2
theorem fl4 {a d : Nat} {P0 P1 P2 P3 : Prop} (h : P0 ∧ P1 ∧ P2 ∧ P3 ∧ @LT.lt Nat _ a d) : a ≠ d := Nat.ne_of_lt h.2.2.2.2
theorem ng5 {a d : Nat} {P0 P1 P2 P3 P4 R : Prop} (h : P0 ∧ P1 ∧ P2 ∧ P3 ∧ P4 ∧ @LT.lt Nat _ a d ∧ R) : d ≠ a := Nat.ne_of_gt h.2.2.2.2.2.1
theorem nl5 {a d : Nat} {P0 P1 P2 P3 P4 R : Prop} (h : P0 ∧ P1 ∧ P2 ∧ P3 ∧ P4 ∧ @LT.lt Nat _ a d ∧ R) : a ≠ d := Nat.ne_of_lt h.2.2.2.2.2.1
theorem fg5 {a d : Nat} {P0 P1 P2 P3 P4 : Prop} (h : P0 ∧ P1 ∧ P2 ∧ P3 ∧ P4 ∧ @LT.lt Nat _ a d) : d ≠ a := Nat.ne_of_gt h.2.2.2.2.2
theorem fl5 {a d : Nat} {P0 P1 P2 P3 P4 : Prop} (h : P0 ∧ P1 ∧ P2 ∧ P3 ∧ P4 ∧ @LT.lt Nat _ a d) : a ≠ d := Nat.ne_of_lt h.2.2.2.2.2
theorem ng6 {a d : Nat} {P0 P1 P2 P3 P4 P5 R : Prop} (h : P0 ∧ P1 ∧ P2 ∧ P3 ∧ P4 ∧ P5 ∧ @LT.lt Nat _ a d ∧ R) : d ≠ a := Nat.ne_of_gt h.2.2.2.2.2.2.1
theorem nl6 {a d : Nat} {P0 P1 P2 P3 P4 P5 R : Prop} (h : P0 ∧ P1 ∧ P2 ∧ P3 ∧ P4 ∧ P5 ∧ @LT.lt Nat _ a d ∧ R) : a ≠ d := Nat.ne_of_lt h.2.2.2.2.2.2.1
theorem fg6 {a d : Nat} {P0 P1 P2 P3 P4 P5 : Prop} (h : P0 ∧ P1 ∧ P2 ∧ P3 ∧ P4 ∧ P5 ∧ @LT.lt Nat _ a d) : d ≠ a := Nat.ne_of_gt h.2.2.2.2.2.2
theorem fl6 {a d : Nat} {P0 P1 P2 P3 P4 P5 : Prop} (h : P0 ∧ P1 ∧ P2 ∧ P3 ∧ P4 ∧ P5 ∧ @LT.lt Nat _ a d) : a ≠ d := Nat.ne_of_lt h.2.2.2.2.2.2
theorem ng7 {a d : Nat} {P0 P1 P2 P3 P4 P5 P6 R : Prop} (h : P0 ∧ P1 ∧ P2 ∧ P3 ∧ P4 ∧ P5 ∧ P6 ∧ @LT.lt Nat _ a d ∧ R) : d ≠ a := Nat.ne_of_gt h.2.2.2.2.2.2.2.1
theorem nl7 {a d : Nat} {P0 P1 P2 P3 P4 P5 P6 R : Prop} (h : P0 ∧ P1 ∧ P2 ∧ P3 ∧ P4 ∧ P5 ∧ P6 ∧ @LT.lt Nat _ a d ∧ R) : a ≠ d := Nat.ne_of_lt h.2.2.2.2.2.2.2.1
theorem fg7 {a d : Nat} {P0 P1 P2 P3 P4 P5 P6 : Prop} (h : P0 ∧ P1 ∧ P2 ∧ P3 ∧ P4 ∧ P5 ∧ P6 ∧ @LT.lt Nat _ a d) : d ≠ a := Nat.ne_of_gt h.2.2.2.2.2.2.2
theorem fl7 {a d : Nat} {P0 P1 P2 P3 P4 P5 P6 : Prop} (h : P0 ∧ P1 ∧ P2 ∧ P3 ∧ P4 ∧ P5 ∧ P6 ∧ @LT.lt Nat _ a d) : a ≠ d := Nat.ne_of_lt h.2.2.2.2.2.2.2
theorem ng8 {a d : Nat} {P0 P1 P2 P3 P4 P5 P6 P7 R : Prop} (h : P0 ∧ P1 ∧ P2 ∧ P3 ∧ P4 ∧ P5 ∧ P6 ∧ P7 ∧ @LT.lt Nat _ a d ∧ R) : d ≠ a := Nat.ne_of_gt h.2.2.2.2.2.2.2.2.1
theorem nl8 {a d : Nat} {P0 P1 P2 P3 P4 P5 P6 P7 R : Prop} (h : P0 ∧ P1 ∧ P2 ∧ P3 ∧ P4 ∧ P5 ∧ P6 ∧ P7 ∧ @LT.lt Nat _ a d ∧ R) : a ≠ d := Nat.ne_of_lt h.2.2.2.2.2.2.2.2.1
theorem fg8 {a d : Nat} {P0 P1 P2 P3 P4 P5 P6 P7 : Prop} (h : P0 ∧ P1 ∧ P2 ∧ P3 ∧ P4 ∧ P5 ∧ P6 ∧ P7 ∧ @LT.lt Nat _ a d) : d ≠ a := Nat.ne_of_gt h.2.2.2.2.2.2.2.2
theorem fl8 {a d : Nat} {P0 P1 P2 P3 P4 P5 P6 P7 : Prop} (h : P0 ∧ P1 ∧ P2 ∧ P3 ∧ P4 ∧ P5 ∧ P6 ∧ P7 ∧ @LT.lt Nat _ a d) : a ≠ d := Nat.ne_of_lt h.2.2.2.2.2.2.2.2
theorem ng9 {a d : Nat} {P0 P1 P2 P3 P4 P5 P6 P7 P8 R : Prop} (h : P0 ∧ P1 ∧ P2 ∧ P3 ∧ P4 ∧ P5 ∧ P6 ∧ P7 ∧ P8 ∧ @LT.lt Nat _ a d ∧ R) : d ≠ a := Nat.ne_of_gt h.2.2.2.2.2.2.2.2.2.1
theorem nl9 {a d : Nat} {P0 P1 P2 P3 P4 P5 P6 P7 P8 R : Prop} (h : P0 ∧ P1 ∧ P2 ∧ P3 ∧ P4 ∧ P5 ∧ P6 ∧ P7 ∧ P8 ∧ @LT.lt Nat _ a d ∧ R) : a ≠ d := Nat.ne_of_lt h.2.2.2.2.2.2.2.2.2.1
theorem fg9 {a d : Nat} {P0 P1 P2 P3 P4 P5 P6 P7 P8 : Prop} (h : P0 ∧ P1 ∧ P2 ∧ P3 ∧ P4 ∧ P5 ∧ P6 ∧ P7 ∧ P8 ∧ @LT.lt Nat _ a d) : d ≠ a := Nat.ne_of_gt h.2.2.2.2.2.2.2.2.2
theorem fl9 {a d : Nat} {P0 P1 P2 P3 P4 P5 P6 P7 P8 : Prop} (h : P0 ∧ P1 ∧ P2 ∧ P3 ∧ P4 ∧ P5 ∧ P6 ∧ P7 ∧ P8 ∧ @LT.lt Nat _ a d) : a ≠ d := Nat.ne_of_lt h.2.2.2.2.2.2.2.2.2
theorem ng10 {a d : Nat} {P0 P1 P2 P3 P4 P5 P6 P7 P8 P9 R : Prop} (h : P0 ∧ P1 ∧ P2 ∧ P3 ∧ P4 ∧ P5 ∧ P6 ∧ P7 ∧ P8 ∧ P9 ∧ @LT.lt Nat _ a d ∧ R) : d ≠ a := Nat.ne_of_gt h.2.2.2.2.2.2.2.2.2.2.1
theorem nl10 {a d : Nat} {P0 P1 P2 P3 P4 P5 P6 P7 P8 P9 R : Prop} (h : P0 ∧ P1 ∧ P2 ∧ P3 ∧ P4 ∧ P5 ∧ P6 ∧ P7 ∧ P8 ∧ P9 ∧ @LT.lt Nat _ a d ∧ R) : a ≠ d := Nat.ne_of_lt h.2.2.2.2.2.2.2.2.2.2.1
theorem fg10 {a d : Nat} {P0 P1 P2 P3 P4 P5 P6 P7 P8 P9 : Prop} (h : P0 ∧ P1 ∧ P2 ∧ P3 ∧ P4 ∧ P5 ∧ P6 ∧ P7 ∧ P8 ∧ P9 ∧ @LT.lt Nat _ a d) : d ≠ a := Nat.ne_of_gt h.2.2.2.2.2.2.2.2.2.2
theorem fl10 {a d : Nat} {P0 P1 P2 P3 P4 P5 P6 P7 P8 P9 : Prop} (h : P0 ∧ P1 ∧ P2 ∧ P3 ∧ P4 ∧ P5 ∧ P6 ∧ P7 ∧ P8 ∧ P9 ∧ @LT.lt Nat _ a d) : a ≠ d := Nat.ne_of_lt h.2.2.2.2.2.2.2.2.2.2
theorem ng11 {a d : Nat} {P0 P1 P2 P3 P4 P5 P6 P7 P8 P9 P10 R : Prop} (h : P0 ∧ P1 ∧ P2 ∧ P3 ∧ P4 ∧ P5 ∧ P6 ∧ P7 ∧ P8 ∧ P9 ∧ P10 ∧ @LT.lt Nat _ a d ∧ R) : d ≠ a := Nat.ne_of_gt h.2.2.2.2.2.2.2.2.2.2.2.1
theorem nl11 {a d : Nat} {P0 P1 P2 P3 P4 P5 P6 P7 P8 P9 P10 R : Prop} (h : P0 ∧ P1 ∧ P2 ∧ P3 ∧ P4 ∧ P5 ∧ P6 ∧ P7 ∧ P8 ∧ P9 ∧ P10 ∧ @LT.lt Nat _ a d ∧ R) : a ≠ d := Nat.ne_of_lt h.2.2.2.2.2.2.2.2.2.2.2.1
theorem fg11 {a d : Nat} {P0 P1 P2 P3 P4 P5 P6 P7 P8 P9 P10 : Prop} (h : P0 ∧ P1 ∧ P2 ∧ P3 ∧ P4 ∧ P5 ∧ P6 ∧ P7 ∧ P8 ∧ P9 ∧ P10 ∧ @LT.lt Nat _ a d) : d ≠ a := Nat.ne_of_gt h.2.2.2.2.2.2.2.2.2.2.2
theorem fl11 {a d : Nat} {P0 P1 P2 P3 P4 P5 P6 P7 P8 P9 P10 : Prop} (h : P0 ∧ P1 ∧ P2 ∧ P3 ∧ P4 ∧ P5 ∧ P6 ∧ P7 ∧ P8 ∧ P9 ∧ P10 ∧ @LT.lt Nat _ a d) : a ≠ d := Nat.ne_of_lt h.2.2.2.2.2.2.2.2.2.2.2
theorem ng12 {a d : Nat} {P0 P1 P2 P3 P4 P5 P6 P7 P8 P9 P10 P11 R : Prop} (h : P0 ∧ P1 ∧ P2 ∧ P3 ∧ P4 ∧ P5 ∧ P6 ∧ P7 ∧ P8 ∧ P9 ∧ P10 ∧ P11 ∧ @LT.lt Nat _ a d ∧ R) : d ≠ a := Nat.ne_of_gt h.2.2.2.2.2.2.2.2.2.2.2.2.1
theorem nl12 {a d : Nat} {P0 P1 P2 P3 P4 P5 P6 P7 P8 P9 P10 P11 R : Prop} (h : P0 ∧ P1 ∧ P2 ∧ P3 ∧ P4 ∧ P5 ∧ P6 ∧ P7 ∧ P8 ∧ P9 ∧ P10 ∧ P11 ∧ @LT.lt Nat _ a d ∧ R) : a ≠ d := Nat.ne_of_lt h.2.2.2.2.2.2.2.2.2.2.2.2.1
theorem fg12 {a d : Nat} {P0 P1 P2 P3 P4 P5 P6 P7 P8 P9 P10 P11 : Prop} (h : P0 ∧ P1 ∧ P2 ∧ P3 ∧ P4 ∧ P5 ∧ P6 ∧ P7 ∧ P8 ∧ P9 ∧ P10 ∧ P11 ∧ @LT.lt Nat _ a d) : d ≠ a := Nat.ne_of_gt h.2.2.2.2.2.2.2.2.2.2.2.2
theorem fl12 {a d : Nat} {P0 P1 P2 P3 P4 P5 P6 P7 P8 P9 P10 P11 : Prop} (h : P0 ∧ P1 ∧ P2 ∧ P3 ∧ P4 ∧ P5 ∧ P6 ∧ P7 ∧ P8 ∧ P9 ∧ P10 ∧ P11 ∧ @LT.lt Nat _ a d) : a ≠ d := Nat.ne_of_lt h.2.2.2.2.2.2.2.2.2.2.2.2
theorem ng13 {a d : Nat} {P0 P1 P2 P3 P4 P5 P6 P7 P8 P9 P10 P11 P12 R : Prop} (h : P0 ∧ P1 ∧ P2 ∧ P3 ∧ P4 ∧ P5 ∧ P6 ∧ P7 ∧ P8 ∧ P9 ∧ P10 ∧ P11 ∧ P12 ∧ @LT.lt Nat _ a d ∧ R) : d ≠ a := Nat.ne_of_gt h.2.2.2.2.2.2.2.2.2.2.2.2.2.1
theorem nl13 {a d : Nat} {P0 P1 P2 P3 P4 P5 P6 P7 P8 P9 P10 P11 P12 R : Prop} (h : P0 ∧ P1 ∧ P2 ∧ P3 ∧ P4 ∧ P5 ∧ P6 ∧ P7 ∧ P8 ∧ P9 ∧ P10 ∧ P11 ∧ P12 ∧ @LT.lt Nat _ a d ∧ R) : a ≠ d := Nat.ne_of_lt h.2.2.2.2.2.2.2.2.2.2.2.2.2.1
theorem fg13 {a d : Nat} {P0 P1 P2 P3 P4 P5 P6 P7 P8 P9 P10 P11 P12 : Prop} (h : P0 ∧ P1 ∧ P2 ∧ P3 ∧ P4 ∧ P5 ∧ P6 ∧ P7 ∧ P8 ∧ P9 ∧ P10 ∧ P11 ∧ P12 ∧ @LT.lt Nat _ a d) : d ≠ a := Nat.ne_of_gt h.2.2.2.2.2.2.2.2.2.2.2.2.2
theorem fl13 {a d : Nat} {P0 P1 P2 P3 P4 P5 P6 P7 P8 P9 P10 P11 P12 : Prop} (h : P0 ∧ P1 ∧ P2 ∧ P3 ∧ P4 ∧ P5 ∧ P6 ∧ P7 ∧ P8 ∧ P9 ∧ P10 ∧ P11 ∧ P12 ∧ @LT.lt Nat _ a d) : a ≠ d := Nat.ne_of_lt h.2.2.2.2.2.2.2.2.2.2.2.2.2
theorem oi1 {a : Nat} : a ≠ a + 1 := by omega
theorem os1 {a : Nat} : a + 1 ≠ a := by omega
theorem ok1 {c L : Nat} {R : Prop} (h : @LT.lt Nat _ c L ∧ R) : L + 1 ≠ c := by have := h.1; omega
theorem oc1 {c L : Nat} {R : Prop} (h : @LT.lt Nat _ c L ∧ R) : c ≠ L + 1 := by have := h.1; omega
theorem oi2 {a : Nat} : a ≠ a + 1 + 1 := by omega
theorem os2 {a : Nat} : a + 1 + 1 ≠ a := by omega
theorem ok2 {c L : Nat} {R : Prop} (h : @LT.lt Nat _ c L ∧ R) : L + 1 + 1 ≠ c := by have := h.1; omega
theorem oc2 {c L : Nat} {R : Prop} (h : @LT.lt Nat _ c L ∧ R) : c ≠ L + 1 + 1 := by have := h.1; omega
theorem oi3 {a : Nat} : a ≠ a + 1 + 1 + 1 := by omega
theorem os3 {a : Nat} : a + 1 + 1 + 1 ≠ a := by omega
theorem ok3 {c L : Nat} {R : Prop} (h : @LT.lt Nat _ c L ∧ R) : L + 1 + 1 + 1 ≠ c := by have := h.1; omega
theorem oc3 {c L : Nat} {R : Prop} (h : @LT.lt Nat _ c L ∧ R) : c ≠ L + 1 + 1 + 1 := by have := h.1; omega
theorem oi4 {a : Nat} : a ≠ a + 1 + 1 + 1 + 1 := by omega
theorem os4 {a : Nat} : a + 1 + 1 + 1 + 1 ≠ a := by omega
theorem ok4 {c L : Nat} {R : Prop} (h : @LT.lt Nat _ c L ∧ R) : L + 1 + 1 + 1 + 1 ≠ c := by have := h.1; omega
theorem oc4 {c L : Nat} {R : Prop} (h : @LT.lt Nat _ c L ∧ R) : c ≠ L + 1 + 1 + 1 + 1 := by have := h.1; omega
theorem oi5 {a : Nat} : a ≠ a + 1 + 1 + 1 + 1 + 1 := by omega
theorem os5 {a : Nat} : a + 1 + 1 + 1 + 1 + 1 ≠ a := by omega
theorem ok5 {c L : Nat} {R : Prop} (h : @LT.lt Nat _ c L ∧ R) : L + 1 + 1 + 1 + 1 + 1 ≠ c := by have := h.1; omega
theorem oc5 {c L : Nat} {R : Prop} (h : @LT.lt Nat _ c L ∧ R) : c ≠ L + 1 + 1 + 1 + 1 + 1 := by have := h.1; omega
theorem let_A {α : Type} {M : Model} {A : Around} {t : Sem α} {Q : α → Shared → Prop} {E : Value → Shared → Prop} {s : Shared} (h : let A' := A; wpAny M A' t Q E s) : wpAny M A t Q E s := h
theorem na0 {a d : Nat} {R : Prop} (h : @Ne Nat a d ∧ R) : a ≠ d := h.1
theorem nb0 {a d : Nat} {R : Prop} (h : @Ne Nat a d ∧ R) : d ≠ a := Ne.symm h.1
theorem na1 {a d : Nat} {P0 R : Prop} (h : P0 ∧ @Ne Nat a d ∧ R) : a ≠ d := h.2.1
theorem nb1 {a d : Nat} {P0 R : Prop} (h : P0 ∧ @Ne Nat a d ∧ R) : d ≠ a := Ne.symm h.2.1
theorem na2 {a d : Nat} {P0 P1 R : Prop} (h : P0 ∧ P1 ∧ @Ne Nat a d ∧ R) : a ≠ d := h.2.2.1
theorem nb2 {a d : Nat} {P0 P1 R : Prop} (h : P0 ∧ P1 ∧ @Ne Nat a d ∧ R) : d ≠ a := Ne.symm h.2.2.1
theorem na3 {a d : Nat} {P0 P1 P2 R : Prop} (h : P0 ∧ P1 ∧ P2 ∧ @Ne Nat a d ∧ R) : a ≠ d := h.2.2.2.1
theorem nb3 {a d : Nat} {P0 P1 P2 R : Prop} (h : P0 ∧ P1 ∧ P2 ∧ @Ne Nat a d ∧ R) : d ≠ a := Ne.symm h.2.2.2.1
theorem na4 {a d : Nat} {P0 P1 P2 P3 R : Prop} (h : P0 ∧ P1 ∧ P2 ∧ P3 ∧ @Ne Nat a d ∧ R) : a ≠ d := h.2.2.2.2.1
theorem nb4 {a d : Nat} {P0 P1 P2 P3 R : Prop} (h : P0 ∧ P1 ∧ P2 ∧ P3 ∧ @Ne Nat a d ∧ R) : d ≠ a := Ne.symm h.2.2.2.2.1
theorem na5 {a d : Nat} {P0 P1 P2 P3 P4 R : Prop} (h : P0 ∧ P1 ∧ P2 ∧ P3 ∧ P4 ∧ @Ne Nat a d ∧ R) : a ≠ d := h.2.2.2.2.2.1
theorem nb5 {a d : Nat} {P0 P1 P2 P3 P4 R : Prop} (h : P0 ∧ P1 ∧ P2 ∧ P3 ∧ P4 ∧ @Ne Nat a d ∧ R) : d ≠ a := Ne.symm h.2.2.2.2.2.1
theorem na6 {a d : Nat} {P0 P1 P2 P3 P4 P5 R : Prop} (h : P0 ∧ P1 ∧ P2 ∧ P3 ∧ P4 ∧ P5 ∧ @Ne Nat a d ∧ R) : a ≠ d := h.2.2.2.2.2.2.1
theorem nb6 {a d : Nat} {P0 P1 P2 P3 P4 P5 R : Prop} (h : P0 ∧ P1 ∧ P2 ∧ P3 ∧ P4 ∧ P5 ∧ @Ne Nat a d ∧ R) : d ≠ a := Ne.symm h.2.2.2.2.2.2.1
theorem na7 {a d : Nat} {P0 P1 P2 P3 P4 P5 P6 R : Prop} (h : P0 ∧ P1 ∧ P2 ∧ P3 ∧ P4 ∧ P5 ∧ P6 ∧ @Ne Nat a d ∧ R) : a ≠ d := h.2.2.2.2.2.2.2.1
theorem nb7 {a d : Nat} {P0 P1 P2 P3 P4 P5 P6 R : Prop} (h : P0 ∧ P1 ∧ P2 ∧ P3 ∧ P4 ∧ P5 ∧ P6 ∧ @Ne Nat a d ∧ R) : d ≠ a := Ne.symm h.2.2.2.2.2.2.2.1
theorem na8 {a d : Nat} {P0 P1 P2 P3 P4 P5 P6 P7 R : Prop} (h : P0 ∧ P1 ∧ P2 ∧ P3 ∧ P4 ∧ P5 ∧ P6 ∧ P7 ∧ @Ne Nat a d ∧ R) : a ≠ d := h.2.2.2.2.2.2.2.2.1
theorem nb8 {a d : Nat} {P0 P1 P2 P3 P4 P5 P6 P7 R : Prop} (h : P0 ∧ P1 ∧ P2 ∧ P3 ∧ P4 ∧ P5 ∧ P6 ∧ P7 ∧ @Ne Nat a d ∧ R) : d ≠ a := Ne.symm h.2.2.2.2.2.2.2.2.1
theorem na9 {a d : Nat} {P0 P1 P2 P3 P4 P5 P6 P7 P8 R : Prop} (h : P0 ∧ P1 ∧ P2 ∧ P3 ∧ P4 ∧ P5 ∧ P6 ∧ P7 ∧ P8 ∧ @Ne Nat a d ∧ R) : a ≠ d := h.2.2.2.2.2.2.2.2.2.1
theorem nb9 {a d : Nat} {P0 P1 P2 P3 P4 P5 P6 P7 P8 R : Prop} (h : P0 ∧ P1 ∧ P2 ∧ P3 ∧ P4 ∧ P5 ∧ P6 ∧ P7 ∧ P8 ∧ @Ne Nat a d ∧ R) : d ≠ a := Ne.symm h.2.2.2.2.2.2.2.2.2.1

end
section
theorem words_01n_names : True := by
  (k_with "z ktr_units" => ((simp only [units_under_kw, units_in1, units_deeper, Around.mark_units, units_caller, ktrTop, cLine_is] at ⊢); (rename _ < cLine => zrhcU); (rw [cLine_is] at zrhcU); omega))
  (k_with "z ktr_room" => ((simp only [depth_under_kw, depth_in1, depth_deeper, depth_caller, ktrTop] at ⊢); omega))
  (k_with "z ktr_units" => ((rename _ < cLine => zrhcU); first | exact u3 zrhcU rfl | exact u2 zrhcU rfl | exact u4 zrhcU rfl | exact u5 zrhcU rfl | exact u1 zrhcU))
  (k_with "z ktr_room" => ((rename _ < recursionLimit => zrhcD); first | exact u2 zrhcD rfl | exact u3 zrhcD rfl | exact u4 zrhcD rfl | exact u5 zrhcD rfl | exact u1 zrhcD))
  (k_with "z k_room" => ktr_room)
  (k_with "z k_units" => ktr_units)
  (k_with "z k_mem" => ((show @Membership.mem (Addr × Obj) (List (Addr × Obj)) _ _ _); with_reducible assumption))
  (k_with "om0" => ((repeat (with_reducible rename _ ≠ _ ∧ _ => zrhz; clear zrhz)); (repeat (with_reducible rename (_ ≠ _ ∧ _) ∧ _ => zrhz; clear zrhz)); omega))
  (k_with "bd1" => first | decide | (with_reducible first | apply om_b1 | apply om_b2 | apply om_b3 | apply om_b4 | apply om_b5 | apply om_b6 | apply om_b7 | apply om_bs | apply om_bt | apply om_bz | apply om_bt4 | apply om_b2t | apply om_bm | (apply om_bq; assumption) | refine om_bl (by assumption) ?_ | refine om_be (by assumption) ?_ | (apply om_bk; assumption; decide) | (apply om_bv; assumption; decide)))
  (k_with "bd" => (k_whole; (with_reducible first | (apply om_b0; rotate_left; with_unfolding_all rfl) | (apply om_b0l; rotate_left; with_unfolding_all rfl)); (repeat' k_extra "bd1"); done))
  (k_with "five" => first | assumption | exact om_lk5 (by assumption) | exact om_lt5 (by assumption) | exact Nat.le_trans (by assumption) (om_lk5 (by assumption)) | exact Nat.le_trans (by assumption) (om_lt5 (by assumption)))
  (k_with "om1" => first | rfl | assumption | exact And.left (by assumption) | exact And.right (by assumption) | ((show @LE.le Int _ _ _); first | apply Int.natCast_nonneg | (apply om_sub_nn; assumption) | (apply om_sa0; assumption) | (apply Int.le_of_lt; apply om_lp2) | (apply Int.le_add_of_nonneg_right; first | assumption | apply Int.natCast_nonneg)) | ((show @LE.le Nat _ _ _); apply Nat.le_of_lt; assumption) | ((show @LT.lt Int _ _ _); apply om_lp2) | ((show @LT.lt Nat _ _ _); first | (apply om_posD; assumption) | (apply om_posF; assumption)) | ((show @Eq Nat _ _); first | apply tns | apply tn0 | (apply castD; assumption) | (apply castF; assumption)))
  (k_with "om2" => first | decide | ((show @LE.le Nat _ _ _); first | exact Nat.le_trans (by assumption) (by decide) | exact om_be (by assumption) (by decide) | (apply om_bq4; assumption; rfl) | (apply om_kbt; assumption; k_extra "five") | (apply om_kmt <;> assumption)) | ((show @LE.le Int _ _ _); first | (apply Int.le_add_of_nonneg_right; decide) | (apply om_ic 5; k_extra "five"; decide) | (apply om_sub_le0; apply om_ic 5; k_extra "five"; decide) | (apply om_sub0_le; apply om_ic 5; k_extra "five"; decide) | (apply om_sa4; k_extra "five") | (refine Int.le_trans (om_kb (by assumption) (by k_extra "five")) (by decide)) | (apply om_kb1; assumption; k_extra "five") | (apply om_kb2; assumption; k_extra "five") | (apply om_km <;> assumption)) | ((show @Eq Int _ _); first | (apply om_lnO; assumption) | (apply om_lnI <;> assumption) | (apply om_lnF; assumption)) | ((show @LT.lt Int _ _ _); first | (apply om_icl 5; k_extra "five"; decide) | exact Int.lt_of_lt_of_le (by decide) (And.left (by assumption)) | exact Int.lt_trans (And.right (by assumption)) (by decide)))
  (k_with "nn" => ((show @LE.le Int _ _ _); apply Int.add_nonneg; (repeat' first | apply Int.natCast_nonneg | assumption | decide | apply Int.add_nonneg); done))
  (k_with "om" => first | (k_whole; with_reducible k_extra "om1") | (k_whole; with_reducible k_extra "om2") | (k_whole; with_reducible k_extra "nn") | k_extra "bd" | k_extra "om0")
  (k_with "z kba_size" => k_extra "bd")
  (k_with "fold" => (refine' let_A ?_; intro qa; k_fold))
  (k_with "ite" => first | refine ite_dpos (by assumption) ?_ | refine ite_dneg (by first | assumption | (apply Int.not_lt.mpr; assumption) | (apply Int.not_le.mpr; assumption)) ?_)
  (k_with "z kcf_bnd" => first | (k_whole; with_reducible k_extra "om1") | (k_whole; with_reducible k_extra "om2") | (k_whole; with_reducible k_extra "nn") | k_extra "bd")
  trivial
/-- a name of the top: what it holds -/
def Gl (w : World) (x : Str) (v : Value) : Prop := nsIn (hd.heap_1 w.params) mainGlobals x = some (some v) ∧ (x == ("__debug__" : Str)) = false
/-- a name of the built-ins that the top does not hide -/
def Gb (w : World) (x : Str) (v : Value) : Prop := nsIn (hd.heap_1 w.params) mainGlobals x = some none ∧ bootBuiltins x = some v ∧ x ≠ "__name__" ∧ (x == ("__debug__" : Str)) = false
theorem glUSEDKEYLENGTHBYTES (w : World) : Gl w (PySem.Str.ofString "USED_KEY_LENGTH_BYTES") (.int 2 257) := ⟨by kernel_rfl, by decide⟩
theorem glUSEDVALUELENGTHBYTES (w : World) : Gl w (PySem.Str.ofString "USED_VALUE_LENGTH_BYTES") (.int 2 259) := ⟨by kernel_rfl, by decide⟩
theorem glPAGEREFERENCEBYTES (w : World) : Gl w (PySem.Str.ofString "PAGE_REFERENCE_BYTES") (.int 4 255) := ⟨by kernel_rfl, by decide⟩
theorem glENDIAN (w : World) : Gl w (PySem.Str.ofString "ENDIAN") (.str (PySem.Str.ofString "little") 253) := ⟨by kernel_rfl, by decide⟩
theorem glRecord (w : World) : Gl w (PySem.Str.ofString "Record") (.ref 232) := ⟨by kernel_rfl, by decide⟩
theorem glReference (w : World) : Gl w (PySem.Str.ofString "Reference") (.ref 273) := ⟨by kernel_rfl, by decide⟩
theorem gllawlow (w : World) : Gl w (PySem.Str.ofString "_law_low") (.ref 369) := ⟨by kernel_rfl, by decide⟩
theorem gllawkey (w : World) : Gl w (PySem.Str.ofString "_law_key") (.ref 381) := ⟨by kernel_rfl, by decide⟩
theorem gllawparts (w : World) : Gl w (PySem.Str.ofString "_law_parts") (.ref 388) := ⟨by kernel_rfl, by decide⟩
theorem gllawpages (w : World) : Gl w (PySem.Str.ofString "_law_pages") (.ref 355) := ⟨by kernel_rfl, by decide⟩
theorem gllawdone (w : World) : Gl w (PySem.Str.ofString "_law_done") (.ref 395) := ⟨by kernel_rfl, by decide⟩
theorem gllawnumber (w : World) : Gl w (PySem.Str.ofString "_law_number") (.ref 376) := ⟨by kernel_rfl, by decide⟩
theorem gllawsigns (w : World) : Gl w (PySem.Str.ofString "_law_signs") (.ref 364) := ⟨by kernel_rfl, by decide⟩
theorem glTreeConf (w : World) : Gl w (PySem.Str.ofString "TreeConf") (.ref 141) := ⟨by kernel_rfl, by decide⟩
theorem glStrSerializer (w : World) : Gl w (PySem.Str.ofString "StrSerializer") (.ref 346) := ⟨by kernel_rfl, by decide⟩
theorem glIntSerializer (w : World) : Gl w (PySem.Str.ofString "IntSerializer") (.ref 320) := ⟨by kernel_rfl, by decide⟩
theorem gllawrecord (w : World) : Gl w (PySem.Str.ofString "_law_record") (.ref 400) := ⟨by kernel_rfl, by decide⟩
theorem gllawreference (w : World) : Gl w (PySem.Str.ofString "_law_reference") (.ref 407) := ⟨by kernel_rfl, by decide⟩
theorem gllawread (w : World) : Gl w (PySem.Str.ofString "_law_read") (.ref 412) := ⟨by kernel_rfl, by decide⟩
theorem gllaworder (w : World) : Gl w (PySem.Str.ofString "_law_order") (.ref 419) := ⟨by kernel_rfl, by decide⟩
theorem glint (w : World) : Gb w (PySem.Str.ofString "int") (.type "int") := ⟨by kernel_rfl, by boot_fast, by decide, by decide⟩
theorem gllen (w : World) : Gb w (PySem.Str.ofString "len") (.builtin "len") := ⟨by kernel_rfl, by boot_fast, by decide, by decide⟩
theorem glbytes (w : World) : Gb w (PySem.Str.ofString "bytes") (.type "bytes") := ⟨by kernel_rfl, by boot_fast, by decide, by decide⟩
theorem glisinstance (w : World) : Gb w (PySem.Str.ofString "isinstance") (.builtin "isinstance") := ⟨by kernel_rfl, by boot_fast, by decide, by decide⟩
theorem glrange (w : World) : Gb w (PySem.Str.ofString "range") (.type "range") := ⟨by kernel_rfl, by boot_fast, by decide, by decide⟩
theorem glenumerate (w : World) : Gb w (PySem.Str.ofString "enumerate") (.type "enumerate") := ⟨by kernel_rfl, by boot_fast, by decide, by decide⟩
theorem gltuple (w : World) : Gb w (PySem.Str.ofString "tuple") (.type "tuple") := ⟨by kernel_rfl, by boot_fast, by decide, by decide⟩
theorem gltype (w : World) : Gb w (PySem.Str.ofString "type") (.type "type") := ⟨by kernel_rfl, by boot_fast, by decide, by decide⟩
section
variable {M : Model} {w : World} {A : Around} {E : Value → Shared → Prop} {s : Shared} {h₀ : Heap} {L a : Addr} {m : Str → Option Value} {cn : Str} {cs : Scope} {ccd : Value} {cl : List (Str × Addr)} {p : Program} {loose : List Str} {mean : ExcName → Option Value} {mg mb : Str → Option Value} {x : Str} {pos : Pos} {v : Value} {Q : Value → Shared → Prop}
theorem name_top (g : Gl w x v) (F : Fr h₀ L s.heap m) (X : (hd.heap_1 w.params).In h₀) (T : Top p loose mean mg mb h₀) (hk : cs.kind = .function) (hx : (envX cn cs L a ccd cl).kindOf x = some .globalImplicit) (h : Q v s) :
    wpAny M A (eval (.Name x pos) (envX cn cs L a ccd cl)) Q E s := nameX_K F X (topRead_of T) g.1 h hk hx g.2
theorem name_boot (g : Gb w x v) (F : Fr h₀ L s.heap m) (X : (hd.heap_1 w.params).In h₀) (T : Top p loose mean mg mb h₀) (hk : cs.kind = .function) (hx : (envX cn cs L a ccd cl).kindOf x = some .globalImplicit) (h : Q v s) :
    wpAny M A (eval (.Name x pos) (envX cn cs L a ccd cl)) Q E s := nameX_B F X (topRead_of T) g.1 g.2.1 g.2.2.1 h hk hx g.2.2.2
end
theorem from_bytes_at (w : World) : findCls (hd.heap_1 w.params) (.type "int") (.type "type") (PySem.Str.ofString "from_bytes") = some (.get (.builtin "classmethod_descriptor.__get__") (.builtin "int.from_bytes") .none (.type "int")) := by kernel_rfl
theorem kp232 (w : World) : keepIn (hd.heap_1 w.params) (.ref 232) = true := by kernel_rfl
theorem kp273 (w : World) : keepIn (hd.heap_1 w.params) (.ref 273) = true := by kernel_rfl
theorem kp355 (w : World) : keepIn (hd.heap_1 w.params) (.ref 355) = true := by kernel_rfl
theorem kp369 (w : World) : keepIn (hd.heap_1 w.params) (.ref 369) = true := by kernel_rfl
theorem kp376 (w : World) : keepIn (hd.heap_1 w.params) (.ref 376) = true := by kernel_rfl
theorem kp381 (w : World) : keepIn (hd.heap_1 w.params) (.ref 381) = true := by kernel_rfl
theorem kp388 (w : World) : keepIn (hd.heap_1 w.params) (.ref 388) = true := by kernel_rfl
theorem kp395 (w : World) : keepIn (hd.heap_1 w.params) (.ref 395) = true := by kernel_rfl
theorem kp400 (w : World) : keepIn (hd.heap_1 w.params) (.ref 400) = true := by kernel_rfl
theorem kp407 (w : World) : keepIn (hd.heap_1 w.params) (.ref 407) = true := by kernel_rfl
theorem kp412 (w : World) : keepIn (hd.heap_1 w.params) (.ref 412) = true := by kernel_rfl
theorem kp419 (w : World) : keepIn (hd.heap_1 w.params) (.ref 419) = true := by kernel_rfl
theorem kp141 (w : World) : keepIn (hd.heap_1 w.params) (.ref 141) = true := by kernel_rfl
theorem kp346 (w : World) : keepIn (hd.heap_1 w.params) (.ref 346) = true := by kernel_rfl
theorem kp320 (w : World) : keepIn (hd.heap_1 w.params) (.ref 320) = true := by kernel_rfl

end
section
theorem words_02_conf : True := by
  (k_with "gl" => with_reducible (first | exact glUSEDKEYLENGTHBYTES _ | exact glUSEDVALUELENGTHBYTES _ | exact glPAGEREFERENCEBYTES _ | exact glENDIAN _ | exact glRecord _ | exact glReference _ | exact gllawlow _ | exact gllawkey _ | exact gllawparts _ | exact gllawpages _ | exact gllawdone _ | exact gllawnumber _ | exact gllawsigns _ | exact glTreeConf _ | exact glStrSerializer _ | exact glIntSerializer _ | exact gllawrecord _ | exact gllawreference _ | exact gllawread _ | exact gllaworder _))
  (k_with "gb" => with_reducible (first | exact glint _ | exact gllen _ | exact glbytes _ | exact glisinstance _ | exact glrange _ | exact glenumerate _ | exact gltuple _ | exact gltype _))
  (k_with "eval Name" => (k_here; k_dflt (first | (refine' nameX_L ?zqF ?zqv ?_ ?zqa ?zqb; (case zqF => k_asm); (case zqa => exact Eq.refl ScopeKind.function); (case zqb => exact Eq.refl (some NameKind.local)); (case zqv => exact Eq.refl (some _)); k_whole) | (refine' name_top ?zqg ?zqF ?zqX ?zqT ?zqa ?zqb ?_; (case zqX => k_asm); (case zqg => k_extra "gl"); (case zqF => k_asm); (case zqT => k_asm); (case zqa => exact Eq.refl ScopeKind.function); (case zqb => exact Eq.refl (some NameKind.globalImplicit)); k_whole) | (refine' name_boot ?zqg ?zqF ?zqX ?zqT ?zqa ?zqb ?_; (case zqX => k_asm); (case zqg => k_extra "gb"); (case zqF => k_asm); (case zqT => k_asm); (case zqa => exact Eq.refl ScopeKind.function); (case zqb => exact Eq.refl (some NameKind.globalImplicit)); k_whole))))
  (k_with "callWith ref" => (k_here; k_dflt (first | (refine' callWith_K ?zqk1 ?zqk2 ?_; (case zqk1 => k_asm); (case zqk2 => k_extra "kp"); k_whole) | (refine' callWith_K0 ?zqk1 ?zqk2 ?_; (case zqk1 => first | with_reducible assumption | exact Frag.In.keeps (by with_reducible assumption) (Fr.keep (by with_reducible assumption)) | k_in); (case zqk2 => k_extra "kp"); k_whole) | (refine' callWith_M0 ?zqk1 ?zqk2 ?_; (case zqk1 => k_meth); (case zqk2 => k_extra "kp"); k_whole; (try dsimp only [List.nil_append, List.cons_append])) | (refine' callWith_M ?zqk1 ?zqk2 ?zqk3 ?zqk4 ?_; (case zqk1 => k_asm); (case zqk2 => k_asm); (case zqk3 => k_mem); (case zqk4 => k_is); k_whole) | (refine' callWith_KW ?zqk1 ?zqk2 ?zqk3 ?_; (case zqk1 => k_asm); (case zqk2 => k_extra "kp"); (case zqk3 => exact rfl); k_whole) | (refine' callWith_KW0 ?zqk1 ?zqk2 ?zqk3 ?_; (case zqk1 => k_asm); (case zqk2 => k_extra "kp"); (case zqk3 => exact rfl); k_whole))))
  (k_with "getMethod type:int" => (k_here; (with_reducible refine' KFB.getm ?zqkfbF ?zqkfbN ?zqkfbX ?zqkfbE ?_); k_dflt ((case zqkfbF => k_asm); (case zqkfbN => k_asm); (case zqkfbX => k_asm); (case zqkfbE => exact from_bytes_at _); k_whole; intro x' h' F' N' l1; (try k_lt l1); (try k_sweep))))
  (k_with "kp" => first | with_reducible assumption | (with_reducible first | exact kp232 _ | exact kp273 _ | exact kp355 _ | exact kp369 _ | exact kp376 _ | exact kp381 _ | exact kp388 _ | exact kp395 _ | exact kp400 _ | exact kp407 _ | exact kp412 _ | exact kp419 _ | exact kp141 _ | exact kp346 _ | exact kp320 _) | k_is)
  trivial
section
theorem looks_isType {K : Frag} {M : Model} {h : Heap} {C : Addr} {cd : ClassData} (X : K.In h) (e : clsIn K C = some cd) : Looks M h (isType (.ref C)) true := by
  unfold clsIn at e
  split at e
  · rename_i ho
    exact (Looks.ld (part := some headPart) (X _ _ ho)).andThen .now
  · cases e
theorem issub_nested {K : Frag} {cd : ClassData} (hm : mroIn K 141 (.type "tuple") = some true) (hc : clsIn K 141 = some cd) :
    Meets (Builtin.«issubclass» ⟨[.ref 141, .type "tuple"], []⟩) (fun _ R s => K.In s.heap ∧ R (.ok (.ret (.bool true))) s) := by
  intro prog w A R s ⟨X, hs⟩
  have L1 := looks_mroIn (M := model prog w) X hm
  have L2 := looks_isType (M := model prog w) X hc
  obtain ⟨hh, g, d, t, os⟩ := s
  refine issubclass_outer ?_
  unfold Builtin.«issubclass.nested»
  repeat lk
  exact hs
theorem issub_conf {K : Frag} {w : World} {A : Around} {E : Value → Shared → Prop} {Q : Value → Shared → Prop} {s : Shared} {prog : Program} {h₀ : Heap} {L : Addr} {m : Str → Option Value} {cd : ClassData}
   (F : Fr h₀ L s.heap m) (X₀ : K.In h₀) (hm : mroIn K 141 (.type "tuple") = some true) (hc : clsIn K 141 = some cd) (hq : Q (.bool true) s) :
   wpAny (model prog w) A (call (.builtin "issubclass") [.ref 141, .type "tuple"]) Q E s :=
  call_issubclass (issub_nested hm hc) ⟨X₀.keeps F.keep, hq⟩
theorem type_conf {A : Around} {E : Value → Shared → Prop} {Q : Value → Shared → Prop} {s : Shared} {prog : Program} {w : World} {h₀ : Heap} {L c C : Addr} {o : Obj} {news : List (Addr × Obj)}
   (N : News h₀ L s.heap news) (hm : (c, o) ∈ news) (hC : o.cls = .ref C) (hq : Q (.ref C) s) :
   wpAny (model prog w) A (call (.type "type") [.ref c]) Q E s := by
  obtain ⟨hh, g, d, t, os⟩ := s
  exact call_type_obj (N _ hm).1 (by rw [hC]; rfl) (by rw [hC]; exact hq)
theorem item_conf {K : Frag} {A : Around} {E : Value → Shared → Prop} {Q : Value → Shared → Prop} {s : Shared} {prog : Program} {w : World} {h₀ : Heap} {L c C : Addr} {m : Str → Option Value} {o : Obj} {news : List (Addr × Obj)}
   {items : List Value} {n : Nat} {k : Int} {u : Tok} {v : Value}
   (F : Fr h₀ L s.heap m) (X₀ : K.In h₀) (N : News h₀ L s.heap news) (hm : (c, o) ∈ news) (hC : o.cls = .ref C) (hd : o.data = .seq items.toArray n) (hmro : mroIn K C (.type "tuple") = some true)
   (h0 : 0 ≤ k) (h1 : k < 2 ^ 63) (hv : items[k.toNat]? = some v) (hq : Q v s) :
   wpAny (model prog w) A (call (.builtin "tuple.__getitem__") [.ref c, .int k u]) Q E s := by
  have X := X₀.keeps F.keep
  have L1 := looks_mroIn (M := model prog w) X hmro
  have hg : s.heap.get? c = some o := (N _ hm).1
  have L2 : Looks (model prog w) s.heap (typeOf (.ref c)) (.ref C) := fun A Q E s' k q => wpAny_bind (wpAny_loadPart (k _ _ hg) (by rw [hC]; exact wpAny_pure q))
  have L3 : Looks (model prog w) s.heap (isInstance (.ref c) (.type "tuple")) true := L2.andThen L1
  have hj : seqIndex? k items.toArray.size = some k.toNat := by
    have hl : k.toNat < items.length := (List.getElem?_eq_some_iff.mp hv).1
    unfold seqIndex?
    simp only [List.size_toArray]
    rw [if_neg (show ¬ k < 0 by k_extra "om"), if_pos (by simp only [Bool.and_eq_true, decide_eq_true_eq]; omega)]
  refine wpAny_call (codeAny_call_builtin (id := "tuple.__getitem__") (by decide +kernel) entry_tuple_getitem ?_)
  have hk : builtinKind "tuple.__getitem__" = some .slot := by decide +kernel
  have hs : splitId "tuple.__getitem__" = some ("tuple", "__getitem__") := by decide +kernel
  have ha := args_tuple_getitem (.ref c) (.int k u)
  unfold argsOk at ha
  simp only [checkBuiltinCall, hk, hs]
  refine wpAny_bind (L3.here ?_)
  simp only [Bool.not_true, Bool.false_eq_true, if_false]
  refine wpAny_mono (Q := fun _ s₁ => s₁ = s) ?_ (fun _ s₁ e => ?_) (fun _ _ e => e)
  · cases hsig : Manifest.signature? "tuple.__getitem__" with
    | none => exact wpAny_pure rfl
    | some sig =>
      simp only [hsig] at ha
      show wpAny _ _ (Bind.checkArgs "tuple.__getitem__" sig _) _ _ _
      rw [ha]; exact wpAny_pure rfl
  · subst e
    show wpAny _ _ (Builtin.Tuple.tupleItemsOf (.ref c) >>= _) _ _ _
    unfold Builtin.Tuple.tupleItemsOf
    refine wpAny_bind (wpAny_bind (wpAny_seqItems hg hd (wpAny_pure ?_)))
    refine wpAny_bind (wpAny_typeOf (typeIs_int s₁ k u) ?_)
    rw [if_neg (by decide)]
    refine wpAny_bind (wpAny_specialOf (T := "int") (typeIs_int s₁ k u) int_index ?_)
    rw [if_neg (by simp)]
    refine wpAny_bind (wpAny_of_eq (a := k) rfl ?_)
    rw [if_neg (by simp only [Bool.or_eq_true, decide_eq_true_eq]; omega)]
    have hv' : items.toArray[k.toNat]? = some v := by simpa using hv
    simp only [hj, Option.bind_some, hv']
    exact wpAny_pure hq
end
abbrev confObj (ks vs : Nat) (sr : Addr) (t1 t2 t3 t4 : Tok) : Obj := { cls := .ref 141, dict := some t2, data := .seq #[.int 64 t1, .int 5 (t1 + 1), .int ks t3, .int vs t4, .ref sr] }
theorem words_p02_conf_1 : True := by
  (k_with "call type:type" => (k_here; k_dflt (refine' type_conf ?zqN ?zqm ?zqh ?_; (case zqN => k_asm); (case zqm => k_mem); (case zqh => exact rfl); k_whole)))
  (k_with "call builtin:issubclass" => (k_here; k_dflt (refine' issub_conf ?zqF ?zqX ?zqh ?zqc ?_; (case zqF => k_asm); (case zqX => k_asm); (case zqh => k_is); (case zqc => k_is); k_whole)))
  (k_with "getMethod type:tuple" => (k_here; refine' method_type ?zqF ?zqX ?zqm (by decide +kernel) ?zqe ?zqh ?_; (case zqF => k_asm); (case zqX => k_asm); (case zqm => kernel_rfl); (case zqe => k_dflt k_is); (case zqh => k_handed)))
  (k_with "call builtin:tuple.__getitem__" => (k_here; k_dflt (refine' item_conf (items := [_, _, _, _, _]) ?zqF ?zqX ?zqN ?zqm ?zqh ?zqd ?zqr ?zqa ?zqb ?zqv ?_; (case zqF => k_asm); (case zqX => k_asm); (case zqN => k_asm); (case zqm => k_mem); (case zqh => exact rfl); (case zqd => exact rfl); (case zqr => k_is); (case zqa => decide); (case zqb => decide); (case zqv => exact rfl); k_whole)))
  trivial
/-- a data descriptor of the class is found first, whatever the object itself holds -/
theorem find_data {K : Frag} {M : Model} {h : Heap} (X : K.In h) {x C : Addr} {name : Str} {a g : Value} (ha : findIn K (.ref C) name = some (some a)) (hg : specialIn K a "__get__" = some (some g)) (ht : takesIn K a = some true) : Looks M h (Builtin.ObjectAttr.find (.ref x) (.ref C) name) (Builtin.ObjectAttr.Found.bind g a) :=
  (looks_findIn X ha).andThen ((show Looks M h (Builtin.ObjectAttr.getOf (some a)) (some g) from looks_specialIn X hg).andThen ((show Looks M h (Builtin.ObjectAttr.dataDescriptor? (some a) (some g)) (some (g, a)) from (looks_takesIn (M := M) X ht).andThen .now).andThen (Looks.tag .now)))
set_option maxHeartbeats 4000000 in
theorem get_conf (w : World) (news : List (Addr × Obj)) (c : Addr) (ks vs : Nat) (sr : Addr) (t1 t2 t3 t4 : Tok) (hc : (c, confObj ks vs sr t1 t2 t3 t4) ∈ news) :
    (Calls w (.ref 43) [.ref 130, .ref c, .ref 141] news 5 60 (fun h₀ L h' v => v = .int ks t3 ∧ News h₀ L h' news)) ∧
    (Calls w (.ref 43) [.ref 133, .ref c, .ref 141] news 5 60 (fun h₀ L h' v => v = .int vs t4 ∧ News h₀ L h' news)) ∧
    (Calls w (.ref 43) [.ref 136, .ref c, .ref 141] news 5 60 (fun h₀ L h' v => v = .ref sr ∧ News h₀ L h' news)) := by
  refine ⟨?_, ?_, ?_⟩
  all_goals (
    unfold Calls
    k_fill
    intro p loose mean mg mb dp un gd cn cs a ccd cl outer A₀ base h₀ L m s Q E B F X N T hk hd hu hret
    obtain ⟨kd, nm, ig, ic, mo⟩ := cs
    cases hk
    refine wpAny_call ?_
    k_dflt k_enter
    k_steps
    all_goals (refine hret _ _ _ ?_ ⟨rfl, ?_⟩ <;> k_asm))
theorem check_looks {M : Model} {A : Around} {E : Value → Shared → Prop} {s : Shared} {id owner n : String} {self : Value} {rest : List Value} {kw : List (Str × Value)} {Q : Unit → Shared → Prop}
    (h : builtinKind id = some .slot ∨ builtinKind id = some .method) (hsplit : splitId id = some (owner, n)) (L : Looks M s.heap (isInstance self (.type owner)) true) (ha : argsOk id ⟨self :: rest, kw⟩) (hQ : Q () s) :
    wpAny M A (checkBuiltinCall id ⟨self :: rest, kw⟩) Q E s := by
  rcases h with h | h <;>
  · simp only [checkBuiltinCall, h, hsplit]
    refine wpAny_bind (L.here ?_)
    simp only [Bool.not_true, Bool.false_eq_true, if_false]
    cases hsig : Manifest.signature? id with
    | none => exact wpAny_pure hQ
    | some sig =>
      simp only [argsOk, hsig] at ha
      have h2 : Bind.checkArgs id sig ⟨self :: rest, kw⟩ = pure () := ha
      show wpAny M A (Bind.checkArgs id sig ⟨self :: rest, kw⟩) Q E s
      rw [h2]; exact wpAny_pure hQ
theorem get_bindT {prog : Program} {w : World} {A : Around} {E : Value → Shared → Prop} {s : Shared} {K : Frag} {x C : Addr} {ox : Obj} {name : Str} {expr : Bool} {Q : Value → Shared → Prop} {g a : Addr}
    (X : K.In s.heap) (hat : s.heap.get? x = some ox) (hoc : ox.cls = .ref C) (hga : findIn K (.ref C) "__getattribute__" = some (some (.builtin "tuple.__getattribute__"))) (hmro : mroIn K C (.type "tuple") = some true)
    (hfa : findIn K (.ref C) name = some (some (.ref a))) (hfg : specialIn K (.ref a) "__get__" = some (some (.ref g))) (hft : takesIn K (.ref a) = some true) (hk : findIn K (.ref C) "__getattr__" = some none)
    (h : wpAny (model prog w) A.in1 (call (.ref g) [.ref a, .ref x, .ref C]) (fun v s' => handedIn v = true ∧ Q v s') (fun _ _ => False) { s with toks := s.toks + 1 }) :
    wpAny (model prog w) A (getAttr (.ref x) name expr) Q E s := by
  obtain ⟨hh', gg, d, t, os⟩ := s
  have L0 : Looks (model prog w) hh' (typeOf (.ref x)) (.ref C) := hoc ▸ (Looks.ld hat).andThen .now
  have L1 := looks_findIn (M := model prog w) X hga
  have L2 := looks_findIn (M := model prog w) X hk
  have L3 := find_data (M := model prog w) (x := x) X hfa hfg hft
  have L4 : Looks (model prog w) hh' (isInstance (.ref x) (.type "tuple")) true := L0.andThen (looks_mroIn X hmro)
  unfold getAttr getAttrBy
  refine wpAny_bind (wpAny_mkText (wpAny_holding (wpAny_bind (L0.at (wpAny_bind (L1.at ?_))))))
  show wpAny _ _ (getAttrByItsOwn (.ref x) (.str name _) (.ref C) (.builtin "tuple.__getattribute__") true expr) _ _ _
  unfold getAttrByItsOwn
  refine wpAny_bind (L2.at ?_)
  refine wpAny_bind (wpAny_attempt (wpAny_holding ?_))
  unfold callGetattribute
  rw [if_neg (by simp [onTheHeap])]
  unfold boundAndCalled
  rw [F.slot_tuple_getattribute.bind]
  refine wpAny_bind (wpAny_pure ?_)
  refine wpAny_call (codeAny_call_builtin (id := "tuple.__getattribute__") (by decide +kernel) F.entry_tuple_ga ?_)
  show wpAny (model prog w) A.in1 (checkBuiltinCall "tuple.__getattribute__" ⟨[Value.ref x, Value.str name t], []⟩) _ _ ⟨hh', gg, d, t + 1, os⟩
  have k1 : builtinKind "tuple.__getattribute__" = some .slot := by decide +kernel
  have k2 : splitId "tuple.__getattribute__" = some ("tuple", "__getattribute__") := by decide +kernel
  have k3 := F.args_tuple_getattribute_2 (.ref x) (.str name t)
  refine check_looks (s := ⟨hh', gg, d, t + 1, os⟩) (id := "tuple.__getattribute__") (self := .ref x) (rest := [Value.str name t]) (kw := []) (owner := "tuple") (n := "__getattribute__") (.inl k1) k2 L4 k3 ?_

  unfold Builtin.«object.__getattribute__»
  refine wpAny_bind (wpAny_pure (wpAny_bind (wpAny_pure (wpAny_bind (L0.at (wpAny_bind (L3.at ?_)))))))
  show wpAny _ _ (holding [.ref a] (call (.ref g) [.ref a, .ref x, .ref C]) >>= ret) _ _ _
  refine wpAny_bind (wpAny_holding (wpAny_mono h (fun v s' z => wpAny_pure ?_) fun _ _ z => z.elim))
  show wpAny _ _ (handedOut v) _ _ _
  rw [handedOut_of z.1]
  exact wpAny_pure z.2
theorem conf_attr {w : World} {news : List (Addr × Obj)} {c d : Addr} {o : Obj} {name : Str} {v : Value} {b : Bool}
    {p : Program} {loose : List Str} {mean : ExcName → Option Value} {mg mb : Str → Option Value}
    {dp un : Nat} {gd : Option (List Code)} {cn : Str} {cs : Scope} {a : Addr} {ccd : Value} {cl : List (Str × Addr)} {outer : List Env} {A₀ : Around} {base h₀ : Heap} {L : Addr} {m : Str → Option Value} {s : Shared} {Q E : Value → Shared → Prop}
    (hcall : Calls w (.ref 43) [.ref d, .ref c, .ref 141] news 5 60 (fun h₀ L h' v' => v' = v ∧ News h₀ L h' news))
    (hc : (c, o) ∈ news) (hcls : o.cls = .ref 141) (_hno : notCls o = true)
    (B : Below A₀ base outer h₀) (F : Fr h₀ L s.heap m) (X : (hd.heap_1 w.params).In h₀) (N : News h₀ L s.heap news) (T : Top p loose mean mg mb h₀) (hk : cs.kind = .function)
    (hdp : dp + 5 < recursionLimit) (hu : un + 61 < cLine)
    (hga : findIn (hd.heap_1 w.params) (.ref 141) "__getattribute__" = some (some (.builtin "tuple.__getattribute__"))) (hk2 : findIn (hd.heap_1 w.params) (.ref 141) "__getattr__" = some none) (hmro : mroIn (hd.heap_1 w.params) 141 (.type "tuple") = some true)
    (ha : findIn (hd.heap_1 w.params) (.ref 141) name = some (some (.ref d))) (hg : specialIn (hd.heap_1 w.params) (.ref d) "__get__" = some (some (.ref 43))) (ht : takesIn (hd.heap_1 w.params) (.ref d) = some true)
    (hh : handedIn v = true)
    (hret : ∀ (h' : Heap) (tk' : Nat), Fr h₀ L h' m → News h₀ L h' news → Q v { s with heap := h', toks := tk' }) :
    wpAny (model PySem.Challenge.rw_ke0001_01.row.prog w) (ktrTop dp un gd cn cs L a ccd cl outer) (getAttr (.ref c) name b) Q E s := by
  refine get_bindT (X.keeps F.keep) (N _ hc).1 hcls hga hmro ha hg ht hk2 ?_
  refine hcall p loose mean mg mb dp (un + 1) gd cn cs a ccd cl outer A₀ base h₀ L m { s with toks := s.toks + 1 } _ _ B F X N T hk hdp (by k_extra "om") fun v' h' tk' F' hv => ?_
  obtain ⟨rfl, N'⟩ := hv
  exact ⟨hh, hret h' tk' F' N'⟩

end
section
theorem words_03_low : True := by
  k_with_none
  (k_with "z ktr_units" => ((simp only [units_under_kw, units_in1, units_deeper, Around.mark_units, units_caller, ktrTop, cLine_is] at ⊢); (rename _ < cLine => zrhcU); (rw [cLine_is] at zrhcU); omega))
  (k_with "z ktr_room" => ((simp only [depth_under_kw, depth_in1, depth_deeper, depth_caller, ktrTop] at ⊢); omega))
  (k_with "z ktr_units" => ((rename _ < cLine => zrhcU); first | exact u3 zrhcU rfl | exact u2 zrhcU rfl | exact u4 zrhcU rfl | exact u5 zrhcU rfl | exact u1 zrhcU))
  (k_with "z ktr_room" => ((rename _ < recursionLimit => zrhcD); first | exact u2 zrhcD rfl | exact u3 zrhcD rfl | exact u4 zrhcD rfl | exact u5 zrhcD rfl | exact u1 zrhcD))
  (k_with "z k_room" => ktr_room)
  (k_with "z k_units" => ktr_units)
  (k_with "z k_mem" => ((show @Membership.mem (Addr × Obj) (List (Addr × Obj)) _ _ _); with_reducible assumption))
  (k_with "om0" => ((repeat (with_reducible rename _ ≠ _ ∧ _ => zrhz; clear zrhz)); (repeat (with_reducible rename (_ ≠ _ ∧ _) ∧ _ => zrhz; clear zrhz)); omega))
  (k_with "bd1" => first | decide | (with_reducible first | apply om_b1 | apply om_b2 | apply om_b3 | apply om_b4 | apply om_b5 | apply om_b6 | apply om_b7 | apply om_bs | apply om_bt | apply om_bz | apply om_bt4 | apply om_b2t | apply om_bm | (apply om_bq; assumption) | refine om_bl (by assumption) ?_ | refine om_be (by assumption) ?_ | (apply om_bk; assumption; decide) | (apply om_bv; assumption; decide)))
  (k_with "bd" => (k_whole; (with_reducible first | (apply om_b0; rotate_left; with_unfolding_all rfl) | (apply om_b0l; rotate_left; with_unfolding_all rfl)); (repeat' k_extra "bd1"); done))
  (k_with "five" => first | assumption | exact om_lk5 (by assumption) | exact om_lt5 (by assumption) | exact Nat.le_trans (by assumption) (om_lk5 (by assumption)) | exact Nat.le_trans (by assumption) (om_lt5 (by assumption)))
  (k_with "om1" => first | rfl | assumption | exact And.left (by assumption) | exact And.right (by assumption) | ((show @LE.le Int _ _ _); first | apply Int.natCast_nonneg | (apply om_sub_nn; assumption) | (apply om_sa0; assumption) | (apply Int.le_of_lt; apply om_lp2) | (apply Int.le_add_of_nonneg_right; first | assumption | apply Int.natCast_nonneg)) | ((show @LE.le Nat _ _ _); apply Nat.le_of_lt; assumption) | ((show @LT.lt Int _ _ _); apply om_lp2) | ((show @LT.lt Nat _ _ _); first | (apply om_posD; assumption) | (apply om_posF; assumption)) | ((show @Eq Nat _ _); first | apply tns | apply tn0 | (apply castD; assumption) | (apply castF; assumption)))
  (k_with "om2" => first | decide | ((show @LE.le Nat _ _ _); first | exact Nat.le_trans (by assumption) (by decide) | exact om_be (by assumption) (by decide) | (apply om_bq4; assumption; rfl) | (apply om_kbt; assumption; k_extra "five") | (apply om_kmt <;> assumption)) | ((show @LE.le Int _ _ _); first | (apply Int.le_add_of_nonneg_right; decide) | (apply om_ic 5; k_extra "five"; decide) | (apply om_sub_le0; apply om_ic 5; k_extra "five"; decide) | (apply om_sub0_le; apply om_ic 5; k_extra "five"; decide) | (apply om_sa4; k_extra "five") | (refine Int.le_trans (om_kb (by assumption) (by k_extra "five")) (by decide)) | (apply om_kb1; assumption; k_extra "five") | (apply om_kb2; assumption; k_extra "five") | (apply om_km <;> assumption)) | ((show @Eq Int _ _); first | (apply om_lnO; assumption) | (apply om_lnI <;> assumption) | (apply om_lnF; assumption)) | ((show @LT.lt Int _ _ _); first | (apply om_icl 5; k_extra "five"; decide) | exact Int.lt_of_lt_of_le (by decide) (And.left (by assumption)) | exact Int.lt_trans (And.right (by assumption)) (by decide)))
  (k_with "nn" => ((show @LE.le Int _ _ _); apply Int.add_nonneg; (repeat' first | apply Int.natCast_nonneg | assumption | decide | apply Int.add_nonneg); done))
  (k_with "om" => first | (k_whole; with_reducible k_extra "om1") | (k_whole; with_reducible k_extra "om2") | (k_whole; with_reducible k_extra "nn") | k_extra "bd" | k_extra "om0")
  (k_with "z kba_size" => k_extra "bd")
  (k_with "fold" => (refine' let_A ?_; intro qa; k_fold))
  (k_with "ite" => first | refine ite_dpos (by assumption) ?_ | refine ite_dneg (by first | assumption | (apply Int.not_lt.mpr; assumption) | (apply Int.not_le.mpr; assumption)) ?_)
  (k_with "z kcf_bnd" => first | (k_whole; with_reducible k_extra "om1") | (k_whole; with_reducible k_extra "om2") | (k_whole; with_reducible k_extra "nn") | k_extra "bd")
  (k_with "gl" => with_reducible (first | exact glUSEDKEYLENGTHBYTES _ | exact glUSEDVALUELENGTHBYTES _ | exact glPAGEREFERENCEBYTES _ | exact glENDIAN _ | exact glRecord _ | exact glReference _ | exact gllawlow _ | exact gllawkey _ | exact gllawparts _ | exact gllawpages _ | exact gllawdone _ | exact gllawnumber _ | exact gllawsigns _ | exact glTreeConf _ | exact glStrSerializer _ | exact glIntSerializer _ | exact gllawrecord _ | exact gllawreference _ | exact gllawread _ | exact gllaworder _))
  (k_with "gb" => with_reducible (first | exact glint _ | exact gllen _ | exact glbytes _ | exact glisinstance _ | exact glrange _ | exact glenumerate _ | exact gltuple _ | exact gltype _))
  (k_with "eval Name" => (k_here; k_dflt (first | (refine' nameX_L ?zqF ?zqv ?_ ?zqa ?zqb; (case zqF => k_asm); (case zqa => exact Eq.refl ScopeKind.function); (case zqb => exact Eq.refl (some NameKind.local)); (case zqv => exact Eq.refl (some _)); k_whole) | (refine' name_top ?zqg ?zqF ?zqX ?zqT ?zqa ?zqb ?_; (case zqX => k_asm); (case zqg => k_extra "gl"); (case zqF => k_asm); (case zqT => k_asm); (case zqa => exact Eq.refl ScopeKind.function); (case zqb => exact Eq.refl (some NameKind.globalImplicit)); k_whole) | (refine' name_boot ?zqg ?zqF ?zqX ?zqT ?zqa ?zqb ?_; (case zqX => k_asm); (case zqg => k_extra "gb"); (case zqF => k_asm); (case zqT => k_asm); (case zqa => exact Eq.refl ScopeKind.function); (case zqb => exact Eq.refl (some NameKind.globalImplicit)); k_whole))))
  (k_with "callWith ref" => (k_here; k_dflt (first | (refine' callWith_K ?zqk1 ?zqk2 ?_; (case zqk1 => k_asm); (case zqk2 => k_extra "kp"); k_whole) | (refine' callWith_K0 ?zqk1 ?zqk2 ?_; (case zqk1 => first | with_reducible assumption | exact Frag.In.keeps (by with_reducible assumption) (Fr.keep (by with_reducible assumption)) | k_in); (case zqk2 => k_extra "kp"); k_whole) | (refine' callWith_M0 ?zqk1 ?zqk2 ?_; (case zqk1 => k_meth); (case zqk2 => k_extra "kp"); k_whole; (try dsimp only [List.nil_append, List.cons_append])) | (refine' callWith_M ?zqk1 ?zqk2 ?zqk3 ?zqk4 ?_; (case zqk1 => k_asm); (case zqk2 => k_asm); (case zqk3 => k_mem); (case zqk4 => k_is); k_whole) | (refine' callWith_KW ?zqk1 ?zqk2 ?zqk3 ?_; (case zqk1 => k_asm); (case zqk2 => k_extra "kp"); (case zqk3 => exact rfl); k_whole) | (refine' callWith_KW0 ?zqk1 ?zqk2 ?zqk3 ?_; (case zqk1 => k_asm); (case zqk2 => k_extra "kp"); (case zqk3 => exact rfl); k_whole))))
  (k_with "getMethod type:int" => (k_here; (with_reducible refine' KFB.getm ?zqkfbF ?zqkfbN ?zqkfbX ?zqkfbE ?_); k_dflt ((case zqkfbF => k_asm); (case zqkfbN => k_asm); (case zqkfbX => k_asm); (case zqkfbE => exact from_bytes_at _); k_whole; intro x' h' F' N' l1; (try k_lt l1); (try k_sweep))))
  (k_with "kp" => first | with_reducible assumption | (with_reducible first | exact kp232 _ | exact kp273 _ | exact kp355 _ | exact kp369 _ | exact kp376 _ | exact kp381 _ | exact kp388 _ | exact kp395 _ | exact kp400 _ | exact kp407 _ | exact kp412 _ | exact kp419 _ | exact kp141 _ | exact kp346 _ | exact kp320 _) | k_is)
  (k_with "getAttr ref" => (k_here; (with_reducible show wpAny _ _ (getAttr (Value.ref _) (PySem.Str.ofString "key_size") _) _ _ _); k_dflt (refine' conf_attr (And.left (get_conf _ _ _ _ _ _ _ _ _ _ ?zqm)) ?zqm2 ?zqc1 ?zqc3 ?zqB ?zqF ?zqX ?zqN ?zqT ?zqk ?zqd ?zqu ?zqp ?zqp2 ?zqp3 ?zqf2 ?zqf3 ?zqf4 ?zqhh ?_; (case zqN => k_asm); (case zqm => k_mem); (case zqm2 => k_mem); (case zqc1 => exact rfl); (case zqc3 => exact rfl); (case zqB => k_asm); (case zqF => k_asm); (case zqX => k_asm); (case zqT => k_asm); (case zqk => exact rfl); (case zqd => ktr_room); (case zqu => ktr_units); (case zqp => k_is); (case zqp2 => k_is); (case zqp3 => k_is); (case zqf2 => k_is); (case zqf3 => k_is); (case zqf4 => k_is); (case zqhh => exact rfl); k_whole; intro h' tk' F' N'; (try k_sweep))))
  (k_with "getAttr ref" => (k_here; (with_reducible show wpAny _ _ (getAttr (Value.ref _) (PySem.Str.ofString "value_size") _) _ _ _); k_dflt (refine' conf_attr (And.left (And.right (get_conf _ _ _ _ _ _ _ _ _ _ ?zqm))) ?zqm2 ?zqc1 ?zqc3 ?zqB ?zqF ?zqX ?zqN ?zqT ?zqk ?zqd ?zqu ?zqp ?zqp2 ?zqp3 ?zqf2 ?zqf3 ?zqf4 ?zqhh ?_; (case zqN => k_asm); (case zqm => k_mem); (case zqm2 => k_mem); (case zqc1 => exact rfl); (case zqc3 => exact rfl); (case zqB => k_asm); (case zqF => k_asm); (case zqX => k_asm); (case zqT => k_asm); (case zqk => exact rfl); (case zqd => ktr_room); (case zqu => ktr_units); (case zqp => k_is); (case zqp2 => k_is); (case zqp3 => k_is); (case zqf2 => k_is); (case zqf3 => k_is); (case zqf4 => k_is); (case zqhh => exact rfl); k_whole; intro h' tk' F' N'; (try k_sweep))))
  (k_with "getAttr ref" => (k_here; (with_reducible show wpAny _ _ (getAttr (Value.ref _) (PySem.Str.ofString "serializer") _) _ _ _); k_dflt (refine' conf_attr (And.right (And.right (get_conf _ _ _ _ _ _ _ _ _ _ ?zqm))) ?zqm2 ?zqc1 ?zqc3 ?zqB ?zqF ?zqX ?zqN ?zqT ?zqk ?zqd ?zqu ?zqp ?zqp2 ?zqp3 ?zqf2 ?zqf3 ?zqf4 ?zqhh ?_; (case zqN => k_asm); (case zqm => k_mem); (case zqm2 => k_mem); (case zqc1 => exact rfl); (case zqc3 => exact rfl); (case zqB => k_asm); (case zqF => k_asm); (case zqX => k_asm); (case zqT => k_asm); (case zqk => exact rfl); (case zqd => ktr_room); (case zqu => ktr_units); (case zqp => k_is); (case zqp2 => k_is); (case zqp3 => k_is); (case zqf2 => k_is); (case zqf3 => k_is); (case zqf4 => k_is); (case zqhh => exact rfl); k_whole; intro h' tk' F' N'; (try k_sweep))))
  trivial
theorem log2_pow_lt {c : Int} {k : Nat} (hc : 0 < c) (hc2 : c ≤ 256) (hk : k ≤ 1000) : (c ^ k).natAbs.log2 < 9000 := by
  obtain ⟨n, rfl⟩ := Int.eq_ofNat_of_zero_le (Int.le_of_lt hc)
  have e : ((n : Int) ^ k) = ((n ^ k : Nat) : Int) := by rw [Int.natCast_pow]
  rw [e, Int.natAbs_natCast]
  have hn : n ≤ 2 ^ 8 := by k_extra "om"
  have h1 : n ^ k ≤ (2 ^ 8) ^ k := Nat.pow_le_pow_left hn k
  rw [← Nat.pow_mul] at h1
  have h2 : (2 : Nat) ^ (8 * k) < 2 ^ 9000 := Nat.pow_lt_pow_right (by decide) (by k_extra "om")
  have hp : n ^ k ≠ 0 := Nat.ne_of_gt (Nat.pow_pos (by k_extra "om"))
  exact (Nat.log2_lt hp).mpr (Nat.lt_of_le_of_lt h1 h2)
theorem fdiv_powr {prog : Program} {w : World} {A : Around} {E : Value → Shared → Prop} {s : Shared} {a c : Int} {k : Nat} {t u : Tok} {Q : Value → Shared → Prop}
    (hc : 0 < c) (hc2 : c ≤ 256) (hk : k ≤ 1000) (h : Q (.int (a / c ^ k) s.toks) { s with toks := s.toks + 1 }) :
    wpAny (model prog w) A (binaryOp .FloorDiv (.int a t) (.int (c ^ k) u)) Q E s :=
  floordiv_int (Int.ne_of_gt (Int.pow_pos hc)) (by rw [Int.fdiv_eq_ediv_of_nonneg _ (Int.le_of_lt (Int.pow_pos hc))]; exact h) (Or.inl (PyProof.noPylong_of_log2 (log2_pow_lt hc hc2 hk)))
theorem low_eq (x : Int) (n : Nat) : (rangeKs 0 n).map (fun k' => (x / 256 ^ k'.toNat).fmod 256) = KTBy.little n x := by
  rw [KTBy.little_eq, rangeKs, List.map_map]
  refine List.map_congr_left fun i _ => ?_
  rw [Function.comp, Int.zero_add, Int.toNat_natCast, Int.fmod_eq_emod_of_nonneg _ (by decide)]
theorem off1_all {D : Addr} {l : List (Addr × Obj)} (h : LCg.Off1 D l) : ∀ p ∈ l, p.1 ≠ D := by
  induction l with
  | nil => intro p hp; cases hp
  | cons q r ih =>
    intro p hp
    rcases List.mem_cons.mp hp with e | hp
    · subst e; exact h.1
    · exact ih h.2 p hp
theorem news_drop1 {h₀ h : Heap} {L : Addr} {p q : Addr × Obj} {news : List (Addr × Obj)} (N : News h₀ L h (p :: q :: news)) : News h₀ L h (p :: news) := fun r hr => N r (by
  cases hr with
  | head => exact .head _
  | tail _ hr => exact .tail _ (.tail _ hr))
theorem words_p03_low_1 : True := by
  (k_with "binaryOp FloorDiv int int" => (k_here; (with_reducible refine fdiv_powr (c := 256) (by decide) (by decide) (by k_extra "om") ?_)))
  (k_with "binaryOp Pow int int" => (k_here; (with_reducible refine pow_int_small (by k_extra "om") (by k_extra "om") (by decide) ?_)))
  trivial
set_option maxHeartbeats 4000000 in
theorem low_calls (w : World) (news : List (Addr × Obj)) (x : Int) (t u : Tok) (n : Nat) (hn : n ≤ 5) :
    Calls w (.ref 369) [.int x t, .int n u] news 5 100 (fun h₀ L h' v => ∃ l vs, v = .ref l ∧ News h₀ L h' ((l, LCg.lst vs) :: news) ∧ IntsAre vs (KTBy.little n x) ∧ (∀ p ∈ news, p.1 ≠ l)) := by
  unfold Calls
  k_fill
  intro p loose mean mg mb dp un gd cn cs a ccd cl outer A₀ base h₀ L m s Q E B F X N T hk hd hu hret
  obtain ⟨kd, nm, ig, ic, mo⟩ := cs
  cases hk
  refine wpAny_call ?_
  k_dflt k_enter
  k_steps
  all_goals (
    with_reducible rename IntsAre _ _ => hi
    with_reducible rename _ ∧ LCg.Off1 _ _ => ho
    rw [Int.sub_zero, Int.toNat_natCast, low_eq] at hi
    exact hret _ _ _ (by k_asm) ⟨_, _, rfl, news_drop1 (by k_asm), hi, off1_all ho.2⟩)

end
section
theorem words_04_lists : True := by
  k_with_none
  (k_with "z ktr_units" => ((simp only [units_under_kw, units_in1, units_deeper, Around.mark_units, units_caller, ktrTop, cLine_is] at ⊢); (rename _ < cLine => zrhcU); (rw [cLine_is] at zrhcU); omega))
  (k_with "z ktr_room" => ((simp only [depth_under_kw, depth_in1, depth_deeper, depth_caller, ktrTop] at ⊢); omega))
  (k_with "z ktr_units" => ((rename _ < cLine => zrhcU); first | exact u3 zrhcU rfl | exact u2 zrhcU rfl | exact u4 zrhcU rfl | exact u5 zrhcU rfl | exact u1 zrhcU))
  (k_with "z ktr_room" => ((rename _ < recursionLimit => zrhcD); first | exact u2 zrhcD rfl | exact u3 zrhcD rfl | exact u4 zrhcD rfl | exact u5 zrhcD rfl | exact u1 zrhcD))
  (k_with "z k_room" => ktr_room)
  (k_with "z k_units" => ktr_units)
  (k_with "z k_mem" => ((show @Membership.mem (Addr × Obj) (List (Addr × Obj)) _ _ _); with_reducible assumption))
  (k_with "om0" => ((repeat (with_reducible rename _ ≠ _ ∧ _ => zrhz; clear zrhz)); (repeat (with_reducible rename (_ ≠ _ ∧ _) ∧ _ => zrhz; clear zrhz)); omega))
  (k_with "bd1" => first | decide | (with_reducible first | apply om_b1 | apply om_b2 | apply om_b3 | apply om_b4 | apply om_b5 | apply om_b6 | apply om_b7 | apply om_bs | apply om_bt | apply om_bz | apply om_bt4 | apply om_b2t | apply om_bm | (apply om_bq; assumption) | refine om_bl (by assumption) ?_ | refine om_be (by assumption) ?_ | (apply om_bk; assumption; decide) | (apply om_bv; assumption; decide)))
  (k_with "bd" => (k_whole; (with_reducible first | (apply om_b0; rotate_left; with_unfolding_all rfl) | (apply om_b0l; rotate_left; with_unfolding_all rfl)); (repeat' k_extra "bd1"); done))
  (k_with "five" => first | assumption | exact om_lk5 (by assumption) | exact om_lt5 (by assumption) | exact Nat.le_trans (by assumption) (om_lk5 (by assumption)) | exact Nat.le_trans (by assumption) (om_lt5 (by assumption)))
  (k_with "om1" => first | rfl | assumption | exact And.left (by assumption) | exact And.right (by assumption) | ((show @LE.le Int _ _ _); first | apply Int.natCast_nonneg | (apply om_sub_nn; assumption) | (apply om_sa0; assumption) | (apply Int.le_of_lt; apply om_lp2) | (apply Int.le_add_of_nonneg_right; first | assumption | apply Int.natCast_nonneg)) | ((show @LE.le Nat _ _ _); apply Nat.le_of_lt; assumption) | ((show @LT.lt Int _ _ _); apply om_lp2) | ((show @LT.lt Nat _ _ _); first | (apply om_posD; assumption) | (apply om_posF; assumption)) | ((show @Eq Nat _ _); first | apply tns | apply tn0 | (apply castD; assumption) | (apply castF; assumption)))
  (k_with "om2" => first | decide | ((show @LE.le Nat _ _ _); first | exact Nat.le_trans (by assumption) (by decide) | exact om_be (by assumption) (by decide) | (apply om_bq4; assumption; rfl) | (apply om_kbt; assumption; k_extra "five") | (apply om_kmt <;> assumption)) | ((show @LE.le Int _ _ _); first | (apply Int.le_add_of_nonneg_right; decide) | (apply om_ic 5; k_extra "five"; decide) | (apply om_sub_le0; apply om_ic 5; k_extra "five"; decide) | (apply om_sub0_le; apply om_ic 5; k_extra "five"; decide) | (apply om_sa4; k_extra "five") | (refine Int.le_trans (om_kb (by assumption) (by k_extra "five")) (by decide)) | (apply om_kb1; assumption; k_extra "five") | (apply om_kb2; assumption; k_extra "five") | (apply om_km <;> assumption)) | ((show @Eq Int _ _); first | (apply om_lnO; assumption) | (apply om_lnI <;> assumption) | (apply om_lnF; assumption)) | ((show @LT.lt Int _ _ _); first | (apply om_icl 5; k_extra "five"; decide) | exact Int.lt_of_lt_of_le (by decide) (And.left (by assumption)) | exact Int.lt_trans (And.right (by assumption)) (by decide)))
  (k_with "nn" => ((show @LE.le Int _ _ _); apply Int.add_nonneg; (repeat' first | apply Int.natCast_nonneg | assumption | decide | apply Int.add_nonneg); done))
  (k_with "om" => first | (k_whole; with_reducible k_extra "om1") | (k_whole; with_reducible k_extra "om2") | (k_whole; with_reducible k_extra "nn") | k_extra "bd" | k_extra "om0")
  (k_with "z kba_size" => k_extra "bd")
  (k_with "fold" => (refine' let_A ?_; intro qa; k_fold))
  (k_with "ite" => first | refine ite_dpos (by assumption) ?_ | refine ite_dneg (by first | assumption | (apply Int.not_lt.mpr; assumption) | (apply Int.not_le.mpr; assumption)) ?_)
  (k_with "z kcf_bnd" => first | (k_whole; with_reducible k_extra "om1") | (k_whole; with_reducible k_extra "om2") | (k_whole; with_reducible k_extra "nn") | k_extra "bd")
  (k_with "gl" => with_reducible (first | exact glUSEDKEYLENGTHBYTES _ | exact glUSEDVALUELENGTHBYTES _ | exact glPAGEREFERENCEBYTES _ | exact glENDIAN _ | exact glRecord _ | exact glReference _ | exact gllawlow _ | exact gllawkey _ | exact gllawparts _ | exact gllawpages _ | exact gllawdone _ | exact gllawnumber _ | exact gllawsigns _ | exact glTreeConf _ | exact glStrSerializer _ | exact glIntSerializer _ | exact gllawrecord _ | exact gllawreference _ | exact gllawread _ | exact gllaworder _))
  (k_with "gb" => with_reducible (first | exact glint _ | exact gllen _ | exact glbytes _ | exact glisinstance _ | exact glrange _ | exact glenumerate _ | exact gltuple _ | exact gltype _))
  (k_with "eval Name" => (k_here; k_dflt (first | (refine' nameX_L ?zqF ?zqv ?_ ?zqa ?zqb; (case zqF => k_asm); (case zqa => exact Eq.refl ScopeKind.function); (case zqb => exact Eq.refl (some NameKind.local)); (case zqv => exact Eq.refl (some _)); k_whole) | (refine' name_top ?zqg ?zqF ?zqX ?zqT ?zqa ?zqb ?_; (case zqX => k_asm); (case zqg => k_extra "gl"); (case zqF => k_asm); (case zqT => k_asm); (case zqa => exact Eq.refl ScopeKind.function); (case zqb => exact Eq.refl (some NameKind.globalImplicit)); k_whole) | (refine' name_boot ?zqg ?zqF ?zqX ?zqT ?zqa ?zqb ?_; (case zqX => k_asm); (case zqg => k_extra "gb"); (case zqF => k_asm); (case zqT => k_asm); (case zqa => exact Eq.refl ScopeKind.function); (case zqb => exact Eq.refl (some NameKind.globalImplicit)); k_whole))))
  (k_with "callWith ref" => (k_here; k_dflt (first | (refine' callWith_K ?zqk1 ?zqk2 ?_; (case zqk1 => k_asm); (case zqk2 => k_extra "kp"); k_whole) | (refine' callWith_K0 ?zqk1 ?zqk2 ?_; (case zqk1 => first | with_reducible assumption | exact Frag.In.keeps (by with_reducible assumption) (Fr.keep (by with_reducible assumption)) | k_in); (case zqk2 => k_extra "kp"); k_whole) | (refine' callWith_M0 ?zqk1 ?zqk2 ?_; (case zqk1 => k_meth); (case zqk2 => k_extra "kp"); k_whole; (try dsimp only [List.nil_append, List.cons_append])) | (refine' callWith_M ?zqk1 ?zqk2 ?zqk3 ?zqk4 ?_; (case zqk1 => k_asm); (case zqk2 => k_asm); (case zqk3 => k_mem); (case zqk4 => k_is); k_whole) | (refine' callWith_KW ?zqk1 ?zqk2 ?zqk3 ?_; (case zqk1 => k_asm); (case zqk2 => k_extra "kp"); (case zqk3 => exact rfl); k_whole) | (refine' callWith_KW0 ?zqk1 ?zqk2 ?zqk3 ?_; (case zqk1 => k_asm); (case zqk2 => k_extra "kp"); (case zqk3 => exact rfl); k_whole))))
  (k_with "getMethod type:int" => (k_here; (with_reducible refine' KFB.getm ?zqkfbF ?zqkfbN ?zqkfbX ?zqkfbE ?_); k_dflt ((case zqkfbF => k_asm); (case zqkfbN => k_asm); (case zqkfbX => k_asm); (case zqkfbE => exact from_bytes_at _); k_whole; intro x' h' F' N' l1; (try k_lt l1); (try k_sweep))))
  (k_with "kp" => first | with_reducible assumption | (with_reducible first | exact kp232 _ | exact kp273 _ | exact kp355 _ | exact kp369 _ | exact kp376 _ | exact kp381 _ | exact kp388 _ | exact kp395 _ | exact kp400 _ | exact kp407 _ | exact kp412 _ | exact kp419 _ | exact kp141 _ | exact kp346 _ | exact kp320 _) | k_is)
  (k_with "getAttr ref" => (k_here; (with_reducible show wpAny _ _ (getAttr (Value.ref _) (PySem.Str.ofString "key_size") _) _ _ _); k_dflt (refine' conf_attr (And.left (get_conf _ _ _ _ _ _ _ _ _ _ ?zqm)) ?zqm2 ?zqc1 ?zqc3 ?zqB ?zqF ?zqX ?zqN ?zqT ?zqk ?zqd ?zqu ?zqp ?zqp2 ?zqp3 ?zqf2 ?zqf3 ?zqf4 ?zqhh ?_; (case zqN => k_asm); (case zqm => k_mem); (case zqm2 => k_mem); (case zqc1 => exact rfl); (case zqc3 => exact rfl); (case zqB => k_asm); (case zqF => k_asm); (case zqX => k_asm); (case zqT => k_asm); (case zqk => exact rfl); (case zqd => ktr_room); (case zqu => ktr_units); (case zqp => k_is); (case zqp2 => k_is); (case zqp3 => k_is); (case zqf2 => k_is); (case zqf3 => k_is); (case zqf4 => k_is); (case zqhh => exact rfl); k_whole; intro h' tk' F' N'; (try k_sweep))))
  (k_with "getAttr ref" => (k_here; (with_reducible show wpAny _ _ (getAttr (Value.ref _) (PySem.Str.ofString "value_size") _) _ _ _); k_dflt (refine' conf_attr (And.left (And.right (get_conf _ _ _ _ _ _ _ _ _ _ ?zqm))) ?zqm2 ?zqc1 ?zqc3 ?zqB ?zqF ?zqX ?zqN ?zqT ?zqk ?zqd ?zqu ?zqp ?zqp2 ?zqp3 ?zqf2 ?zqf3 ?zqf4 ?zqhh ?_; (case zqN => k_asm); (case zqm => k_mem); (case zqm2 => k_mem); (case zqc1 => exact rfl); (case zqc3 => exact rfl); (case zqB => k_asm); (case zqF => k_asm); (case zqX => k_asm); (case zqT => k_asm); (case zqk => exact rfl); (case zqd => ktr_room); (case zqu => ktr_units); (case zqp => k_is); (case zqp2 => k_is); (case zqp3 => k_is); (case zqf2 => k_is); (case zqf3 => k_is); (case zqf4 => k_is); (case zqhh => exact rfl); k_whole; intro h' tk' F' N'; (try k_sweep))))
  (k_with "getAttr ref" => (k_here; (with_reducible show wpAny _ _ (getAttr (Value.ref _) (PySem.Str.ofString "serializer") _) _ _ _); k_dflt (refine' conf_attr (And.right (And.right (get_conf _ _ _ _ _ _ _ _ _ _ ?zqm))) ?zqm2 ?zqc1 ?zqc3 ?zqB ?zqF ?zqX ?zqN ?zqT ?zqk ?zqd ?zqu ?zqp ?zqp2 ?zqp3 ?zqf2 ?zqf3 ?zqf4 ?zqhh ?_; (case zqN => k_asm); (case zqm => k_mem); (case zqm2 => k_mem); (case zqc1 => exact rfl); (case zqc3 => exact rfl); (case zqB => k_asm); (case zqF => k_asm); (case zqX => k_asm); (case zqT => k_asm); (case zqk => exact rfl); (case zqd => ktr_room); (case zqu => ktr_units); (case zqp => k_is); (case zqp2 => k_is); (case zqp3 => k_is); (case zqf2 => k_is); (case zqf3 => k_is); (case zqf4 => k_is); (case zqhh => exact rfl); k_whole; intro h' tk' F' N'; (try k_sweep))))
  trivial
theorem calls_use {w : World} {f : Value} {vs : List Value} {news : List (Addr × Obj)} {dm um : Nat} {Post : Heap → Addr → Heap → Value → Prop}
    {p : Program} {loose : List Str} {mean : ExcName → Option Value} {mg mb : Str → Option Value}
    {dp un : Nat} {gd : Option (List Code)} {cn : Str} {cs : Scope} {a : Addr} {ccd : Value} {cl : List (Str × Addr)} {outer : List Env} {A₀ : Around} {base h₀ : Heap} {L : Addr} {m : Str → Option Value} {s : Shared} {Q E : Value → Shared → Prop}
    (h : Calls w f vs news dm um Post) (B : Below A₀ base outer h₀) (F : Fr h₀ L s.heap m) (X : (hd.heap_1 w.params).In h₀) (N : News h₀ L s.heap news) (T : Top p loose mean mg mb h₀) (hk : cs.kind = .function)
    (hdp : dp + dm < recursionLimit) (hu : un + um < cLine)
    (hret : ∀ (v : Value) (h' : Heap) (tk' : Nat), Fr h₀ L h' m → Post h₀ L h' v → Q v { s with heap := h', toks := tk' }) :
    wpAny (model PySem.Challenge.rw_ke0001_01.row.prog w) (ktrTop dp un gd cn cs L a ccd cl outer) (call f vs) Q E s :=
  h p loose mean mg mb dp un gd cn cs a ccd cl outer A₀ base h₀ L m s Q E B F X N T hk hdp hu hret
def AllNe (d : Nat) : List (Addr × Obj) → Prop
  | [] => True
  | p :: r => @Ne Nat p.1 d ∧ AllNe d r
theorem allNe_of {d : Addr} {l : List (Addr × Obj)} (h : ∀ p ∈ l, p.1 ≠ d) : AllNe d l := by
  induction l with
  | nil => trivial
  | cons q r ih => exact ⟨h q (.head _), ih fun p hp => h p (.tail _ hp)⟩
theorem allNe_mem {d : Addr} {l : List (Addr × Obj)} (h : AllNe d l) : ∀ p ∈ l, p.1 ≠ d := by
  induction l with
  | nil => intro p hp; cases hp
  | cons q r ih =>
    intro p hp
    rcases List.mem_cons.mp hp with e | hp
    · subst e; exact h.1
    · exact ih h.2 p hp
theorem allLt_mem {d : Addr} {l : List (Addr × Obj)} (h : AllLt d l) : ∀ p ∈ l, p.1 < d := by
  induction l with
  | nil => intro p hp; cases hp
  | cons q r ih =>
    intro p hp
    rcases List.mem_cons.mp hp with e | hp
    · subst e; exact h.1
    · exact ih h.2 p hp
theorem len_ints {prog : Program} {w : World} {A : Around} {E : Value → Shared → Prop} {s : Shared} {h₀ : Heap} {L l : Addr} {news : List (Addr × Obj)} {vs : List Value} {e : Nat} {ns : List Int} {Q : Value → Shared → Prop}
    (N : News h₀ L s.heap news) (hm : (l, listOf vs.toArray e) ∈ news) (hi : IntsAre vs ns) (hf : ns.length < 2 ^ 62) (h : Q (.int (ns.length : Nat) (s.toks + 1)) { s with toks := s.toks + 1 + 1 }) :
    wpAny (model prog w) A (call (.builtin "len") [.ref l]) Q E s :=
  KM.len_K N hm (by rw [List.size_toArray, hi.length]) hf h
theorem add_ints {prog : Program} {w : World} {A : Around} {E : Value → Shared → Prop} {s : Shared} {h₀ : Heap} {L a b : Addr} {m : Str → Option Value} {news : List (Addr × Obj)} {vs ws : List Value} {e e2 : Nat} {ns ms : List Int} {Q : Value → Shared → Prop}
    (F : Fr h₀ L s.heap m) (N : News h₀ L s.heap news) (ha : (a, listOf vs.toArray e) ∈ news) (hb : (b, listOf ws.toArray e2) ∈ news) (hi : IntsAre vs ns) (hj : IntsAre ws ms) (hf : ns.length + ms.length ≤ 1000)
    (h : ∀ l us h', Fr h₀ L h' m → News h₀ L h' ((l, listOf us.toArray 0) :: news) → IntsAre us (ns ++ ms) → (∀ p ∈ news, p.1 < l) → Q (.ref l) { s with heap := h' }) :
    wpAny (model prog w) A (binaryOp .Add (.ref a) (.ref b)) Q E s :=
  add_lists_ints (hsz := by rw [sizeLine_eq]; omega) F N (News.isList N ha) (News.isList N hb) hi hj fun h' F' N' I' => h _ _ h' F' N' I' fun p hp => Heap.lt_size (N p hp).1
theorem mul_ints {prog : Program} {w : World} {A : Around} {E : Value → Shared → Prop} {s : Shared} {h₀ : Heap} {L a : Addr} {m : Str → Option Value} {news : List (Addr × Obj)} {z : Int} {tz : Tok} {e : Nat} {x : Int} {u : Tok} {Q : Value → Shared → Prop}
    (F : Fr h₀ L s.heap m) (N : News h₀ L s.heap news) (ha : (a, listOf [Value.int z tz].toArray e) ∈ news) (h0 : 0 ≤ x) (h1 : x ≤ 1000)
    (h : ∀ l us h', Fr h₀ L h' m → News h₀ L h' ((l, listOf us.toArray 0) :: news) → IntsAre us (List.replicate x.toNat z) → (∀ p ∈ news, p.1 < l) → Q (.ref l) { s with heap := h' }) :
    wpAny (model prog w) A (binaryOp .Mult (.ref a) (.int x u)) Q E s := by
  refine KM.mul (vs := [Value.int z tz]) (ns := [z]) F N (News.isList N ha) (.cons _ _ .nil) (by k_extra "om") (by k_extra "om") (by simp only [List.length_cons, List.length_nil]; omega) fun D h' F' N' l1 i1 _ _ _ _ _ => ?_
  refine h _ _ h' F' N' ?_ l1
  have e : (List.replicate x.toNat [z]).flatten = List.replicate x.toNat z := by simp
  rw [e] at i1
  exact i1
theorem news_keep {h₀ h : Heap} {L : Addr} {p : Addr × Obj} {l news : List (Addr × Obj)} (N : News h₀ L h (p :: l)) (hs : ∀ q ∈ news, q ∈ l) : News h₀ L h (p :: news) := fun r hr => N r (by
  cases hr with
  | head => exact .head _
  | tail _ hr => exact .tail _ (hs r hr))
theorem allNe_of_lt {d : Addr} {l : List (Addr × Obj)} (h : AllLt d l) : ∀ p ∈ l, p.1 ≠ d := fun p hp => Nat.ne_of_lt (allLt_mem h p hp)
theorem allNe_mem2 {d a : Addr} {o : Obj} {l : List (Addr × Obj)} (h : AllNe d l) (m : (a, o) ∈ l) : @Ne Nat a d := allNe_mem h _ m
theorem news_ne {h₀ h : Heap} {L a b : Addr} {oa ob : Obj} {news : List (Addr × Obj)} (N : News h₀ L h news) (ha : (a, oa) ∈ news) (hb : (b, ob) ∈ news) (hne : oa.cls ≠ ob.cls) : @Ne Nat a b := fun e => by
  have h1 := (N _ ha).1
  have h2 := (N _ hb).1
  dsimp only at h1 h2
  rw [show a = b from e, h2] at h1
  cases h1
  exact hne rfl

end
section
theorem words_05_parts : True := by
  (k_with "ne" => first | (with_reducible assumption) | (exact Nat.ne_of_lt (by with_reducible assumption)) | (exact Nat.ne_of_gt (by with_reducible assumption)) | (exact Ne.symm (by with_reducible assumption)) | (exact allNe_mem2 (by with_reducible assumption) (by k_mem)) | (exact Ne.symm (allNe_mem2 (by with_reducible assumption) (by k_mem))) | (exact ng0 (by with_reducible assumption)) | (exact nl0 (by with_reducible assumption)) | (exact ng1 (by with_reducible assumption)) | (exact nl1 (by with_reducible assumption)) | (exact fg1 (by with_reducible assumption)) | (exact fl1 (by with_reducible assumption)) | (exact ng2 (by with_reducible assumption)) | (exact nl2 (by with_reducible assumption)) | (exact fg2 (by with_reducible assumption)) | (exact fl2 (by with_reducible assumption)) | (exact ng3 (by with_reducible assumption)) | (exact nl3 (by with_reducible assumption)) | (exact fg3 (by with_reducible assumption)) | (exact fl3 (by with_reducible assumption)) | (exact ng4 (by with_reducible assumption)) | (exact nl4 (by with_reducible assumption)) | (exact fg4 (by with_reducible assumption)) | (exact fl4 (by with_reducible assumption)) | (exact ng5 (by with_reducible assumption)) | (exact nl5 (by with_reducible assumption)) | (exact fg5 (by with_reducible assumption)) | (exact fl5 (by with_reducible assumption)) | (exact ng6 (by with_reducible assumption)) | (exact nl6 (by with_reducible assumption)) | (exact fg6 (by with_reducible assumption)) | (exact fl6 (by with_reducible assumption)) | (exact ng7 (by with_reducible assumption)) | (exact nl7 (by with_reducible assumption)) | (exact fg7 (by with_reducible assumption)) | (exact fl7 (by with_reducible assumption)) | (exact ng8 (by with_reducible assumption)) | (exact nl8 (by with_reducible assumption)) | (exact fg8 (by with_reducible assumption)) | (exact fl8 (by with_reducible assumption)) | (exact ng9 (by with_reducible assumption)) | (exact nl9 (by with_reducible assumption)) | (exact fg9 (by with_reducible assumption)) | (exact fl9 (by with_reducible assumption)) | (exact ng10 (by with_reducible assumption)) | (exact nl10 (by with_reducible assumption)) | (exact fg10 (by with_reducible assumption)) | (exact fl10 (by with_reducible assumption)) | (exact ng11 (by with_reducible assumption)) | (exact nl11 (by with_reducible assumption)) | (exact fg11 (by with_reducible assumption)) | (exact fl11 (by with_reducible assumption)) | (exact ng12 (by with_reducible assumption)) | (exact nl12 (by with_reducible assumption)) | (exact fg12 (by with_reducible assumption)) | (exact fl12 (by with_reducible assumption)) | (exact ng13 (by with_reducible assumption)) | (exact nl13 (by with_reducible assumption)) | (exact fg13 (by with_reducible assumption)) | (exact fl13 (by with_reducible assumption)) | (exact na0 (by with_reducible assumption)) | (exact nb0 (by with_reducible assumption)) | (exact na1 (by with_reducible assumption)) | (exact nb1 (by with_reducible assumption)) | (exact na2 (by with_reducible assumption)) | (exact nb2 (by with_reducible assumption)) | (exact na3 (by with_reducible assumption)) | (exact nb3 (by with_reducible assumption)) | (exact na4 (by with_reducible assumption)) | (exact nb4 (by with_reducible assumption)) | (exact na5 (by with_reducible assumption)) | (exact nb5 (by with_reducible assumption)) | (exact na6 (by with_reducible assumption)) | (exact nb6 (by with_reducible assumption)) | (exact na7 (by with_reducible assumption)) | (exact nb7 (by with_reducible assumption)) | (exact na8 (by with_reducible assumption)) | (exact nb8 (by with_reducible assumption)) | (exact na9 (by with_reducible assumption)) | (exact nb9 (by with_reducible assumption)) | (exact oi1) | (exact os1) | (exact ok1 (by with_reducible assumption)) | (exact oc1 (by with_reducible assumption)) | (exact oi2) | (exact os2) | (exact ok2 (by with_reducible assumption)) | (exact oc2 (by with_reducible assumption)) | (exact oi3) | (exact os3) | (exact ok3 (by with_reducible assumption)) | (exact oc3 (by with_reducible assumption)) | (exact oi4) | (exact os4) | (exact ok4 (by with_reducible assumption)) | (exact oc4 (by with_reducible assumption)) | (exact oi5) | (exact os5) | (exact ok5 (by with_reducible assumption)) | (exact oc5 (by with_reducible assumption)) | (exact news_ne (by k_asm) (by k_mem) (by k_mem) (by intro e; cases e)))
  (k_with "z k_ne" => (refine neN ?_; (try dsimp only); k_extra "ne"))
  (k_with "z k_all" => first | exact allNe_mem (by with_reducible assumption) | exact allNe_of_lt (by with_reducible assumption) | with_reducible assumption)
  (k_with "call ref" => (k_here; (with_reducible show wpAny _ _ (call (Value.ref 369) [Value.int _ _, Value.int _ _]) _ _ _); k_dflt (first | (refine' calls_use (low_calls _ _ _ _ _ 2 (by decide)) ?zqB ?zqF ?zqX ?zqN ?zqT ?zqk ?zqd ?zqu ?_; (case zqB => k_asm); (case zqF => k_asm); (case zqX => k_asm); (case zqN => k_asm); (case zqT => k_asm); (case zqk => exact rfl); (case zqd => ktr_room); (case zqu => ktr_units); k_whole) | (refine' calls_use (low_calls _ _ _ _ _ 4 (by decide)) ?zqB ?zqF ?zqX ?zqN ?zqT ?zqk ?zqd ?zqu ?_; (case zqB => k_asm); (case zqF => k_asm); (case zqX => k_asm); (case zqN => k_asm); (case zqT => k_asm); (case zqk => exact rfl); (case zqd => ktr_room); (case zqu => ktr_units); k_whole) | (refine' calls_use (low_calls _ _ _ _ _ _ ?zqn) ?zqB ?zqF ?zqX ?zqN ?zqT ?zqk ?zqd ?zqu ?_; (case zqB => k_asm); (case zqF => k_asm); (case zqX => k_asm); (case zqN => k_asm); (case zqT => k_asm); (case zqk => exact rfl); (case zqd => ktr_room); (case zqu => ktr_units); (case zqn => k_extra "om"); k_whole)); intro v' h' tk' F' P'; obtain ⟨l', vs', hv', N', hI', hO'⟩ := P'; subst hv'; (replace hO' := allNe_of hO'); (try dsimp only); (try k_fold)))
  (k_with "call builtin:len" => (k_here; (with_reducible show wpAny _ _ (call (Value.builtin "len") [Value.ref _]) _ _ _); k_dflt (refine' len_ints ?zqN ?zqm ?zqi ?zqf ?_; (case zqN => k_asm); (case zqm => k_mem); (case zqi => with_reducible assumption); (case zqf => ((try simp only [List.length_append, List.length_replicate, KTBy.little_length]); k_extra "om")); k_whole)))
  (k_with "binaryOp Add ref ref" => (k_here; (with_reducible show wpAny _ _ (binaryOp Operator.Add (Value.ref _) (Value.ref _)) _ _ _); k_dflt (refine' add_ints ?zqF ?zqN ?zqa ?zqb ?zqi ?zqj ?zqf ?_; (case zqF => k_asm); (case zqN => k_asm); (case zqa => k_mem); (case zqb => k_mem); (case zqi => with_reducible assumption); (case zqj => with_reducible assumption); (case zqf => ((try simp only [List.length_append, List.length_replicate, KTBy.little_length]); k_extra "om")); k_whole; intro l' us' h' F' N' I' l1; (try k_lt l1); (try k_sweep))))
  (k_with "binaryOp Mult ref int" => (k_here; (with_reducible show wpAny _ _ (binaryOp Operator.Mult (Value.ref _) (Value.int _ _)) _ _ _); k_dflt (refine' mul_ints ?zqF ?zqN ?zqa ?zqg ?zqf ?_; (case zqF => k_asm); (case zqN => k_asm); (case zqa => k_mem); (case zqg => k_extra "om"); (case zqf => k_extra "om"); k_whole; intro l' us' h' F' N' I' l1; (try k_lt l1); (try k_sweep))))
  trivial
set_option maxHeartbeats 4000000 in
theorem parts_calls (w : World) (news : List (Addr × Obj)) (c : Addr) (ks vsz : Nat) (sr : Addr) (t1 t2 t3 t4 : Tok) (hc : (c, confObj ks vsz sr t1 t2 t3 t4) ∈ news) (hks : ks ≤ 5)
    (l : Addr) (vs : List Value) (e : Nat) (ns : List Int) (hl : (l, listOf vs.toArray e) ∈ news) (hi : IntsAre vs ns) (hlen : ns.length ≤ ks) :
    Calls w (.ref 388) [.ref c, .ref l] news 10 200 (fun h₀ L h' v => ∃ l' vs' e', v = .ref l' ∧ News h₀ L h' ((l', listOf vs'.toArray e') :: news) ∧ IntsAre vs' (KTBy.little 2 ns.length ++ ns ++ List.replicate (ks - ns.length) 0) ∧ (∀ p ∈ news, p.1 ≠ l')) := by
  unfold Calls
  k_fill
  intro p loose mean mg mb dp un gd cn cs a ccd cl outer A₀ base h₀ L m s Q E B F X N T hk hd hu hret
  obtain ⟨kd, nm, ig, ic, mo⟩ := cs
  cases hk
  refine wpAny_call ?_
  k_dflt k_enter
  k_steps
  all_goals (
    repeat (with_reducible rename _ ∧ _ => hz; obtain ⟨_, _⟩ := hz)
    with_reducible rename IntsAre _ _ => hi'
    rw [show ((ks : Int) - (ns.length : Int)).toNat = ks - ns.length by k_extra "om"] at hi'
    exact hret _ _ _ (by k_asm) ⟨_, _, _, rfl, news_keep (by k_asm) (by intro q hq; k_mem), hi', by k_all⟩)

end
section
theorem words_06_bytes : True := by
  (k_with "call ref" => (k_here; (with_reducible show wpAny _ _ (call (Value.ref 388) [Value.ref _, Value.ref _]) _ _ _); k_dflt ((refine' calls_use (parts_calls _ _ _ _ _ _ _ _ _ _ ?zqm ?zqz _ _ _ _ ?zql ?zqi ?zqe) ?zqB ?zqF ?zqX ?zqN ?zqT ?zqk ?zqd ?zqu ?_; (case zqB => k_asm); (case zqF => k_asm); (case zqX => k_asm); (case zqN => k_asm); (case zqT => k_asm); (case zqk => exact rfl); (case zqd => ktr_room); (case zqu => ktr_units); (case zqm => k_mem); (case zql => k_mem); (case zqi => with_reducible assumption); (case zqz => k_extra "om"); (case zqe => ((try simp only [List.length_append, List.length_replicate, KTBy.little_length]); k_extra "om")); k_whole)); intro v' h' tk' F' P'; obtain ⟨l', vs', e', hv', N', hI', hO'⟩ := P'; subst hv'; (replace hO' := allNe_of hO'); (try dsimp only); (try k_fold)))
  trivial
section
variable {prog : Program} {w : World} {A : Around} {E : Value → Shared → Prop} {s : Shared} {x : Int} {k : Nat} {t u v : Tok}
open PySem.Builtin.Int (intBits) in
theorem bits_gt (h1 : (256 : Int) ^ k ≤ x) : 8 * k < intBits x := by
  by_cases hc : 8 * k < intBits x
  · exact hc
  · have hle : intBits x ≤ 8 * k := by k_extra "om"
    have hn := intBits_le_iff.mp hle
    have e2 : (2 : Nat) ^ 8 = 256 := by decide
    rw [Nat.pow_mul, e2] at hn
    rw [KTBy.p256] at h1
    omega
theorem to_bytes_all {Q : Value → Shared → Prop} (hA : A.handled = none) (hk : k ≤ 8)
    (hok : 0 ≤ x → x < 256 ^ k → ∀ (b : Array UInt8) t' k', KBw.bInts b = KTBy.little k x → Q (.bytes b t') { s with toks := k' })
    (hbad : (x < 0 ∨ 256 ^ k ≤ x) → ∀ h' tk e, Heap.NewExc s.heap h' e "OverflowError" → E (.ref e) { s with heap := h', toks := tk }) :
    wpAny (model prog w) A (call (.builtin "int.to_bytes") [.int x t, .int (k : Int) u, .str (PySem.Str.ofString "little") v]) Q E s := by
  by_cases hin : 0 ≤ x ∧ x < 256 ^ k
  · exact KTBy.to_little hk rfl hin.1 hin.2 fun b t' k' hb _ => hok hin.1 hin.2 b t' k' hb
  refine wpAny_call_entry KTBy.slot (typeIs_int s x t) KTBy.entry ?_ (KTBy.args _ _ _)
  show wpAny _ _ (Builtin.Int.intOfSelf (.int x t) >>= fun y => _) _ _ s
  refine wpAny_bind (wpAny_of_eq (a := x) rfl ?_)
  show wpAny _ _ (Builtin.Int.intBindNamed "to_bytes" ["length", "byteorder", "signed"] 0 2 [.int (k : Int) u, .str (PySem.Str.ofString "little") v] [] >>= fun l => _) _ _ s
  refine wpAny_bind (wpAny_of_eq (a := [some (.int (k : Int) u), some (.str (PySem.Str.ofString "little") v), none]) (by kernel_rfl) ?_)
  show wpAny _ _ (Builtin.Int.intIndex "int.to_bytes" (.int (k : Int) u) >>= fun n => _) _ _ s
  refine wpAny_bind (wpAny_of_eq (a := (k : Int)) rfl ?_)
  refine KTBy.if_not (by show (decide ((k : Int) < -(2 ^ 63 : Int)) || decide ((k : Int) ≥ 2 ^ 63)) = false; rw [decide_eq_false (show ¬ ((k : Int) < -(2 ^ 63 : Int)) by k_extra "om"), decide_eq_false (show ¬ ((k : Int) ≥ 2 ^ 63) by k_extra "om")]; rfl) ?_
  refine wpAny_bind (wpAny_of_eq (a := PySem.Str.ofString "little") (by kernel_rfl) ?_)
  refine wpAny_bind (wpAny_of_eq (a := false) rfl ?_)
  refine wpAny_bind (wpAny_of_eq (a := true) (by kernel_rfl) ?_)
  refine wpAny_ite_false (decide_eq_false (show ¬ ((k : Int) < 0) by k_extra "om")) ?_
  refine wpAny_ite_false (decide_eq_false (show ¬ ((k : Int) > 2 ^ 63 - 1 - 33) by k_extra "om")) ?_
  refine wpAny_ite_false (decide_eq_false (show ¬ ((k : Int) > (sizeLine : Int)) by rw [sizeLine_eq]; omega)) ?_
  by_cases hneg : x < 0
  · refine KFB.if_so (by show (decide (x < 0) && !false) = true; rw [decide_eq_true hneg]; rfl) ?_
    refine wpAny_bind (wpAny_rule (wpAny_bind ?_))
    exact wpAny_raiseErrorWords plainExc_OverflowError hA fun h' tk e hx => hbad (.inl hneg) h' tk e hx
  · have hbig : (256 : Int) ^ k ≤ x := by
      by_cases h : x < 256 ^ k
      · exact absurd ⟨by k_extra "om", h⟩ hin
      · omega
    have hb := bits_gt hbig
    have hx0 : x ≠ 0 := by
      have : (0 : Int) < 256 ^ k := Int.pow_pos (by decide)
      omega
    refine KTBy.if_not (by show (decide (x < 0) && !false) = false; rw [decide_eq_false hneg]; rfl) ?_
    refine KFB.if_so (by show (x != 0 && decide ((Builtin.Int.intBits x : Int) > 8 * (k : Int))) = true; rw [decide_eq_true (show ((Builtin.Int.intBits x : Int) > 8 * (k : Int)) by k_extra "om"), Bool.and_true]; exact bne_iff_ne.mpr hx0) ?_
    refine wpAny_bind (wpAny_rule (wpAny_bind ?_))
    exact wpAny_raiseErrorWords plainExc_OverflowError hA fun h' tk e hx => hbad (.inr hbig) h' tk e hx
end
section
open PySem.Builtin PySem.Builtin._codecs
theorem encode_kw_tree (x : Str) (t u : Tok) : «str.encode» ⟨[.str x t], [(PySem.Str.ofString "encoding", .str (PySem.Str.ofString "utf-8") u)]⟩ = (do ret (← encodeRoad "str.encode" (.str x t) x (Str.ofString "utf-8") none)) := by
  first | rfl | kernel_rfl
theorem args_encode_kw (x : Str) (t u : Tok) : argsOk "str.encode" ⟨[.str x t], [(PySem.Str.ofString "encoding", .str (PySem.Str.ofString "utf-8") u)]⟩ := by
  unfold argsOk; kernel_rfl
variable {prog : Program} {w : World} {A : Around} {E : Value → Shared → Prop} {s : Shared}
theorem encode_method {M : Model} {x : Str} {t : Tok} {pl : Sem Bool} {Q : Value × List Value → Shared → Prop} (h : Q (.builtin "str.encode", [.str x t]) s) : wpAny M A (getMethod (.str x t) (PySem.Str.ofString "encode") pl) Q E s :=
  getMethod_builtin (typeIs_str _ _ _) F.plainAttrs_str F.slot_str_encode F.type_str_encode (fun _ e => nomatch e) h
theorem encode_call {x : Str} {t u : Tok} {b : Array UInt8} {Q : Value → Shared → Prop} (he : ∀ id self, encodeNarrow id utf8Codec none self x = pure b) (hz : b.size ≤ 1000)
    (h : ∀ t' k', Q (.bytes b t') { s with toks := k' }) :
    wpAny (model prog w) A (call (.builtin "str.encode") [.str x t] [(PySem.Str.ofString "encoding", .str (PySem.Str.ofString "utf-8") u)]) Q E s := by
  refine wpAny_call_entry_kw F.slot_str_encode (typeIs_str _ _ _) F.entry_str_encode ?_ (args_encode_kw x t u)
  rw [encode_kw_tree, encodeRoad_utf8, he]
  refine wpAny_bind (wpAny_bind (wpAny_pure (wpAny_mkBytes (wpAny_pure ⟨_, rfl, h _ _⟩) (by rw [sizeLine_eq]; omega))))
theorem callWith_kwN {env : Env} {pos : Pos} {id : String} {first : List Value} {kws : List Keyword} {Q : Value → Shared → Prop}
    (h : wpAny (model prog w) A (evalAll ((backToKw pos (keywordEach kws env)).map (·.2))) (fun kvs s₂ => wpAny (model prog w) A (call (.builtin id) (first ++ []) (((backToKw pos (keywordEach kws env)).filterMap (·.1)).zip kvs)) Q E s₂) E s)
    (hall : (backToKw pos (keywordEach kws env)).all (·.1.isSome) = true := by rfl)
    (hkw : (backToKw pos (keywordEach kws env)).any (·.1.isNone) = false := by rfl) :
    wpAny (model prog w) A (callWith pos (.builtin id) first (backTo pos (starEach [] env)) (backToKw pos (keywordEach kws env))) Q E s :=
  callWith_builtin_kwB rfl hkw (evalArgs_kw2_nil hall h)
end
section
open PySem.Builtin PySem.Builtin._codecs
theorem decode_tree_kw (b : Array UInt8) (t u : Tok) : «bytes.decode» ⟨[.bytes b t], [(PySem.Str.ofString "encoding", .str (PySem.Str.ofString "utf-8") u)]⟩ =
    (if b.isEmpty = true then (rule "bytes.decode.empty" >>= fun _ => retStr Str.empty) else (mkStr (PySem.Str.ofString "utf-8") >>= fun _ => mkStr (PySem.Str.ofString "utf-8") >>= fun e => mkStr (PySem.Str.ofString "bytes.decode") >>= fun d =>
    call (.builtin "_codecs.decode.text") [.bytes b t, e, .none, d] >>= fun v => ret v)) := by
  first | rfl | kernel_rfl
theorem decode_tree_ascii (b : Array UInt8) (t u : Tok) : «bytes.decode» ⟨[.bytes b t, .str (PySem.Str.ofString "ascii") u], []⟩ =
    (if b.isEmpty = true then (rule "bytes.decode.empty" >>= fun _ => retStr Str.empty) else (mkStr (PySem.Str.ofString "utf-8") >>= fun _ => mkStr (PySem.Str.ofString "ascii") >>= fun e => mkStr (PySem.Str.ofString "bytes.decode") >>= fun d =>
    call (.builtin "_codecs.decode.text") [.bytes b t, e, .none, d] >>= fun v => ret v)) := by
  first | rfl | kernel_rfl
theorem args_decode_kw (b : Array UInt8) (t u : Tok) : argsOk "bytes.decode" ⟨[.bytes b t], [(PySem.Str.ofString "encoding", .str (PySem.Str.ofString "utf-8") u)]⟩ := by
  unfold argsOk; kernel_rfl
theorem args_decode_2 (b : Array UInt8) (t u : Tok) : argsOk "bytes.decode" ⟨[.bytes b t, .str (PySem.Str.ofString "ascii") u], []⟩ := by
  unfold argsOk; kernel_rfl
theorem road_ascii {id : String} (b : Array UInt8) : _codecs.decodeRoad id b (PySem.Str.ofString "ascii") none [] = (_codecs.runDecoder id _codecs.asciiDecoder none true b 0 [] >>= fun r => mkStr ⟨r.1⟩) := by kernel_rfl
theorem road_utf8 {id : String} (b : Array UInt8) : _codecs.decodeRoad id b (PySem.Str.ofString "utf-8") none [] = (_codecs.runDecoder id _codecs.utf8Decoder none true b 0 [] >>= fun r => mkStr ⟨r.1⟩) := by kernel_rfl
end
section
open PySem.Builtin PySem.Builtin._codecs
variable {prog : Program} {w : World} {A : Around} {E : Value → Shared → Prop} {s : Shared}
theorem text_call {b : Array UInt8} {enc d x : Str} {D : Decoder} {n : Nat} {t t1 t2 : Tok} {Q : Value → Shared → Prop}
    (road : ∀ id : String, decodeRoad id b enc none [] = (runDecoder id D none true b 0 [] >>= fun r => mkStr ⟨r.1⟩)) (hd : ∀ id, runDecoder id D none true b 0 [] = pure (x.cps, n)) (hz : x.length ≤ 1000)
    (h : ∀ t' k', Q (.str x t') { s with toks := k' }) : wpAny (model prog w) A (call (.builtin "_codecs.decode.text") [.bytes b t, .str enc t1, .none, .str d t2]) Q E s := by
  refine call_function_entry KBd.kind_text KBd.plain_text KBd.entry_text (KBd.args_text _ _ _ _) ?_
  show wpAny _ _ (Bytes.bytesLike _ (.bytes b t) >>= fun r => _) _ _ s
  refine wpAny_bind (wpAny_of_eq KBd.like_eq ?_)
  refine wpAny_bind (wpAny_of_eq KBd.held_eq ?_)
  show wpAny _ _ (decodeRoad _ b enc none [] >>= fun v => _) _ _ s
  rw [road, hd]
  refine wpAny_bind (wpAny_bind (wpAny_pure ?_))
  exact wpAny_mkStr (wpAny_pure ⟨_, rfl, h _ _⟩) (by show x.length ≤ sizeLine; rw [sizeLine_eq]; omega)
theorem decode_kw {b : Array UInt8} {x : Str} {n : Nat} {t u : Tok} {Q : Value → Shared → Prop} (hd : ∀ id, runDecoder id utf8Decoder none true b 0 [] = pure (x.cps, n)) (he : b.isEmpty = true → x = Str.empty) (hz : x.length ≤ 1000)
    (h : ∀ t' k', Q (.str x t') { s with toks := k' }) :
    wpAny (model prog w) A (call (.builtin "bytes.decode") [.bytes b t] [(PySem.Str.ofString "encoding", .str (PySem.Str.ofString "utf-8") u)]) Q E s := by
  refine wpAny_call_entry_kw FB.slot_bytes_decode (typeIs_bytes _ _ _) FB.entry_bytes_decode ?_ (args_decode_kw b t u)
  rw [decode_tree_kw]
  by_cases hb : b.isEmpty = true
  · rw [if_pos hb]
    cases he hb
    exact wpAny_bind (wpAny_rule (wpAny_bind (wpAny_mkStr (wpAny_pure ⟨_, rfl, h _ _⟩) (by decide))))
  · rw [if_neg hb]
    refine wpAny_bind (wpAny_mkStr ?_ (by decide))
    refine wpAny_bind (wpAny_mkStr ?_ (by decide))
    refine wpAny_bind (wpAny_mkStr ?_ (by decide))
    exact wpAny_bind (text_call (fun id => road_utf8 b) hd hz fun t' k' => wpAny_pure ⟨_, rfl, h t' k'⟩)
theorem decode_ascii {b : Array UInt8} {x : Str} {n : Nat} {t u : Tok} {Q : Value → Shared → Prop} (hd : ∀ id, runDecoder id asciiDecoder none true b 0 [] = pure (x.cps, n)) (he : b.isEmpty = true → x = Str.empty) (hz : x.length ≤ 1000)
    (h : ∀ t' k', Q (.str x t') { s with toks := k' }) :
    wpAny (model prog w) A (call (.builtin "bytes.decode") [.bytes b t, .str (PySem.Str.ofString "ascii") u]) Q E s := by
  refine wpAny_call_entry FB.slot_bytes_decode (typeIs_bytes _ _ _) FB.entry_bytes_decode ?_ (args_decode_2 b t u)
  rw [decode_tree_ascii]
  by_cases hb : b.isEmpty = true
  · rw [if_pos hb]
    cases he hb
    exact wpAny_bind (wpAny_rule (wpAny_bind (wpAny_mkStr (wpAny_pure ⟨_, rfl, h _ _⟩) (by decide))))
  · rw [if_neg hb]
    refine wpAny_bind (wpAny_mkStr ?_ (by decide))
    refine wpAny_bind (wpAny_mkStr ?_ (by decide))
    refine wpAny_bind (wpAny_mkStr ?_ (by decide))
    exact wpAny_bind (text_call (fun id => road_ascii b) hd hz fun t' k' => wpAny_pure ⟨_, rfl, h t' k'⟩)
end
section
variable {prog : Program} {w : World} {A : Around} {E : Value → Shared → Prop} {s : Shared}
theorem zeros_ints (n : Nat) : KBw.bInts (Array.replicate n (0 : UInt8)) = List.replicate n 0 := by
  unfold KBw.bInts
  rw [Array.toList_replicate, List.map_replicate]
  rfl
theorem no_bytes_int : typeLookup (.type "int") "__bytes__" = pure none := by rw [typeLookup_type, builtinLookup_eq_fast]; kernel_rfl
theorem zeros_new {n : Int} {u : Tok} {Q : Value → Shared → Prop} (h0 : 0 ≤ n) (h1 : n ≤ 1000)
    (h : ∀ (d : Array UInt8) t' k', KBw.bInts d = List.replicate n.toNat 0 → Q (.bytes d t') { s with toks := k' }) :
    codeAny (model prog w) A (.call (.builtin "bytes.__new__") ⟨[.type "bytes", .int n u], []⟩) (wants Q E) s := by
  refine codeAny_of_tree ?_
  show wpAny _ A.in1 (do checkBuiltinCall "bytes.__new__" ⟨[.type "bytes", .int n u], []⟩; PySem.again (.builtin "bytes.__new__" ⟨[.type "bytes", .int n u], []⟩)) _ _ s
  refine wpAny_bind (wpAny_of_eq (F.bm_newCall _) (wpAny_pure ⟨plainId_quiet F.bm_plain _, codeAny_builtin F.bm_entry ?_⟩))
  rw [Around.under_plainId F.bm_plain _]
  unfold Builtin.«bytes.__new__»
  refine wpAny_bind (wpAny_of_eq (a := true) rfl ?_)
  refine bm_if_false rfl ?_
  refine wpAny_bind (wpAny_of_eq F.bm_sub ?_)
  refine bm_if_false rfl ?_
  refine wpAny_bind (wpAny_of_eq (F.bm_bind _) ?_)
  refine wpAny_bind (wpAny_of_eq (a := ()) rfl ?_)
  refine wpAny_bind (wpAny_of_eq (a := ()) rfl ?_)
  refine bm_if_false rfl ?_
  refine wpAny_bind (wpAny_specialOf (typeIs_int s n u) no_bytes_int ?_)
  refine wpAny_bind (wpAny_of_eq (a := false) rfl ?_)
  refine bm_if_false rfl ?_
  refine wpAny_bind (wpAny_specialOf (typeIs_int s n u) int_index ?_)
  refine bm_if_false rfl ?_
  refine wpAny_bind (wpAny_of_eq (a := .ok n) rfl ?_)
  refine bm_if_false (by show (!Builtin.Bytes.fitsIndex n) = false; simp only [Builtin.Bytes.fitsIndex]; simp; omega) ?_
  refine wpAny_ite_false (decide_eq_false (show ¬ n < 0 by k_extra "om")) ?_
  refine wpAny_ite_false (decide_eq_false (show ¬ n > 2 ^ 63 - 34 by k_extra "om")) ?_
  refine bm_if_false (KBy.tooLong_not (by k_extra "om")) ?_
  refine wpAny_bind (wpAny_rule (wpAny_bind (wpAny_mkBytes (wpAny_bind (wpAny_pure (wpAny_pure ?_))) (by rw [Array.size_replicate, sizeLine_eq]; omega))))
  exact h _ _ _ (zeros_ints _)
end
section
variable {prog : Program} {w : World} {A : Around} {E : Value → Shared → Prop} {s : Shared}
theorem zeros_call {n : Int} {u : Tok} {Q : Value → Shared → Prop} (h0 : 0 ≤ n) (h1 : n ≤ 1000)
    (h : ∀ (d : Array UInt8) t' k', KBw.bInts d = List.replicate n.toNat 0 → Q (.bytes d t') { s with toks := k' }) :
    wpAny (model prog w) A (call (.type "bytes") [.int n u]) Q E s :=
  callType_codes (Q₁ := fun obj s₁ => s₁.TypeIs obj "bytes" ∧ Q obj s₁) F.bm_called (F.bm_typeCall _) F.entry_object_init
    (zeros_new h0 h1 fun d t' k' hd => ⟨typeIs_bytes _ _ _, h d t' k' hd⟩) fun obj s₁ h₁ =>
      ⟨h₁.1, F.args_object_init_2 obj _, object_init_meets F.bm_called.init.lookup F.bm_called.made (by decide) prog w A.in1 _ s₁ ⟨h₁.1, rfl, h₁.2⟩⟩
theorem add_b {b c : Array UInt8} {t u : Tok} {ks ls : List Int} {Q : Value → Shared → Prop} (hb : KBw.bInts b = ks) (hc : KBw.bInts c = ls) (hz : ks.length + ls.length ≤ 1000)
    (h : ∀ (d : Array UInt8) t' k', KBw.bInts d = ks ++ ls → Q (.bytes d t') { s with toks := k' }) : wpAny (model prog w) A (binaryOp .Add (.bytes b t) (.bytes c u)) Q E s :=
  KBa.add_K hb hc (by k_extra "om") fun t' k' hd => h _ t' k' hd
theorem bytes_of_list {h₀ : Heap} {L l : Addr} {m : Str → Option Value} {news : List (Addr × Obj)} {vs : List Value} {e : Nat} {ns : List Int} {Q : Value → Shared → Prop} (hh : A.handled = none)
    (F : Fr h₀ L s.heap m) (N : News h₀ L s.heap news) (hl : (l, listOf vs.toArray e) ∈ news) (hi : IntsAre vs ns) (hr : ∀ n ∈ ns, 0 ≤ n ∧ n < 256) (hz : ns.length ≤ 1000)
    (h : ∀ (d : Array UInt8) t' k' h', Fr h₀ L h' m → News h₀ L h' news → KBw.bInts d = ns → Q (.bytes d t') { s with heap := h', toks := k' }) : wpAny (model prog w) A (call (.type "bytes") [.ref l]) Q E s :=
  call_bytes_ints (News.isList N hl) hi hr (by rw [hi.length, sizeLine_eq]; omega) hh fun h' t k' hk => h _ _ _ _ ⟨F.ns.keeps hk, fun b o e' => hk b o (F.keep b o e'), F.above⟩ (fun q hq => ⟨hk _ _ (N q hq).1, (N q hq).2⟩) (KBa.ints_make hr)
theorem to_bytes_in {x B : Int} {k : Nat} {t u v : Tok} {Q : Value → Shared → Prop} (hk : k ≤ 8) (hB : (256 : Int) ^ k = B) (h0 : 0 ≤ x) (h1 : x < B)
    (h : ∀ (b : Array UInt8) t' k', KBw.bInts b = KTBy.little k x → Q (.bytes b t') { s with toks := k' }) :
    wpAny (model prog w) A (call (.builtin "int.to_bytes") [.int x t, .int (k : Int) u, .str (PySem.Str.ofString "little") v]) Q E s :=
  KTBy.to_little hk hB h0 h1 fun b t' k' hb _ => h b t' k' hb
end
abbrev Rng (ns : List Int) : Prop := ∀ n ∈ ns, 0 ≤ n ∧ n < 256
theorem rng_app {a b : List Int} (h1 : Rng a) (h2 : Rng b) : Rng (a ++ b) := fun n hn => (List.mem_append.mp hn).elim (h1 n) (h2 n)
theorem rng_zeros (k : Nat) : Rng (List.replicate k 0) := fun n hn => by
  have := (List.mem_replicate.mp hn).2
  omega
theorem rng_nil : Rng [] := fun _ hn => nomatch hn
theorem rng_cons {a : Int} {b : List Int} (h1 : 0 ≤ a ∧ a < 256) (h2 : Rng b) : Rng (a :: b) := fun n hn => (List.mem_cons.mp hn).elim (fun e => e ▸ h1) (h2 n)
theorem rng_little : ∀ (k : Nat) (x : Int), Rng (KTBy.little k x)
  | 0, _ => rng_nil
  | k + 1, x => rng_cons ⟨by k_extra "om", by k_extra "om"⟩ (rng_little k (x / 256))
theorem rng_take {a : List Int} (k : Nat) (h : Rng a) : Rng (a.take k) := fun n hn => h n (List.mem_of_mem_take hn)
theorem rng_drop {a : List Int} (k : Nat) (h : Rng a) : Rng (a.drop k) := fun n hn => h n (List.mem_of_mem_drop hn)
theorem bints_nil : KBw.bInts #[] = [] := rfl
theorem len_nil {prog : Program} {w : World} {A : Around} {E : Value → Shared → Prop} {s : Shared} {t : Tok} {Q : Value → Shared → Prop} (h : Q (.int 0 (s.toks + 1)) { s with toks := s.toks + 1 + 1 }) : wpAny (model prog w) A (call (.builtin "len") [.bytes #[] t]) Q E s :=
  KBw.len_K (ks := []) bints_nil (by decide) h

end
section
theorem words_07_ser : True := by
  (k_with "call builtin:int.to_bytes" => (k_here; (with_reducible show wpAny _ _ (call (Value.builtin "int.to_bytes") [Value.int _ _, Value.int _ _, Value.str _ _]) _ _ _); k_dflt (first | (refine' to_bytes_in (k := 2) (B := 65536) ?zqh1 ?zqh2 ?zqh3 ?zqh4 (fun b' t' k' hb' => ?_); (case zqh1 => decide); (case zqh2 => decide); (case zqh3 => k_extra "om"); (case zqh4 => k_extra "om")) | (refine' to_bytes_in (k := 4) (B := 4294967296) ?zqh1 ?zqh2 ?zqh3 ?zqh4 (fun b' t' k' hb' => ?_); (case zqh1 => decide); (case zqh2 => decide); (case zqh3 => k_extra "om"); (case zqh4 => k_extra "om")) | (refine' to_bytes_all (k := 2) rfl ?zqh (fun hx0 hx1 b' t' k' hb' => ?_) (fun hx h' tk' e' hn' => ?_); (case zqh => decide)) | (refine' to_bytes_all (k := 4) rfl ?zqh (fun hx0 hx1 b' t' k' hb' => ?_) (fun hx h' tk' e' hn' => ?_); (case zqh => decide)) | (refine' to_bytes_all rfl ?zqh (fun hx0 hx1 b' t' k' hb' => ?_) (fun hx h' tk' e' hn' => ?_); (case zqh => k_extra "om")))))
  (k_with "leaving ref" => (k_here; k_dflt (refine' leave_newS ?zqk1 ?zqk0 ?zqk2 ?zqk3 ?_; (case zqk0 => assumption); (case zqk1 => assumption); (case zqk2 => assumption); (case zqk3 => k_asm); k_whole; intro h' R' Rn' U')))
  (k_with "getMethod str" => (k_here; (with_reducible refine encode_method ?_)))
  (k_with "callWith" => (k_here; (with_reducible show wpAny _ _ (callWith _ (Value.builtin _) _ (backTo _ (starEach [] _)) (backToKw _ (keywordEach (_ :: _) _))) _ _ _); k_dflt (refine callWith_kwN ?_)))
  (k_with "call builtin:str.encode" => (k_here; k_dflt (refine' encode_call ?zqhe ?zqhz ?_; (case zqhe => assumption); (case zqhz => assumption); k_whole; intro t' k')))
  (k_with "call builtin:bytes.decode" => (k_here; k_dflt (first | (refine' decode_kw ?zqhd ?zqhe ?zqhz ?_; (case zqhd => assumption); (case zqhe => assumption); (case zqhz => assumption); k_whole; intro t' k') | (refine' decode_ascii ?zqhd ?zqhe ?zqhz ?_; (case zqhd => assumption); (case zqhe => assumption); (case zqhz => assumption); k_whole; intro t' k'))))
  (k_with "binaryOp Add bytes bytes" => (k_here; (with_reducible show wpAny _ _ (binaryOp Operator.Add (Value.bytes _ _) (Value.bytes _ _)) _ _ _); k_dflt (refine' add_b ?zqb ?zqc ?zqz (fun d' t' k' hb' => ?_); (case zqb => first | with_reducible assumption | exact bints_nil); (case zqc => first | with_reducible assumption | exact bints_nil); (case zqz => ((try simp only [List.length_append, List.length_replicate, KTBy.little_length, List.length_cons, List.length_nil]); k_extra "om")))))
  (k_with "call type:bytes" => (k_here; (with_reducible show wpAny _ _ (call (Value.type "bytes") [Value.int _ _]) _ _ _); k_dflt (refine' zeros_call ?zqa ?zqb (fun d' t' k' hb' => ?_); (case zqa => k_extra "om"); (case zqb => k_extra "om"))))
  (k_with "call type:bytes" => (k_here; (with_reducible show wpAny _ _ (call (Value.type "bytes") [Value.ref _]) _ _ _); k_dflt (refine' bytes_of_list rfl ?zqF ?zqN ?zql ?zqi ?zqr ?zqz (fun d' t' k' h' F' N' hb' => ?_); (case zqF => k_asm); (case zqN => k_asm); (case zql => k_mem); (case zqi => with_reducible assumption); (case zqz => ((try simp only [List.length_append, List.length_replicate, KTBy.little_length, List.length_cons, List.length_nil]); k_extra "om")); (case zqr => (repeat' (first | with_reducible assumption | exact rng_little _ _ | exact rng_zeros _ | exact rng_nil | refine rng_app ?_ ?_ | refine rng_cons ⟨by k_extra "om", by k_extra "om"⟩ ?_))))))
  (k_with "call builtin:len" => (k_here; (with_reducible show wpAny _ _ (call (Value.builtin "len") [Value.bytes #[] _]) _ _ _); (with_reducible refine len_nil ?_)))
  trivial
/-- what is known at the caller's frame of an exception that a callee let go -/
def ExcAt (base h₀ : Heap) (L : Addr) (m : Str → Option Value) (env : Env) (outer : List Env) (news : List (Addr × Obj)) (cls : String) (e : Addr) (h' : Heap) : Prop :=
  ∃ g, Fr h₀ L g m ∧ RaisedSN base g (env :: outer) e (.type cls) news h' ∧ g.UpToSlots h'
def CallsE (w : World) (f : Value) (vs : List Value) (news : List (Addr × Obj)) (dm um : Nat) (Post : Heap → Addr → Heap → Value → Prop) (Exc : String → Prop) : Prop :=
  ∀ (p : Program) (loose : List Str) (mean : ExcName → Option Value) (mg mb : Str → Option Value)
    (dp un : Nat) (gd : Option (List Code)) (cn : Str) (cs : Scope) (a : Addr) (ccd : Value) (cl : List (Str × Addr)) (outer : List Env) (A₀ : Around) (base h₀ : Heap) (L : Addr) (m : Str → Option Value) (s : Shared) (Q E : Value → Shared → Prop),
    Below A₀ base outer h₀ → Fr h₀ L s.heap m → (hd.heap_1 w.params).In h₀ → News h₀ L s.heap news → Top p loose mean mg mb h₀ → cs.kind = .function →
    dp + dm < recursionLimit → un + um < cLine →
    (∀ (v : Value) (h' : Heap) (tk' : Nat), Fr h₀ L h' m → Post h₀ L h' v → Q v { s with heap := h', toks := tk' }) →
    (∀ (c : String) (e : Addr) (h' : Heap) (tk' : Nat), Exc c → ExcAt base h₀ L m (envX cn cs L a ccd cl) outer news c e h' → E (.ref e) { s with heap := h', toks := tk' }) →
    wpAny (model PySem.Challenge.rw_ke0001_01.row.prog w) (ktrTop dp un gd cn cs L a ccd cl outer) (call f vs) Q E s
set_option maxHeartbeats 4000000 in
theorem ser_int (w : World) (news : List (Addr × Obj)) (sr : Addr) (x : Int) (t u : Tok) (k : Nat) (hk8 : k ≤ 5) :
    CallsE w (.ref 310) [.ref sr, .int x t, .int k u] news 5 100 (fun h₀ L h' v => 0 ≤ x ∧ x < 256 ^ k ∧ (∃ b t', v = .bytes b t' ∧ KBw.bInts b = KTBy.little k x) ∧ News h₀ L h' news) (fun c => (x < 0 ∨ 256 ^ k ≤ x) ∧ c = "OverflowError") := by
  unfold CallsE
  k_fill
  intro p loose mean mg mb dp un gd cn cs a ccd cl outer A₀ base h₀ L m s Q E B F X N T hk hd hu hret hexc
  obtain ⟨kd, nm, ig, ic, mo⟩ := cs
  cases hk
  refine wpAny_call ?_
  k_dflt k_enter
  k_steps
  · exact hret _ _ _ (by k_asm) ⟨by with_reducible assumption, by with_reducible assumption, ⟨_, _, rfl, by with_reducible assumption⟩, by k_asm⟩
  · exact hexc _ _ _ _ ⟨by with_reducible assumption, rfl⟩ ⟨_, by with_reducible assumption, by with_reducible assumption, by with_reducible assumption⟩
set_option maxHeartbeats 4000000 in
theorem ser_str (w : World) (news : List (Addr × Obj)) (sr : Addr) (x : Str) (t u : Tok) (k : Nat) (hk8 : k ≤ 5) (b : Array UInt8) (ns : List Int)
    (he : ∀ id self, Builtin._codecs.encodeNarrow id Builtin._codecs.utf8Codec none self x = pure b) (hz : b.size ≤ 1000) (hb : KBw.bInts b = ns) (hln : ns.length ≤ 1000) :
    CallsE w (.ref 336) [.ref sr, .str x t, .int k u] news 5 100 (fun h₀ L h' v => ns.length ≤ k ∧ (∃ b t', v = .bytes b t' ∧ KBw.bInts b = ns) ∧ News h₀ L h' news) (fun c => ¬ ns.length ≤ k ∧ c = "AssertionError") := by
  unfold CallsE
  k_fill
  intro p loose mean mg mb dp un gd cn cs a ccd cl outer A₀ base h₀ L m s Q E B F X N T hk hd hu hret hexc
  obtain ⟨kd, nm, ig, ic, mo⟩ := cs
  cases hk
  refine wpAny_call ?_
  k_dflt k_enter
  k_steps
  · exact hret _ _ _ (by k_asm) ⟨by k_extra "om", ⟨_, _, rfl, hb⟩, by k_asm⟩
  · exact hexc _ _ _ _ ⟨by k_extra "om", rfl⟩ ⟨_, by with_reducible assumption, by with_reducible assumption, by with_reducible assumption⟩

end
section
set_option maxHeartbeats 4000000 in
theorem deser_int (w : World) (news : List (Addr × Obj)) (sr : Addr) (b : Array UInt8) (t : Tok) (ns : List Int) (hb : KBw.bInts b = ns) (hln : ns.length ≤ 8) :
    Calls w (.ref 317) [.ref sr, .bytes b t] news 5 100 (fun h₀ L h' v => (∃ t', v = .int (KFB.value ns.reverse) t') ∧ News h₀ L h' news) := by
  unfold Calls
  k_fill
  intro p loose mean mg mb dp un gd cn cs a ccd cl outer A₀ base h₀ L m s Q E B F X N T hk hd hu hret
  obtain ⟨kd, nm, ig, ic, mo⟩ := cs
  cases hk
  refine wpAny_call ?_
  k_dflt k_enter
  k_steps
  all_goals exact hret _ _ _ (by k_asm) ⟨⟨_, rfl⟩, cb_drop (by with_reducible assumption) (by intro q hq; k_mem)⟩
set_option maxHeartbeats 4000000 in
theorem deser_str (w : World) (news : List (Addr × Obj)) (sr : Addr) (b : Array UInt8) (t : Tok) (x : Str) (n : Nat)
    (hde : ∀ id, Builtin._codecs.runDecoder id Builtin._codecs.utf8Decoder none true b 0 [] = pure (x.cps, n)) (hem : b.isEmpty = true → x = Str.empty) (hz : x.length ≤ 1000) :
    Calls w (.ref 343) [.ref sr, .bytes b t] news 5 100 (fun h₀ L h' v => (∃ t', v = .str x t') ∧ News h₀ L h' news) := by
  unfold Calls
  k_fill
  intro p loose mean mg mb dp un gd cn cs a ccd cl outer A₀ base h₀ L m s Q E B F X N T hk hd hu hret
  obtain ⟨kd, nm, ig, ic, mo⟩ := cs
  cases hk
  refine wpAny_call ?_
  k_dflt k_enter
  k_steps
  all_goals exact hret _ _ _ (by k_asm) ⟨⟨_, rfl⟩, by k_asm⟩

end
section
section
variable {M : Model} {A A₀ : Around} {E : Value → Shared → Prop} {s' : Shared} {base g g₀ g' h₀ h g₂ : Heap} {outer : List Env} {env : Env} {L L' e : Addr} {m m' : Str → Option Value} {Q : Unit → Shared → Prop} {news : List (Addr × Obj)} {cls : Value}
  {K : Frag} {p : Program} {loose : List Str} {mean : ExcName → Option Value} {mg mb : Str → Option Value}
theorem mem_frames {b : Addr} (hf : env.frame = some L) (hm : b ∈ (env :: outer).filterMap (·.frame)) : b = L ∨ b ∈ outer.filterMap (·.frame) := by
  obtain ⟨v, hv, hb⟩ := List.mem_filterMap.mp hm
  rcases List.mem_cons.mp hv with e | hv
  · subst e
    rw [hf] at hb
    exact .inl (Option.some.inj hb).symm
  · exact .inr (List.mem_filterMap.mpr ⟨v, hv, hb⟩)
/-- an exception that a callee let go leaves this frame too (a frame with cells as well) -/
theorem leave_onE (hf : env.frame = some L) (B : Below A base outer g) (F : Fr g L g₂ m) (R : RaisedSN base g₂ (env :: outer) e cls news s'.heap) (hsm : g₂.UpToSlots s'.heap)
    (hQ : ∀ h', RaisedSN base g outer e cls news h' → g.UpToSlots h' → Q () { s' with heap := h' }) :
    wpAny M (A.deeper env) (leaving env (.ref e)) Q E s' := by
  obtain ⟨H, a0, hH, hGH, hl, hfl⟩ := R
  refine wpAny_leaves_onW (Around.frames_deeper B.stack) hf hfl fun h' x1 x2 => hQ h' ⟨H, a0, hH, fun b o q nm => ?_, fun q hq => ⟨(hl q hq).1, kts_none F.keep (hl q hq).2.1, (hl q hq).2.2⟩, x1⟩ ((Heap.UpToSlots.of_keeps F.keep).trans (hsm.trans x2))
  refine hGH b o (F.keep b o q) fun hm => ?_
  rcases mem_frames hf hm with z | z
  · rw [z, kts_self F] at q
    cases q
  · exact nm z
/-- the caller's ground behind a callee that caught -/
theorem turn_back (B : Below A₀ base outer h₀) (FG : Fr h₀ L g m) (hf : env.frame = some L) (T' : KtsTurn ((env :: outer).filterMap (·.frame)) g g') (F' : Fr g' L' h m') (N' : News g' L' h news)
    (XB : K.In base) (TB : Top p loose mean mg mb base) (D : KtsDicts (outer.filterMap (·.frame)) h₀) (T0 : KtsTurn (outer.filterMap (·.frame)) g₀ h₀) :
    ∃ h₁, KtsTurn (outer.filterMap (·.frame)) g₀ h₁ ∧ Fr h₁ L h m ∧ News h₁ L h news ∧ Below A₀ base outer h₁ ∧ K.In h₁ ∧ Top p loose mean mg mb h₁ ∧ KtsDicts (outer.filterMap (·.frame)) h₁ := by
  have hL0 : h₀.get? L = none := kts_self FG
  obtain ⟨oL, es, ep, hLg, hLd, hLk, hLf⟩ := FG.ns
  obtain ⟨sl, hs⟩ := T'.up hLg
  obtain ⟨T₁, S₁⟩ := kts_turn_at (h := h) (fs := outer.filterMap (·.frame)) (g := h₀)
    (fun b hb => by
      obtain ⟨_, o, ho, _⟩ := B.frames.mem hb
      exact ⟨o, ho⟩)
    (fun b o q nm => F'.keep b o (T'.other b o (FG.keep b o q) fun hm => by
      rcases mem_frames hf hm with z | z
      · rw [z, hL0] at q
        cases q
      · exact nm z))
    (fun b o q _ => by
      obtain ⟨sl', hs'⟩ := T'.up (FG.keep b o q)
      exact ⟨sl', F'.keep _ _ hs'⟩)
  have B₁ : Below A₀ base outer (ktsHeap h (outer.filterMap (·.frame)) h₀) := ⟨B.stack, fun b o q => T₁.other b o (B.stays b o q) (fun hm => by
    rw [(B.frames.mem hm).1] at q
    cases q), B.frames.of_keeps fun b o q _ => by
    obtain ⟨sl', hs'⟩ := T₁.up q
    exact ⟨_, hs', rfl⟩⟩
  refine ⟨_, T0.trans T₁, ⟨⟨_, es, ep, F'.keep _ _ hs, hLd, hLk, hLf⟩, S₁, by rw [T₁.size]; exact FG.above⟩, fun q hq => ⟨(N' q hq).1, fun z => ?_, T₁.none_ _ ?_⟩, B₁, XB.keeps B₁.stays, TB.keeps B₁.stays, D.turn T₁⟩
  · have := (N' q hq).2.2
    rw [z, hs] at this
    cases this
  · cases z : h₀.get? q.1 with
    | none => rfl
    | some o =>
      obtain ⟨sl', hs'⟩ := T'.up (FG.keep _ _ z)
      have := (N' q hq).2.2
      rw [hs'] at this
      cases this
end
/-- a def that catches is entered from any frame -/
theorem enter_turn {prog : Program} {w : World} {A₀ A : Around} {s : Shared} {base h₀ g₀ : Heap} {outer : List Env} {env : Env} {L : Addr} {m : Str → Option Value} {news : List (Addr × Obj)} {K : Frag} {p : Program} {loose : List Str} {mean : ExcName → Option Value} {mg mb : Str → Option Value}
    {R : Result → Shared → Prop} {name qual : Str} {params : Arguments} {body : List Stmt} {scope : Scope} {dV kV doc pm cdv ct oc : Value} {an od : Option Addr} {osl : Array (Option Value)} {f : Addr} {args : Args} {binds : List (Str × Value)}
    (B : Below A₀ base outer h₀) (F : Fr h₀ L s.heap m) (X₀ : K.In h₀) (N : News h₀ L s.heap news) (T : Top p loose mean mg mb h₀) (XB : K.In base) (TB : Top p loose mean mg mb base) (D : KtsDicts (outer.filterMap (·.frame)) h₀)
    (T0 : KtsTurn (outer.filterMap (·.frame)) g₀ h₀) (hA : A.frames = some (env :: outer)) (hf : env.frame = some L) (hke : env.scope.kind = .function)
    (ho : K.lookup f = some ⟨oc, od, .func (fnOf name qual params body scope dV kV doc pm an cdv ct), osl⟩) (hcd : codeIn K cdv qual = true) (hroom : A.depth < recursionLimit)
    (hbind : BindsTo s (fnOf name qual params body scope dV kV doc pm an cdv ct) args binds) (hloc : ∀ y ∈ binds, scope.names.lookup y.1 = some .local)
    (h : ∀ g L' h₁, Fr h₀ L g m → Fr g L' h₁ (fun y => binds.reverse.lookup y) → News g L' h₁ news → Below A base (env :: outer) g → K.In g → Top p loose mean mg mb g → KtsDicts ((env :: outer).filterMap (·.frame)) g →
      wpAny (model prog w) (A.deeper (envOf qual scope L' f cdv)) (execs body (envOf qual scope L' f cdv))
        (fun fl s' => LeaveS ((env :: outer).filterMap (·.frame)) A₀ base outer K p loose mean mg mb g₀ h₀ L m g R (match fl with | .ret v => v | _ => .none) s')
        (fun e s' => wpAny (model prog w) (A.deeper (envOf qual scope L' f cdv)) (leaving (envOf qual scope L' f cdv) e) (fun _ s'' => R (.error e) s'') (fun e' s'' => R (.error e') s'') s')
        { s with heap := h₁, toks := s.toks + binds.length })
    (hco : scope.isCoroutine = false) (hgen : scope.isGenerator = false) (hk : scope.kind = .function)
    (hcell : ∀ x ∈ scope.names, x.2 ≠ .cell) : codeAny (model prog w) A (.call (.ref f) args) R s := by
  have X := X₀.keeps F.keep
  obtain ⟨FG, BG, st, lv⟩ := groundX (R := R) B F N hA hf hke
  refine codeAny_call_def (fd := fnOf name qual params body scope dV kV doc pm an cdv ct) (body := body) (binds := binds) hroom (X _ _ ho) rfl (T.nolimit.keeps F.keep) (codeRec_of X hcd) rfl hbind hcell hloc (fun h₁ hns hk₁ => ?_) hco hgen hk
  have DG : KtsDicts ((env :: outer).filterMap (·.frame)) (hideAll s.heap (news.map (·.1))) := fun b hb => by
    rcases mem_frames hf hb with z | z
    · obtain ⟨oL, es, ep, hL, hd, _, _⟩ := FG.ns
      rw [z]
      exact ⟨oL, es, ep, hL, hd⟩
    · obtain ⟨o, es, n, ho', hd⟩ := D b z
      exact ⟨o, es, n, st b o ho', hd⟩
  refine wpAny_mono (h _ s.heap.objs.size h₁ FG ⟨hns, fun b o e => hk₁ b o (of_hideAll _ e), Nat.le_of_eq (hideAll_size _ _)⟩
    (fun q hq => ⟨hk₁ _ _ (N q hq).1, Nat.ne_of_lt (Heap.lt_size (N q hq).1), hideAll_none _ (List.mem_map_of_mem hq)⟩) BG (X₀.keeps st) (T.keeps st) DG) (fun fl s' hl => ?_) fun _ _ y => y
  rcases hl with hl | ⟨g', L'', m'', news', T', F', N', k⟩
  · exact lv _ _ hl
  · obtain ⟨h₁', a1, a2, a3, a4, a5, a6, a7⟩ := turn_back B FG hf T' F' N' XB TB D T0
    exact k h₁' a1 a2 a3 a4 a5 a6 a7

end
section
theorem words_10_call : True := by
  (k_with "leaving ref" => (k_here; k_dflt (refine' leave_onE ?zqhf ?zqB ?zqF ?zqR ?zqU ?_; (case zqhf => exact rfl); (case zqR => first | with_reducible assumption | assumption); (case zqB => assumption); (case zqU => assumption); (case zqF => assumption); k_whole; intro h' R' U')))
  trivial
/-- as CallsE, the ledger behind it told by the post -/
def CallsK (w : World) (f : Value) (vs : List Value) (kw : List (Str × Value)) (news : List (Addr × Obj)) (dm um : Nat) (Post : Value → List (Addr × Obj) → Prop) (Exc : String → Prop) : Prop :=
  ∀ (p : Program) (loose : List Str) (mean : ExcName → Option Value) (mg mb : Str → Option Value)
    (dp un : Nat) (gd : Option (List Code)) (cn : Str) (cs : Scope) (a : Addr) (ccd : Value) (cl : List (Str × Addr)) (outer : List Env) (A₀ : Around) (base h₀ : Heap) (L : Addr) (m : Str → Option Value) (s : Shared) (Q E : Value → Shared → Prop),
    Below A₀ base outer h₀ → Fr h₀ L s.heap m → (hd.heap_1 w.params).In h₀ → News h₀ L s.heap news → Top p loose mean mg mb h₀ → cs.kind = .function →
    dp + dm < recursionLimit → un + um < cLine →
    (∀ (v : Value) (news' : List (Addr × Obj)) (h' : Heap) (tk' : Nat), Fr h₀ L h' m → News h₀ L h' news' → Post v news' → Q v { s with heap := h', toks := tk' }) →
    (∀ (c : String) (e : Addr) (h' : Heap) (tk' : Nat) (g : Heap), Exc c → Fr h₀ L g m → RaisedSN base g (envX cn cs L a ccd cl :: outer) e (.type c) news h' → g.UpToSlots h' → E (.ref e) { s with heap := h', toks := tk' }) →
    wpAny (model PySem.Challenge.rw_ke0001_01.row.prog w) (ktrTop dp un gd cn cs L a ccd cl outer) (call f vs kw) Q E s
abbrev CallsN (w : World) (f : Value) (vs : List Value) (news : List (Addr × Obj)) (dm um : Nat) (Post : Value → List (Addr × Obj) → Prop) (Exc : String → Prop) : Prop := CallsK w f vs [] news dm um Post Exc
theorem callsK_use {w : World} {f : Value} {vs : List Value} {kw : List (Str × Value)} {news : List (Addr × Obj)} {dm um : Nat} {Post : Value → List (Addr × Obj) → Prop} {Exc : String → Prop}
    {p : Program} {loose : List Str} {mean : ExcName → Option Value} {mg mb : Str → Option Value}
    {dp un : Nat} {gd : Option (List Code)} {cn : Str} {cs : Scope} {a : Addr} {ccd : Value} {cl : List (Str × Addr)} {outer : List Env} {A₀ : Around} {base h₀ : Heap} {L : Addr} {m : Str → Option Value} {s : Shared} {Q E : Value → Shared → Prop}
    (h : CallsK w f vs kw news dm um Post Exc) (B : Below A₀ base outer h₀) (F : Fr h₀ L s.heap m) (X : (hd.heap_1 w.params).In h₀) (N : News h₀ L s.heap news) (T : Top p loose mean mg mb h₀) (hk : cs.kind = .function)
    (hdp : dp + dm < recursionLimit) (hu : un + um < cLine)
    (hret : ∀ (v : Value) (news' : List (Addr × Obj)) (h' : Heap) (tk' : Nat), Fr h₀ L h' m → News h₀ L h' news' → Post v news' → Q v { s with heap := h', toks := tk' })
    (hexc : ∀ (c : String) (e : Addr) (h' : Heap) (tk' : Nat) (g : Heap), Exc c → Fr h₀ L g m → RaisedSN base g (envX cn cs L a ccd cl :: outer) e (.type c) news h' → g.UpToSlots h' → E (.ref e) { s with heap := h', toks := tk' }) :
    wpAny (model PySem.Challenge.rw_ke0001_01.row.prog w) (ktrTop dp un gd cn cs L a ccd cl outer) (call f vs kw) Q E s :=
  h p loose mean mg mb dp un gd cn cs a ccd cl outer A₀ base h₀ L m s Q E B F X N T hk hdp hu hret hexc
/-- a call of a def that catches: the ground may have turned behind it -/
def CallsC (w : World) (f : Value) (vs : List Value) (news : List (Addr × Obj)) (dm um : Nat) (Post : Value → List (Addr × Obj) → Prop) : Prop :=
  ∀ (p : Program) (loose : List Str) (mean : ExcName → Option Value) (mg mb : Str → Option Value)
    (dp un : Nat) (gd : Option (List Code)) (cn : Str) (cs : Scope) (a : Addr) (ccd : Value) (cl : List (Str × Addr)) (outer : List Env) (A₀ : Around) (base h₀ : Heap) (L : Addr) (m : Str → Option Value) (s : Shared) (Q E : Value → Shared → Prop),
    Below A₀ base outer h₀ → Fr h₀ L s.heap m → (hd.heap_1 w.params).In h₀ → News h₀ L s.heap news → Top p loose mean mg mb h₀ → cs.kind = .function →
    (hd.heap_1 w.params).In base → Top p loose mean mg mb base → KtsDicts (outer.filterMap (·.frame)) h₀ →
    dp + dm < recursionLimit → un + um < cLine →
    (∀ (v : Value) (news' : List (Addr × Obj)) (h' : Heap) (tk' : Nat) (h₁ : Heap), KtsTurn (outer.filterMap (·.frame)) h₀ h₁ → Fr h₁ L h' m → News h₁ L h' news' → Below A₀ base outer h₁ → (hd.heap_1 w.params).In h₁ → Top p loose mean mg mb h₁ → KtsDicts (outer.filterMap (·.frame)) h₁ →
      Post v news' → Q v { s with heap := h', toks := tk' }) →
    wpAny (model PySem.Challenge.rw_ke0001_01.row.prog w) (ktrTop dp un gd cn cs L a ccd cl outer) (call f vs) Q E s
section
variable {M : Model} {A : Around} {E : Value → Shared → Prop} {s : Shared} {h₀ : Heap} {L a : Addr} {m : Str → Option Value} {cn : Str} {cs : Scope} {ccd : Value} {cl : List (Str × Addr)}
  {x : Str} {v : Value} {Q : Unit → Shared → Prop} {news : List (Addr × Obj)}
/-- a name is stored; the tokens are told no more -/
theorem store_g (F : Fr h₀ L s.heap m) (N : News h₀ L s.heap news)
    (hk : cs.kind = .function) (hx : (envX cn cs L a ccd cl).kindOf x = some .local)
    (h : ∀ h' tk', Fr h₀ L h' (fun y => if y = x then some v else m y) → News h₀ L h' news → Q () { s with heap := h', toks := tk' }) : wpAny M A (storeName (envX cn cs L a ccd cl) x v) Q E s :=
  storeX_L F N (fun h' => h h' (s.toks + 1)) hk hx
theorem store_gi {n : Int} {t : Tok} (F : Fr h₀ L s.heap m) (N : News h₀ L s.heap news)
    (hk : cs.kind = .function) (hx : (envX cn cs L a ccd cl).kindOf x = some .local)
    (h : ∀ h' tk' t', Fr h₀ L h' (fun y => if y = x then some (.int n t') else m y) → News h₀ L h' news → Q () { s with heap := h', toks := tk' }) : wpAny M A (storeName (envX cn cs L a ccd cl) x (.int n t)) Q E s :=
  storeX_L F N (fun h' => h h' (s.toks + 1) t) hk hx
end

end
section
theorem words_11_done : True := by
  (k_with "storeName" => (k_here; k_dflt (first | (refine' store_gi ?zqF ?zqN ?zqa ?zqb ?_; (case zqF => k_asm); (case zqN => k_asm); (case zqa => exact Eq.refl ScopeKind.function); (case zqb => exact Eq.refl (some NameKind.local)); k_whole; intro h' tk' ti' F' N'; (try k_sweep)) | (refine' store_g ?zqF ?zqN ?zqa ?zqb ?_; (case zqF => k_asm); (case zqN => k_asm); (case zqa => exact Eq.refl ScopeKind.function); (case zqb => exact Eq.refl (some NameKind.local)); k_whole; intro h' tk' F' N'; (try k_sweep)))))
  (k_with "fr" => ((with_reducible rename Fr _ _ _ (fun _ ↦ List.lookup _ _) => zrF9); k_dflt (first | (replace zrF9 : Fr _ _ _ (fun y => List.lookup y [(_, _)]) := zrF9) | (replace zrF9 : Fr _ _ _ (fun y => List.lookup y [(_, _), (_, _)]) := zrF9) | (replace zrF9 : Fr _ _ _ (fun y => List.lookup y [(_, _), (_, _), (_, _)]) := zrF9) | (replace zrF9 : Fr _ _ _ (fun y => List.lookup y [(_, _), (_, _), (_, _), (_, _), (_, _), (_, _)]) := zrF9) | (replace zrF9 : Fr _ _ _ (fun y => List.lookup y [(_, _), (_, _), (_, _), (_, _), (_, _)]) := zrF9) | (replace zrF9 : Fr _ _ _ (fun y => List.lookup y [(_, _), (_, _), (_, _), (_, _)]) := zrF9) | (replace zrF9 : Fr _ _ _ (fun y => List.lookup y [(_, _), (_, _), (_, _), (_, _), (_, _), (_, _), (_, _)]) := zrF9)); (try dsimp only at zrF9)))
  trivial
theorem words_p11_done_1 : True := by
  (k_with "call ref" => (k_here; (with_reducible show wpAny _ _ (call (Value.ref _) []) _ _ _); (with_reducible rename CallsK _ _ _ _ _ _ _ _ _ => zrhlam); k_dflt (refine' callsK_use zrhlam ?zqB ?zqF ?zqX ?zqN ?zqT ?zqk ?zqd ?zqu (fun v' n' h' tk' F' N' P' => ?_) (fun c' e' h' tk' g' C' F' R' U' => ?_); (case zqB => k_asm); (case zqF => k_asm); (case zqX => k_asm); (case zqN => k_asm); (case zqT => k_asm); (case zqk => exact rfl); (case zqd => ktr_room); (case zqu => ktr_units))))
  (k_with "callWith ref" => (k_here; k_dflt (refine' callWith_F0 ?zqk1 ?_; (case zqk1 => exact FnAt.of (by k_asm) (by k_mem)); k_whole; try dsimp only [List.nil_append, List.cons_append])))
  trivial
set_option maxHeartbeats 4000000 in
theorem done_calls (w : World) (news : List (Addr × Obj)) (f : Addr) (oc : Value) (od : Option Addr) (fd : FuncData) (sl : Array (Option Value)) (hf : (f, (⟨oc, od, .func fd, sl⟩ : Obj)) ∈ news) (dm um : Nat) (Post : Value → List (Addr × Obj) → Prop) (Exc : String → Prop) (hlam : CallsN w (.ref f) [] news dm um Post Exc)
    (hx : ∀ c, Exc c → c = "AssertionError" ∨ c = "OverflowError") :
    CallsC w (.ref 395) [.ref f] news (dm + 3) (um + 20) (fun v news' => Post v news' ∨ (Exc "AssertionError" ∧ (∃ t, v = .str (PySem.Str.ofString "refused") t) ∧ ∀ q ∈ news, q ∈ news') ∨ (Exc "OverflowError" ∧ (∃ t, v = .str (PySem.Str.ofString "too great") t) ∧ ∀ q ∈ news, q ∈ news')) := by
  unfold CallsC
  k_fill
  intro p loose mean mg mb dp un gd cn cs a ccd cl outer A₀ base h₀ L m s Q E B F X N T hk XB TB D hd hu hret
  obtain ⟨kd, nm, ig, ic, mo⟩ := cs
  cases hk
  refine wpAny_call ?_
  k_dflt (refine' enter_turn ?k1 ?k2 ?k3 ?k4 ?k5 ?XB ?TB ?D ?T0 ?kA ?kF ?kK ?k6 ?k7 ?k8 ?k9 ?kB ?_ ?c2 ?c3 ?c4 ?c5)
  (case kA => exact rfl); (case kF => exact rfl); (case kK => exact rfl); (case k2 => k_asm); (case k1 => k_asm); (case XB => assumption); (case TB => assumption); (case D => assumption); (case T0 => exact KtsTurn.refl)
  (case k3 => k_asm); (case k4 => k_asm); (case k5 => k_asm); (case k6 => k_is); (case k7 => k_is); (case k8 => k_room); (case k9 => exact BindsTo.of_eq rfl); (case kB => exact locs rfl); (case c2 => exact rfl); (case c3 => exact rfl); (case c4 => exact rfl); (case c5 => decide)
  intro g' L' h' FG' F' N' B' X' T' D'
  try dsimp only
  try k_fold
  k_steps
  · exact hret _ _ _ _ _ KtsTurn.refl (by k_asm) (by k_asm) (by k_asm) (by k_asm) (by k_asm) (by k_asm) (.inl (by with_reducible assumption))
  · rcases hx _ (by with_reducible assumption) with rfl | rfl
    · k_steps
      exact hret _ _ _ _ _ (by with_reducible assumption) (by k_asm) (by k_asm) (by k_asm) (by k_asm) (by k_asm) (by k_asm) (.inr (.inl ⟨by with_reducible assumption, ⟨_, rfl⟩, fun _ hq => hq⟩))
    · k_steps
      exact hret _ _ _ _ _ (by with_reducible assumption) (by k_asm) (by k_asm) (by k_asm) (by k_asm) (by k_asm) (by k_asm) (.inr (.inr ⟨by with_reducible assumption, ⟨_, rfl⟩, fun _ hq => hq⟩))

end
section
theorem words_12_rec : True := by
  k_with_none
  (k_with "z ktr_units" => ((simp only [units_under_kw, units_in1, units_deeper, Around.mark_units, units_caller, ktrTop, cLine_is] at ⊢); (rename _ < cLine => zrhcU); (rw [cLine_is] at zrhcU); omega))
  (k_with "z ktr_room" => ((simp only [depth_under_kw, depth_in1, depth_deeper, depth_caller, ktrTop] at ⊢); omega))
  (k_with "z ktr_units" => ((rename _ < cLine => zrhcU); first | exact u3 zrhcU rfl | exact u2 zrhcU rfl | exact u4 zrhcU rfl | exact u5 zrhcU rfl | exact u1 zrhcU))
  (k_with "z ktr_room" => ((rename _ < recursionLimit => zrhcD); first | exact u2 zrhcD rfl | exact u3 zrhcD rfl | exact u4 zrhcD rfl | exact u5 zrhcD rfl | exact u1 zrhcD))
  (k_with "z k_room" => ktr_room)
  (k_with "z k_units" => ktr_units)
  (k_with "z k_mem" => ((show @Membership.mem (Addr × Obj) (List (Addr × Obj)) _ _ _); with_reducible assumption))
  (k_with "om0" => ((repeat (with_reducible rename _ ≠ _ ∧ _ => zrhz; clear zrhz)); (repeat (with_reducible rename (_ ≠ _ ∧ _) ∧ _ => zrhz; clear zrhz)); omega))
  (k_with "bd1" => first | decide | (with_reducible first | apply om_b1 | apply om_b2 | apply om_b3 | apply om_b4 | apply om_b5 | apply om_b6 | apply om_b7 | apply om_bs | apply om_bt | apply om_bz | apply om_bt4 | apply om_b2t | apply om_bm | (apply om_bq; assumption) | refine om_bl (by assumption) ?_ | refine om_be (by assumption) ?_ | (apply om_bk; assumption; decide) | (apply om_bv; assumption; decide)))
  (k_with "bd" => (k_whole; (with_reducible first | (apply om_b0; rotate_left; with_unfolding_all rfl) | (apply om_b0l; rotate_left; with_unfolding_all rfl)); (repeat' k_extra "bd1"); done))
  (k_with "five" => first | assumption | exact om_lk5 (by assumption) | exact om_lt5 (by assumption) | exact Nat.le_trans (by assumption) (om_lk5 (by assumption)) | exact Nat.le_trans (by assumption) (om_lt5 (by assumption)))
  (k_with "om1" => first | rfl | assumption | exact And.left (by assumption) | exact And.right (by assumption) | ((show @LE.le Int _ _ _); first | apply Int.natCast_nonneg | (apply om_sub_nn; assumption) | (apply om_sa0; assumption) | (apply Int.le_of_lt; apply om_lp2) | (apply Int.le_add_of_nonneg_right; first | assumption | apply Int.natCast_nonneg)) | ((show @LE.le Nat _ _ _); apply Nat.le_of_lt; assumption) | ((show @LT.lt Int _ _ _); apply om_lp2) | ((show @LT.lt Nat _ _ _); first | (apply om_posD; assumption) | (apply om_posF; assumption)) | ((show @Eq Nat _ _); first | apply tns | apply tn0 | (apply castD; assumption) | (apply castF; assumption)))
  (k_with "om2" => first | decide | ((show @LE.le Nat _ _ _); first | exact Nat.le_trans (by assumption) (by decide) | exact om_be (by assumption) (by decide) | (apply om_bq4; assumption; rfl) | (apply om_kbt; assumption; k_extra "five") | (apply om_kmt <;> assumption)) | ((show @LE.le Int _ _ _); first | (apply Int.le_add_of_nonneg_right; decide) | (apply om_ic 5; k_extra "five"; decide) | (apply om_sub_le0; apply om_ic 5; k_extra "five"; decide) | (apply om_sub0_le; apply om_ic 5; k_extra "five"; decide) | (apply om_sa4; k_extra "five") | (refine Int.le_trans (om_kb (by assumption) (by k_extra "five")) (by decide)) | (apply om_kb1; assumption; k_extra "five") | (apply om_kb2; assumption; k_extra "five") | (apply om_km <;> assumption)) | ((show @Eq Int _ _); first | (apply om_lnO; assumption) | (apply om_lnI <;> assumption) | (apply om_lnF; assumption)) | ((show @LT.lt Int _ _ _); first | (apply om_icl 5; k_extra "five"; decide) | exact Int.lt_of_lt_of_le (by decide) (And.left (by assumption)) | exact Int.lt_trans (And.right (by assumption)) (by decide)))
  (k_with "nn" => ((show @LE.le Int _ _ _); apply Int.add_nonneg; (repeat' first | apply Int.natCast_nonneg | assumption | decide | apply Int.add_nonneg); done))
  (k_with "om" => first | (k_whole; with_reducible k_extra "om1") | (k_whole; with_reducible k_extra "om2") | (k_whole; with_reducible k_extra "nn") | k_extra "bd" | k_extra "om0")
  (k_with "z kba_size" => k_extra "bd")
  (k_with "fold" => (refine' let_A ?_; intro qa; k_fold))
  (k_with "ite" => first | refine ite_dpos (by assumption) ?_ | refine ite_dneg (by first | assumption | (apply Int.not_lt.mpr; assumption) | (apply Int.not_le.mpr; assumption)) ?_)
  (k_with "z kcf_bnd" => first | (k_whole; with_reducible k_extra "om1") | (k_whole; with_reducible k_extra "om2") | (k_whole; with_reducible k_extra "nn") | k_extra "bd")
  (k_with "gl" => with_reducible (first | exact glUSEDKEYLENGTHBYTES _ | exact glUSEDVALUELENGTHBYTES _ | exact glPAGEREFERENCEBYTES _ | exact glENDIAN _ | exact glRecord _ | exact glReference _ | exact gllawlow _ | exact gllawkey _ | exact gllawparts _ | exact gllawpages _ | exact gllawdone _ | exact gllawnumber _ | exact gllawsigns _ | exact glTreeConf _ | exact glStrSerializer _ | exact glIntSerializer _ | exact gllawrecord _ | exact gllawreference _ | exact gllawread _ | exact gllaworder _))
  (k_with "gb" => with_reducible (first | exact glint _ | exact gllen _ | exact glbytes _ | exact glisinstance _ | exact glrange _ | exact glenumerate _ | exact gltuple _ | exact gltype _))
  (k_with "eval Name" => (k_here; k_dflt (first | (refine' nameX_L ?zqF ?zqv ?_ ?zqa ?zqb; (case zqF => k_asm); (case zqa => exact Eq.refl ScopeKind.function); (case zqb => exact Eq.refl (some NameKind.local)); (case zqv => exact Eq.refl (some _)); k_whole) | (refine' name_top ?zqg ?zqF ?zqX ?zqT ?zqa ?zqb ?_; (case zqX => k_asm); (case zqg => k_extra "gl"); (case zqF => k_asm); (case zqT => k_asm); (case zqa => exact Eq.refl ScopeKind.function); (case zqb => exact Eq.refl (some NameKind.globalImplicit)); k_whole) | (refine' name_boot ?zqg ?zqF ?zqX ?zqT ?zqa ?zqb ?_; (case zqX => k_asm); (case zqg => k_extra "gb"); (case zqF => k_asm); (case zqT => k_asm); (case zqa => exact Eq.refl ScopeKind.function); (case zqb => exact Eq.refl (some NameKind.globalImplicit)); k_whole))))
  (k_with "callWith ref" => (k_here; k_dflt (first | (refine' callWith_K ?zqk1 ?zqk2 ?_; (case zqk1 => k_asm); (case zqk2 => k_extra "kp"); k_whole) | (refine' callWith_K0 ?zqk1 ?zqk2 ?_; (case zqk1 => first | with_reducible assumption | exact Frag.In.keeps (by with_reducible assumption) (Fr.keep (by with_reducible assumption)) | k_in); (case zqk2 => k_extra "kp"); k_whole) | (refine' callWith_M0 ?zqk1 ?zqk2 ?_; (case zqk1 => k_meth); (case zqk2 => k_extra "kp"); k_whole; (try dsimp only [List.nil_append, List.cons_append])) | (refine' callWith_M ?zqk1 ?zqk2 ?zqk3 ?zqk4 ?_; (case zqk1 => k_asm); (case zqk2 => k_asm); (case zqk3 => k_mem); (case zqk4 => k_is); k_whole) | (refine' callWith_KW ?zqk1 ?zqk2 ?zqk3 ?_; (case zqk1 => k_asm); (case zqk2 => k_extra "kp"); (case zqk3 => exact rfl); k_whole) | (refine' callWith_KW0 ?zqk1 ?zqk2 ?zqk3 ?_; (case zqk1 => k_asm); (case zqk2 => k_extra "kp"); (case zqk3 => exact rfl); k_whole))))
  (k_with "getMethod type:int" => (k_here; (with_reducible refine' KFB.getm ?zqkfbF ?zqkfbN ?zqkfbX ?zqkfbE ?_); k_dflt ((case zqkfbF => k_asm); (case zqkfbN => k_asm); (case zqkfbX => k_asm); (case zqkfbE => exact from_bytes_at _); k_whole; intro x' h' F' N' l1; (try k_lt l1); (try k_sweep))))
  (k_with "kp" => first | with_reducible assumption | (with_reducible first | exact kp232 _ | exact kp273 _ | exact kp355 _ | exact kp369 _ | exact kp376 _ | exact kp381 _ | exact kp388 _ | exact kp395 _ | exact kp400 _ | exact kp407 _ | exact kp412 _ | exact kp419 _ | exact kp141 _ | exact kp346 _ | exact kp320 _) | k_is)
  (k_with "getAttr ref" => (k_here; (with_reducible show wpAny _ _ (getAttr (Value.ref _) (PySem.Str.ofString "key_size") _) _ _ _); k_dflt (refine' conf_attr (And.left (get_conf _ _ _ _ _ _ _ _ _ _ ?zqm)) ?zqm2 ?zqc1 ?zqc3 ?zqB ?zqF ?zqX ?zqN ?zqT ?zqk ?zqd ?zqu ?zqp ?zqp2 ?zqp3 ?zqf2 ?zqf3 ?zqf4 ?zqhh ?_; (case zqN => k_asm); (case zqm => k_mem); (case zqm2 => k_mem); (case zqc1 => exact rfl); (case zqc3 => exact rfl); (case zqB => k_asm); (case zqF => k_asm); (case zqX => k_asm); (case zqT => k_asm); (case zqk => exact rfl); (case zqd => ktr_room); (case zqu => ktr_units); (case zqp => k_is); (case zqp2 => k_is); (case zqp3 => k_is); (case zqf2 => k_is); (case zqf3 => k_is); (case zqf4 => k_is); (case zqhh => exact rfl); k_whole; intro h' tk' F' N'; (try k_sweep))))
  (k_with "getAttr ref" => (k_here; (with_reducible show wpAny _ _ (getAttr (Value.ref _) (PySem.Str.ofString "value_size") _) _ _ _); k_dflt (refine' conf_attr (And.left (And.right (get_conf _ _ _ _ _ _ _ _ _ _ ?zqm))) ?zqm2 ?zqc1 ?zqc3 ?zqB ?zqF ?zqX ?zqN ?zqT ?zqk ?zqd ?zqu ?zqp ?zqp2 ?zqp3 ?zqf2 ?zqf3 ?zqf4 ?zqhh ?_; (case zqN => k_asm); (case zqm => k_mem); (case zqm2 => k_mem); (case zqc1 => exact rfl); (case zqc3 => exact rfl); (case zqB => k_asm); (case zqF => k_asm); (case zqX => k_asm); (case zqT => k_asm); (case zqk => exact rfl); (case zqd => ktr_room); (case zqu => ktr_units); (case zqp => k_is); (case zqp2 => k_is); (case zqp3 => k_is); (case zqf2 => k_is); (case zqf3 => k_is); (case zqf4 => k_is); (case zqhh => exact rfl); k_whole; intro h' tk' F' N'; (try k_sweep))))
  (k_with "getAttr ref" => (k_here; (with_reducible show wpAny _ _ (getAttr (Value.ref _) (PySem.Str.ofString "serializer") _) _ _ _); k_dflt (refine' conf_attr (And.right (And.right (get_conf _ _ _ _ _ _ _ _ _ _ ?zqm))) ?zqm2 ?zqc1 ?zqc3 ?zqB ?zqF ?zqX ?zqN ?zqT ?zqk ?zqd ?zqu ?zqp ?zqp2 ?zqp3 ?zqf2 ?zqf3 ?zqf4 ?zqhh ?_; (case zqN => k_asm); (case zqm => k_mem); (case zqm2 => k_mem); (case zqc1 => exact rfl); (case zqc3 => exact rfl); (case zqB => k_asm); (case zqF => k_asm); (case zqX => k_asm); (case zqT => k_asm); (case zqk => exact rfl); (case zqd => ktr_room); (case zqu => ktr_units); (case zqp => k_is); (case zqp2 => k_is); (case zqp3 => k_is); (case zqf2 => k_is); (case zqf3 => k_is); (case zqf4 => k_is); (case zqhh => exact rfl); k_whole; intro h' tk' F' N'; (try k_sweep))))
  (k_with "ne" => first | (with_reducible assumption) | (exact Nat.ne_of_lt (by with_reducible assumption)) | (exact Nat.ne_of_gt (by with_reducible assumption)) | (exact Ne.symm (by with_reducible assumption)) | (exact allNe_mem2 (by with_reducible assumption) (by k_mem)) | (exact Ne.symm (allNe_mem2 (by with_reducible assumption) (by k_mem))) | (exact ng0 (by with_reducible assumption)) | (exact nl0 (by with_reducible assumption)) | (exact ng1 (by with_reducible assumption)) | (exact nl1 (by with_reducible assumption)) | (exact fg1 (by with_reducible assumption)) | (exact fl1 (by with_reducible assumption)) | (exact ng2 (by with_reducible assumption)) | (exact nl2 (by with_reducible assumption)) | (exact fg2 (by with_reducible assumption)) | (exact fl2 (by with_reducible assumption)) | (exact ng3 (by with_reducible assumption)) | (exact nl3 (by with_reducible assumption)) | (exact fg3 (by with_reducible assumption)) | (exact fl3 (by with_reducible assumption)) | (exact ng4 (by with_reducible assumption)) | (exact nl4 (by with_reducible assumption)) | (exact fg4 (by with_reducible assumption)) | (exact fl4 (by with_reducible assumption)) | (exact ng5 (by with_reducible assumption)) | (exact nl5 (by with_reducible assumption)) | (exact fg5 (by with_reducible assumption)) | (exact fl5 (by with_reducible assumption)) | (exact ng6 (by with_reducible assumption)) | (exact nl6 (by with_reducible assumption)) | (exact fg6 (by with_reducible assumption)) | (exact fl6 (by with_reducible assumption)) | (exact ng7 (by with_reducible assumption)) | (exact nl7 (by with_reducible assumption)) | (exact fg7 (by with_reducible assumption)) | (exact fl7 (by with_reducible assumption)) | (exact ng8 (by with_reducible assumption)) | (exact nl8 (by with_reducible assumption)) | (exact fg8 (by with_reducible assumption)) | (exact fl8 (by with_reducible assumption)) | (exact ng9 (by with_reducible assumption)) | (exact nl9 (by with_reducible assumption)) | (exact fg9 (by with_reducible assumption)) | (exact fl9 (by with_reducible assumption)) | (exact ng10 (by with_reducible assumption)) | (exact nl10 (by with_reducible assumption)) | (exact fg10 (by with_reducible assumption)) | (exact fl10 (by with_reducible assumption)) | (exact ng11 (by with_reducible assumption)) | (exact nl11 (by with_reducible assumption)) | (exact fg11 (by with_reducible assumption)) | (exact fl11 (by with_reducible assumption)) | (exact ng12 (by with_reducible assumption)) | (exact nl12 (by with_reducible assumption)) | (exact fg12 (by with_reducible assumption)) | (exact fl12 (by with_reducible assumption)) | (exact ng13 (by with_reducible assumption)) | (exact nl13 (by with_reducible assumption)) | (exact fg13 (by with_reducible assumption)) | (exact fl13 (by with_reducible assumption)) | (exact na0 (by with_reducible assumption)) | (exact nb0 (by with_reducible assumption)) | (exact na1 (by with_reducible assumption)) | (exact nb1 (by with_reducible assumption)) | (exact na2 (by with_reducible assumption)) | (exact nb2 (by with_reducible assumption)) | (exact na3 (by with_reducible assumption)) | (exact nb3 (by with_reducible assumption)) | (exact na4 (by with_reducible assumption)) | (exact nb4 (by with_reducible assumption)) | (exact na5 (by with_reducible assumption)) | (exact nb5 (by with_reducible assumption)) | (exact na6 (by with_reducible assumption)) | (exact nb6 (by with_reducible assumption)) | (exact na7 (by with_reducible assumption)) | (exact nb7 (by with_reducible assumption)) | (exact na8 (by with_reducible assumption)) | (exact nb8 (by with_reducible assumption)) | (exact na9 (by with_reducible assumption)) | (exact nb9 (by with_reducible assumption)) | (exact oi1) | (exact os1) | (exact ok1 (by with_reducible assumption)) | (exact oc1 (by with_reducible assumption)) | (exact oi2) | (exact os2) | (exact ok2 (by with_reducible assumption)) | (exact oc2 (by with_reducible assumption)) | (exact oi3) | (exact os3) | (exact ok3 (by with_reducible assumption)) | (exact oc3 (by with_reducible assumption)) | (exact oi4) | (exact os4) | (exact ok4 (by with_reducible assumption)) | (exact oc4 (by with_reducible assumption)) | (exact oi5) | (exact os5) | (exact ok5 (by with_reducible assumption)) | (exact oc5 (by with_reducible assumption)) | (exact news_ne (by k_asm) (by k_mem) (by k_mem) (by intro e; cases e)))
  (k_with "z k_ne" => (refine neN ?_; (try dsimp only); k_extra "ne"))
  (k_with "z k_all" => first | exact allNe_mem (by with_reducible assumption) | exact allNe_of_lt (by with_reducible assumption) | with_reducible assumption)
  (k_with "call ref" => (k_here; (with_reducible show wpAny _ _ (call (Value.ref 369) [Value.int _ _, Value.int _ _]) _ _ _); k_dflt (first | (refine' calls_use (low_calls _ _ _ _ _ 2 (by decide)) ?zqB ?zqF ?zqX ?zqN ?zqT ?zqk ?zqd ?zqu ?_; (case zqB => k_asm); (case zqF => k_asm); (case zqX => k_asm); (case zqN => k_asm); (case zqT => k_asm); (case zqk => exact rfl); (case zqd => ktr_room); (case zqu => ktr_units); k_whole) | (refine' calls_use (low_calls _ _ _ _ _ 4 (by decide)) ?zqB ?zqF ?zqX ?zqN ?zqT ?zqk ?zqd ?zqu ?_; (case zqB => k_asm); (case zqF => k_asm); (case zqX => k_asm); (case zqN => k_asm); (case zqT => k_asm); (case zqk => exact rfl); (case zqd => ktr_room); (case zqu => ktr_units); k_whole) | (refine' calls_use (low_calls _ _ _ _ _ _ ?zqn) ?zqB ?zqF ?zqX ?zqN ?zqT ?zqk ?zqd ?zqu ?_; (case zqB => k_asm); (case zqF => k_asm); (case zqX => k_asm); (case zqN => k_asm); (case zqT => k_asm); (case zqk => exact rfl); (case zqd => ktr_room); (case zqu => ktr_units); (case zqn => k_extra "om"); k_whole)); intro v' h' tk' F' P'; obtain ⟨l', vs', hv', N', hI', hO'⟩ := P'; subst hv'; (replace hO' := allNe_of hO'); (try dsimp only); (try k_fold)))
  (k_with "call builtin:len" => (k_here; (with_reducible show wpAny _ _ (call (Value.builtin "len") [Value.ref _]) _ _ _); k_dflt (refine' len_ints ?zqN ?zqm ?zqi ?zqf ?_; (case zqN => k_asm); (case zqm => k_mem); (case zqi => with_reducible assumption); (case zqf => ((try simp only [List.length_append, List.length_replicate, KTBy.little_length]); k_extra "om")); k_whole)))
  (k_with "binaryOp Add ref ref" => (k_here; (with_reducible show wpAny _ _ (binaryOp Operator.Add (Value.ref _) (Value.ref _)) _ _ _); k_dflt (refine' add_ints ?zqF ?zqN ?zqa ?zqb ?zqi ?zqj ?zqf ?_; (case zqF => k_asm); (case zqN => k_asm); (case zqa => k_mem); (case zqb => k_mem); (case zqi => with_reducible assumption); (case zqj => with_reducible assumption); (case zqf => ((try simp only [List.length_append, List.length_replicate, KTBy.little_length]); k_extra "om")); k_whole; intro l' us' h' F' N' I' l1; (try k_lt l1); (try k_sweep))))
  (k_with "binaryOp Mult ref int" => (k_here; (with_reducible show wpAny _ _ (binaryOp Operator.Mult (Value.ref _) (Value.int _ _)) _ _ _); k_dflt (refine' mul_ints ?zqF ?zqN ?zqa ?zqg ?zqf ?_; (case zqF => k_asm); (case zqN => k_asm); (case zqa => k_mem); (case zqg => k_extra "om"); (case zqf => k_extra "om"); k_whole; intro l' us' h' F' N' I' l1; (try k_lt l1); (try k_sweep))))
  (k_with "call ref" => (k_here; (with_reducible show wpAny _ _ (call (Value.ref 388) [Value.ref _, Value.ref _]) _ _ _); k_dflt ((refine' calls_use (parts_calls _ _ _ _ _ _ _ _ _ _ ?zqm ?zqz _ _ _ _ ?zql ?zqi ?zqe) ?zqB ?zqF ?zqX ?zqN ?zqT ?zqk ?zqd ?zqu ?_; (case zqB => k_asm); (case zqF => k_asm); (case zqX => k_asm); (case zqN => k_asm); (case zqT => k_asm); (case zqk => exact rfl); (case zqd => ktr_room); (case zqu => ktr_units); (case zqm => k_mem); (case zql => k_mem); (case zqi => with_reducible assumption); (case zqz => k_extra "om"); (case zqe => ((try simp only [List.length_append, List.length_replicate, KTBy.little_length]); k_extra "om")); k_whole)); intro v' h' tk' F' P'; obtain ⟨l', vs', e', hv', N', hI', hO'⟩ := P'; subst hv'; (replace hO' := allNe_of hO'); (try dsimp only); (try k_fold)))
  (k_with "call builtin:int.to_bytes" => (k_here; (with_reducible show wpAny _ _ (call (Value.builtin "int.to_bytes") [Value.int _ _, Value.int _ _, Value.str _ _]) _ _ _); k_dflt (first | (refine' to_bytes_in (k := 2) (B := 65536) ?zqh1 ?zqh2 ?zqh3 ?zqh4 (fun b' t' k' hb' => ?_); (case zqh1 => decide); (case zqh2 => decide); (case zqh3 => k_extra "om"); (case zqh4 => k_extra "om")) | (refine' to_bytes_in (k := 4) (B := 4294967296) ?zqh1 ?zqh2 ?zqh3 ?zqh4 (fun b' t' k' hb' => ?_); (case zqh1 => decide); (case zqh2 => decide); (case zqh3 => k_extra "om"); (case zqh4 => k_extra "om")) | (refine' to_bytes_all (k := 2) rfl ?zqh (fun hx0 hx1 b' t' k' hb' => ?_) (fun hx h' tk' e' hn' => ?_); (case zqh => decide)) | (refine' to_bytes_all (k := 4) rfl ?zqh (fun hx0 hx1 b' t' k' hb' => ?_) (fun hx h' tk' e' hn' => ?_); (case zqh => decide)) | (refine' to_bytes_all rfl ?zqh (fun hx0 hx1 b' t' k' hb' => ?_) (fun hx h' tk' e' hn' => ?_); (case zqh => k_extra "om")))))
  (k_with "leaving ref" => (k_here; k_dflt (refine' leave_newS ?zqk1 ?zqk0 ?zqk2 ?zqk3 ?_; (case zqk0 => assumption); (case zqk1 => assumption); (case zqk2 => assumption); (case zqk3 => k_asm); k_whole; intro h' R' Rn' U')))
  (k_with "getMethod str" => (k_here; (with_reducible refine encode_method ?_)))
  (k_with "callWith" => (k_here; (with_reducible show wpAny _ _ (callWith _ (Value.builtin _) _ (backTo _ (starEach [] _)) (backToKw _ (keywordEach (_ :: _) _))) _ _ _); k_dflt (refine callWith_kwN ?_)))
  (k_with "call builtin:str.encode" => (k_here; k_dflt (refine' encode_call ?zqhe ?zqhz ?_; (case zqhe => assumption); (case zqhz => assumption); k_whole; intro t' k')))
  (k_with "call builtin:bytes.decode" => (k_here; k_dflt (first | (refine' decode_kw ?zqhd ?zqhe ?zqhz ?_; (case zqhd => assumption); (case zqhe => assumption); (case zqhz => assumption); k_whole; intro t' k') | (refine' decode_ascii ?zqhd ?zqhe ?zqhz ?_; (case zqhd => assumption); (case zqhe => assumption); (case zqhz => assumption); k_whole; intro t' k'))))
  (k_with "binaryOp Add bytes bytes" => (k_here; (with_reducible show wpAny _ _ (binaryOp Operator.Add (Value.bytes _ _) (Value.bytes _ _)) _ _ _); k_dflt (refine' add_b ?zqb ?zqc ?zqz (fun d' t' k' hb' => ?_); (case zqb => first | with_reducible assumption | exact bints_nil); (case zqc => first | with_reducible assumption | exact bints_nil); (case zqz => ((try simp only [List.length_append, List.length_replicate, KTBy.little_length, List.length_cons, List.length_nil]); k_extra "om")))))
  (k_with "call type:bytes" => (k_here; (with_reducible show wpAny _ _ (call (Value.type "bytes") [Value.int _ _]) _ _ _); k_dflt (refine' zeros_call ?zqa ?zqb (fun d' t' k' hb' => ?_); (case zqa => k_extra "om"); (case zqb => k_extra "om"))))
  (k_with "call type:bytes" => (k_here; (with_reducible show wpAny _ _ (call (Value.type "bytes") [Value.ref _]) _ _ _); k_dflt (refine' bytes_of_list rfl ?zqF ?zqN ?zql ?zqi ?zqr ?zqz (fun d' t' k' h' F' N' hb' => ?_); (case zqF => k_asm); (case zqN => k_asm); (case zql => k_mem); (case zqi => with_reducible assumption); (case zqz => ((try simp only [List.length_append, List.length_replicate, KTBy.little_length, List.length_cons, List.length_nil]); k_extra "om")); (case zqr => (repeat' (first | with_reducible assumption | exact rng_little _ _ | exact rng_zeros _ | exact rng_nil | refine rng_app ?_ ?_ | refine rng_cons ⟨by k_extra "om", by k_extra "om"⟩ ?_))))))
  (k_with "call builtin:len" => (k_here; (with_reducible show wpAny _ _ (call (Value.builtin "len") [Value.bytes #[] _]) _ _ _); (with_reducible refine len_nil ?_)))
  (k_with "leaving ref" => (k_here; k_dflt (refine' leave_onE ?zqhf ?zqB ?zqF ?zqR ?zqU ?_; (case zqhf => exact rfl); (case zqR => first | with_reducible assumption | assumption); (case zqB => assumption); (case zqU => assumption); (case zqF => assumption); k_whole; intro h' R' U')))
  (k_with "storeName" => (k_here; k_dflt (first | (refine' store_gi ?zqF ?zqN ?zqa ?zqb ?_; (case zqF => k_asm); (case zqN => k_asm); (case zqa => exact Eq.refl ScopeKind.function); (case zqb => exact Eq.refl (some NameKind.local)); k_whole; intro h' tk' ti' F' N'; (try k_sweep)) | (refine' store_g ?zqF ?zqN ?zqa ?zqb ?_; (case zqF => k_asm); (case zqN => k_asm); (case zqa => exact Eq.refl ScopeKind.function); (case zqb => exact Eq.refl (some NameKind.local)); k_whole; intro h' tk' F' N'; (try k_sweep)))))
  (k_with "fr" => ((with_reducible rename Fr _ _ _ (fun _ ↦ List.lookup _ _) => zrF9); k_dflt (first | (replace zrF9 : Fr _ _ _ (fun y => List.lookup y [(_, _)]) := zrF9) | (replace zrF9 : Fr _ _ _ (fun y => List.lookup y [(_, _), (_, _)]) := zrF9) | (replace zrF9 : Fr _ _ _ (fun y => List.lookup y [(_, _), (_, _), (_, _)]) := zrF9) | (replace zrF9 : Fr _ _ _ (fun y => List.lookup y [(_, _), (_, _), (_, _), (_, _), (_, _), (_, _)]) := zrF9) | (replace zrF9 : Fr _ _ _ (fun y => List.lookup y [(_, _), (_, _), (_, _), (_, _), (_, _)]) := zrF9) | (replace zrF9 : Fr _ _ _ (fun y => List.lookup y [(_, _), (_, _), (_, _), (_, _)]) := zrF9) | (replace zrF9 : Fr _ _ _ (fun y => List.lookup y [(_, _), (_, _), (_, _), (_, _), (_, _), (_, _), (_, _)]) := zrF9)); (try dsimp only at zrF9)))
  trivial
abbrev confs (ks vsz : Nat) : Prop := 1 ≤ ks ∧ ks ≤ 5 ∧ vsz ≤ 5
abbrev recDict (w : World) (k1 k2 k3 k4 k5 : Tok) (c : Addr) (key v len pg : Value) : Obj := dictOf [
  ⟨PyData.keyHash w.params (PySem.Str.ofString "_tree_conf"), .str (PySem.Str.ofString "_tree_conf") k1, .ref c⟩,
  ⟨PyData.keyHash w.params (PySem.Str.ofString "key"), .str (PySem.Str.ofString "key") k2, key⟩,
  ⟨PyData.keyHash w.params (PySem.Str.ofString "value"), .str (PySem.Str.ofString "value") k3, v⟩,
  ⟨PyData.keyHash w.params (PySem.Str.ofString "length"), .str (PySem.Str.ofString "length") k4, len⟩,
  ⟨PyData.keyHash w.params (PySem.Str.ofString "overflow_page"), .str (PySem.Str.ofString "overflow_page") k5, pg⟩] 5
theorem raised_sub {base G h : Heap} {l : List Env} {e : Addr} {cls : Value} {news news' : List (Addr × Obj)} (R : RaisedSN base G l e cls news' h) (hs : ∀ q ∈ news, q ∈ news') : RaisedSN base G l e cls news h := by
  obtain ⟨B, a0, h1, h2, h3, h4⟩ := R
  exact ⟨B, a0, h1, h2, fun q hq => h3 q (hs q hq), h4⟩
/-- a record of these parts, new -/
def RecNew (w : World) (c : Addr) (news : List (Addr × Obj)) (key v pg : Value) (len : Int) (r : Value) (news' : List (Addr × Obj)) : Prop :=
  ∃ x dx k1 k2 k3 k4 k5 tl, r = .ref x ∧ news' = (x, instObj 232 dx) :: (dx, recDict w k1 k2 k3 k4 k5 c key v (.int len tl) pg) :: news ∧ (∀ q ∈ news, q.1 < dx) ∧ @LT.lt Nat _ dx x
theorem words_p12_rec_1 : True := by
  (k_with "execs cons" => (k_here; (fail_if_success (refine hasMark (by with_reducible assumption) ?_)); refine' let_B ?_; intro am qa; (try k_fold); (try k_extra "fr")))
  trivial
set_option maxHeartbeats 4000000 in
theorem rec_value (w : World) (news : List (Addr × Obj)) (c : Addr) (ks vsz : Nat) (sr : Addr) (t1 t2 t3 t4 : Tok) (hc : (c, confObj ks vsz sr t1 t2 t3 t4) ∈ news) (hcs : confs ks vsz)
    (key : Value) (b : Array UInt8) (tb : Tok) (ns : List Int) (hb : KBw.bInts b = ns) (hln : ns.length ≤ 1000) :
    CallsK w (.ref 232) [.ref c, key] [(PySem.Str.ofString "value", .bytes b tb)] news 10 300 (fun v news' => ns.length ≤ vsz ∧ RecNew w c news key (.bytes b tb) .none (2 + ks + 2 + vsz + 4) v news') (fun c => ¬ ns.length ≤ vsz ∧ c = "AssertionError") := by
  unfold CallsK
  k_fill
  intro p loose mean mg mb dp un gd cn cs a ccd cl outer A₀ base h₀ L m s Q E B F X N T hk hd hu hret hexc
  obtain ⟨kd, nm, ig, ic, mo⟩ := cs
  cases hk
  k_steps
  · exact hret _ _ _ _ (by k_asm) (by k_asm) ⟨by k_extra "om", _, _, _, _, _, _, _, _, rfl, rfl, by with_reducible assumption, by with_reducible assumption⟩
  · exact hexc _ _ _ _ _ ⟨by k_extra "om", rfl⟩ (by k_asm) (raised_sub (by with_reducible assumption) (by intro q hq; k_mem)) (by with_reducible assumption)
  · exact hret _ _ _ _ (by k_asm) (by k_asm) ⟨by k_extra "om", _, _, _, _, _, _, _, _, rfl, rfl, by with_reducible assumption, by with_reducible assumption⟩
set_option maxHeartbeats 4000000 in
theorem rec_page (w : World) (news : List (Addr × Obj)) (c : Addr) (ks vsz : Nat) (sr : Addr) (t1 t2 t3 t4 : Tok) (hc : (c, confObj ks vsz sr t1 t2 t3 t4) ∈ news) (hcs : confs ks vsz)
    (key : Value) (pg : Int) (tp : Tok) :
    CallsK w (.ref 232) [.ref c, key] [(PySem.Str.ofString "overflow_page", .int pg tp)] news 10 300 (fun v news' => RecNew w c news key .none (.int pg tp) (2 + ks + 2 + vsz + 4) v news') (fun _ => False) := by
  unfold CallsK
  k_fill
  intro p loose mean mg mb dp un gd cn cs a ccd cl outer A₀ base h₀ L m s Q E B F X N T hk hd hu hret hexc
  obtain ⟨kd, nm, ig, ic, mo⟩ := cs
  cases hk
  k_steps
  · exact hret _ _ _ _ (by k_asm) (by k_asm) ⟨_, _, _, _, _, _, _, _, rfl, rfl, by with_reducible assumption, by with_reducible assumption⟩
set_option maxHeartbeats 4000000 in
theorem rec_plain (w : World) (news : List (Addr × Obj)) (c : Addr) (ks vsz : Nat) (sr : Addr) (t1 t2 t3 t4 : Tok) (hc : (c, confObj ks vsz sr t1 t2 t3 t4) ∈ news) (hcs : confs ks vsz)
    (key : Value) :
    CallsK w (.ref 232) [.ref c, key] [] news 10 300 (fun v news' => RecNew w c news key .none .none (2 + ks + 2 + vsz + 4) v news') (fun _ => False) := by
  unfold CallsK
  k_fill
  intro p loose mean mg mb dp un gd cn cs a ccd cl outer A₀ base h₀ L m s Q E B F X N T hk hd hu hret hexc
  obtain ⟨kd, nm, ig, ic, mo⟩ := cs
  cases hk
  k_steps
  · exact hret _ _ _ _ (by k_asm) (by k_asm) ⟨_, _, _, _, _, _, _, _, rfl, rfl, by with_reducible assumption, by with_reducible assumption⟩
abbrev refDict (w : World) (k1 k2 k3 k4 k5 : Tok) (c : Addr) (len key before after : Value) : Obj := dictOf [
  ⟨PyData.keyHash w.params (PySem.Str.ofString "_tree_conf"), .str (PySem.Str.ofString "_tree_conf") k1, .ref c⟩,
  ⟨PyData.keyHash w.params (PySem.Str.ofString "length"), .str (PySem.Str.ofString "length") k2, len⟩,
  ⟨PyData.keyHash w.params (PySem.Str.ofString "key"), .str (PySem.Str.ofString "key") k3, key⟩,
  ⟨PyData.keyHash w.params (PySem.Str.ofString "before"), .str (PySem.Str.ofString "before") k4, before⟩,
  ⟨PyData.keyHash w.params (PySem.Str.ofString "after"), .str (PySem.Str.ofString "after") k5, after⟩] 5
def RefNew (w : World) (c : Addr) (news : List (Addr × Obj)) (key before after : Value) (len : Int) (r : Value) (news' : List (Addr × Obj)) : Prop :=
  ∃ x dx k1 k2 k3 k4 k5 tl, r = .ref x ∧ news' = (x, instObj 273 dx) :: (dx, refDict w k1 k2 k3 k4 k5 c (.int len tl) key before after) :: news ∧ (∀ q ∈ news, q.1 < dx) ∧ @LT.lt Nat _ dx x
set_option maxHeartbeats 4000000 in
theorem ref_new (w : World) (news : List (Addr × Obj)) (c : Addr) (ks vsz : Nat) (sr : Addr) (t1 t2 t3 t4 : Tok) (hc : (c, confObj ks vsz sr t1 t2 t3 t4) ∈ news) (hcs : confs ks vsz)
    (key before after : Value) :
    CallsK w (.ref 273) [.ref c, key, before, after] [] news 10 300 (fun v news' => RefNew w c news key before after (2 * 4 + 2 + ks) v news') (fun _ => False) := by
  unfold CallsK
  k_fill
  intro p loose mean mg mb dp un gd cn cs a ccd cl outer A₀ base h₀ L m s Q E B F X N T hk hd hu hret hexc
  obtain ⟨kd, nm, ig, ic, mo⟩ := cs
  cases hk
  k_steps
  · exact hret _ _ _ _ (by k_asm) (by k_asm) ⟨_, _, _, _, _, _, _, _, rfl, rfl, by with_reducible assumption, by with_reducible assumption⟩
set_option maxHeartbeats 4000000 in
theorem ref_plain (w : World) (news : List (Addr × Obj)) (c : Addr) (ks vsz : Nat) (sr : Addr) (t1 t2 t3 t4 : Tok) (hc : (c, confObj ks vsz sr t1 t2 t3 t4) ∈ news) (hcs : confs ks vsz)
    (key : Value) :
    CallsK w (.ref 273) [.ref c, key] [] news 10 300 (fun v news' => RefNew w c news key .none .none (2 * 4 + 2 + ks) v news') (fun _ => False) := by
  unfold CallsK
  k_fill
  intro p loose mean mg mb dp un gd cn cs a ccd cl outer A₀ base h₀ L m s Q E B F X N T hk hd hu hret hexc
  obtain ⟨kd, nm, ig, ic, mo⟩ := cs
  cases hk
  k_steps
  · exact hret _ _ _ _ (by k_asm) (by k_asm) ⟨_, _, _, _, _, _, _, _, rfl, rfl, by with_reducible assumption, by with_reducible assumption⟩

end
section
theorem words_13_dump : True := by
  k_with_none
  (k_with "z ktr_units" => ((simp only [units_under_kw, units_in1, units_deeper, Around.mark_units, units_caller, ktrTop, cLine_is] at ⊢); (rename _ < cLine => zrhcU); (rw [cLine_is] at zrhcU); omega))
  (k_with "z ktr_room" => ((simp only [depth_under_kw, depth_in1, depth_deeper, depth_caller, ktrTop] at ⊢); omega))
  (k_with "z ktr_units" => ((rename _ < cLine => zrhcU); first | exact u3 zrhcU rfl | exact u2 zrhcU rfl | exact u4 zrhcU rfl | exact u5 zrhcU rfl | exact u1 zrhcU))
  (k_with "z ktr_room" => ((rename _ < recursionLimit => zrhcD); first | exact u2 zrhcD rfl | exact u3 zrhcD rfl | exact u4 zrhcD rfl | exact u5 zrhcD rfl | exact u1 zrhcD))
  (k_with "z k_room" => ktr_room)
  (k_with "z k_units" => ktr_units)
  (k_with "z k_mem" => ((show @Membership.mem (Addr × Obj) (List (Addr × Obj)) _ _ _); with_reducible assumption))
  (k_with "om0" => ((repeat (with_reducible rename _ ≠ _ ∧ _ => zrhz; clear zrhz)); (repeat (with_reducible rename (_ ≠ _ ∧ _) ∧ _ => zrhz; clear zrhz)); omega))
  (k_with "bd1" => first | decide | (with_reducible first | apply om_b1 | apply om_b2 | apply om_b3 | apply om_b4 | apply om_b5 | apply om_b6 | apply om_b7 | apply om_bs | apply om_bt | apply om_bz | apply om_bt4 | apply om_b2t | apply om_bm | (apply om_bq; assumption) | refine om_bl (by assumption) ?_ | refine om_be (by assumption) ?_ | (apply om_bk; assumption; decide) | (apply om_bv; assumption; decide)))
  (k_with "bd" => (k_whole; (with_reducible first | (apply om_b0; rotate_left; with_unfolding_all rfl) | (apply om_b0l; rotate_left; with_unfolding_all rfl)); (repeat' k_extra "bd1"); done))
  (k_with "five" => first | assumption | exact om_lk5 (by assumption) | exact om_lt5 (by assumption) | exact Nat.le_trans (by assumption) (om_lk5 (by assumption)) | exact Nat.le_trans (by assumption) (om_lt5 (by assumption)))
  (k_with "om1" => first | rfl | assumption | exact And.left (by assumption) | exact And.right (by assumption) | ((show @LE.le Int _ _ _); first | apply Int.natCast_nonneg | (apply om_sub_nn; assumption) | (apply om_sa0; assumption) | (apply Int.le_of_lt; apply om_lp2) | (apply Int.le_add_of_nonneg_right; first | assumption | apply Int.natCast_nonneg)) | ((show @LE.le Nat _ _ _); apply Nat.le_of_lt; assumption) | ((show @LT.lt Int _ _ _); apply om_lp2) | ((show @LT.lt Nat _ _ _); first | (apply om_posD; assumption) | (apply om_posF; assumption)) | ((show @Eq Nat _ _); first | apply tns | apply tn0 | (apply castD; assumption) | (apply castF; assumption)))
  (k_with "om2" => first | decide | ((show @LE.le Nat _ _ _); first | exact Nat.le_trans (by assumption) (by decide) | exact om_be (by assumption) (by decide) | (apply om_bq4; assumption; rfl) | (apply om_kbt; assumption; k_extra "five") | (apply om_kmt <;> assumption)) | ((show @LE.le Int _ _ _); first | (apply Int.le_add_of_nonneg_right; decide) | (apply om_ic 5; k_extra "five"; decide) | (apply om_sub_le0; apply om_ic 5; k_extra "five"; decide) | (apply om_sub0_le; apply om_ic 5; k_extra "five"; decide) | (apply om_sa4; k_extra "five") | (refine Int.le_trans (om_kb (by assumption) (by k_extra "five")) (by decide)) | (apply om_kb1; assumption; k_extra "five") | (apply om_kb2; assumption; k_extra "five") | (apply om_km <;> assumption)) | ((show @Eq Int _ _); first | (apply om_lnO; assumption) | (apply om_lnI <;> assumption) | (apply om_lnF; assumption)) | ((show @LT.lt Int _ _ _); first | (apply om_icl 5; k_extra "five"; decide) | exact Int.lt_of_lt_of_le (by decide) (And.left (by assumption)) | exact Int.lt_trans (And.right (by assumption)) (by decide)))
  (k_with "nn" => ((show @LE.le Int _ _ _); apply Int.add_nonneg; (repeat' first | apply Int.natCast_nonneg | assumption | decide | apply Int.add_nonneg); done))
  (k_with "om" => first | (k_whole; with_reducible k_extra "om1") | (k_whole; with_reducible k_extra "om2") | (k_whole; with_reducible k_extra "nn") | k_extra "bd" | k_extra "om0")
  (k_with "z kba_size" => k_extra "bd")
  (k_with "fold" => (refine' let_A ?_; intro qa; k_fold))
  (k_with "ite" => first | refine ite_dpos (by assumption) ?_ | refine ite_dneg (by first | assumption | (apply Int.not_lt.mpr; assumption) | (apply Int.not_le.mpr; assumption)) ?_)
  (k_with "z kcf_bnd" => first | (k_whole; with_reducible k_extra "om1") | (k_whole; with_reducible k_extra "om2") | (k_whole; with_reducible k_extra "nn") | k_extra "bd")
  (k_with "gl" => with_reducible (first | exact glUSEDKEYLENGTHBYTES _ | exact glUSEDVALUELENGTHBYTES _ | exact glPAGEREFERENCEBYTES _ | exact glENDIAN _ | exact glRecord _ | exact glReference _ | exact gllawlow _ | exact gllawkey _ | exact gllawparts _ | exact gllawpages _ | exact gllawdone _ | exact gllawnumber _ | exact gllawsigns _ | exact glTreeConf _ | exact glStrSerializer _ | exact glIntSerializer _ | exact gllawrecord _ | exact gllawreference _ | exact gllawread _ | exact gllaworder _))
  (k_with "gb" => with_reducible (first | exact glint _ | exact gllen _ | exact glbytes _ | exact glisinstance _ | exact glrange _ | exact glenumerate _ | exact gltuple _ | exact gltype _))
  (k_with "eval Name" => (k_here; k_dflt (first | (refine' nameX_L ?zqF ?zqv ?_ ?zqa ?zqb; (case zqF => k_asm); (case zqa => exact Eq.refl ScopeKind.function); (case zqb => exact Eq.refl (some NameKind.local)); (case zqv => exact Eq.refl (some _)); k_whole) | (refine' name_top ?zqg ?zqF ?zqX ?zqT ?zqa ?zqb ?_; (case zqX => k_asm); (case zqg => k_extra "gl"); (case zqF => k_asm); (case zqT => k_asm); (case zqa => exact Eq.refl ScopeKind.function); (case zqb => exact Eq.refl (some NameKind.globalImplicit)); k_whole) | (refine' name_boot ?zqg ?zqF ?zqX ?zqT ?zqa ?zqb ?_; (case zqX => k_asm); (case zqg => k_extra "gb"); (case zqF => k_asm); (case zqT => k_asm); (case zqa => exact Eq.refl ScopeKind.function); (case zqb => exact Eq.refl (some NameKind.globalImplicit)); k_whole))))
  (k_with "callWith ref" => (k_here; k_dflt (first | (refine' callWith_K ?zqk1 ?zqk2 ?_; (case zqk1 => k_asm); (case zqk2 => k_extra "kp"); k_whole) | (refine' callWith_K0 ?zqk1 ?zqk2 ?_; (case zqk1 => first | with_reducible assumption | exact Frag.In.keeps (by with_reducible assumption) (Fr.keep (by with_reducible assumption)) | k_in); (case zqk2 => k_extra "kp"); k_whole) | (refine' callWith_M0 ?zqk1 ?zqk2 ?_; (case zqk1 => k_meth); (case zqk2 => k_extra "kp"); k_whole; (try dsimp only [List.nil_append, List.cons_append])) | (refine' callWith_M ?zqk1 ?zqk2 ?zqk3 ?zqk4 ?_; (case zqk1 => k_asm); (case zqk2 => k_asm); (case zqk3 => k_mem); (case zqk4 => k_is); k_whole) | (refine' callWith_KW ?zqk1 ?zqk2 ?zqk3 ?_; (case zqk1 => k_asm); (case zqk2 => k_extra "kp"); (case zqk3 => exact rfl); k_whole) | (refine' callWith_KW0 ?zqk1 ?zqk2 ?zqk3 ?_; (case zqk1 => k_asm); (case zqk2 => k_extra "kp"); (case zqk3 => exact rfl); k_whole))))
  (k_with "getMethod type:int" => (k_here; (with_reducible refine' KFB.getm ?zqkfbF ?zqkfbN ?zqkfbX ?zqkfbE ?_); k_dflt ((case zqkfbF => k_asm); (case zqkfbN => k_asm); (case zqkfbX => k_asm); (case zqkfbE => exact from_bytes_at _); k_whole; intro x' h' F' N' l1; (try k_lt l1); (try k_sweep))))
  (k_with "kp" => first | with_reducible assumption | (with_reducible first | exact kp232 _ | exact kp273 _ | exact kp355 _ | exact kp369 _ | exact kp376 _ | exact kp381 _ | exact kp388 _ | exact kp395 _ | exact kp400 _ | exact kp407 _ | exact kp412 _ | exact kp419 _ | exact kp141 _ | exact kp346 _ | exact kp320 _) | k_is)
  (k_with "getAttr ref" => (k_here; (with_reducible show wpAny _ _ (getAttr (Value.ref _) (PySem.Str.ofString "key_size") _) _ _ _); k_dflt (refine' conf_attr (And.left (get_conf _ _ _ _ _ _ _ _ _ _ ?zqm)) ?zqm2 ?zqc1 ?zqc3 ?zqB ?zqF ?zqX ?zqN ?zqT ?zqk ?zqd ?zqu ?zqp ?zqp2 ?zqp3 ?zqf2 ?zqf3 ?zqf4 ?zqhh ?_; (case zqN => k_asm); (case zqm => k_mem); (case zqm2 => k_mem); (case zqc1 => exact rfl); (case zqc3 => exact rfl); (case zqB => k_asm); (case zqF => k_asm); (case zqX => k_asm); (case zqT => k_asm); (case zqk => exact rfl); (case zqd => ktr_room); (case zqu => ktr_units); (case zqp => k_is); (case zqp2 => k_is); (case zqp3 => k_is); (case zqf2 => k_is); (case zqf3 => k_is); (case zqf4 => k_is); (case zqhh => exact rfl); k_whole; intro h' tk' F' N'; (try k_sweep))))
  (k_with "getAttr ref" => (k_here; (with_reducible show wpAny _ _ (getAttr (Value.ref _) (PySem.Str.ofString "value_size") _) _ _ _); k_dflt (refine' conf_attr (And.left (And.right (get_conf _ _ _ _ _ _ _ _ _ _ ?zqm))) ?zqm2 ?zqc1 ?zqc3 ?zqB ?zqF ?zqX ?zqN ?zqT ?zqk ?zqd ?zqu ?zqp ?zqp2 ?zqp3 ?zqf2 ?zqf3 ?zqf4 ?zqhh ?_; (case zqN => k_asm); (case zqm => k_mem); (case zqm2 => k_mem); (case zqc1 => exact rfl); (case zqc3 => exact rfl); (case zqB => k_asm); (case zqF => k_asm); (case zqX => k_asm); (case zqT => k_asm); (case zqk => exact rfl); (case zqd => ktr_room); (case zqu => ktr_units); (case zqp => k_is); (case zqp2 => k_is); (case zqp3 => k_is); (case zqf2 => k_is); (case zqf3 => k_is); (case zqf4 => k_is); (case zqhh => exact rfl); k_whole; intro h' tk' F' N'; (try k_sweep))))
  (k_with "getAttr ref" => (k_here; (with_reducible show wpAny _ _ (getAttr (Value.ref _) (PySem.Str.ofString "serializer") _) _ _ _); k_dflt (refine' conf_attr (And.right (And.right (get_conf _ _ _ _ _ _ _ _ _ _ ?zqm))) ?zqm2 ?zqc1 ?zqc3 ?zqB ?zqF ?zqX ?zqN ?zqT ?zqk ?zqd ?zqu ?zqp ?zqp2 ?zqp3 ?zqf2 ?zqf3 ?zqf4 ?zqhh ?_; (case zqN => k_asm); (case zqm => k_mem); (case zqm2 => k_mem); (case zqc1 => exact rfl); (case zqc3 => exact rfl); (case zqB => k_asm); (case zqF => k_asm); (case zqX => k_asm); (case zqT => k_asm); (case zqk => exact rfl); (case zqd => ktr_room); (case zqu => ktr_units); (case zqp => k_is); (case zqp2 => k_is); (case zqp3 => k_is); (case zqf2 => k_is); (case zqf3 => k_is); (case zqf4 => k_is); (case zqhh => exact rfl); k_whole; intro h' tk' F' N'; (try k_sweep))))
  (k_with "ne" => first | (with_reducible assumption) | (exact Nat.ne_of_lt (by with_reducible assumption)) | (exact Nat.ne_of_gt (by with_reducible assumption)) | (exact Ne.symm (by with_reducible assumption)) | (exact allNe_mem2 (by with_reducible assumption) (by k_mem)) | (exact Ne.symm (allNe_mem2 (by with_reducible assumption) (by k_mem))) | (exact ng0 (by with_reducible assumption)) | (exact nl0 (by with_reducible assumption)) | (exact ng1 (by with_reducible assumption)) | (exact nl1 (by with_reducible assumption)) | (exact fg1 (by with_reducible assumption)) | (exact fl1 (by with_reducible assumption)) | (exact ng2 (by with_reducible assumption)) | (exact nl2 (by with_reducible assumption)) | (exact fg2 (by with_reducible assumption)) | (exact fl2 (by with_reducible assumption)) | (exact ng3 (by with_reducible assumption)) | (exact nl3 (by with_reducible assumption)) | (exact fg3 (by with_reducible assumption)) | (exact fl3 (by with_reducible assumption)) | (exact ng4 (by with_reducible assumption)) | (exact nl4 (by with_reducible assumption)) | (exact fg4 (by with_reducible assumption)) | (exact fl4 (by with_reducible assumption)) | (exact ng5 (by with_reducible assumption)) | (exact nl5 (by with_reducible assumption)) | (exact fg5 (by with_reducible assumption)) | (exact fl5 (by with_reducible assumption)) | (exact ng6 (by with_reducible assumption)) | (exact nl6 (by with_reducible assumption)) | (exact fg6 (by with_reducible assumption)) | (exact fl6 (by with_reducible assumption)) | (exact ng7 (by with_reducible assumption)) | (exact nl7 (by with_reducible assumption)) | (exact fg7 (by with_reducible assumption)) | (exact fl7 (by with_reducible assumption)) | (exact ng8 (by with_reducible assumption)) | (exact nl8 (by with_reducible assumption)) | (exact fg8 (by with_reducible assumption)) | (exact fl8 (by with_reducible assumption)) | (exact ng9 (by with_reducible assumption)) | (exact nl9 (by with_reducible assumption)) | (exact fg9 (by with_reducible assumption)) | (exact fl9 (by with_reducible assumption)) | (exact ng10 (by with_reducible assumption)) | (exact nl10 (by with_reducible assumption)) | (exact fg10 (by with_reducible assumption)) | (exact fl10 (by with_reducible assumption)) | (exact ng11 (by with_reducible assumption)) | (exact nl11 (by with_reducible assumption)) | (exact fg11 (by with_reducible assumption)) | (exact fl11 (by with_reducible assumption)) | (exact ng12 (by with_reducible assumption)) | (exact nl12 (by with_reducible assumption)) | (exact fg12 (by with_reducible assumption)) | (exact fl12 (by with_reducible assumption)) | (exact ng13 (by with_reducible assumption)) | (exact nl13 (by with_reducible assumption)) | (exact fg13 (by with_reducible assumption)) | (exact fl13 (by with_reducible assumption)) | (exact na0 (by with_reducible assumption)) | (exact nb0 (by with_reducible assumption)) | (exact na1 (by with_reducible assumption)) | (exact nb1 (by with_reducible assumption)) | (exact na2 (by with_reducible assumption)) | (exact nb2 (by with_reducible assumption)) | (exact na3 (by with_reducible assumption)) | (exact nb3 (by with_reducible assumption)) | (exact na4 (by with_reducible assumption)) | (exact nb4 (by with_reducible assumption)) | (exact na5 (by with_reducible assumption)) | (exact nb5 (by with_reducible assumption)) | (exact na6 (by with_reducible assumption)) | (exact nb6 (by with_reducible assumption)) | (exact na7 (by with_reducible assumption)) | (exact nb7 (by with_reducible assumption)) | (exact na8 (by with_reducible assumption)) | (exact nb8 (by with_reducible assumption)) | (exact na9 (by with_reducible assumption)) | (exact nb9 (by with_reducible assumption)) | (exact oi1) | (exact os1) | (exact ok1 (by with_reducible assumption)) | (exact oc1 (by with_reducible assumption)) | (exact oi2) | (exact os2) | (exact ok2 (by with_reducible assumption)) | (exact oc2 (by with_reducible assumption)) | (exact oi3) | (exact os3) | (exact ok3 (by with_reducible assumption)) | (exact oc3 (by with_reducible assumption)) | (exact oi4) | (exact os4) | (exact ok4 (by with_reducible assumption)) | (exact oc4 (by with_reducible assumption)) | (exact oi5) | (exact os5) | (exact ok5 (by with_reducible assumption)) | (exact oc5 (by with_reducible assumption)) | (exact news_ne (by k_asm) (by k_mem) (by k_mem) (by intro e; cases e)))
  (k_with "z k_ne" => (refine neN ?_; (try dsimp only); k_extra "ne"))
  (k_with "z k_all" => first | exact allNe_mem (by with_reducible assumption) | exact allNe_of_lt (by with_reducible assumption) | with_reducible assumption)
  (k_with "call ref" => (k_here; (with_reducible show wpAny _ _ (call (Value.ref 369) [Value.int _ _, Value.int _ _]) _ _ _); k_dflt (first | (refine' calls_use (low_calls _ _ _ _ _ 2 (by decide)) ?zqB ?zqF ?zqX ?zqN ?zqT ?zqk ?zqd ?zqu ?_; (case zqB => k_asm); (case zqF => k_asm); (case zqX => k_asm); (case zqN => k_asm); (case zqT => k_asm); (case zqk => exact rfl); (case zqd => ktr_room); (case zqu => ktr_units); k_whole) | (refine' calls_use (low_calls _ _ _ _ _ 4 (by decide)) ?zqB ?zqF ?zqX ?zqN ?zqT ?zqk ?zqd ?zqu ?_; (case zqB => k_asm); (case zqF => k_asm); (case zqX => k_asm); (case zqN => k_asm); (case zqT => k_asm); (case zqk => exact rfl); (case zqd => ktr_room); (case zqu => ktr_units); k_whole) | (refine' calls_use (low_calls _ _ _ _ _ _ ?zqn) ?zqB ?zqF ?zqX ?zqN ?zqT ?zqk ?zqd ?zqu ?_; (case zqB => k_asm); (case zqF => k_asm); (case zqX => k_asm); (case zqN => k_asm); (case zqT => k_asm); (case zqk => exact rfl); (case zqd => ktr_room); (case zqu => ktr_units); (case zqn => k_extra "om"); k_whole)); intro v' h' tk' F' P'; obtain ⟨l', vs', hv', N', hI', hO'⟩ := P'; subst hv'; (replace hO' := allNe_of hO'); (try dsimp only); (try k_fold)))
  (k_with "call builtin:len" => (k_here; (with_reducible show wpAny _ _ (call (Value.builtin "len") [Value.ref _]) _ _ _); k_dflt (refine' len_ints ?zqN ?zqm ?zqi ?zqf ?_; (case zqN => k_asm); (case zqm => k_mem); (case zqi => with_reducible assumption); (case zqf => ((try simp only [List.length_append, List.length_replicate, KTBy.little_length]); k_extra "om")); k_whole)))
  (k_with "binaryOp Add ref ref" => (k_here; (with_reducible show wpAny _ _ (binaryOp Operator.Add (Value.ref _) (Value.ref _)) _ _ _); k_dflt (refine' add_ints ?zqF ?zqN ?zqa ?zqb ?zqi ?zqj ?zqf ?_; (case zqF => k_asm); (case zqN => k_asm); (case zqa => k_mem); (case zqb => k_mem); (case zqi => with_reducible assumption); (case zqj => with_reducible assumption); (case zqf => ((try simp only [List.length_append, List.length_replicate, KTBy.little_length]); k_extra "om")); k_whole; intro l' us' h' F' N' I' l1; (try k_lt l1); (try k_sweep))))
  (k_with "binaryOp Mult ref int" => (k_here; (with_reducible show wpAny _ _ (binaryOp Operator.Mult (Value.ref _) (Value.int _ _)) _ _ _); k_dflt (refine' mul_ints ?zqF ?zqN ?zqa ?zqg ?zqf ?_; (case zqF => k_asm); (case zqN => k_asm); (case zqa => k_mem); (case zqg => k_extra "om"); (case zqf => k_extra "om"); k_whole; intro l' us' h' F' N' I' l1; (try k_lt l1); (try k_sweep))))
  (k_with "call ref" => (k_here; (with_reducible show wpAny _ _ (call (Value.ref 388) [Value.ref _, Value.ref _]) _ _ _); k_dflt ((refine' calls_use (parts_calls _ _ _ _ _ _ _ _ _ _ ?zqm ?zqz _ _ _ _ ?zql ?zqi ?zqe) ?zqB ?zqF ?zqX ?zqN ?zqT ?zqk ?zqd ?zqu ?_; (case zqB => k_asm); (case zqF => k_asm); (case zqX => k_asm); (case zqN => k_asm); (case zqT => k_asm); (case zqk => exact rfl); (case zqd => ktr_room); (case zqu => ktr_units); (case zqm => k_mem); (case zql => k_mem); (case zqi => with_reducible assumption); (case zqz => k_extra "om"); (case zqe => ((try simp only [List.length_append, List.length_replicate, KTBy.little_length]); k_extra "om")); k_whole)); intro v' h' tk' F' P'; obtain ⟨l', vs', e', hv', N', hI', hO'⟩ := P'; subst hv'; (replace hO' := allNe_of hO'); (try dsimp only); (try k_fold)))
  (k_with "call builtin:int.to_bytes" => (k_here; (with_reducible show wpAny _ _ (call (Value.builtin "int.to_bytes") [Value.int _ _, Value.int _ _, Value.str _ _]) _ _ _); k_dflt (first | (refine' to_bytes_in (k := 2) (B := 65536) ?zqh1 ?zqh2 ?zqh3 ?zqh4 (fun b' t' k' hb' => ?_); (case zqh1 => decide); (case zqh2 => decide); (case zqh3 => k_extra "om"); (case zqh4 => k_extra "om")) | (refine' to_bytes_in (k := 4) (B := 4294967296) ?zqh1 ?zqh2 ?zqh3 ?zqh4 (fun b' t' k' hb' => ?_); (case zqh1 => decide); (case zqh2 => decide); (case zqh3 => k_extra "om"); (case zqh4 => k_extra "om")) | (refine' to_bytes_all (k := 2) rfl ?zqh (fun hx0 hx1 b' t' k' hb' => ?_) (fun hx h' tk' e' hn' => ?_); (case zqh => decide)) | (refine' to_bytes_all (k := 4) rfl ?zqh (fun hx0 hx1 b' t' k' hb' => ?_) (fun hx h' tk' e' hn' => ?_); (case zqh => decide)) | (refine' to_bytes_all rfl ?zqh (fun hx0 hx1 b' t' k' hb' => ?_) (fun hx h' tk' e' hn' => ?_); (case zqh => k_extra "om")))))
  (k_with "leaving ref" => (k_here; k_dflt (refine' leave_newS ?zqk1 ?zqk0 ?zqk2 ?zqk3 ?_; (case zqk0 => assumption); (case zqk1 => assumption); (case zqk2 => assumption); (case zqk3 => k_asm); k_whole; intro h' R' Rn' U')))
  (k_with "getMethod str" => (k_here; (with_reducible refine encode_method ?_)))
  (k_with "callWith" => (k_here; (with_reducible show wpAny _ _ (callWith _ (Value.builtin _) _ (backTo _ (starEach [] _)) (backToKw _ (keywordEach (_ :: _) _))) _ _ _); k_dflt (refine callWith_kwN ?_)))
  (k_with "call builtin:str.encode" => (k_here; k_dflt (refine' encode_call ?zqhe ?zqhz ?_; (case zqhe => assumption); (case zqhz => assumption); k_whole; intro t' k')))
  (k_with "call builtin:bytes.decode" => (k_here; k_dflt (first | (refine' decode_kw ?zqhd ?zqhe ?zqhz ?_; (case zqhd => assumption); (case zqhe => assumption); (case zqhz => assumption); k_whole; intro t' k') | (refine' decode_ascii ?zqhd ?zqhe ?zqhz ?_; (case zqhd => assumption); (case zqhe => assumption); (case zqhz => assumption); k_whole; intro t' k'))))
  (k_with "binaryOp Add bytes bytes" => (k_here; (with_reducible show wpAny _ _ (binaryOp Operator.Add (Value.bytes _ _) (Value.bytes _ _)) _ _ _); k_dflt (refine' add_b ?zqb ?zqc ?zqz (fun d' t' k' hb' => ?_); (case zqb => first | with_reducible assumption | exact bints_nil); (case zqc => first | with_reducible assumption | exact bints_nil); (case zqz => ((try simp only [List.length_append, List.length_replicate, KTBy.little_length, List.length_cons, List.length_nil]); k_extra "om")))))
  (k_with "call type:bytes" => (k_here; (with_reducible show wpAny _ _ (call (Value.type "bytes") [Value.int _ _]) _ _ _); k_dflt (refine' zeros_call ?zqa ?zqb (fun d' t' k' hb' => ?_); (case zqa => k_extra "om"); (case zqb => k_extra "om"))))
  (k_with "call type:bytes" => (k_here; (with_reducible show wpAny _ _ (call (Value.type "bytes") [Value.ref _]) _ _ _); k_dflt (refine' bytes_of_list rfl ?zqF ?zqN ?zql ?zqi ?zqr ?zqz (fun d' t' k' h' F' N' hb' => ?_); (case zqF => k_asm); (case zqN => k_asm); (case zql => k_mem); (case zqi => with_reducible assumption); (case zqz => ((try simp only [List.length_append, List.length_replicate, KTBy.little_length, List.length_cons, List.length_nil]); k_extra "om")); (case zqr => (repeat' (first | with_reducible assumption | exact rng_little _ _ | exact rng_zeros _ | exact rng_nil | refine rng_app ?_ ?_ | refine rng_cons ⟨by k_extra "om", by k_extra "om"⟩ ?_))))))
  (k_with "call builtin:len" => (k_here; (with_reducible show wpAny _ _ (call (Value.builtin "len") [Value.bytes #[] _]) _ _ _); (with_reducible refine len_nil ?_)))
  (k_with "leaving ref" => (k_here; k_dflt (refine' leave_onE ?zqhf ?zqB ?zqF ?zqR ?zqU ?_; (case zqhf => exact rfl); (case zqR => first | with_reducible assumption | assumption); (case zqB => assumption); (case zqU => assumption); (case zqF => assumption); k_whole; intro h' R' U')))
  (k_with "storeName" => (k_here; k_dflt (first | (refine' store_gi ?zqF ?zqN ?zqa ?zqb ?_; (case zqF => k_asm); (case zqN => k_asm); (case zqa => exact Eq.refl ScopeKind.function); (case zqb => exact Eq.refl (some NameKind.local)); k_whole; intro h' tk' ti' F' N'; (try k_sweep)) | (refine' store_g ?zqF ?zqN ?zqa ?zqb ?_; (case zqF => k_asm); (case zqN => k_asm); (case zqa => exact Eq.refl ScopeKind.function); (case zqb => exact Eq.refl (some NameKind.local)); k_whole; intro h' tk' F' N'; (try k_sweep)))))
  (k_with "fr" => ((with_reducible rename Fr _ _ _ (fun _ ↦ List.lookup _ _) => zrF9); k_dflt (first | (replace zrF9 : Fr _ _ _ (fun y => List.lookup y [(_, _)]) := zrF9) | (replace zrF9 : Fr _ _ _ (fun y => List.lookup y [(_, _), (_, _)]) := zrF9) | (replace zrF9 : Fr _ _ _ (fun y => List.lookup y [(_, _), (_, _), (_, _)]) := zrF9) | (replace zrF9 : Fr _ _ _ (fun y => List.lookup y [(_, _), (_, _), (_, _), (_, _), (_, _), (_, _)]) := zrF9) | (replace zrF9 : Fr _ _ _ (fun y => List.lookup y [(_, _), (_, _), (_, _), (_, _), (_, _)]) := zrF9) | (replace zrF9 : Fr _ _ _ (fun y => List.lookup y [(_, _), (_, _), (_, _), (_, _)]) := zrF9) | (replace zrF9 : Fr _ _ _ (fun y => List.lookup y [(_, _), (_, _), (_, _), (_, _), (_, _), (_, _), (_, _)]) := zrF9)); (try dsimp only at zrF9)))
  (k_with "z k_handed" => with_reducible assumption)
  trivial
/-- what the serializer does with this key -/
def SerOk (w : World) (sfn : Addr) (key : Value) (ks : Nat) (ko : List Int) (good : Prop) (exc : String) : Prop :=
  (good → ko.length ≤ ks) ∧ ∀ (news : List (Addr × Obj)) (sr : Addr) (u : Tok), CallsE w (.ref sfn) [.ref sr, key, .int ks u] news 5 100 (fun h₀ L h' v => good ∧ (∃ b t', v = .bytes b t' ∧ KBw.bInts b = ko) ∧ News h₀ L h' news) (fun c => ¬ good ∧ c = exc)
theorem ser_use {w : World} {sfn : Addr} {key : Value} {ks : Nat} {ko : List Int} {good : Prop} {exc : String} {news : List (Addr × Obj)} {sr : Addr} {u : Tok}
    {p : Program} {loose : List Str} {mean : ExcName → Option Value} {mg mb : Str → Option Value}
    {dp un : Nat} {gd : Option (List Code)} {cn : Str} {cs : Scope} {a : Addr} {ccd : Value} {cl : List (Str × Addr)} {outer : List Env} {A₀ : Around} {base h₀ : Heap} {L : Addr} {m : Str → Option Value} {s : Shared} {Q E : Value → Shared → Prop}
    (h : SerOk w sfn key ks ko good exc) (B : Below A₀ base outer h₀) (F : Fr h₀ L s.heap m) (X : (hd.heap_1 w.params).In h₀) (N : News h₀ L s.heap news) (T : Top p loose mean mg mb h₀) (hk : cs.kind = .function)
    (hdp : dp + 5 < recursionLimit) (hu : un + 100 < cLine)
    (hret : ∀ (b : Array UInt8) (t' : Tok) (h' : Heap) (tk' : Nat), good → ko.length ≤ ks → KBw.bInts b = ko → Fr h₀ L h' m → News h₀ L h' news → Q (.bytes b t') { s with heap := h', toks := tk' })
    (hexc : ¬ good → ∀ (e : Addr) (h' : Heap) (tk' : Nat) (g : Heap), Fr h₀ L g m → RaisedSN base g (envX cn cs L a ccd cl :: outer) e (.type exc) news h' → g.UpToSlots h' → E (.ref e) { s with heap := h', toks := tk' }) :
    wpAny (model PySem.Challenge.rw_ke0001_01.row.prog w) (ktrTop dp un gd cn cs L a ccd cl outer) (call (.ref sfn) [.ref sr, key, .int ks u]) Q E s :=
  h.2 news sr u p loose mean mg mb dp un gd cn cs a ccd cl outer A₀ base h₀ L m s Q E B F X N T hk hdp hu
    (fun v h' tk' F' P => by obtain ⟨hg, ⟨b, t', rfl, hb⟩, N'⟩ := P; exact hret b t' h' tk' hg (h.1 hg) hb F' N')
    (fun c e h' tk' C P => by obtain ⟨hg, rfl⟩ := C; obtain ⟨g, F', R', U'⟩ := P; exact hexc hg e h' tk' g F' R' U')
theorem serOk_int (w : World) (x : Int) (t : Tok) (ks : Nat) (hks : ks ≤ 5) : SerOk w 310 (.int x t) ks (KTBy.little ks x) (0 ≤ x ∧ x < 256 ^ ks) "OverflowError" := ⟨fun _ => by rw [KTBy.little_length]; exact Nat.le_refl _, fun news sr u p loose mean mg mb dp un gd cn cs a ccd cl outer A₀ base h₀ L m s Q E B F X N T hk hd hu hret hexc =>
  ser_int w news sr x t u ks hks p loose mean mg mb dp un gd cn cs a ccd cl outer A₀ base h₀ L m s Q E B F X N T hk hd hu (fun v h' tk' F' P => hret v h' tk' F' ⟨⟨P.1, P.2.1⟩, P.2.2.1, P.2.2.2⟩) (fun c e h' tk' C P => hexc c e h' tk' ⟨by k_extra "om", C.2⟩ P)⟩
theorem serOk_str (w : World) (x : Str) (t : Tok) (ks : Nat) (hks : ks ≤ 5) (b : Array UInt8) (ns : List Int)
    (he : ∀ id self, Builtin._codecs.encodeNarrow id Builtin._codecs.utf8Codec none self x = pure b) (hz : b.size ≤ 1000) (hb : KBw.bInts b = ns) (hln : ns.length ≤ 1000) : SerOk w 336 (.str x t) ks ns (ns.length ≤ ks) "AssertionError" := ⟨id, fun news sr u =>
  ser_str w news sr x t u ks hks b ns he hz hb hln⟩
section
variable {w : World} {A : Around} {E : Value → Shared → Prop} {s : Shared} {h₀ : Heap} {L sr dsr sC sfn : Addr} {m : Str → Option Value} {news : List (Addr × Obj)} {pl : Sem Bool} {Q : Value × List Value → Shared → Prop}
theorem ser_keep (hsf : (sC = 320 ∧ sfn = 310) ∨ (sC = 346 ∧ sfn = 336)) : keepIn (hd.heap_1 w.params) (.ref sfn) = true := by
  rcases hsf with ⟨rfl, rfl⟩ | ⟨rfl, rfl⟩ <;> kernel_rfl
theorem des_keep (hsf : (sC = 320 ∧ sfn = 317) ∨ (sC = 346 ∧ sfn = 343)) : keepIn (hd.heap_1 w.params) (.ref sfn) = true := by
  rcases hsf with ⟨rfl, rfl⟩ | ⟨rfl, rfl⟩ <;> kernel_rfl
theorem ser_method (hsf : (sC = 320 ∧ sfn = 310) ∨ (sC = 346 ∧ sfn = 336)) (F : Fr h₀ L s.heap m) (X : (hd.heap_1 w.params).In h₀) (N : News h₀ L s.heap news) (h1 : (sr, instObj sC dsr) ∈ news) (h2 : (dsr, dictOf [] 0) ∈ news) (h : Q (.ref sfn, [.ref sr]) s) :
    wpAny (model PySem.Challenge.rw_ke0001_01.row.prog w) A (getMethod (.ref sr) (Str.ofString "serialize") pl) Q E s := by
  revert X
  k_fill
  intro X
  rcases hsf with ⟨rfl, rfl⟩ | ⟨rfl, rfl⟩
  all_goals (refine' method_inst F X (InstAt.of_news N h1 h2) ?k4 ?k5 ?k6 ?k7 h; (case k4 => k_is); (case k5 => k_is); (case k6 => k_is); (case k7 => k_get))
theorem des_method (hsf : (sC = 320 ∧ sfn = 317) ∨ (sC = 346 ∧ sfn = 343)) (F : Fr h₀ L s.heap m) (X : (hd.heap_1 w.params).In h₀) (N : News h₀ L s.heap news) (h1 : (sr, instObj sC dsr) ∈ news) (h2 : (dsr, dictOf [] 0) ∈ news) (h : Q (.ref sfn, [.ref sr]) s) :
    wpAny (model PySem.Challenge.rw_ke0001_01.row.prog w) A (getMethod (.ref sr) (Str.ofString "deserialize") pl) Q E s := by
  revert X
  k_fill
  intro X
  rcases hsf with ⟨rfl, rfl⟩ | ⟨rfl, rfl⟩
  all_goals (refine' method_inst F X (InstAt.of_news N h1 h2) ?k4 ?k5 ?k6 ?k7 h; (case k4 => k_is); (case k5 => k_is); (case k6 => k_is); (case k7 => k_get))
end
theorem words_p13_dump_1 : True := by
  (k_with "getMethod ref" => (k_here; (with_reducible show wpAny _ _ (getMethod (Value.ref _) (Str.ofString "serialize") _) _ _ _); k_dflt (refine' ser_method ?zqh ?zqF ?zqX ?zqN ?zqa ?zqb ?_; (case zqh => with_reducible assumption); (case zqF => k_asm); (case zqX => k_asm); (case zqN => k_asm); (case zqa => k_mem); (case zqb => k_mem))))
  (k_with "call ref" => (k_here; (with_reducible show wpAny _ _ (call (Value.ref _) [Value.ref _, _, Value.int _ _]) _ _ _); (with_reducible rename SerOk _ _ _ _ _ _ _ => zrhser); k_dflt (refine' ser_use zrhser ?zqB ?zqF ?zqX ?zqN ?zqT ?zqk ?zqd ?zqu (fun b' t' h' tk' G' hl' hb' F' N' => ?_) (fun G' e' h' tk' g' F' R' U' => ?_); (case zqB => k_asm); (case zqF => k_asm); (case zqX => k_asm); (case zqN => k_asm); (case zqT => k_asm); (case zqk => exact rfl); (case zqd => ktr_room); (case zqu => ktr_units))))
  (k_with "execs cons" => (k_here; (fail_if_success (refine hasMark (by with_reducible assumption) ?_)); refine' let_B ?_; intro am qa; (try k_fold); (try k_extra "fr")))
  trivial
set_option maxHeartbeats 8000000 in
theorem dump_value (w : World) (news : List (Addr × Obj)) (c : Addr) (ks vsz : Nat) (sr dsr : Addr) (t1 t2 t3 t4 : Tok) (hc : (c, confObj ks vsz sr t1 t2 t3 t4) ∈ news) (hcs : confs ks vsz)
    (hs2 : (dsr, dictOf [] 0) ∈ news) (sC sfn : Addr) (hs1 : (sr, instObj sC dsr) ∈ news) (hsf : (sC = 320 ∧ sfn = 310) ∨ (sC = 346 ∧ sfn = 336))
    (key : Value) (ko : List Int) (good : Prop) (exc : String) (hser : SerOk w sfn key ks ko good exc) (hkh : handedIn key = true)
    (x dx : Addr) (k1 k2 k3 k4 k5 : Tok) (b : Array UInt8) (tb : Tok) (len : Value) (ns : List Int) (hb : KBw.bInts b = ns) (hln : ns.length ≤ vsz)
    (hx : (x, instObj 232 dx) ∈ news) (hdx : (dx, recDict w k1 k2 k3 k4 k5 c key (.bytes b tb) len .none) ∈ news) :
    CallsN w (.ref 222) [.ref x] news 15 400 (fun v news' => good ∧ (∃ b' t', v = .bytes b' t' ∧ KBw.bInts b' = KTBy.little 2 ko.length ++ ko ++ List.replicate (ks - ko.length) 0 ++ KTBy.little 2 ns.length ++ ns ++ List.replicate (vsz - ns.length) 0 ++ KTBy.little 4 0) ∧ ∀ q ∈ news, q ∈ news') (fun c => ¬ good ∧ c = exc) := by
  have hkp := ser_keep (w := w) hsf
  (
    unfold CallsN CallsK
    k_fill
    intro p loose mean mg mb dp un gd cn cs a ccd cl outer A₀ base h₀ L m s Q E B F X N T hk hd hu hret hexc
    obtain ⟨kd, nm, ig, ic, mo⟩ := cs
    cases hk
    refine wpAny_call ?_
    k_dflt k_enter
    k_steps
    · rw [show ((ks : Int) - (ko.length : Int)).toNat = ks - ko.length by k_extra "om", show ((vsz : Int) - (ns.length : Int)).toNat = vsz - ns.length by k_extra "om"] at *
      exact hret _ _ _ _ (by k_asm) (by k_asm) ⟨by with_reducible assumption, ⟨_, _, rfl, by with_reducible assumption⟩, fun _ hq => hq⟩
    · exact hexc _ _ _ _ _ ⟨by with_reducible assumption, rfl⟩ (by k_asm) (by with_reducible assumption) (by with_reducible assumption)
    )
set_option maxHeartbeats 8000000 in
theorem dump_page (w : World) (news : List (Addr × Obj)) (c : Addr) (ks vsz : Nat) (sr dsr : Addr) (t1 t2 t3 t4 : Tok) (hc : (c, confObj ks vsz sr t1 t2 t3 t4) ∈ news) (hcs : confs ks vsz)
    (hs2 : (dsr, dictOf [] 0) ∈ news) (sC sfn : Addr) (hs1 : (sr, instObj sC dsr) ∈ news) (hsf : (sC = 320 ∧ sfn = 310) ∨ (sC = 346 ∧ sfn = 336))
    (key : Value) (ko : List Int) (good : Prop) (exc : String) (hser : SerOk w sfn key ks ko good exc) (hkh : handedIn key = true)
    (x dx : Addr) (k1 k2 k3 k4 k5 : Tok) (pg : Int) (tp : Tok) (len : Value) (hp0 : 0 < pg)
    (hx : (x, instObj 232 dx) ∈ news) (hdx : (dx, recDict w k1 k2 k3 k4 k5 c key .none len (.int pg tp)) ∈ news) :
    CallsN w (.ref 222) [.ref x] news 15 400 (fun v news' => good ∧ pg < 256 ^ 4 ∧ (∃ b' t', v = .bytes b' t' ∧ KBw.bInts b' = KTBy.little 2 ko.length ++ ko ++ List.replicate (ks - ko.length) 0 ++ KTBy.little 2 0 ++ [] ++ List.replicate vsz 0 ++ KTBy.little 4 pg) ∧ ∀ q ∈ news, q ∈ news') (fun c => (¬ good ∧ c = exc) ∨ (good ∧ 256 ^ 4 ≤ pg ∧ c = "OverflowError")) := by
  have hkp := ser_keep (w := w) hsf
  (
    unfold CallsN CallsK
    k_fill
    intro p loose mean mg mb dp un gd cn cs a ccd cl outer A₀ base h₀ L m s Q E B F X N T hk hd hu hret hexc
    obtain ⟨kd, nm, ig, ic, mo⟩ := cs
    cases hk
    refine wpAny_call ?_
    k_dflt k_enter
    k_steps
    all_goals first
      | (exfalso; omega)
      | (rw [show ((ks : Int) - (ko.length : Int)).toNat = ks - ko.length by k_extra "om", show ((vsz : Int) - 0).toNat = vsz by k_extra "om"] at *; exact hret _ _ _ _ (by k_asm) (by k_asm) ⟨by with_reducible assumption, by with_reducible assumption, ⟨_, _, rfl, by with_reducible assumption⟩, fun _ hq => hq⟩)
      | (exact hexc _ _ _ _ _ (.inl ⟨by with_reducible assumption, rfl⟩) (by k_asm) (by with_reducible assumption) (by with_reducible assumption))
      | (exact hexc _ _ _ _ _ (.inr ⟨by with_reducible assumption, by k_extra "om", rfl⟩) (by k_asm) (by with_reducible assumption) (by with_reducible assumption))
    )
set_option maxHeartbeats 8000000 in
theorem refdump (w : World) (news : List (Addr × Obj)) (c : Addr) (ks vsz : Nat) (sr dsr : Addr) (t1 t2 t3 t4 : Tok) (hc : (c, confObj ks vsz sr t1 t2 t3 t4) ∈ news) (hcs : confs ks vsz)
    (hs2 : (dsr, dictOf [] 0) ∈ news) (sC sfn : Addr) (hs1 : (sr, instObj sC dsr) ∈ news) (hsf : (sC = 320 ∧ sfn = 310) ∨ (sC = 346 ∧ sfn = 336))
    (key : Value) (ko : List Int) (good : Prop) (exc : String) (hser : SerOk w sfn key ks ko good exc) (hkh : handedIn key = true)
    (x dx : Addr) (k1 k2 k3 k4 k5 : Tok) (bf af : Int) (tb ta : Tok) (len : Value) (hp0 : 0 ≤ bf) (hp1 : 0 ≤ af)
    (hx : (x, instObj 273 dx) ∈ news) (hdx : (dx, refDict w k1 k2 k3 k4 k5 c len key (.int bf tb) (.int af ta)) ∈ news) :
    CallsN w (.ref 263) [.ref x] news 15 400 (fun v news' => good ∧ bf < 256 ^ 4 ∧ af < 256 ^ 4 ∧ (∃ b' t', v = .bytes b' t' ∧ KBw.bInts b' = KTBy.little 4 bf ++ KTBy.little 2 ko.length ++ ko ++ List.replicate (ks - ko.length) 0 ++ KTBy.little 4 af) ∧ ∀ q ∈ news, q ∈ news') (fun c => (¬ good ∧ c = exc) ∨ (good ∧ (256 ^ 4 ≤ bf ∨ 256 ^ 4 ≤ af) ∧ c = "OverflowError")) := by
  have hkp := ser_keep (w := w) hsf
  (
    unfold CallsN CallsK
    k_fill
    intro p loose mean mg mb dp un gd cn cs a ccd cl outer A₀ base h₀ L m s Q E B F X N T hk hd hu hret hexc
    obtain ⟨kd, nm, ig, ic, mo⟩ := cs
    cases hk
    refine wpAny_call ?_
    k_dflt k_enter
    k_steps
    all_goals first
      | (rw [show ((ks : Int) - (ko.length : Int)).toNat = ks - ko.length by k_extra "om"] at *; exact hret _ _ _ _ (by k_asm) (by k_asm) ⟨by with_reducible assumption, by with_reducible assumption, by with_reducible assumption, ⟨_, _, rfl, by with_reducible assumption⟩, fun _ hq => hq⟩)
      | (exact hexc _ _ _ _ _ (.inl ⟨by with_reducible assumption, rfl⟩) (by k_asm) (by with_reducible assumption) (by with_reducible assumption))
      | (exact hexc _ _ _ _ _ (.inr ⟨by with_reducible assumption, by k_extra "om", rfl⟩) (by k_asm) (by with_reducible assumption) (by with_reducible assumption))
    )

end
section
theorem words_14_dumpn : True := by
  k_with_none
  (k_with "z ktr_units" => ((simp only [units_under_kw, units_in1, units_deeper, Around.mark_units, units_caller, ktrTop, cLine_is] at ⊢); (rename _ < cLine => zrhcU); (rw [cLine_is] at zrhcU); omega))
  (k_with "z ktr_room" => ((simp only [depth_under_kw, depth_in1, depth_deeper, depth_caller, ktrTop] at ⊢); omega))
  (k_with "z ktr_units" => ((rename _ < cLine => zrhcU); first | exact u3 zrhcU rfl | exact u2 zrhcU rfl | exact u4 zrhcU rfl | exact u5 zrhcU rfl | exact u1 zrhcU))
  (k_with "z ktr_room" => ((rename _ < recursionLimit => zrhcD); first | exact u2 zrhcD rfl | exact u3 zrhcD rfl | exact u4 zrhcD rfl | exact u5 zrhcD rfl | exact u1 zrhcD))
  (k_with "z k_room" => ktr_room)
  (k_with "z k_units" => ktr_units)
  (k_with "z k_mem" => ((show @Membership.mem (Addr × Obj) (List (Addr × Obj)) _ _ _); with_reducible assumption))
  (k_with "om0" => ((repeat (with_reducible rename _ ≠ _ ∧ _ => zrhz; clear zrhz)); (repeat (with_reducible rename (_ ≠ _ ∧ _) ∧ _ => zrhz; clear zrhz)); omega))
  (k_with "bd1" => first | decide | (with_reducible first | apply om_b1 | apply om_b2 | apply om_b3 | apply om_b4 | apply om_b5 | apply om_b6 | apply om_b7 | apply om_bs | apply om_bt | apply om_bz | apply om_bt4 | apply om_b2t | apply om_bm | (apply om_bq; assumption) | refine om_bl (by assumption) ?_ | refine om_be (by assumption) ?_ | (apply om_bk; assumption; decide) | (apply om_bv; assumption; decide)))
  (k_with "bd" => (k_whole; (with_reducible first | (apply om_b0; rotate_left; with_unfolding_all rfl) | (apply om_b0l; rotate_left; with_unfolding_all rfl)); (repeat' k_extra "bd1"); done))
  (k_with "five" => first | assumption | exact om_lk5 (by assumption) | exact om_lt5 (by assumption) | exact Nat.le_trans (by assumption) (om_lk5 (by assumption)) | exact Nat.le_trans (by assumption) (om_lt5 (by assumption)))
  (k_with "om1" => first | rfl | assumption | exact And.left (by assumption) | exact And.right (by assumption) | ((show @LE.le Int _ _ _); first | apply Int.natCast_nonneg | (apply om_sub_nn; assumption) | (apply om_sa0; assumption) | (apply Int.le_of_lt; apply om_lp2) | (apply Int.le_add_of_nonneg_right; first | assumption | apply Int.natCast_nonneg)) | ((show @LE.le Nat _ _ _); apply Nat.le_of_lt; assumption) | ((show @LT.lt Int _ _ _); apply om_lp2) | ((show @LT.lt Nat _ _ _); first | (apply om_posD; assumption) | (apply om_posF; assumption)) | ((show @Eq Nat _ _); first | apply tns | apply tn0 | (apply castD; assumption) | (apply castF; assumption)))
  (k_with "om2" => first | decide | ((show @LE.le Nat _ _ _); first | exact Nat.le_trans (by assumption) (by decide) | exact om_be (by assumption) (by decide) | (apply om_bq4; assumption; rfl) | (apply om_kbt; assumption; k_extra "five") | (apply om_kmt <;> assumption)) | ((show @LE.le Int _ _ _); first | (apply Int.le_add_of_nonneg_right; decide) | (apply om_ic 5; k_extra "five"; decide) | (apply om_sub_le0; apply om_ic 5; k_extra "five"; decide) | (apply om_sub0_le; apply om_ic 5; k_extra "five"; decide) | (apply om_sa4; k_extra "five") | (refine Int.le_trans (om_kb (by assumption) (by k_extra "five")) (by decide)) | (apply om_kb1; assumption; k_extra "five") | (apply om_kb2; assumption; k_extra "five") | (apply om_km <;> assumption)) | ((show @Eq Int _ _); first | (apply om_lnO; assumption) | (apply om_lnI <;> assumption) | (apply om_lnF; assumption)) | ((show @LT.lt Int _ _ _); first | (apply om_icl 5; k_extra "five"; decide) | exact Int.lt_of_lt_of_le (by decide) (And.left (by assumption)) | exact Int.lt_trans (And.right (by assumption)) (by decide)))
  (k_with "nn" => ((show @LE.le Int _ _ _); apply Int.add_nonneg; (repeat' first | apply Int.natCast_nonneg | assumption | decide | apply Int.add_nonneg); done))
  (k_with "om" => first | (k_whole; with_reducible k_extra "om1") | (k_whole; with_reducible k_extra "om2") | (k_whole; with_reducible k_extra "nn") | k_extra "bd" | k_extra "om0")
  (k_with "z kba_size" => k_extra "bd")
  (k_with "fold" => (refine' let_A ?_; intro qa; k_fold))
  (k_with "ite" => first | refine ite_dpos (by assumption) ?_ | refine ite_dneg (by first | assumption | (apply Int.not_lt.mpr; assumption) | (apply Int.not_le.mpr; assumption)) ?_)
  (k_with "z kcf_bnd" => first | (k_whole; with_reducible k_extra "om1") | (k_whole; with_reducible k_extra "om2") | (k_whole; with_reducible k_extra "nn") | k_extra "bd")
  (k_with "gl" => with_reducible (first | exact glUSEDKEYLENGTHBYTES _ | exact glUSEDVALUELENGTHBYTES _ | exact glPAGEREFERENCEBYTES _ | exact glENDIAN _ | exact glRecord _ | exact glReference _ | exact gllawlow _ | exact gllawkey _ | exact gllawparts _ | exact gllawpages _ | exact gllawdone _ | exact gllawnumber _ | exact gllawsigns _ | exact glTreeConf _ | exact glStrSerializer _ | exact glIntSerializer _ | exact gllawrecord _ | exact gllawreference _ | exact gllawread _ | exact gllaworder _))
  (k_with "gb" => with_reducible (first | exact glint _ | exact gllen _ | exact glbytes _ | exact glisinstance _ | exact glrange _ | exact glenumerate _ | exact gltuple _ | exact gltype _))
  (k_with "eval Name" => (k_here; k_dflt (first | (refine' nameX_L ?zqF ?zqv ?_ ?zqa ?zqb; (case zqF => k_asm); (case zqa => exact Eq.refl ScopeKind.function); (case zqb => exact Eq.refl (some NameKind.local)); (case zqv => exact Eq.refl (some _)); k_whole) | (refine' name_top ?zqg ?zqF ?zqX ?zqT ?zqa ?zqb ?_; (case zqX => k_asm); (case zqg => k_extra "gl"); (case zqF => k_asm); (case zqT => k_asm); (case zqa => exact Eq.refl ScopeKind.function); (case zqb => exact Eq.refl (some NameKind.globalImplicit)); k_whole) | (refine' name_boot ?zqg ?zqF ?zqX ?zqT ?zqa ?zqb ?_; (case zqX => k_asm); (case zqg => k_extra "gb"); (case zqF => k_asm); (case zqT => k_asm); (case zqa => exact Eq.refl ScopeKind.function); (case zqb => exact Eq.refl (some NameKind.globalImplicit)); k_whole))))
  (k_with "callWith ref" => (k_here; k_dflt (first | (refine' callWith_K ?zqk1 ?zqk2 ?_; (case zqk1 => k_asm); (case zqk2 => k_extra "kp"); k_whole) | (refine' callWith_K0 ?zqk1 ?zqk2 ?_; (case zqk1 => first | with_reducible assumption | exact Frag.In.keeps (by with_reducible assumption) (Fr.keep (by with_reducible assumption)) | k_in); (case zqk2 => k_extra "kp"); k_whole) | (refine' callWith_M0 ?zqk1 ?zqk2 ?_; (case zqk1 => k_meth); (case zqk2 => k_extra "kp"); k_whole; (try dsimp only [List.nil_append, List.cons_append])) | (refine' callWith_M ?zqk1 ?zqk2 ?zqk3 ?zqk4 ?_; (case zqk1 => k_asm); (case zqk2 => k_asm); (case zqk3 => k_mem); (case zqk4 => k_is); k_whole) | (refine' callWith_KW ?zqk1 ?zqk2 ?zqk3 ?_; (case zqk1 => k_asm); (case zqk2 => k_extra "kp"); (case zqk3 => exact rfl); k_whole) | (refine' callWith_KW0 ?zqk1 ?zqk2 ?zqk3 ?_; (case zqk1 => k_asm); (case zqk2 => k_extra "kp"); (case zqk3 => exact rfl); k_whole))))
  (k_with "getMethod type:int" => (k_here; (with_reducible refine' KFB.getm ?zqkfbF ?zqkfbN ?zqkfbX ?zqkfbE ?_); k_dflt ((case zqkfbF => k_asm); (case zqkfbN => k_asm); (case zqkfbX => k_asm); (case zqkfbE => exact from_bytes_at _); k_whole; intro x' h' F' N' l1; (try k_lt l1); (try k_sweep))))
  (k_with "kp" => first | with_reducible assumption | (with_reducible first | exact kp232 _ | exact kp273 _ | exact kp355 _ | exact kp369 _ | exact kp376 _ | exact kp381 _ | exact kp388 _ | exact kp395 _ | exact kp400 _ | exact kp407 _ | exact kp412 _ | exact kp419 _ | exact kp141 _ | exact kp346 _ | exact kp320 _) | k_is)
  (k_with "getAttr ref" => (k_here; (with_reducible show wpAny _ _ (getAttr (Value.ref _) (PySem.Str.ofString "key_size") _) _ _ _); k_dflt (refine' conf_attr (And.left (get_conf _ _ _ _ _ _ _ _ _ _ ?zqm)) ?zqm2 ?zqc1 ?zqc3 ?zqB ?zqF ?zqX ?zqN ?zqT ?zqk ?zqd ?zqu ?zqp ?zqp2 ?zqp3 ?zqf2 ?zqf3 ?zqf4 ?zqhh ?_; (case zqN => k_asm); (case zqm => k_mem); (case zqm2 => k_mem); (case zqc1 => exact rfl); (case zqc3 => exact rfl); (case zqB => k_asm); (case zqF => k_asm); (case zqX => k_asm); (case zqT => k_asm); (case zqk => exact rfl); (case zqd => ktr_room); (case zqu => ktr_units); (case zqp => k_is); (case zqp2 => k_is); (case zqp3 => k_is); (case zqf2 => k_is); (case zqf3 => k_is); (case zqf4 => k_is); (case zqhh => exact rfl); k_whole; intro h' tk' F' N'; (try k_sweep))))
  (k_with "getAttr ref" => (k_here; (with_reducible show wpAny _ _ (getAttr (Value.ref _) (PySem.Str.ofString "value_size") _) _ _ _); k_dflt (refine' conf_attr (And.left (And.right (get_conf _ _ _ _ _ _ _ _ _ _ ?zqm))) ?zqm2 ?zqc1 ?zqc3 ?zqB ?zqF ?zqX ?zqN ?zqT ?zqk ?zqd ?zqu ?zqp ?zqp2 ?zqp3 ?zqf2 ?zqf3 ?zqf4 ?zqhh ?_; (case zqN => k_asm); (case zqm => k_mem); (case zqm2 => k_mem); (case zqc1 => exact rfl); (case zqc3 => exact rfl); (case zqB => k_asm); (case zqF => k_asm); (case zqX => k_asm); (case zqT => k_asm); (case zqk => exact rfl); (case zqd => ktr_room); (case zqu => ktr_units); (case zqp => k_is); (case zqp2 => k_is); (case zqp3 => k_is); (case zqf2 => k_is); (case zqf3 => k_is); (case zqf4 => k_is); (case zqhh => exact rfl); k_whole; intro h' tk' F' N'; (try k_sweep))))
  (k_with "getAttr ref" => (k_here; (with_reducible show wpAny _ _ (getAttr (Value.ref _) (PySem.Str.ofString "serializer") _) _ _ _); k_dflt (refine' conf_attr (And.right (And.right (get_conf _ _ _ _ _ _ _ _ _ _ ?zqm))) ?zqm2 ?zqc1 ?zqc3 ?zqB ?zqF ?zqX ?zqN ?zqT ?zqk ?zqd ?zqu ?zqp ?zqp2 ?zqp3 ?zqf2 ?zqf3 ?zqf4 ?zqhh ?_; (case zqN => k_asm); (case zqm => k_mem); (case zqm2 => k_mem); (case zqc1 => exact rfl); (case zqc3 => exact rfl); (case zqB => k_asm); (case zqF => k_asm); (case zqX => k_asm); (case zqT => k_asm); (case zqk => exact rfl); (case zqd => ktr_room); (case zqu => ktr_units); (case zqp => k_is); (case zqp2 => k_is); (case zqp3 => k_is); (case zqf2 => k_is); (case zqf3 => k_is); (case zqf4 => k_is); (case zqhh => exact rfl); k_whole; intro h' tk' F' N'; (try k_sweep))))
  (k_with "ne" => first | (with_reducible assumption) | (exact Nat.ne_of_lt (by with_reducible assumption)) | (exact Nat.ne_of_gt (by with_reducible assumption)) | (exact Ne.symm (by with_reducible assumption)) | (exact allNe_mem2 (by with_reducible assumption) (by k_mem)) | (exact Ne.symm (allNe_mem2 (by with_reducible assumption) (by k_mem))) | (exact ng0 (by with_reducible assumption)) | (exact nl0 (by with_reducible assumption)) | (exact ng1 (by with_reducible assumption)) | (exact nl1 (by with_reducible assumption)) | (exact fg1 (by with_reducible assumption)) | (exact fl1 (by with_reducible assumption)) | (exact ng2 (by with_reducible assumption)) | (exact nl2 (by with_reducible assumption)) | (exact fg2 (by with_reducible assumption)) | (exact fl2 (by with_reducible assumption)) | (exact ng3 (by with_reducible assumption)) | (exact nl3 (by with_reducible assumption)) | (exact fg3 (by with_reducible assumption)) | (exact fl3 (by with_reducible assumption)) | (exact ng4 (by with_reducible assumption)) | (exact nl4 (by with_reducible assumption)) | (exact fg4 (by with_reducible assumption)) | (exact fl4 (by with_reducible assumption)) | (exact ng5 (by with_reducible assumption)) | (exact nl5 (by with_reducible assumption)) | (exact fg5 (by with_reducible assumption)) | (exact fl5 (by with_reducible assumption)) | (exact ng6 (by with_reducible assumption)) | (exact nl6 (by with_reducible assumption)) | (exact fg6 (by with_reducible assumption)) | (exact fl6 (by with_reducible assumption)) | (exact ng7 (by with_reducible assumption)) | (exact nl7 (by with_reducible assumption)) | (exact fg7 (by with_reducible assumption)) | (exact fl7 (by with_reducible assumption)) | (exact ng8 (by with_reducible assumption)) | (exact nl8 (by with_reducible assumption)) | (exact fg8 (by with_reducible assumption)) | (exact fl8 (by with_reducible assumption)) | (exact ng9 (by with_reducible assumption)) | (exact nl9 (by with_reducible assumption)) | (exact fg9 (by with_reducible assumption)) | (exact fl9 (by with_reducible assumption)) | (exact ng10 (by with_reducible assumption)) | (exact nl10 (by with_reducible assumption)) | (exact fg10 (by with_reducible assumption)) | (exact fl10 (by with_reducible assumption)) | (exact ng11 (by with_reducible assumption)) | (exact nl11 (by with_reducible assumption)) | (exact fg11 (by with_reducible assumption)) | (exact fl11 (by with_reducible assumption)) | (exact ng12 (by with_reducible assumption)) | (exact nl12 (by with_reducible assumption)) | (exact fg12 (by with_reducible assumption)) | (exact fl12 (by with_reducible assumption)) | (exact ng13 (by with_reducible assumption)) | (exact nl13 (by with_reducible assumption)) | (exact fg13 (by with_reducible assumption)) | (exact fl13 (by with_reducible assumption)) | (exact na0 (by with_reducible assumption)) | (exact nb0 (by with_reducible assumption)) | (exact na1 (by with_reducible assumption)) | (exact nb1 (by with_reducible assumption)) | (exact na2 (by with_reducible assumption)) | (exact nb2 (by with_reducible assumption)) | (exact na3 (by with_reducible assumption)) | (exact nb3 (by with_reducible assumption)) | (exact na4 (by with_reducible assumption)) | (exact nb4 (by with_reducible assumption)) | (exact na5 (by with_reducible assumption)) | (exact nb5 (by with_reducible assumption)) | (exact na6 (by with_reducible assumption)) | (exact nb6 (by with_reducible assumption)) | (exact na7 (by with_reducible assumption)) | (exact nb7 (by with_reducible assumption)) | (exact na8 (by with_reducible assumption)) | (exact nb8 (by with_reducible assumption)) | (exact na9 (by with_reducible assumption)) | (exact nb9 (by with_reducible assumption)) | (exact oi1) | (exact os1) | (exact ok1 (by with_reducible assumption)) | (exact oc1 (by with_reducible assumption)) | (exact oi2) | (exact os2) | (exact ok2 (by with_reducible assumption)) | (exact oc2 (by with_reducible assumption)) | (exact oi3) | (exact os3) | (exact ok3 (by with_reducible assumption)) | (exact oc3 (by with_reducible assumption)) | (exact oi4) | (exact os4) | (exact ok4 (by with_reducible assumption)) | (exact oc4 (by with_reducible assumption)) | (exact oi5) | (exact os5) | (exact ok5 (by with_reducible assumption)) | (exact oc5 (by with_reducible assumption)) | (exact news_ne (by k_asm) (by k_mem) (by k_mem) (by intro e; cases e)))
  (k_with "z k_ne" => (refine neN ?_; (try dsimp only); k_extra "ne"))
  (k_with "z k_all" => first | exact allNe_mem (by with_reducible assumption) | exact allNe_of_lt (by with_reducible assumption) | with_reducible assumption)
  (k_with "call ref" => (k_here; (with_reducible show wpAny _ _ (call (Value.ref 369) [Value.int _ _, Value.int _ _]) _ _ _); k_dflt (first | (refine' calls_use (low_calls _ _ _ _ _ 2 (by decide)) ?zqB ?zqF ?zqX ?zqN ?zqT ?zqk ?zqd ?zqu ?_; (case zqB => k_asm); (case zqF => k_asm); (case zqX => k_asm); (case zqN => k_asm); (case zqT => k_asm); (case zqk => exact rfl); (case zqd => ktr_room); (case zqu => ktr_units); k_whole) | (refine' calls_use (low_calls _ _ _ _ _ 4 (by decide)) ?zqB ?zqF ?zqX ?zqN ?zqT ?zqk ?zqd ?zqu ?_; (case zqB => k_asm); (case zqF => k_asm); (case zqX => k_asm); (case zqN => k_asm); (case zqT => k_asm); (case zqk => exact rfl); (case zqd => ktr_room); (case zqu => ktr_units); k_whole) | (refine' calls_use (low_calls _ _ _ _ _ _ ?zqn) ?zqB ?zqF ?zqX ?zqN ?zqT ?zqk ?zqd ?zqu ?_; (case zqB => k_asm); (case zqF => k_asm); (case zqX => k_asm); (case zqN => k_asm); (case zqT => k_asm); (case zqk => exact rfl); (case zqd => ktr_room); (case zqu => ktr_units); (case zqn => k_extra "om"); k_whole)); intro v' h' tk' F' P'; obtain ⟨l', vs', hv', N', hI', hO'⟩ := P'; subst hv'; (replace hO' := allNe_of hO'); (try dsimp only); (try k_fold)))
  (k_with "call builtin:len" => (k_here; (with_reducible show wpAny _ _ (call (Value.builtin "len") [Value.ref _]) _ _ _); k_dflt (refine' len_ints ?zqN ?zqm ?zqi ?zqf ?_; (case zqN => k_asm); (case zqm => k_mem); (case zqi => with_reducible assumption); (case zqf => ((try simp only [List.length_append, List.length_replicate, KTBy.little_length]); k_extra "om")); k_whole)))
  (k_with "binaryOp Add ref ref" => (k_here; (with_reducible show wpAny _ _ (binaryOp Operator.Add (Value.ref _) (Value.ref _)) _ _ _); k_dflt (refine' add_ints ?zqF ?zqN ?zqa ?zqb ?zqi ?zqj ?zqf ?_; (case zqF => k_asm); (case zqN => k_asm); (case zqa => k_mem); (case zqb => k_mem); (case zqi => with_reducible assumption); (case zqj => with_reducible assumption); (case zqf => ((try simp only [List.length_append, List.length_replicate, KTBy.little_length]); k_extra "om")); k_whole; intro l' us' h' F' N' I' l1; (try k_lt l1); (try k_sweep))))
  (k_with "binaryOp Mult ref int" => (k_here; (with_reducible show wpAny _ _ (binaryOp Operator.Mult (Value.ref _) (Value.int _ _)) _ _ _); k_dflt (refine' mul_ints ?zqF ?zqN ?zqa ?zqg ?zqf ?_; (case zqF => k_asm); (case zqN => k_asm); (case zqa => k_mem); (case zqg => k_extra "om"); (case zqf => k_extra "om"); k_whole; intro l' us' h' F' N' I' l1; (try k_lt l1); (try k_sweep))))
  (k_with "call ref" => (k_here; (with_reducible show wpAny _ _ (call (Value.ref 388) [Value.ref _, Value.ref _]) _ _ _); k_dflt ((refine' calls_use (parts_calls _ _ _ _ _ _ _ _ _ _ ?zqm ?zqz _ _ _ _ ?zql ?zqi ?zqe) ?zqB ?zqF ?zqX ?zqN ?zqT ?zqk ?zqd ?zqu ?_; (case zqB => k_asm); (case zqF => k_asm); (case zqX => k_asm); (case zqN => k_asm); (case zqT => k_asm); (case zqk => exact rfl); (case zqd => ktr_room); (case zqu => ktr_units); (case zqm => k_mem); (case zql => k_mem); (case zqi => with_reducible assumption); (case zqz => k_extra "om"); (case zqe => ((try simp only [List.length_append, List.length_replicate, KTBy.little_length]); k_extra "om")); k_whole)); intro v' h' tk' F' P'; obtain ⟨l', vs', e', hv', N', hI', hO'⟩ := P'; subst hv'; (replace hO' := allNe_of hO'); (try dsimp only); (try k_fold)))
  (k_with "call builtin:int.to_bytes" => (k_here; (with_reducible show wpAny _ _ (call (Value.builtin "int.to_bytes") [Value.int _ _, Value.int _ _, Value.str _ _]) _ _ _); k_dflt (first | (refine' to_bytes_in (k := 2) (B := 65536) ?zqh1 ?zqh2 ?zqh3 ?zqh4 (fun b' t' k' hb' => ?_); (case zqh1 => decide); (case zqh2 => decide); (case zqh3 => k_extra "om"); (case zqh4 => k_extra "om")) | (refine' to_bytes_in (k := 4) (B := 4294967296) ?zqh1 ?zqh2 ?zqh3 ?zqh4 (fun b' t' k' hb' => ?_); (case zqh1 => decide); (case zqh2 => decide); (case zqh3 => k_extra "om"); (case zqh4 => k_extra "om")) | (refine' to_bytes_all (k := 2) rfl ?zqh (fun hx0 hx1 b' t' k' hb' => ?_) (fun hx h' tk' e' hn' => ?_); (case zqh => decide)) | (refine' to_bytes_all (k := 4) rfl ?zqh (fun hx0 hx1 b' t' k' hb' => ?_) (fun hx h' tk' e' hn' => ?_); (case zqh => decide)) | (refine' to_bytes_all rfl ?zqh (fun hx0 hx1 b' t' k' hb' => ?_) (fun hx h' tk' e' hn' => ?_); (case zqh => k_extra "om")))))
  (k_with "leaving ref" => (k_here; k_dflt (refine' leave_newS ?zqk1 ?zqk0 ?zqk2 ?zqk3 ?_; (case zqk0 => assumption); (case zqk1 => assumption); (case zqk2 => assumption); (case zqk3 => k_asm); k_whole; intro h' R' Rn' U')))
  (k_with "getMethod str" => (k_here; (with_reducible refine encode_method ?_)))
  (k_with "callWith" => (k_here; (with_reducible show wpAny _ _ (callWith _ (Value.builtin _) _ (backTo _ (starEach [] _)) (backToKw _ (keywordEach (_ :: _) _))) _ _ _); k_dflt (refine callWith_kwN ?_)))
  (k_with "call builtin:str.encode" => (k_here; k_dflt (refine' encode_call ?zqhe ?zqhz ?_; (case zqhe => assumption); (case zqhz => assumption); k_whole; intro t' k')))
  (k_with "call builtin:bytes.decode" => (k_here; k_dflt (first | (refine' decode_kw ?zqhd ?zqhe ?zqhz ?_; (case zqhd => assumption); (case zqhe => assumption); (case zqhz => assumption); k_whole; intro t' k') | (refine' decode_ascii ?zqhd ?zqhe ?zqhz ?_; (case zqhd => assumption); (case zqhe => assumption); (case zqhz => assumption); k_whole; intro t' k'))))
  (k_with "binaryOp Add bytes bytes" => (k_here; (with_reducible show wpAny _ _ (binaryOp Operator.Add (Value.bytes _ _) (Value.bytes _ _)) _ _ _); k_dflt (refine' add_b ?zqb ?zqc ?zqz (fun d' t' k' hb' => ?_); (case zqb => first | with_reducible assumption | exact bints_nil); (case zqc => first | with_reducible assumption | exact bints_nil); (case zqz => ((try simp only [List.length_append, List.length_replicate, KTBy.little_length, List.length_cons, List.length_nil]); k_extra "om")))))
  (k_with "call type:bytes" => (k_here; (with_reducible show wpAny _ _ (call (Value.type "bytes") [Value.int _ _]) _ _ _); k_dflt (refine' zeros_call ?zqa ?zqb (fun d' t' k' hb' => ?_); (case zqa => k_extra "om"); (case zqb => k_extra "om"))))
  (k_with "call type:bytes" => (k_here; (with_reducible show wpAny _ _ (call (Value.type "bytes") [Value.ref _]) _ _ _); k_dflt (refine' bytes_of_list rfl ?zqF ?zqN ?zql ?zqi ?zqr ?zqz (fun d' t' k' h' F' N' hb' => ?_); (case zqF => k_asm); (case zqN => k_asm); (case zql => k_mem); (case zqi => with_reducible assumption); (case zqz => ((try simp only [List.length_append, List.length_replicate, KTBy.little_length, List.length_cons, List.length_nil]); k_extra "om")); (case zqr => (repeat' (first | with_reducible assumption | exact rng_little _ _ | exact rng_zeros _ | exact rng_nil | refine rng_app ?_ ?_ | refine rng_cons ⟨by k_extra "om", by k_extra "om"⟩ ?_))))))
  (k_with "call builtin:len" => (k_here; (with_reducible show wpAny _ _ (call (Value.builtin "len") [Value.bytes #[] _]) _ _ _); (with_reducible refine len_nil ?_)))
  (k_with "leaving ref" => (k_here; k_dflt (refine' leave_onE ?zqhf ?zqB ?zqF ?zqR ?zqU ?_; (case zqhf => exact rfl); (case zqR => first | with_reducible assumption | assumption); (case zqB => assumption); (case zqU => assumption); (case zqF => assumption); k_whole; intro h' R' U')))
  (k_with "storeName" => (k_here; k_dflt (first | (refine' store_gi ?zqF ?zqN ?zqa ?zqb ?_; (case zqF => k_asm); (case zqN => k_asm); (case zqa => exact Eq.refl ScopeKind.function); (case zqb => exact Eq.refl (some NameKind.local)); k_whole; intro h' tk' ti' F' N'; (try k_sweep)) | (refine' store_g ?zqF ?zqN ?zqa ?zqb ?_; (case zqF => k_asm); (case zqN => k_asm); (case zqa => exact Eq.refl ScopeKind.function); (case zqb => exact Eq.refl (some NameKind.local)); k_whole; intro h' tk' F' N'; (try k_sweep)))))
  (k_with "fr" => ((with_reducible rename Fr _ _ _ (fun _ ↦ List.lookup _ _) => zrF9); k_dflt (first | (replace zrF9 : Fr _ _ _ (fun y => List.lookup y [(_, _)]) := zrF9) | (replace zrF9 : Fr _ _ _ (fun y => List.lookup y [(_, _), (_, _)]) := zrF9) | (replace zrF9 : Fr _ _ _ (fun y => List.lookup y [(_, _), (_, _), (_, _)]) := zrF9) | (replace zrF9 : Fr _ _ _ (fun y => List.lookup y [(_, _), (_, _), (_, _), (_, _), (_, _), (_, _)]) := zrF9) | (replace zrF9 : Fr _ _ _ (fun y => List.lookup y [(_, _), (_, _), (_, _), (_, _), (_, _)]) := zrF9) | (replace zrF9 : Fr _ _ _ (fun y => List.lookup y [(_, _), (_, _), (_, _), (_, _)]) := zrF9) | (replace zrF9 : Fr _ _ _ (fun y => List.lookup y [(_, _), (_, _), (_, _), (_, _), (_, _), (_, _), (_, _)]) := zrF9)); (try dsimp only at zrF9)))
  (k_with "z k_handed" => with_reducible assumption)
  trivial
set_option maxHeartbeats 4000000 in
theorem refdump_n1 (w : World) (news : List (Addr × Obj)) (c : Addr) (key after len : Value) (x dx : Addr) (k1 k2 k3 k4 k5 : Tok)
    (hx : (x, instObj 273 dx) ∈ news) (hdx : (dx, refDict w k1 k2 k3 k4 k5 c len key .none after) ∈ news) :
    CallsN w (.ref 263) [.ref x] news 15 400 (fun _ _ => False) (fun c => c = "AssertionError") := by
  unfold CallsN CallsK
  k_fill
  intro p loose mean mg mb dp un gd cn cs a ccd cl outer A₀ base h₀ L m s Q E B F X N T hk hd hu hret hexc
  obtain ⟨kd, nm, ig, ic, mo⟩ := cs
  cases hk
  refine wpAny_call ?_
  k_dflt k_enter
  k_steps
  all_goals first
    | (exact hexc _ _ _ _ _ rfl (by k_asm) (by with_reducible assumption) (by with_reducible assumption))
set_option maxHeartbeats 4000000 in
theorem refdump_n2 (w : World) (news : List (Addr × Obj)) (c : Addr) (key len : Value) (bf : Int) (tb : Tok) (x dx : Addr) (k1 k2 k3 k4 k5 : Tok)
    (hx : (x, instObj 273 dx) ∈ news) (hdx : (dx, refDict w k1 k2 k3 k4 k5 c len key (.int bf tb) .none) ∈ news) :
    CallsN w (.ref 263) [.ref x] news 15 400 (fun _ _ => False) (fun c => c = "AssertionError") := by
  unfold CallsN CallsK
  k_fill
  intro p loose mean mg mb dp un gd cn cs a ccd cl outer A₀ base h₀ L m s Q E B F X N T hk hd hu hret hexc
  obtain ⟨kd, nm, ig, ic, mo⟩ := cs
  cases hk
  refine wpAny_call ?_
  k_dflt k_enter
  k_steps
  all_goals first
    | (exact hexc _ _ _ _ _ rfl (by k_asm) (by with_reducible assumption) (by with_reducible assumption))

end
section
/-- the octets from one place to another -/
def Slc (D : List Int) (lo hi : Int) (S : List Int) : Prop := (D.drop lo.toNat).take (hi.toNat - lo.toNat) = S
theorem slc_of {D S : List Int} {lo hi lo' hi' : Int} (h : Slc D lo hi S) (h1 : lo' = lo) (h2 : hi' = hi) : Slc D lo' hi' S := by subst h1 h2; exact h
theorem clip_toNat (n : Nat) (i : Int) (h : 0 ≤ i) : clipAt n i = min i.toNat n := by
  obtain ⟨k, rfl⟩ := Int.eq_ofNat_of_zero_le h
  exact clipAt_nat n k
theorem drop_min (D : List Int) (i : Nat) : D.drop (min i D.length) = D.drop i := by
  by_cases h : i ≤ D.length
  · rw [Nat.min_eq_left h]
  · rw [Nat.min_eq_right (by k_extra "om"), List.drop_length, List.drop_eq_nil_of_le (by k_extra "om")]
theorem min_cut (a b n : Nat) (h : a ≤ b) : min (min b n - min a n) (n - a) = min (b - a) (n - a) := by
  by_cases hb : b ≤ n
  · rw [Nat.min_eq_left hb, Nat.min_eq_left (Nat.le_trans h hb)]
  · have hn : n ≤ b := Nat.le_of_not_le hb
    rw [Nat.min_eq_right hn, Nat.min_eq_right (Nat.sub_le_sub_right hn a)]
    by_cases ha : a ≤ n
    · rw [Nat.min_eq_left ha, Nat.min_self]
    · rw [Nat.min_eq_right (Nat.le_of_not_le ha), Nat.sub_self, Nat.sub_eq_zero_of_le (Nat.le_of_not_le ha), Nat.min_self]
theorem slc_clip {D S : List Int} {lo hi : Int} (h : Slc D lo hi S) (h0 : 0 ≤ lo) (h1 : lo ≤ hi) : (D.drop (clipAt D.length lo)).take (clipAt D.length hi - clipAt D.length lo) = S := by
  obtain ⟨a, rfl⟩ := Int.eq_ofNat_of_zero_le h0
  obtain ⟨b, rfl⟩ := Int.eq_ofNat_of_zero_le (Int.le_trans h0 h1)
  rw [clip_toNat _ _ h0, clip_toNat _ _ (Int.le_trans h0 h1), drop_min, ← h, List.take_eq_take_iff, List.length_drop]
  exact min_cut a b D.length (Int.ofNat_le.mp h1)
section
variable {prog : Program} {w : World} {A : Around} {E : Value → Shared → Prop} {s : Shared} {value slice : PySem.Expr} {b : Array UInt8} {t tl th : Tok} {h₀ : Heap} {L : Addr} {m : PySem.Str → Option Value} {news : List (Addr × Obj)} {lo hi : Int} {Q : Value → Shared → Prop} {D S : List Int}
theorem slice_b (hF : Fr h₀ L s.heap m) (hN : News h₀ L s.heap news) (hk : KBw.bInts b = D) (hS : Slc D lo hi S) (h0 : 0 ≤ lo) (h1 : lo ≤ hi) (hz : D.length ≤ 1000)
    (h : ∀ (d : Array UInt8) h' t' k, Fr h₀ L h' m → News h₀ L h' news → KBw.bInts d = S → Q (.bytes d t') { s with heap := h', toks := k })
    (hs : subscripted slice false (.bytes b t) (.ref s.heap.objs.size) = operate [.ref s.heap.objs.size, .bytes b t] (getItem (.bytes b t) (.ref s.heap.objs.size)) := by with_unfolding_all rfl)
    (ht : ∀ r, letTemporaryGo value (.bytes b t) r = pure () := by intro _; with_unfolding_all rfl) :
    wpAny (model prog w) A (subscriptTail value slice (.bytes b t) (.ref s.heap.objs.size)) Q E { s with heap := s.heap.push { cls := .type "slice", data := .fields #[.int lo tl, .int hi th, .none] } } :=
  KBc.slice_K (lo := some lo) (hi := some hi) hF hN hk (.int _ _) (.int _ _) (by k_extra "om") (fun h' t' k F' N' e => h _ _ _ _ F' N' (by rw [e]; exact slc_clip hS h0 h1)) hs ht
end
section
variable {prog : Program} {w : World} {A : Around} {E : Value → Shared → Prop} {s : Shared} {h₀ : Heap} {L : Addr} {news : List (Addr × Obj)}
theorem from_little {x : Addr} {b : Array UInt8} {t u : Tok} {ks : List Int} {z : Int} {Q : Value → Shared → Prop} (N : News h₀ L s.heap news) (hm : (x, KFB.bound) ∈ news) (hb : KBw.bInts b = ks) (hv : KFB.value ks.reverse = z) (hl : ks.length ≤ 8)
    (h : ∀ t' k, Q (.int z t') { s with toks := k }) : wpAny (model prog w) A (call (.ref x) [.bytes b t, .str (PySem.Str.ofString "little") u]) Q E s := by
  subst hv
  exact KFB.call_little N hm hb hl h
end
/-- what the serializer makes of these octets -/
def DeserOk (w : World) (dfn : Addr) (ns : List Int) (KP : Value → Prop) : Prop :=
  (∀ v, KP v → handedIn v = true) ∧ ∀ (news : List (Addr × Obj)) (sr : Addr) (b : Array UInt8) (t : Tok), KBw.bInts b = ns → Calls w (.ref dfn) [.ref sr, .bytes b t] news 5 100 (fun h₀ L h' v => KP v ∧ News h₀ L h' news)
theorem deser_use {w : World} {dfn : Addr} {ns : List Int} {KP : Value → Prop} {news : List (Addr × Obj)} {sr : Addr} {b : Array UInt8} {t : Tok}
    {p : Program} {loose : List Str} {mean : ExcName → Option Value} {mg mb : Str → Option Value}
    {dp un : Nat} {gd : Option (List Code)} {cn : Str} {cs : Scope} {a : Addr} {ccd : Value} {cl : List (Str × Addr)} {outer : List Env} {A₀ : Around} {base h₀ : Heap} {L : Addr} {m : Str → Option Value} {s : Shared} {Q E : Value → Shared → Prop}
    (h : DeserOk w dfn ns KP) (hb : KBw.bInts b = ns) (B : Below A₀ base outer h₀) (F : Fr h₀ L s.heap m) (X : (hd.heap_1 w.params).In h₀) (N : News h₀ L s.heap news) (T : Top p loose mean mg mb h₀) (hk : cs.kind = .function)
    (hdp : dp + 5 < recursionLimit) (hu : un + 100 < cLine)
    (hret : ∀ (v : Value) (h' : Heap) (tk' : Nat), KP v → handedIn v = true → Fr h₀ L h' m → News h₀ L h' news → Q v { s with heap := h', toks := tk' }) :
    wpAny (model PySem.Challenge.rw_ke0001_01.row.prog w) (ktrTop dp un gd cn cs L a ccd cl outer) (call (.ref dfn) [.ref sr, .bytes b t]) Q E s :=
  calls_use (h.2 news sr b t hb) B F X N T hk hdp hu (fun v h' tk' F' P => hret v h' tk' P.1 (h.1 v P.1) F' P.2)
theorem deserOk_int (w : World) (ns : List Int) (hl : ns.length ≤ 8) : DeserOk w 317 ns (fun v => ∃ t', v = .int (KFB.value ns.reverse) t') :=
  ⟨fun v ⟨_, h⟩ => h ▸ rfl, fun news sr b t hb => deser_int w news sr b t ns hb hl⟩
theorem deserOk_str (w : World) (ns : List Int) (x : Str) (n : Nat) (hde : ∀ b, KBw.bInts b = ns → (∀ id, Builtin._codecs.runDecoder id Builtin._codecs.utf8Decoder none true b 0 [] = pure (x.cps, n)) ∧ (b.isEmpty = true → x = Str.empty)) (hz : x.length ≤ 1000) : DeserOk w 343 ns (fun v => ∃ t', v = .str x t') :=
  ⟨fun v ⟨_, h⟩ => h ▸ rfl, fun news sr b t hb => deser_str w news sr b t x n (hde b hb).1 (hde b hb).2 hz⟩

end
section
theorem words_16_load : True := by
  (k_with "slc find" => first | exact slc_of hz1 (by k_extra "om") (by k_extra "om") | exact slc_of hz2 (by k_extra "om") (by k_extra "om") | exact slc_of hz3 (by k_extra "om") (by k_extra "om") | exact slc_of hz4 (by k_extra "om") (by k_extra "om") | exact slc_of hz5 (by k_extra "om") (by k_extra "om"))
  (k_with "subscriptTail" => (k_here; (with_reducible show wpAny _ _ (subscriptTail _ (Expr.Slice _ _ none _) (Value.bytes _ _) (Value.ref _)) _ _ _); k_dflt (refine' slice_b (s := ⟨_, _, _, _, _⟩) ?zqF ?zqN ?zqb ?zqS ?zql ?zqh ?zqz (fun d' h' t' k' F' N' hb' => ?_); (case zqF => k_asm); (case zqN => k_asm); (case zqb => with_reducible assumption); (case zqS => k_extra "slc find"); (case zql => k_extra "om"); (case zqh => k_extra "om"); (case zqz => k_extra "om"))))
  (k_with "call ref" => (k_here; (with_reducible show wpAny _ _ (call (Value.ref _) [Value.bytes _ _, Value.str _ _]) _ _ _); k_dflt (refine' from_little ?zqN ?zqm ?zqb ?zqv ?zql (fun t' k' => ?_); (case zqN => k_asm); (case zqm => k_mem); (case zqb => with_reducible assumption); (case zqv => with_reducible assumption); (case zql => k_extra "om"))))
  (k_with "call ref" => (k_here; (with_reducible show wpAny _ _ (call (Value.ref _) [Value.ref _, Value.bytes _ _]) _ _ _); (with_reducible rename DeserOk _ _ _ _ => zrhdes); k_dflt (refine' deser_use zrhdes ?zqb ?zqB ?zqF ?zqX ?zqN ?zqT ?zqk ?zqd ?zqu (fun v' h' tk' P' H' F' N' => ?_); (case zqb => with_reducible assumption); (case zqB => k_asm); (case zqF => k_asm); (case zqX => k_asm); (case zqN => k_asm); (case zqT => k_asm); (case zqk => exact rfl); (case zqd => ktr_room); (case zqu => ktr_units))))
  (k_with "callWith ref" => (k_here; (with_reducible show wpAny _ _ (callWith _ (Value.ref _) _ (backTo _ (starEach (_ :: _) _)) []) _ _ _); kfb_any; k_dflt (refine' KFB.callWith_bound ?zqN ?zqM ?_; (case zqN => k_asm); (case zqM => k_mem); k_whole)))
  trivial
theorem words_p16_load_1 : True := by
  (k_with "getMethod ref" => (k_here; (with_reducible show wpAny _ _ (getMethod (Value.ref _) (Str.ofString "deserialize") _) _ _ _); k_dflt (refine' des_method ?zqh ?zqF ?zqX ?zqN ?zqa ?zqb ?_; (case zqh => with_reducible assumption); (case zqF => k_asm); (case zqX => k_asm); (case zqN => k_asm); (case zqa => k_mem); (case zqb => k_mem))))
  (k_with "mem in" => first | (with_reducible exact List.mem_cons_self) | ((with_reducible refine List.mem_cons_of_mem _ ?_); k_extra "mem in"))
  trivial
/-- a record of these parts stands in the ledger -/
def RecIn (w : World) (c : Addr) (news : List (Addr × Obj)) (key v pg : Value) (len : Int) (r : Value) (news' : List (Addr × Obj)) : Prop :=
  ∃ x dx k1 k2 k3 k4 k5 tl, r = .ref x ∧ (x, instObj 232 dx) ∈ news' ∧ (dx, recDict w k1 k2 k3 k4 k5 c key v (.int len tl) pg) ∈ news' ∧ ∀ q ∈ news, q ∈ news'
def RefIn (w : World) (c : Addr) (news : List (Addr × Obj)) (key before after : Value) (len : Int) (r : Value) (news' : List (Addr × Obj)) : Prop :=
  ∃ x dx k1 k2 k3 k4 k5 tl, r = .ref x ∧ (x, instObj 273 dx) ∈ news' ∧ (dx, refDict w k1 k2 k3 k4 k5 c (.int len tl) key before after) ∈ news' ∧ ∀ q ∈ news, q ∈ news'
theorem words_p16_load_2 : True := by
  (k_with "execs cons" => (k_here; (fail_if_success (refine hasMark (by with_reducible assumption) ?_)); refine' let_B ?_; intro am qa; (try k_fold); (try k_extra "fr")))
  trivial
set_option maxHeartbeats 8000000 in
theorem rec_load (w : World) (news : List (Addr × Obj)) (c : Addr) (ks vsz : Nat) (sr dsr : Addr) (t1 t2 t3 t4 : Tok) (hc : (c, confObj ks vsz sr t1 t2 t3 t4) ∈ news) (hcs : confs ks vsz)
    (hs2 : (dsr, dictOf [] 0) ∈ news) (sC dfn : Addr) (hs1 : (sr, instObj sC dsr) ∈ news) (hsf : (sC = 320 ∧ dfn = 317) ∨ (sC = 346 ∧ dfn = 343))
    (b : Array UInt8) (tb : Tok) (D S1 S2 S3 S4 S5 : List Int) (U F P : Int) (hb : KBw.bInts b = D) (hD0 : 0 < D.length) (hD1 : D.length ≤ 1000)
    (hz1 : Slc D 0 2 S1) (hz2 : Slc D 2 (2 + U) S2) (hz3 : Slc D (2 + ks) (2 + ks + 2) S3) (hz4 : Slc D (2 + ks + 2) (2 + ks + 2 + F) S4) (hz5 : Slc D (2 + ks + 2 + vsz) (2 + ks + 2 + vsz + 4) S5)
    (l1 : S1.length ≤ 2) (l3 : S3.length ≤ 2) (l4 : S4.length ≤ F.toNat) (l5 : S5.length ≤ 4)
    (hU : KFB.value S1.reverse = U) (hF : KFB.value S3.reverse = F) (hP : KFB.value S5.reverse = P) (hU0 : 0 ≤ U) (hF0 : 0 ≤ F)
    (KP : Value → Prop) (hdes : DeserOk w dfn S2 KP) :
    CallsK w (.ref 232) [.ref c] [(PySem.Str.ofString "data", .bytes b tb)] news 15 500 (fun v news' => (D.length = 2 + ks + 2 + vsz + 4 ∧ U ≤ ks ∧ F ≤ vsz) ∧ ∃ kv vv pv, KP kv ∧ ((P = 0 ∧ pv = .none ∧ ∃ b' t', vv = .bytes b' t' ∧ KBw.bInts b' = S4) ∨ (P ≠ 0 ∧ vv = .none ∧ ∃ t', pv = .int P t')) ∧ RecIn w c news kv vv pv (2 + ks + 2 + vsz + 4) v news') (fun c => ¬ (D.length = 2 + ks + 2 + vsz + 4 ∧ U ≤ ks ∧ F ≤ vsz) ∧ c = "AssertionError") := by
  have hkp := des_keep (w := w) hsf
  (
    unfold CallsK
    k_fill
    intro p loose mean mg mb dp un gd cn cs a ccd cl outer A₀ base h₀ L m s Q E B F' X N T hk hd hu hret hexc
    obtain ⟨kd, nm, ig, ic, mo⟩ := cs
    cases hk
    k_steps
    all_goals first
      | (exact hexc _ _ _ _ _ ⟨by first | exact fun hz => absurd hz.2.1 (by assumption) | exact fun hz => absurd hz.2.2 (by assumption) | exact fun hz => absurd (castD' hz.1) (by assumption) | exact fun hz => absurd hz.2 (by assumption) | exact fun hz => absurd (castF' hz.1) (by assumption) | k_extra "om", rfl⟩ (by k_asm) (raised_sub (by with_reducible assumption) (by intro q hq; k_mem)) (by with_reducible assumption))
      | (exact hret _ _ _ _ (by k_asm) (by k_asm) ⟨⟨by k_extra "om", by k_extra "om", by k_extra "om"⟩, _, _, _, by with_reducible assumption, .inl ⟨by with_reducible assumption, rfl, _, _, rfl, by with_reducible assumption⟩, _, _, _, _, _, _, _, _, rfl, by k_extra "mem in", by k_extra "mem in", by intro q hq; k_mem⟩)
      | (exact hret _ _ _ _ (by k_asm) (by k_asm) ⟨⟨by k_extra "om", by k_extra "om", by k_extra "om"⟩, _, _, _, by with_reducible assumption, .inr ⟨by with_reducible assumption, rfl, _, rfl⟩, _, _, _, _, _, _, _, _, rfl, by k_extra "mem in", by k_extra "mem in", by intro q hq; k_mem⟩)
    )

set_option maxHeartbeats 8000000 in
theorem ref_load (w : World) (news : List (Addr × Obj)) (c : Addr) (ks vsz : Nat) (sr dsr : Addr) (t1 t2 t3 t4 : Tok) (hc : (c, confObj ks vsz sr t1 t2 t3 t4) ∈ news) (hcs : confs ks vsz)
    (hs2 : (dsr, dictOf [] 0) ∈ news) (sC dfn : Addr) (hs1 : (sr, instObj sC dsr) ∈ news) (hsf : (sC = 320 ∧ dfn = 317) ∨ (sC = 346 ∧ dfn = 343))
    (b : Array UInt8) (tb : Tok) (D S1 S2 S3 S4 S5 : List Int) (BF U AF : Int) (hb : KBw.bInts b = D) (hD0 : 0 < D.length) (hD1 : D.length ≤ 1000)
    (hz1 : Slc D 0 4 S1) (hz2 : Slc D 4 (4 + 2) S2) (hz3 : Slc D (4 + 2) (4 + 2 + U) S3) (hz4 : Slc D (4 + 2 + ks) (4 + 2 + ks + 4) S4) (hz5 : Slc D 0 0 S5)
    (l1 : S1.length ≤ 4) (l3 : S2.length ≤ 2) (l4 : S4.length ≤ 4)
    (hBF : KFB.value S1.reverse = BF) (hU : KFB.value S2.reverse = U) (hAF : KFB.value S4.reverse = AF) (hU0 : 0 ≤ U)
    (KP : Value → Prop) (hdes : DeserOk w dfn S3 KP) :
    CallsK w (.ref 273) [.ref c] [(PySem.Str.ofString "data", .bytes b tb)] news 15 500 (fun v news' => (D.length = 2 * 4 + 2 + ks ∧ U ≤ ks) ∧ ∃ kv tb ta, KP kv ∧ RefIn w c news kv (.int BF tb) (.int AF ta) (2 * 4 + 2 + ks) v news') (fun c => ¬ (D.length = 2 * 4 + 2 + ks ∧ U ≤ ks) ∧ c = "AssertionError") := by
  have hkp := des_keep (w := w) hsf
  (
    unfold CallsK
    k_fill
    intro p loose mean mg mb dp un gd cn cs a ccd cl outer A₀ base h₀ L m s Q E B F' X N T hk hd hu hret hexc
    obtain ⟨kd, nm, ig, ic, mo⟩ := cs
    cases hk
    k_steps
    all_goals first
      | (exact hexc _ _ _ _ _ ⟨by first | exact fun hz => absurd hz.2.1 (by assumption) | exact fun hz => absurd hz.2.2 (by assumption) | exact fun hz => absurd (castD' hz.1) (by assumption) | exact fun hz => absurd hz.2 (by assumption) | exact fun hz => absurd (castF' hz.1) (by assumption) | k_extra "om", rfl⟩ (by k_asm) (raised_sub (by with_reducible assumption) (by intro q hq; k_mem)) (by with_reducible assumption))
      | (exact hret _ _ _ _ (by k_asm) (by k_asm) ⟨⟨by k_extra "om", by k_extra "om"⟩, _, _, _, by with_reducible assumption, _, _, _, _, _, _, _, _, rfl, by k_extra "mem in", by k_extra "mem in", by intro q hq; k_mem⟩)
    )

end
section
theorem words_17_lam : True := by
  k_with_none
  (k_with "z ktr_units" => ((simp only [units_under_kw, units_in1, units_deeper, Around.mark_units, units_caller, ktrTop, cLine_is] at ⊢); (rename _ < cLine => zrhcU); (rw [cLine_is] at zrhcU); omega))
  (k_with "z ktr_room" => ((simp only [depth_under_kw, depth_in1, depth_deeper, depth_caller, ktrTop] at ⊢); omega))
  (k_with "z ktr_units" => ((rename _ < cLine => zrhcU); first | exact u3 zrhcU rfl | exact u2 zrhcU rfl | exact u4 zrhcU rfl | exact u5 zrhcU rfl | exact u1 zrhcU))
  (k_with "z ktr_room" => ((rename _ < recursionLimit => zrhcD); first | exact u2 zrhcD rfl | exact u3 zrhcD rfl | exact u4 zrhcD rfl | exact u5 zrhcD rfl | exact u1 zrhcD))
  (k_with "z k_room" => ktr_room)
  (k_with "z k_units" => ktr_units)
  (k_with "z k_mem" => ((show @Membership.mem (Addr × Obj) (List (Addr × Obj)) _ _ _); with_reducible assumption))
  (k_with "om0" => ((repeat (with_reducible rename _ ≠ _ ∧ _ => zrhz; clear zrhz)); (repeat (with_reducible rename (_ ≠ _ ∧ _) ∧ _ => zrhz; clear zrhz)); omega))
  (k_with "bd1" => first | decide | (with_reducible first | apply om_b1 | apply om_b2 | apply om_b3 | apply om_b4 | apply om_b5 | apply om_b6 | apply om_b7 | apply om_bs | apply om_bt | apply om_bz | apply om_bt4 | apply om_b2t | apply om_bm | (apply om_bq; assumption) | refine om_bl (by assumption) ?_ | refine om_be (by assumption) ?_ | (apply om_bk; assumption; decide) | (apply om_bv; assumption; decide)))
  (k_with "bd" => (k_whole; (with_reducible first | (apply om_b0; rotate_left; with_unfolding_all rfl) | (apply om_b0l; rotate_left; with_unfolding_all rfl)); (repeat' k_extra "bd1"); done))
  (k_with "five" => first | assumption | exact om_lk5 (by assumption) | exact om_lt5 (by assumption) | exact Nat.le_trans (by assumption) (om_lk5 (by assumption)) | exact Nat.le_trans (by assumption) (om_lt5 (by assumption)))
  (k_with "om1" => first | rfl | assumption | exact And.left (by assumption) | exact And.right (by assumption) | ((show @LE.le Int _ _ _); first | apply Int.natCast_nonneg | (apply om_sub_nn; assumption) | (apply om_sa0; assumption) | (apply Int.le_of_lt; apply om_lp2) | (apply Int.le_add_of_nonneg_right; first | assumption | apply Int.natCast_nonneg)) | ((show @LE.le Nat _ _ _); apply Nat.le_of_lt; assumption) | ((show @LT.lt Int _ _ _); apply om_lp2) | ((show @LT.lt Nat _ _ _); first | (apply om_posD; assumption) | (apply om_posF; assumption)) | ((show @Eq Nat _ _); first | apply tns | apply tn0 | (apply castD; assumption) | (apply castF; assumption)))
  (k_with "om2" => first | decide | ((show @LE.le Nat _ _ _); first | exact Nat.le_trans (by assumption) (by decide) | exact om_be (by assumption) (by decide) | (apply om_bq4; assumption; rfl) | (apply om_kbt; assumption; k_extra "five") | (apply om_kmt <;> assumption)) | ((show @LE.le Int _ _ _); first | (apply Int.le_add_of_nonneg_right; decide) | (apply om_ic 5; k_extra "five"; decide) | (apply om_sub_le0; apply om_ic 5; k_extra "five"; decide) | (apply om_sub0_le; apply om_ic 5; k_extra "five"; decide) | (apply om_sa4; k_extra "five") | (refine Int.le_trans (om_kb (by assumption) (by k_extra "five")) (by decide)) | (apply om_kb1; assumption; k_extra "five") | (apply om_kb2; assumption; k_extra "five") | (apply om_km <;> assumption)) | ((show @Eq Int _ _); first | (apply om_lnO; assumption) | (apply om_lnI <;> assumption) | (apply om_lnF; assumption)) | ((show @LT.lt Int _ _ _); first | (apply om_icl 5; k_extra "five"; decide) | exact Int.lt_of_lt_of_le (by decide) (And.left (by assumption)) | exact Int.lt_trans (And.right (by assumption)) (by decide)))
  (k_with "nn" => ((show @LE.le Int _ _ _); apply Int.add_nonneg; (repeat' first | apply Int.natCast_nonneg | assumption | decide | apply Int.add_nonneg); done))
  (k_with "om" => first | (k_whole; with_reducible k_extra "om1") | (k_whole; with_reducible k_extra "om2") | (k_whole; with_reducible k_extra "nn") | k_extra "bd" | k_extra "om0")
  (k_with "z kba_size" => k_extra "bd")
  (k_with "fold" => (refine' let_A ?_; intro qa; k_fold))
  (k_with "ite" => first | refine ite_dpos (by assumption) ?_ | refine ite_dneg (by first | assumption | (apply Int.not_lt.mpr; assumption) | (apply Int.not_le.mpr; assumption)) ?_)
  (k_with "z kcf_bnd" => first | (k_whole; with_reducible k_extra "om1") | (k_whole; with_reducible k_extra "om2") | (k_whole; with_reducible k_extra "nn") | k_extra "bd")
  (k_with "gl" => with_reducible (first | exact glUSEDKEYLENGTHBYTES _ | exact glUSEDVALUELENGTHBYTES _ | exact glPAGEREFERENCEBYTES _ | exact glENDIAN _ | exact glRecord _ | exact glReference _ | exact gllawlow _ | exact gllawkey _ | exact gllawparts _ | exact gllawpages _ | exact gllawdone _ | exact gllawnumber _ | exact gllawsigns _ | exact glTreeConf _ | exact glStrSerializer _ | exact glIntSerializer _ | exact gllawrecord _ | exact gllawreference _ | exact gllawread _ | exact gllaworder _))
  (k_with "gb" => with_reducible (first | exact glint _ | exact gllen _ | exact glbytes _ | exact glisinstance _ | exact glrange _ | exact glenumerate _ | exact gltuple _ | exact gltype _))
  (k_with "eval Name" => (k_here; k_dflt (first | (refine' nameX_L ?zqF ?zqv ?_ ?zqa ?zqb; (case zqF => k_asm); (case zqa => exact Eq.refl ScopeKind.function); (case zqb => exact Eq.refl (some NameKind.local)); (case zqv => exact Eq.refl (some _)); k_whole) | (refine' name_top ?zqg ?zqF ?zqX ?zqT ?zqa ?zqb ?_; (case zqX => k_asm); (case zqg => k_extra "gl"); (case zqF => k_asm); (case zqT => k_asm); (case zqa => exact Eq.refl ScopeKind.function); (case zqb => exact Eq.refl (some NameKind.globalImplicit)); k_whole) | (refine' name_boot ?zqg ?zqF ?zqX ?zqT ?zqa ?zqb ?_; (case zqX => k_asm); (case zqg => k_extra "gb"); (case zqF => k_asm); (case zqT => k_asm); (case zqa => exact Eq.refl ScopeKind.function); (case zqb => exact Eq.refl (some NameKind.globalImplicit)); k_whole))))
  (k_with "callWith ref" => (k_here; k_dflt (first | (refine' callWith_K ?zqk1 ?zqk2 ?_; (case zqk1 => k_asm); (case zqk2 => k_extra "kp"); k_whole) | (refine' callWith_K0 ?zqk1 ?zqk2 ?_; (case zqk1 => first | with_reducible assumption | exact Frag.In.keeps (by with_reducible assumption) (Fr.keep (by with_reducible assumption)) | k_in); (case zqk2 => k_extra "kp"); k_whole) | (refine' callWith_M0 ?zqk1 ?zqk2 ?_; (case zqk1 => k_meth); (case zqk2 => k_extra "kp"); k_whole; (try dsimp only [List.nil_append, List.cons_append])) | (refine' callWith_M ?zqk1 ?zqk2 ?zqk3 ?zqk4 ?_; (case zqk1 => k_asm); (case zqk2 => k_asm); (case zqk3 => k_mem); (case zqk4 => k_is); k_whole) | (refine' callWith_KW ?zqk1 ?zqk2 ?zqk3 ?_; (case zqk1 => k_asm); (case zqk2 => k_extra "kp"); (case zqk3 => exact rfl); k_whole) | (refine' callWith_KW0 ?zqk1 ?zqk2 ?zqk3 ?_; (case zqk1 => k_asm); (case zqk2 => k_extra "kp"); (case zqk3 => exact rfl); k_whole))))
  (k_with "getMethod type:int" => (k_here; (with_reducible refine' KFB.getm ?zqkfbF ?zqkfbN ?zqkfbX ?zqkfbE ?_); k_dflt ((case zqkfbF => k_asm); (case zqkfbN => k_asm); (case zqkfbX => k_asm); (case zqkfbE => exact from_bytes_at _); k_whole; intro x' h' F' N' l1; (try k_lt l1); (try k_sweep))))
  (k_with "kp" => first | with_reducible assumption | (with_reducible first | exact kp232 _ | exact kp273 _ | exact kp355 _ | exact kp369 _ | exact kp376 _ | exact kp381 _ | exact kp388 _ | exact kp395 _ | exact kp400 _ | exact kp407 _ | exact kp412 _ | exact kp419 _ | exact kp141 _ | exact kp346 _ | exact kp320 _) | k_is)
  (k_with "getAttr ref" => (k_here; (with_reducible show wpAny _ _ (getAttr (Value.ref _) (PySem.Str.ofString "key_size") _) _ _ _); k_dflt (refine' conf_attr (And.left (get_conf _ _ _ _ _ _ _ _ _ _ ?zqm)) ?zqm2 ?zqc1 ?zqc3 ?zqB ?zqF ?zqX ?zqN ?zqT ?zqk ?zqd ?zqu ?zqp ?zqp2 ?zqp3 ?zqf2 ?zqf3 ?zqf4 ?zqhh ?_; (case zqN => k_asm); (case zqm => k_mem); (case zqm2 => k_mem); (case zqc1 => exact rfl); (case zqc3 => exact rfl); (case zqB => k_asm); (case zqF => k_asm); (case zqX => k_asm); (case zqT => k_asm); (case zqk => exact rfl); (case zqd => ktr_room); (case zqu => ktr_units); (case zqp => k_is); (case zqp2 => k_is); (case zqp3 => k_is); (case zqf2 => k_is); (case zqf3 => k_is); (case zqf4 => k_is); (case zqhh => exact rfl); k_whole; intro h' tk' F' N'; (try k_sweep))))
  (k_with "getAttr ref" => (k_here; (with_reducible show wpAny _ _ (getAttr (Value.ref _) (PySem.Str.ofString "value_size") _) _ _ _); k_dflt (refine' conf_attr (And.left (And.right (get_conf _ _ _ _ _ _ _ _ _ _ ?zqm))) ?zqm2 ?zqc1 ?zqc3 ?zqB ?zqF ?zqX ?zqN ?zqT ?zqk ?zqd ?zqu ?zqp ?zqp2 ?zqp3 ?zqf2 ?zqf3 ?zqf4 ?zqhh ?_; (case zqN => k_asm); (case zqm => k_mem); (case zqm2 => k_mem); (case zqc1 => exact rfl); (case zqc3 => exact rfl); (case zqB => k_asm); (case zqF => k_asm); (case zqX => k_asm); (case zqT => k_asm); (case zqk => exact rfl); (case zqd => ktr_room); (case zqu => ktr_units); (case zqp => k_is); (case zqp2 => k_is); (case zqp3 => k_is); (case zqf2 => k_is); (case zqf3 => k_is); (case zqf4 => k_is); (case zqhh => exact rfl); k_whole; intro h' tk' F' N'; (try k_sweep))))
  (k_with "getAttr ref" => (k_here; (with_reducible show wpAny _ _ (getAttr (Value.ref _) (PySem.Str.ofString "serializer") _) _ _ _); k_dflt (refine' conf_attr (And.right (And.right (get_conf _ _ _ _ _ _ _ _ _ _ ?zqm))) ?zqm2 ?zqc1 ?zqc3 ?zqB ?zqF ?zqX ?zqN ?zqT ?zqk ?zqd ?zqu ?zqp ?zqp2 ?zqp3 ?zqf2 ?zqf3 ?zqf4 ?zqhh ?_; (case zqN => k_asm); (case zqm => k_mem); (case zqm2 => k_mem); (case zqc1 => exact rfl); (case zqc3 => exact rfl); (case zqB => k_asm); (case zqF => k_asm); (case zqX => k_asm); (case zqT => k_asm); (case zqk => exact rfl); (case zqd => ktr_room); (case zqu => ktr_units); (case zqp => k_is); (case zqp2 => k_is); (case zqp3 => k_is); (case zqf2 => k_is); (case zqf3 => k_is); (case zqf4 => k_is); (case zqhh => exact rfl); k_whole; intro h' tk' F' N'; (try k_sweep))))
  (k_with "ne" => first | (with_reducible assumption) | (exact Nat.ne_of_lt (by with_reducible assumption)) | (exact Nat.ne_of_gt (by with_reducible assumption)) | (exact Ne.symm (by with_reducible assumption)) | (exact allNe_mem2 (by with_reducible assumption) (by k_mem)) | (exact Ne.symm (allNe_mem2 (by with_reducible assumption) (by k_mem))) | (exact ng0 (by with_reducible assumption)) | (exact nl0 (by with_reducible assumption)) | (exact ng1 (by with_reducible assumption)) | (exact nl1 (by with_reducible assumption)) | (exact fg1 (by with_reducible assumption)) | (exact fl1 (by with_reducible assumption)) | (exact ng2 (by with_reducible assumption)) | (exact nl2 (by with_reducible assumption)) | (exact fg2 (by with_reducible assumption)) | (exact fl2 (by with_reducible assumption)) | (exact ng3 (by with_reducible assumption)) | (exact nl3 (by with_reducible assumption)) | (exact fg3 (by with_reducible assumption)) | (exact fl3 (by with_reducible assumption)) | (exact ng4 (by with_reducible assumption)) | (exact nl4 (by with_reducible assumption)) | (exact fg4 (by with_reducible assumption)) | (exact fl4 (by with_reducible assumption)) | (exact ng5 (by with_reducible assumption)) | (exact nl5 (by with_reducible assumption)) | (exact fg5 (by with_reducible assumption)) | (exact fl5 (by with_reducible assumption)) | (exact ng6 (by with_reducible assumption)) | (exact nl6 (by with_reducible assumption)) | (exact fg6 (by with_reducible assumption)) | (exact fl6 (by with_reducible assumption)) | (exact ng7 (by with_reducible assumption)) | (exact nl7 (by with_reducible assumption)) | (exact fg7 (by with_reducible assumption)) | (exact fl7 (by with_reducible assumption)) | (exact ng8 (by with_reducible assumption)) | (exact nl8 (by with_reducible assumption)) | (exact fg8 (by with_reducible assumption)) | (exact fl8 (by with_reducible assumption)) | (exact ng9 (by with_reducible assumption)) | (exact nl9 (by with_reducible assumption)) | (exact fg9 (by with_reducible assumption)) | (exact fl9 (by with_reducible assumption)) | (exact ng10 (by with_reducible assumption)) | (exact nl10 (by with_reducible assumption)) | (exact fg10 (by with_reducible assumption)) | (exact fl10 (by with_reducible assumption)) | (exact ng11 (by with_reducible assumption)) | (exact nl11 (by with_reducible assumption)) | (exact fg11 (by with_reducible assumption)) | (exact fl11 (by with_reducible assumption)) | (exact ng12 (by with_reducible assumption)) | (exact nl12 (by with_reducible assumption)) | (exact fg12 (by with_reducible assumption)) | (exact fl12 (by with_reducible assumption)) | (exact ng13 (by with_reducible assumption)) | (exact nl13 (by with_reducible assumption)) | (exact fg13 (by with_reducible assumption)) | (exact fl13 (by with_reducible assumption)) | (exact na0 (by with_reducible assumption)) | (exact nb0 (by with_reducible assumption)) | (exact na1 (by with_reducible assumption)) | (exact nb1 (by with_reducible assumption)) | (exact na2 (by with_reducible assumption)) | (exact nb2 (by with_reducible assumption)) | (exact na3 (by with_reducible assumption)) | (exact nb3 (by with_reducible assumption)) | (exact na4 (by with_reducible assumption)) | (exact nb4 (by with_reducible assumption)) | (exact na5 (by with_reducible assumption)) | (exact nb5 (by with_reducible assumption)) | (exact na6 (by with_reducible assumption)) | (exact nb6 (by with_reducible assumption)) | (exact na7 (by with_reducible assumption)) | (exact nb7 (by with_reducible assumption)) | (exact na8 (by with_reducible assumption)) | (exact nb8 (by with_reducible assumption)) | (exact na9 (by with_reducible assumption)) | (exact nb9 (by with_reducible assumption)) | (exact oi1) | (exact os1) | (exact ok1 (by with_reducible assumption)) | (exact oc1 (by with_reducible assumption)) | (exact oi2) | (exact os2) | (exact ok2 (by with_reducible assumption)) | (exact oc2 (by with_reducible assumption)) | (exact oi3) | (exact os3) | (exact ok3 (by with_reducible assumption)) | (exact oc3 (by with_reducible assumption)) | (exact oi4) | (exact os4) | (exact ok4 (by with_reducible assumption)) | (exact oc4 (by with_reducible assumption)) | (exact oi5) | (exact os5) | (exact ok5 (by with_reducible assumption)) | (exact oc5 (by with_reducible assumption)) | (exact news_ne (by k_asm) (by k_mem) (by k_mem) (by intro e; cases e)))
  (k_with "z k_ne" => (refine neN ?_; (try dsimp only); k_extra "ne"))
  (k_with "z k_all" => first | exact allNe_mem (by with_reducible assumption) | exact allNe_of_lt (by with_reducible assumption) | with_reducible assumption)
  (k_with "call ref" => (k_here; (with_reducible show wpAny _ _ (call (Value.ref 369) [Value.int _ _, Value.int _ _]) _ _ _); k_dflt (first | (refine' calls_use (low_calls _ _ _ _ _ 2 (by decide)) ?zqB ?zqF ?zqX ?zqN ?zqT ?zqk ?zqd ?zqu ?_; (case zqB => k_asm); (case zqF => k_asm); (case zqX => k_asm); (case zqN => k_asm); (case zqT => k_asm); (case zqk => exact rfl); (case zqd => ktr_room); (case zqu => ktr_units); k_whole) | (refine' calls_use (low_calls _ _ _ _ _ 4 (by decide)) ?zqB ?zqF ?zqX ?zqN ?zqT ?zqk ?zqd ?zqu ?_; (case zqB => k_asm); (case zqF => k_asm); (case zqX => k_asm); (case zqN => k_asm); (case zqT => k_asm); (case zqk => exact rfl); (case zqd => ktr_room); (case zqu => ktr_units); k_whole) | (refine' calls_use (low_calls _ _ _ _ _ _ ?zqn) ?zqB ?zqF ?zqX ?zqN ?zqT ?zqk ?zqd ?zqu ?_; (case zqB => k_asm); (case zqF => k_asm); (case zqX => k_asm); (case zqN => k_asm); (case zqT => k_asm); (case zqk => exact rfl); (case zqd => ktr_room); (case zqu => ktr_units); (case zqn => k_extra "om"); k_whole)); intro v' h' tk' F' P'; obtain ⟨l', vs', hv', N', hI', hO'⟩ := P'; subst hv'; (replace hO' := allNe_of hO'); (try dsimp only); (try k_fold)))
  (k_with "call builtin:len" => (k_here; (with_reducible show wpAny _ _ (call (Value.builtin "len") [Value.ref _]) _ _ _); k_dflt (refine' len_ints ?zqN ?zqm ?zqi ?zqf ?_; (case zqN => k_asm); (case zqm => k_mem); (case zqi => with_reducible assumption); (case zqf => ((try simp only [List.length_append, List.length_replicate, KTBy.little_length]); k_extra "om")); k_whole)))
  (k_with "binaryOp Add ref ref" => (k_here; (with_reducible show wpAny _ _ (binaryOp Operator.Add (Value.ref _) (Value.ref _)) _ _ _); k_dflt (refine' add_ints ?zqF ?zqN ?zqa ?zqb ?zqi ?zqj ?zqf ?_; (case zqF => k_asm); (case zqN => k_asm); (case zqa => k_mem); (case zqb => k_mem); (case zqi => with_reducible assumption); (case zqj => with_reducible assumption); (case zqf => ((try simp only [List.length_append, List.length_replicate, KTBy.little_length]); k_extra "om")); k_whole; intro l' us' h' F' N' I' l1; (try k_lt l1); (try k_sweep))))
  (k_with "binaryOp Mult ref int" => (k_here; (with_reducible show wpAny _ _ (binaryOp Operator.Mult (Value.ref _) (Value.int _ _)) _ _ _); k_dflt (refine' mul_ints ?zqF ?zqN ?zqa ?zqg ?zqf ?_; (case zqF => k_asm); (case zqN => k_asm); (case zqa => k_mem); (case zqg => k_extra "om"); (case zqf => k_extra "om"); k_whole; intro l' us' h' F' N' I' l1; (try k_lt l1); (try k_sweep))))
  (k_with "call ref" => (k_here; (with_reducible show wpAny _ _ (call (Value.ref 388) [Value.ref _, Value.ref _]) _ _ _); k_dflt ((refine' calls_use (parts_calls _ _ _ _ _ _ _ _ _ _ ?zqm ?zqz _ _ _ _ ?zql ?zqi ?zqe) ?zqB ?zqF ?zqX ?zqN ?zqT ?zqk ?zqd ?zqu ?_; (case zqB => k_asm); (case zqF => k_asm); (case zqX => k_asm); (case zqN => k_asm); (case zqT => k_asm); (case zqk => exact rfl); (case zqd => ktr_room); (case zqu => ktr_units); (case zqm => k_mem); (case zql => k_mem); (case zqi => with_reducible assumption); (case zqz => k_extra "om"); (case zqe => ((try simp only [List.length_append, List.length_replicate, KTBy.little_length]); k_extra "om")); k_whole)); intro v' h' tk' F' P'; obtain ⟨l', vs', e', hv', N', hI', hO'⟩ := P'; subst hv'; (replace hO' := allNe_of hO'); (try dsimp only); (try k_fold)))
  (k_with "call builtin:int.to_bytes" => (k_here; (with_reducible show wpAny _ _ (call (Value.builtin "int.to_bytes") [Value.int _ _, Value.int _ _, Value.str _ _]) _ _ _); k_dflt (first | (refine' to_bytes_in (k := 2) (B := 65536) ?zqh1 ?zqh2 ?zqh3 ?zqh4 (fun b' t' k' hb' => ?_); (case zqh1 => decide); (case zqh2 => decide); (case zqh3 => k_extra "om"); (case zqh4 => k_extra "om")) | (refine' to_bytes_in (k := 4) (B := 4294967296) ?zqh1 ?zqh2 ?zqh3 ?zqh4 (fun b' t' k' hb' => ?_); (case zqh1 => decide); (case zqh2 => decide); (case zqh3 => k_extra "om"); (case zqh4 => k_extra "om")) | (refine' to_bytes_all (k := 2) rfl ?zqh (fun hx0 hx1 b' t' k' hb' => ?_) (fun hx h' tk' e' hn' => ?_); (case zqh => decide)) | (refine' to_bytes_all (k := 4) rfl ?zqh (fun hx0 hx1 b' t' k' hb' => ?_) (fun hx h' tk' e' hn' => ?_); (case zqh => decide)) | (refine' to_bytes_all rfl ?zqh (fun hx0 hx1 b' t' k' hb' => ?_) (fun hx h' tk' e' hn' => ?_); (case zqh => k_extra "om")))))
  (k_with "leaving ref" => (k_here; k_dflt (refine' leave_newS ?zqk1 ?zqk0 ?zqk2 ?zqk3 ?_; (case zqk0 => assumption); (case zqk1 => assumption); (case zqk2 => assumption); (case zqk3 => k_asm); k_whole; intro h' R' Rn' U')))
  (k_with "getMethod str" => (k_here; (with_reducible refine encode_method ?_)))
  (k_with "callWith" => (k_here; (with_reducible show wpAny _ _ (callWith _ (Value.builtin _) _ (backTo _ (starEach [] _)) (backToKw _ (keywordEach (_ :: _) _))) _ _ _); k_dflt (refine callWith_kwN ?_)))
  (k_with "call builtin:str.encode" => (k_here; k_dflt (refine' encode_call ?zqhe ?zqhz ?_; (case zqhe => assumption); (case zqhz => assumption); k_whole; intro t' k')))
  (k_with "call builtin:bytes.decode" => (k_here; k_dflt (first | (refine' decode_kw ?zqhd ?zqhe ?zqhz ?_; (case zqhd => assumption); (case zqhe => assumption); (case zqhz => assumption); k_whole; intro t' k') | (refine' decode_ascii ?zqhd ?zqhe ?zqhz ?_; (case zqhd => assumption); (case zqhe => assumption); (case zqhz => assumption); k_whole; intro t' k'))))
  (k_with "binaryOp Add bytes bytes" => (k_here; (with_reducible show wpAny _ _ (binaryOp Operator.Add (Value.bytes _ _) (Value.bytes _ _)) _ _ _); k_dflt (refine' add_b ?zqb ?zqc ?zqz (fun d' t' k' hb' => ?_); (case zqb => first | with_reducible assumption | exact bints_nil); (case zqc => first | with_reducible assumption | exact bints_nil); (case zqz => ((try simp only [List.length_append, List.length_replicate, KTBy.little_length, List.length_cons, List.length_nil]); k_extra "om")))))
  (k_with "call type:bytes" => (k_here; (with_reducible show wpAny _ _ (call (Value.type "bytes") [Value.int _ _]) _ _ _); k_dflt (refine' zeros_call ?zqa ?zqb (fun d' t' k' hb' => ?_); (case zqa => k_extra "om"); (case zqb => k_extra "om"))))
  (k_with "call type:bytes" => (k_here; (with_reducible show wpAny _ _ (call (Value.type "bytes") [Value.ref _]) _ _ _); k_dflt (refine' bytes_of_list rfl ?zqF ?zqN ?zql ?zqi ?zqr ?zqz (fun d' t' k' h' F' N' hb' => ?_); (case zqF => k_asm); (case zqN => k_asm); (case zql => k_mem); (case zqi => with_reducible assumption); (case zqz => ((try simp only [List.length_append, List.length_replicate, KTBy.little_length, List.length_cons, List.length_nil]); k_extra "om")); (case zqr => (repeat' (first | with_reducible assumption | exact rng_little _ _ | exact rng_zeros _ | exact rng_nil | refine rng_app ?_ ?_ | refine rng_cons ⟨by k_extra "om", by k_extra "om"⟩ ?_))))))
  (k_with "call builtin:len" => (k_here; (with_reducible show wpAny _ _ (call (Value.builtin "len") [Value.bytes #[] _]) _ _ _); (with_reducible refine len_nil ?_)))
  (k_with "leaving ref" => (k_here; k_dflt (refine' leave_onE ?zqhf ?zqB ?zqF ?zqR ?zqU ?_; (case zqhf => exact rfl); (case zqR => first | with_reducible assumption | assumption); (case zqB => assumption); (case zqU => assumption); (case zqF => assumption); k_whole; intro h' R' U')))
  (k_with "storeName" => (k_here; k_dflt (first | (refine' store_gi ?zqF ?zqN ?zqa ?zqb ?_; (case zqF => k_asm); (case zqN => k_asm); (case zqa => exact Eq.refl ScopeKind.function); (case zqb => exact Eq.refl (some NameKind.local)); k_whole; intro h' tk' ti' F' N'; (try k_sweep)) | (refine' store_g ?zqF ?zqN ?zqa ?zqb ?_; (case zqF => k_asm); (case zqN => k_asm); (case zqa => exact Eq.refl ScopeKind.function); (case zqb => exact Eq.refl (some NameKind.local)); k_whole; intro h' tk' F' N'; (try k_sweep)))))
  (k_with "fr" => ((with_reducible rename Fr _ _ _ (fun _ ↦ List.lookup _ _) => zrF9); k_dflt (first | (replace zrF9 : Fr _ _ _ (fun y => List.lookup y [(_, _)]) := zrF9) | (replace zrF9 : Fr _ _ _ (fun y => List.lookup y [(_, _), (_, _)]) := zrF9) | (replace zrF9 : Fr _ _ _ (fun y => List.lookup y [(_, _), (_, _), (_, _)]) := zrF9) | (replace zrF9 : Fr _ _ _ (fun y => List.lookup y [(_, _), (_, _), (_, _), (_, _), (_, _), (_, _)]) := zrF9) | (replace zrF9 : Fr _ _ _ (fun y => List.lookup y [(_, _), (_, _), (_, _), (_, _), (_, _)]) := zrF9) | (replace zrF9 : Fr _ _ _ (fun y => List.lookup y [(_, _), (_, _), (_, _), (_, _)]) := zrF9) | (replace zrF9 : Fr _ _ _ (fun y => List.lookup y [(_, _), (_, _), (_, _), (_, _), (_, _), (_, _), (_, _)]) := zrF9)); (try dsimp only at zrF9)))
  (k_with "z k_handed" => with_reducible assumption)
  (k_with "slc find" => first | exact slc_of hz1 (by k_extra "om") (by k_extra "om") | exact slc_of hz2 (by k_extra "om") (by k_extra "om") | exact slc_of hz3 (by k_extra "om") (by k_extra "om") | exact slc_of hz4 (by k_extra "om") (by k_extra "om") | exact slc_of hz5 (by k_extra "om") (by k_extra "om"))
  (k_with "subscriptTail" => (k_here; (with_reducible show wpAny _ _ (subscriptTail _ (Expr.Slice _ _ none _) (Value.bytes _ _) (Value.ref _)) _ _ _); k_dflt (refine' slice_b (s := ⟨_, _, _, _, _⟩) ?zqF ?zqN ?zqb ?zqS ?zql ?zqh ?zqz (fun d' h' t' k' F' N' hb' => ?_); (case zqF => k_asm); (case zqN => k_asm); (case zqb => with_reducible assumption); (case zqS => k_extra "slc find"); (case zql => k_extra "om"); (case zqh => k_extra "om"); (case zqz => k_extra "om"))))
  (k_with "call ref" => (k_here; (with_reducible show wpAny _ _ (call (Value.ref _) [Value.bytes _ _, Value.str _ _]) _ _ _); k_dflt (refine' from_little ?zqN ?zqm ?zqb ?zqv ?zql (fun t' k' => ?_); (case zqN => k_asm); (case zqm => k_mem); (case zqb => with_reducible assumption); (case zqv => with_reducible assumption); (case zql => k_extra "om"))))
  (k_with "call ref" => (k_here; (with_reducible show wpAny _ _ (call (Value.ref _) [Value.ref _, Value.bytes _ _]) _ _ _); (with_reducible rename DeserOk _ _ _ _ => zrhdes); k_dflt (refine' deser_use zrhdes ?zqb ?zqB ?zqF ?zqX ?zqN ?zqT ?zqk ?zqd ?zqu (fun v' h' tk' P' H' F' N' => ?_); (case zqb => with_reducible assumption); (case zqB => k_asm); (case zqF => k_asm); (case zqX => k_asm); (case zqN => k_asm); (case zqT => k_asm); (case zqk => exact rfl); (case zqd => ktr_room); (case zqu => ktr_units))))
  (k_with "callWith ref" => (k_here; (with_reducible show wpAny _ _ (callWith _ (Value.ref _) _ (backTo _ (starEach (_ :: _) _)) []) _ _ _); kfb_any; k_dflt (refine' KFB.callWith_bound ?zqN ?zqM ?_; (case zqN => k_asm); (case zqM => k_mem); k_whole)))
  trivial
/-- the table of codes made so far at the places of one code -/
def TabOk (ps : Array Value) (rest : List (Addr × Obj)) (qual : Str) : Prop :=
  TriplesOk ps.toList ∧ ∀ pos cv, codeAmong pos ps.toList = some cv → ∃ c' oc vs t, cv = .ref c' ∧ (c', oc) ∈ rest ∧ oc.data = .fields vs ∧ vs[1]? = some (.str qual t)
theorem tabOk_nil (rest : List (Addr × Obj)) (qual : Str) : TabOk #[] rest qual := ⟨True.intro, fun _ _ h => nomatch h⟩
theorem triples_snoc {a b : Int} {t u : Tok} {c : Value} : ∀ (l : List Value), TriplesOk l → TriplesOk (l ++ [.int a t, .int b u, c])
  | [], _ => True.intro
  | .int _ _ :: .int _ _ :: _ :: r, h => triples_snoc (l := r) h
theorem among_snoc {pos q : Pos} {c v : Value} : ∀ (l : List Value), TriplesOk l → codeAmong pos (l ++ [rawInt q.line, rawInt q.col, c]) = some v → codeAmong pos l = some v ∨ v = c
  | [], _, h => by
    simp only [List.nil_append, codeAmong, rawInt] at h
    split at h
    · exact .inr (Option.some.inj h).symm
    · cases h
  | .int a t :: .int b u :: x :: r, ht, h => by
    simp only [List.cons_append, codeAmong] at h ⊢
    split at h
    · rename_i e
      rw [if_pos e]; exact .inl h
    · rename_i e
      rw [if_neg e]
      exact among_snoc r ht h
theorem tabOk_more {ps : Array Value} {rest rest' : List (Addr × Obj)} {qual : Str} (h : TabOk ps rest qual) (hs : ∀ q ∈ rest, q ∈ rest') : TabOk ps rest' qual :=
  ⟨h.1, fun pos cv e => by obtain ⟨c', oc, vs, t, a1, a2, a3, a4⟩ := h.2 pos cv e; exact ⟨c', oc, vs, t, a1, hs _ a2, a3, a4⟩⟩
section
variable {M : Model} {A : Around} {E : Value → Shared → Prop} {s : Shared} {h₀ : Heap} {L a c P : Addr} {m mg mb : Str → Option Value} {cn : Str} {cs : Scope} {ccd : Value} {cl : List (Str × Addr)} {news rest : List (Addr × Obj)} {g : Obj → List (Addr × Obj)}
  {p : Program} {loose : List Str} {mean : ExcName → Option Value} {name qual : Str} {params : Arguments} {body : Expr} {scope : Scope} {ps : Array Value} {pos : Pos} {firstLine : Nat} {clos : List (Str × Addr)}
theorem lam_make {Q : Value → Shared → Prop} (F : Fr h₀ L s.heap m) (N : News h₀ L s.heap news) (T : Top p loose mean mg mb h₀) (C : CodeHd h₀ c P) (hcd : ccd = .ref c) (U : UpdF P (tabObj ps) news g) (O : TabOk ps rest qual) (hsub : ∀ q ∈ rest, q ∈ news)
    (hcl : closureFor scope (envX cn cs L a ccd cl) = pure clos)
    (h : ∀ f c' oc vs t ctv ps' h' tk, Fr h₀ L h' m → News h₀ L h' ((f, kla_obj name qual params body scope clos ((mg "__name__").getD .none) c' ctv) :: (c', oc) :: g (tabObj ps')) →
      TabOk ps' ((c', oc) :: rest) qual → oc.data = .fields vs → vs[1]? = some (.str qual t) → (∀ q ∈ news, q.1 < f) → (∀ k o, (k, o) ∈ news → (∀ q ∈ rest, q.1 ≠ k) → c' ≠ k) → Q (.ref f) { s with heap := h', toks := tk }) :
    wpAny M A (makeFunction name qual params (.expr body) scope (envX cn cs L a ccd cl) [] [] [] pos firstLine) Q E s := by
  cases hq : codeAmong pos ps.toList with
  | none =>
    refine kla_nest F N T C hcd U O.1 hq hcl fun f c' oc vs t ctv h' tk F' N' d1 d2 l1 l2 => ?_
    refine h f c' oc vs t ctv _ h' tk F' N' ⟨by rw [Array.toList_append]; exact triples_snoc _ O.1, fun pos' cv e => ?_⟩ d1 d2 (fun q hq => Nat.lt_trans (l1 q hq) l2) (fun k o hk _ => Nat.ne_of_gt (l1 _ hk))
    rw [Array.toList_append] at e
    rcases among_snoc _ O.1 e with e | e
    · obtain ⟨c₂, oc₂, vs₂, t₂, a1, a2, a3, a4⟩ := O.2 pos' cv e
      exact ⟨c₂, oc₂, vs₂, t₂, a1, List.mem_cons_of_mem _ a2, a3, a4⟩
    · exact ⟨c', oc, vs, t, e, List.mem_cons_self, d1, d2⟩
  | some cv =>
    obtain ⟨c', oc, vs, t, rfl, a2, a3, a4⟩ := O.2 pos cv hq
    obtain ⟨own, post, e1, e2, h1, h2⟩ := U.split
    have hmem : (P, tabObj ps) ∈ news := by rw [e1]; exact List.mem_append_right _ (.head _)
    refine kla_hit F N T C hcd hmem O.1 hq hcl fun f ctv h' tk F' N' l1 => ?_
    have eg : g (tabObj ps) = news := by rw [e2, e1]
    refine h f c' oc vs t ctv ps h' tk F' ?_ (tabOk_more O fun q hq => List.mem_cons_of_mem _ hq) a3 a4 l1 (fun k o _ hk => hk _ a2)
    rw [eg]
    intro q hq
    rcases List.mem_cons.mp hq with rfl | hq
    · exact N' _ (.head _)
    · rcases List.mem_cons.mp hq with rfl | hq
      · exact N' _ (.tail _ (hsub _ a2))
      · exact N' _ (.tail _ hq)
end
theorem callsC_use {w : World} {f : Value} {vs : List Value} {news : List (Addr × Obj)} {dm um : Nat} {Post : Value → List (Addr × Obj) → Prop}
    {p : Program} {loose : List Str} {mean : ExcName → Option Value} {mg mb : Str → Option Value}
    {dp un : Nat} {gd : Option (List Code)} {cn : Str} {cs : Scope} {a : Addr} {ccd : Value} {cl : List (Str × Addr)} {outer : List Env} {A₀ : Around} {base h₀ g₀ : Heap} {L : Addr} {m : Str → Option Value} {s : Shared} {Q E : Value → Shared → Prop}
    (h : CallsC w f vs news dm um Post) (B : Below A₀ base outer h₀) (F : Fr h₀ L s.heap m) (X : (hd.heap_1 w.params).In h₀) (N : News h₀ L s.heap news) (T : Top p loose mean mg mb h₀) (hk : cs.kind = .function)
    (XB : (hd.heap_1 w.params).In base) (TB : Top p loose mean mg mb base) (D : KtsDicts (outer.filterMap (·.frame)) h₀) (T0 : KtsTurn (outer.filterMap (·.frame)) g₀ h₀)
    (hdp : dp + dm < recursionLimit) (hu : un + um < cLine)
    (hret : ∀ (v : Value) (news' : List (Addr × Obj)) (h' : Heap) (tk' : Nat) (h₁ : Heap), KtsTurn (outer.filterMap (·.frame)) g₀ h₁ → Fr h₁ L h' m → News h₁ L h' news' → Below A₀ base outer h₁ → (hd.heap_1 w.params).In h₁ → Top p loose mean mg mb h₁ → KtsDicts (outer.filterMap (·.frame)) h₁ →
      Post v news' → Q v { s with heap := h', toks := tk' }) :
    wpAny (model PySem.Challenge.rw_ke0001_01.row.prog w) (ktrTop dp un gd cn cs L a ccd cl outer) (call f vs) Q E s :=
  h p loose mean mg mb dp un gd cn cs a ccd cl outer A₀ base h₀ L m s Q E B F X N T hk XB TB D hdp hu (fun v news' h' tk' h₁ T1 => hret v news' h' tk' h₁ (T0.trans T1))
/-- a def with cells that calls what catches is entered -/
theorem enter_turnC {prog : Program} {w : World} {A₀ A : Around} {s : Shared} {base h₀ g₀ : Heap} {outer : List Env} {env : Env} {L : Addr} {m : Str → Option Value} {news : List (Addr × Obj)} {K : Frag} {p : Program} {loose : List Str} {mean : ExcName → Option Value} {mg mb : Str → Option Value}
    {R : Result → Shared → Prop} {name qual : Str} {params : Arguments} {body : List Stmt} {scope : Scope} {dV kV doc pm cdv ct oc : Value} {an od : Option Addr} {osl : Array (Option Value)} {f : Addr} {args : Args} {binds : List (Str × Value)}
    (B : Below A₀ base outer h₀) (F : Fr h₀ L s.heap m) (X₀ : K.In h₀) (N : News h₀ L s.heap news) (T : Top p loose mean mg mb h₀) (XB : K.In base) (TB : Top p loose mean mg mb base) (D : KtsDicts (outer.filterMap (·.frame)) h₀)
    (T0 : KtsTurn (outer.filterMap (·.frame)) g₀ h₀) (hA : A.frames = some (env :: outer)) (hf : env.frame = some L) (hke : env.scope.kind = .function)
    (ho : K.lookup f = some ⟨oc, od, .func (fnOf name qual params body scope dV kV doc pm an cdv ct), osl⟩) (hcd : codeIn K cdv qual = true) (hroom : A.depth < recursionLimit)
    (hbind : BindsTo s (fnOf name qual params body scope dV kV doc pm an cdv ct) args binds) (hkind : (binds.all fun y => scope.names.lookup y.1 == some .local || scope.names.lookup y.1 == some .cell) = true)
    (hnd : ((cellsFrom 0 scope.names []).map (·.1)).Nodup)
    (h : ∀ g L' h₁ tk cells, Fr h₀ L g m → Fr g L' h₁ (bindL (envOfC qual scope L' f cdv).kindOf binds fun _ => none) → News g L' h₁ (cells ++ news) →
      CellsAre (bindC (envOfC qual scope L' f cdv).kindOf binds fun _ => none) (cellsFrom (L' + 1) scope.names []) cells → Below A base (env :: outer) g → K.In g → Top p loose mean mg mb g → KtsDicts ((env :: outer).filterMap (·.frame)) g → (∀ p ∈ news, p.1 < L') →
      wpAny (model prog w) (A.deeper (envOfC qual scope L' f cdv)) (execs body (envOfC qual scope L' f cdv))
        (fun fl s' => LeaveS ((env :: outer).filterMap (·.frame)) A₀ base outer K p loose mean mg mb g₀ h₀ L m g R (match fl with | .ret v => v | _ => .none) s')
        (fun e s' => wpAny (model prog w) (A.deeper (envOfC qual scope L' f cdv)) (leaving (envOfC qual scope L' f cdv) e) (fun _ s'' => R (.error e) s'') (fun e' s'' => R (.error e') s'') s')
        { s with heap := h₁, toks := tk })
    (hco : scope.isCoroutine = false) (hgen : scope.isGenerator = false) (hk : scope.kind = .function) : codeAny (model prog w) A (.call (.ref f) args) R s := by
  obtain ⟨FG, BG, st, lv⟩ := groundX (R := R) B F N hA hf hke
  refine codeAny_call_function hroom ((X₀.keeps F.keep) _ _ ho) rfl hco hgen rfl (codeRec_of (X₀.keeps F.keep) hcd) (hbind _ _ _ _ ?_)
  refine wpAny_newFunctionEnv_cells hk (kindsX hkind _) fun env' he s' x => ?_
  subst he
  refine ⟨(T.nolimit.keeps F.keep).keeps x.toInCall.keep, codeAny_func ?_⟩
  obtain ⟨h₁, tk, rfl, _⟩ := x.done
  have hk₁ := x.toInCall.keep
  obtain ⟨cells, NC, Y⟩ := Cl.news (h₀ := s.heap) (Nat.le_refl _) fun n c hm => ⟨x.cell n c (lookup_of_mem_nodup (cellsFrom_names scope.names 0 (s.heap.objs.size + 1) [] [] rfl ▸ hnd) hm), x.above n c hm⟩
  have DG : KtsDicts ((env :: outer).filterMap (·.frame)) (hideAll s.heap (news.map (·.1))) := fun b hb => by
    rcases mem_frames hf hb with z | z
    · obtain ⟨oL, es, ep, hL, hd, _, _⟩ := FG.ns
      rw [z]
      exact ⟨oL, es, ep, hL, hd⟩
    · obtain ⟨o, es, n, ho', hd⟩ := D b z
      exact ⟨o, es, n, st b o ho', hd⟩
  refine wpAny_mono (h _ s.heap.objs.size h₁ tk cells FG ⟨x.toInCall.ns, fun b o e => hk₁ b o (of_hideAll _ e), Nat.le_of_eq (hideAll_size _ _)⟩ (fun p hp => ?_) Y BG (X₀.keeps st) (T.keeps st) DG (fun p hp => Heap.lt_size (N p hp).1)) (fun fl s' hl => ?_) fun _ _ y => y
  · rcases List.mem_append.mp hp with hp | hp
    · refine ⟨(NC p hp).1, (NC p hp).2.1, ?_⟩
      cases q : (hideAll s.heap (news.map (·.1))).get? p.1 with
      | none => rfl
      | some o => have := of_hideAll _ q; rw [(NC p hp).2.2] at this; cases this
    · exact ⟨hk₁ _ _ (N p hp).1, Nat.ne_of_lt (Heap.lt_size (N p hp).1), hideAll_none _ (List.mem_map_of_mem hp)⟩
  · rcases hl with hl | ⟨g', L'', m'', news', T', F', N', k⟩
    · exact lv _ _ hl
    · obtain ⟨h₁', a1, a2, a3, a4, a5, a6, a7⟩ := turn_back B FG hf T' F' N' XB TB D T0
      exact k h₁' a1 a2 a3 a4 a5 a6 a7

end
section
/-- a def is entered, the whole ledger in its ground -/
theorem enter_ground {prog : Program} {w : World} {A₀ A : Around} {s : Shared} {base h₀ : Heap} {outer : List Env} {env : Env} {L : Addr} {m : Str → Option Value} {news : List (Addr × Obj)} {K : Frag} {p : Program} {loose : List Str} {mean : ExcName → Option Value} {mg mb : Str → Option Value}
    {R : Result → Shared → Prop} {name qual : Str} {params : Arguments} {body : List Stmt} {scope : Scope} {dV kV doc pm cdv ct oc : Value} {an od : Option Addr} {osl : Array (Option Value)} {f : Addr} {args : Args} {binds : List (Str × Value)}
    (B : Below A₀ base outer h₀) (F : Fr h₀ L s.heap m) (X₀ : K.In h₀) (N : News h₀ L s.heap news) (T : Top p loose mean mg mb h₀) (hA : A.frames = some (env :: outer)) (hf : env.frame = some L) (hke : env.scope.kind = .function)
    (ho : K.lookup f = some ⟨oc, od, .func (fnOf name qual params body scope dV kV doc pm an cdv ct), osl⟩) (hcd : codeIn K cdv qual = true) (hroom : A.depth < recursionLimit)
    (hbind : BindsTo s (fnOf name qual params body scope dV kV doc pm an cdv ct) args binds) (hloc : ∀ y ∈ binds, scope.names.lookup y.1 = some .local)
    (h : ∀ g L' h₁, Fr h₀ L g m → (∀ q ∈ news, g.get? q.1 = some q.2) → Fr g L' h₁ (fun y => binds.reverse.lookup y) → News g L' h₁ [] → Below A base (env :: outer) g → K.In g → Top p loose mean mg mb g →
      wpAny (model prog w) (A.deeper (envOf qual scope L' f cdv)) (execs body (envOf qual scope L' f cdv))
        (fun fl s' => LeaveK h₀ L m g (fun r s' => News h₀ L s'.heap news → R r s') (match fl with | .ret v => v | _ => .none) s')
        (fun e s' => wpAny (model prog w) (A.deeper (envOf qual scope L' f cdv)) (leaving (envOf qual scope L' f cdv) e) (fun _ s'' => R (.error e) s'') (fun e' s'' => R (.error e') s'') s')
        { s with heap := h₁, toks := s.toks + binds.length })
    (hco : scope.isCoroutine = false) (hgen : scope.isGenerator = false) (hk : scope.kind = .function)
    (hcell : ∀ x ∈ scope.names, x.2 ≠ .cell) : codeAny (model prog w) A (.call (.ref f) args) R s := by
  have X := X₀.keeps F.keep
  obtain ⟨FG, BG, st, lv⟩ := groundX (R := fun r s' => News h₀ L s'.heap news → R r s') (news := []) B F (fun _ h => nomatch h) hA hf hke
  refine codeAny_call_def (fd := fnOf name qual params body scope dV kV doc pm an cdv ct) (body := body) (binds := binds) hroom (X _ _ ho) rfl (T.nolimit.keeps F.keep) (codeRec_of X hcd) rfl hbind hcell hloc (fun h₁ hns hk₁ => ?_) hco hgen hk
  have G : ∀ q ∈ news, (hideAll s.heap (([] : List (Addr × Obj)).map (·.1))).get? q.1 = some q.2 := fun q hq => (N q hq).1
  refine wpAny_mono (h _ s.heap.objs.size h₁ FG G ⟨hns, fun b o e => hk₁ b o (of_hideAll _ e), Nat.le_of_eq (hideAll_size _ _)⟩
    (fun _ h => nomatch h) BG (X₀.keeps st) (T.keeps st)) (fun fl s' hl => ?_) fun _ _ y => y
  obtain ⟨L', m', news', F', N', k⟩ := hl
  exact lv _ _ ⟨L', m', news', F', N', k⟩ fun q hq => ⟨F'.keep _ _ (G q hq), (N q hq).2⟩
theorem lst_ground {g : Heap} {l : Addr} {vs : List Value} {e : Nat} (h : g.get? l = some (listOf vs.toArray e)) : g.IsList l vs.toArray := ⟨_, h, rfl, _, rfl⟩
theorem get_len {l : List Int} {i : Nat} {a : Int} (h : l[i]? = some a) : i < l.length := (List.getElem?_eq_some_iff.mp h).1
theorem get_rng {l : List Int} {i : Nat} {a : Int} (hr : Rng l) (h : l[i]? = some a) : 0 ≤ a ∧ a < 256 := hr a (List.mem_of_getElem? h)
theorem fold_from : ∀ (ns : List Int) (k : Nat) (T : Int), (ns.zipIdx k).foldl (fun (T : Int) (p : Int × Nat) => T + p.1 * 256 ^ ((p.2 : Nat) : Int).toNat) T = T + 256 ^ k * KFB.value ns.reverse
  | [], k, T => by show T = T + 256 ^ k * 0; omega
  | n :: ns, k, T => by
    rw [List.zipIdx_cons, List.foldl_cons, fold_from ns (k + 1)]
    dsimp only
    have e : KFB.value (n :: ns).reverse = KFB.value ns.reverse * 256 + n := by
      rw [List.reverse_cons]
      unfold KFB.value
      rw [List.foldl_append]
      rfl
    rw [e, Int.toNat_natCast, Int.pow_succ, Int.mul_add, Int.mul_comm n, Int.mul_assoc, Int.mul_comm 256]
    omega
theorem fold_value (ns : List Int) : ns.zipIdx.foldl (fun (T : Int) (p : Int × Nat) => T + p.1 * 256 ^ ((p.2 : Nat) : Int).toNat) 0 = KFB.value ns.reverse := by
  rw [fold_from]
  omega
theorem words_p18_num_1 : True := by
  (k_with "binaryOp Pow int int" => (k_here; (have hlt := get_len (by with_reducible assumption)); (with_reducible refine pow_int_small (by k_extra "om") (by k_extra "om") (by decide) ?_)))
  (k_with "binaryOp Mult int int" => (k_here; (have hin := get_rng (by with_reducible assumption) (by with_reducible assumption)); (with_reducible refine mul_int ?_ (IntMulOk.of_left (intBits_le_64 (by k_extra "om") (by k_extra "om"))))))
  trivial
set_option maxHeartbeats 4000000 in
theorem number_calls (w : World) (news : List (Addr × Obj)) (l : Addr) (vs : List Value) (e : Nat) (ns : List Int) (hl : (l, listOf vs.toArray e) ∈ news) (hi : IntsAre vs ns) (hn : ns.length ≤ 5) (hr : Rng ns) :
    Calls w (.ref 376) [.ref l] news 5 200 (fun h₀ L h' v => (∃ t, v = .int (KFB.value ns.reverse) t) ∧ News h₀ L h' news) := by
  unfold Calls
  k_fill
  intro p loose mean mg mb dp un gd cn cs a ccd cl outer A₀ base h₀ L m s Q E B F X N T hk hd hu hret
  obtain ⟨kd, nm, ig, ic, mo⟩ := cs
  cases hk
  refine wpAny_call ?_
  k_dflt (refine' enter_ground ?k1 ?k2 ?k3 ?k4 ?k5 ?kA ?kF ?kK ?k6 ?k7 ?k8 ?k9 ?kB ?_ ?c2 ?c3 ?c4 ?c5)
  (case kA => exact rfl); (case kF => exact rfl); (case kK => exact rfl); (case k1 => k_asm); (case k2 => k_asm); (case k3 => k_asm); (case k4 => k_asm); (case k5 => k_asm); (case k6 => k_is); (case k7 => k_is); (case k8 => k_room); (case k9 => exact BindsTo.of_eq rfl); (case kB => exact locs rfl); (case c2 => exact rfl); (case c3 => exact rfl); (case c4 => exact rfl); (case c5 => decide)
  intro g' L' h' FG' hG F' N' B' X' T'
  have hL := lst_ground (hG _ hl)
  try dsimp only
  try k_fold
  k_steps
  all_goals exact hret _ _ _ (by k_asm) ⟨⟨_, by rw [fold_value]⟩, by with_reducible assumption⟩

end
section
theorem words_19_comp : True := by
  k_with_none
  (k_with "z ktr_units" => ((simp only [units_under_kw, units_in1, units_deeper, Around.mark_units, units_caller, ktrTop, cLine_is] at ⊢); (rename _ < cLine => zrhcU); (rw [cLine_is] at zrhcU); omega))
  (k_with "z ktr_room" => ((simp only [depth_under_kw, depth_in1, depth_deeper, depth_caller, ktrTop] at ⊢); omega))
  (k_with "z ktr_units" => ((rename _ < cLine => zrhcU); first | exact u3 zrhcU rfl | exact u2 zrhcU rfl | exact u4 zrhcU rfl | exact u5 zrhcU rfl | exact u1 zrhcU))
  (k_with "z ktr_room" => ((rename _ < recursionLimit => zrhcD); first | exact u2 zrhcD rfl | exact u3 zrhcD rfl | exact u4 zrhcD rfl | exact u5 zrhcD rfl | exact u1 zrhcD))
  (k_with "z k_room" => ktr_room)
  (k_with "z k_units" => ktr_units)
  (k_with "z k_mem" => ((show @Membership.mem (Addr × Obj) (List (Addr × Obj)) _ _ _); with_reducible assumption))
  (k_with "om0" => ((repeat (with_reducible rename _ ≠ _ ∧ _ => zrhz; clear zrhz)); (repeat (with_reducible rename (_ ≠ _ ∧ _) ∧ _ => zrhz; clear zrhz)); omega))
  (k_with "bd1" => first | decide | (with_reducible first | apply om_b1 | apply om_b2 | apply om_b3 | apply om_b4 | apply om_b5 | apply om_b6 | apply om_b7 | apply om_bs | apply om_bt | apply om_bz | apply om_bt4 | apply om_b2t | apply om_bm | (apply om_bq; assumption) | refine om_bl (by assumption) ?_ | refine om_be (by assumption) ?_ | (apply om_bk; assumption; decide) | (apply om_bv; assumption; decide)))
  (k_with "bd" => (k_whole; (with_reducible first | (apply om_b0; rotate_left; with_unfolding_all rfl) | (apply om_b0l; rotate_left; with_unfolding_all rfl)); (repeat' k_extra "bd1"); done))
  (k_with "five" => first | assumption | exact om_lk5 (by assumption) | exact om_lt5 (by assumption) | exact Nat.le_trans (by assumption) (om_lk5 (by assumption)) | exact Nat.le_trans (by assumption) (om_lt5 (by assumption)))
  (k_with "om1" => first | rfl | assumption | exact And.left (by assumption) | exact And.right (by assumption) | ((show @LE.le Int _ _ _); first | apply Int.natCast_nonneg | (apply om_sub_nn; assumption) | (apply om_sa0; assumption) | (apply Int.le_of_lt; apply om_lp2) | (apply Int.le_add_of_nonneg_right; first | assumption | apply Int.natCast_nonneg)) | ((show @LE.le Nat _ _ _); apply Nat.le_of_lt; assumption) | ((show @LT.lt Int _ _ _); apply om_lp2) | ((show @LT.lt Nat _ _ _); first | (apply om_posD; assumption) | (apply om_posF; assumption)) | ((show @Eq Nat _ _); first | apply tns | apply tn0 | (apply castD; assumption) | (apply castF; assumption)))
  (k_with "om2" => first | decide | ((show @LE.le Nat _ _ _); first | exact Nat.le_trans (by assumption) (by decide) | exact om_be (by assumption) (by decide) | (apply om_bq4; assumption; rfl) | (apply om_kbt; assumption; k_extra "five") | (apply om_kmt <;> assumption)) | ((show @LE.le Int _ _ _); first | (apply Int.le_add_of_nonneg_right; decide) | (apply om_ic 5; k_extra "five"; decide) | (apply om_sub_le0; apply om_ic 5; k_extra "five"; decide) | (apply om_sub0_le; apply om_ic 5; k_extra "five"; decide) | (apply om_sa4; k_extra "five") | (refine Int.le_trans (om_kb (by assumption) (by k_extra "five")) (by decide)) | (apply om_kb1; assumption; k_extra "five") | (apply om_kb2; assumption; k_extra "five") | (apply om_km <;> assumption)) | ((show @Eq Int _ _); first | (apply om_lnO; assumption) | (apply om_lnI <;> assumption) | (apply om_lnF; assumption)) | ((show @LT.lt Int _ _ _); first | (apply om_icl 5; k_extra "five"; decide) | exact Int.lt_of_lt_of_le (by decide) (And.left (by assumption)) | exact Int.lt_trans (And.right (by assumption)) (by decide)))
  (k_with "nn" => ((show @LE.le Int _ _ _); apply Int.add_nonneg; (repeat' first | apply Int.natCast_nonneg | assumption | decide | apply Int.add_nonneg); done))
  (k_with "om" => first | (k_whole; with_reducible k_extra "om1") | (k_whole; with_reducible k_extra "om2") | (k_whole; with_reducible k_extra "nn") | k_extra "bd" | k_extra "om0")
  (k_with "z kba_size" => k_extra "bd")
  (k_with "fold" => (refine' let_A ?_; intro qa; k_fold))
  (k_with "ite" => first | refine ite_dpos (by assumption) ?_ | refine ite_dneg (by first | assumption | (apply Int.not_lt.mpr; assumption) | (apply Int.not_le.mpr; assumption)) ?_)
  (k_with "z kcf_bnd" => first | (k_whole; with_reducible k_extra "om1") | (k_whole; with_reducible k_extra "om2") | (k_whole; with_reducible k_extra "nn") | k_extra "bd")
  (k_with "gl" => with_reducible (first | exact glUSEDKEYLENGTHBYTES _ | exact glUSEDVALUELENGTHBYTES _ | exact glPAGEREFERENCEBYTES _ | exact glENDIAN _ | exact glRecord _ | exact glReference _ | exact gllawlow _ | exact gllawkey _ | exact gllawparts _ | exact gllawpages _ | exact gllawdone _ | exact gllawnumber _ | exact gllawsigns _ | exact glTreeConf _ | exact glStrSerializer _ | exact glIntSerializer _ | exact gllawrecord _ | exact gllawreference _ | exact gllawread _ | exact gllaworder _))
  (k_with "gb" => with_reducible (first | exact glint _ | exact gllen _ | exact glbytes _ | exact glisinstance _ | exact glrange _ | exact glenumerate _ | exact gltuple _ | exact gltype _))
  (k_with "eval Name" => (k_here; k_dflt (first | (refine' nameX_L ?zqF ?zqv ?_ ?zqa ?zqb; (case zqF => k_asm); (case zqa => exact Eq.refl ScopeKind.function); (case zqb => exact Eq.refl (some NameKind.local)); (case zqv => exact Eq.refl (some _)); k_whole) | (refine' name_top ?zqg ?zqF ?zqX ?zqT ?zqa ?zqb ?_; (case zqX => k_asm); (case zqg => k_extra "gl"); (case zqF => k_asm); (case zqT => k_asm); (case zqa => exact Eq.refl ScopeKind.function); (case zqb => exact Eq.refl (some NameKind.globalImplicit)); k_whole) | (refine' name_boot ?zqg ?zqF ?zqX ?zqT ?zqa ?zqb ?_; (case zqX => k_asm); (case zqg => k_extra "gb"); (case zqF => k_asm); (case zqT => k_asm); (case zqa => exact Eq.refl ScopeKind.function); (case zqb => exact Eq.refl (some NameKind.globalImplicit)); k_whole))))
  (k_with "callWith ref" => (k_here; k_dflt (first | (refine' callWith_K ?zqk1 ?zqk2 ?_; (case zqk1 => k_asm); (case zqk2 => k_extra "kp"); k_whole) | (refine' callWith_K0 ?zqk1 ?zqk2 ?_; (case zqk1 => first | with_reducible assumption | exact Frag.In.keeps (by with_reducible assumption) (Fr.keep (by with_reducible assumption)) | k_in); (case zqk2 => k_extra "kp"); k_whole) | (refine' callWith_M0 ?zqk1 ?zqk2 ?_; (case zqk1 => k_meth); (case zqk2 => k_extra "kp"); k_whole; (try dsimp only [List.nil_append, List.cons_append])) | (refine' callWith_M ?zqk1 ?zqk2 ?zqk3 ?zqk4 ?_; (case zqk1 => k_asm); (case zqk2 => k_asm); (case zqk3 => k_mem); (case zqk4 => k_is); k_whole) | (refine' callWith_KW ?zqk1 ?zqk2 ?zqk3 ?_; (case zqk1 => k_asm); (case zqk2 => k_extra "kp"); (case zqk3 => exact rfl); k_whole) | (refine' callWith_KW0 ?zqk1 ?zqk2 ?zqk3 ?_; (case zqk1 => k_asm); (case zqk2 => k_extra "kp"); (case zqk3 => exact rfl); k_whole))))
  (k_with "getMethod type:int" => (k_here; (with_reducible refine' KFB.getm ?zqkfbF ?zqkfbN ?zqkfbX ?zqkfbE ?_); k_dflt ((case zqkfbF => k_asm); (case zqkfbN => k_asm); (case zqkfbX => k_asm); (case zqkfbE => exact from_bytes_at _); k_whole; intro x' h' F' N' l1; (try k_lt l1); (try k_sweep))))
  (k_with "kp" => first | with_reducible assumption | (with_reducible first | exact kp232 _ | exact kp273 _ | exact kp355 _ | exact kp369 _ | exact kp376 _ | exact kp381 _ | exact kp388 _ | exact kp395 _ | exact kp400 _ | exact kp407 _ | exact kp412 _ | exact kp419 _ | exact kp141 _ | exact kp346 _ | exact kp320 _) | k_is)
  (k_with "getAttr ref" => (k_here; (with_reducible show wpAny _ _ (getAttr (Value.ref _) (PySem.Str.ofString "key_size") _) _ _ _); k_dflt (refine' conf_attr (And.left (get_conf _ _ _ _ _ _ _ _ _ _ ?zqm)) ?zqm2 ?zqc1 ?zqc3 ?zqB ?zqF ?zqX ?zqN ?zqT ?zqk ?zqd ?zqu ?zqp ?zqp2 ?zqp3 ?zqf2 ?zqf3 ?zqf4 ?zqhh ?_; (case zqN => k_asm); (case zqm => k_mem); (case zqm2 => k_mem); (case zqc1 => exact rfl); (case zqc3 => exact rfl); (case zqB => k_asm); (case zqF => k_asm); (case zqX => k_asm); (case zqT => k_asm); (case zqk => exact rfl); (case zqd => ktr_room); (case zqu => ktr_units); (case zqp => k_is); (case zqp2 => k_is); (case zqp3 => k_is); (case zqf2 => k_is); (case zqf3 => k_is); (case zqf4 => k_is); (case zqhh => exact rfl); k_whole; intro h' tk' F' N'; (try k_sweep))))
  (k_with "getAttr ref" => (k_here; (with_reducible show wpAny _ _ (getAttr (Value.ref _) (PySem.Str.ofString "value_size") _) _ _ _); k_dflt (refine' conf_attr (And.left (And.right (get_conf _ _ _ _ _ _ _ _ _ _ ?zqm))) ?zqm2 ?zqc1 ?zqc3 ?zqB ?zqF ?zqX ?zqN ?zqT ?zqk ?zqd ?zqu ?zqp ?zqp2 ?zqp3 ?zqf2 ?zqf3 ?zqf4 ?zqhh ?_; (case zqN => k_asm); (case zqm => k_mem); (case zqm2 => k_mem); (case zqc1 => exact rfl); (case zqc3 => exact rfl); (case zqB => k_asm); (case zqF => k_asm); (case zqX => k_asm); (case zqT => k_asm); (case zqk => exact rfl); (case zqd => ktr_room); (case zqu => ktr_units); (case zqp => k_is); (case zqp2 => k_is); (case zqp3 => k_is); (case zqf2 => k_is); (case zqf3 => k_is); (case zqf4 => k_is); (case zqhh => exact rfl); k_whole; intro h' tk' F' N'; (try k_sweep))))
  (k_with "getAttr ref" => (k_here; (with_reducible show wpAny _ _ (getAttr (Value.ref _) (PySem.Str.ofString "serializer") _) _ _ _); k_dflt (refine' conf_attr (And.right (And.right (get_conf _ _ _ _ _ _ _ _ _ _ ?zqm))) ?zqm2 ?zqc1 ?zqc3 ?zqB ?zqF ?zqX ?zqN ?zqT ?zqk ?zqd ?zqu ?zqp ?zqp2 ?zqp3 ?zqf2 ?zqf3 ?zqf4 ?zqhh ?_; (case zqN => k_asm); (case zqm => k_mem); (case zqm2 => k_mem); (case zqc1 => exact rfl); (case zqc3 => exact rfl); (case zqB => k_asm); (case zqF => k_asm); (case zqX => k_asm); (case zqT => k_asm); (case zqk => exact rfl); (case zqd => ktr_room); (case zqu => ktr_units); (case zqp => k_is); (case zqp2 => k_is); (case zqp3 => k_is); (case zqf2 => k_is); (case zqf3 => k_is); (case zqf4 => k_is); (case zqhh => exact rfl); k_whole; intro h' tk' F' N'; (try k_sweep))))
  (k_with "ne" => first | (with_reducible assumption) | (exact Nat.ne_of_lt (by with_reducible assumption)) | (exact Nat.ne_of_gt (by with_reducible assumption)) | (exact Ne.symm (by with_reducible assumption)) | (exact allNe_mem2 (by with_reducible assumption) (by k_mem)) | (exact Ne.symm (allNe_mem2 (by with_reducible assumption) (by k_mem))) | (exact ng0 (by with_reducible assumption)) | (exact nl0 (by with_reducible assumption)) | (exact ng1 (by with_reducible assumption)) | (exact nl1 (by with_reducible assumption)) | (exact fg1 (by with_reducible assumption)) | (exact fl1 (by with_reducible assumption)) | (exact ng2 (by with_reducible assumption)) | (exact nl2 (by with_reducible assumption)) | (exact fg2 (by with_reducible assumption)) | (exact fl2 (by with_reducible assumption)) | (exact ng3 (by with_reducible assumption)) | (exact nl3 (by with_reducible assumption)) | (exact fg3 (by with_reducible assumption)) | (exact fl3 (by with_reducible assumption)) | (exact ng4 (by with_reducible assumption)) | (exact nl4 (by with_reducible assumption)) | (exact fg4 (by with_reducible assumption)) | (exact fl4 (by with_reducible assumption)) | (exact ng5 (by with_reducible assumption)) | (exact nl5 (by with_reducible assumption)) | (exact fg5 (by with_reducible assumption)) | (exact fl5 (by with_reducible assumption)) | (exact ng6 (by with_reducible assumption)) | (exact nl6 (by with_reducible assumption)) | (exact fg6 (by with_reducible assumption)) | (exact fl6 (by with_reducible assumption)) | (exact ng7 (by with_reducible assumption)) | (exact nl7 (by with_reducible assumption)) | (exact fg7 (by with_reducible assumption)) | (exact fl7 (by with_reducible assumption)) | (exact ng8 (by with_reducible assumption)) | (exact nl8 (by with_reducible assumption)) | (exact fg8 (by with_reducible assumption)) | (exact fl8 (by with_reducible assumption)) | (exact ng9 (by with_reducible assumption)) | (exact nl9 (by with_reducible assumption)) | (exact fg9 (by with_reducible assumption)) | (exact fl9 (by with_reducible assumption)) | (exact ng10 (by with_reducible assumption)) | (exact nl10 (by with_reducible assumption)) | (exact fg10 (by with_reducible assumption)) | (exact fl10 (by with_reducible assumption)) | (exact ng11 (by with_reducible assumption)) | (exact nl11 (by with_reducible assumption)) | (exact fg11 (by with_reducible assumption)) | (exact fl11 (by with_reducible assumption)) | (exact ng12 (by with_reducible assumption)) | (exact nl12 (by with_reducible assumption)) | (exact fg12 (by with_reducible assumption)) | (exact fl12 (by with_reducible assumption)) | (exact ng13 (by with_reducible assumption)) | (exact nl13 (by with_reducible assumption)) | (exact fg13 (by with_reducible assumption)) | (exact fl13 (by with_reducible assumption)) | (exact na0 (by with_reducible assumption)) | (exact nb0 (by with_reducible assumption)) | (exact na1 (by with_reducible assumption)) | (exact nb1 (by with_reducible assumption)) | (exact na2 (by with_reducible assumption)) | (exact nb2 (by with_reducible assumption)) | (exact na3 (by with_reducible assumption)) | (exact nb3 (by with_reducible assumption)) | (exact na4 (by with_reducible assumption)) | (exact nb4 (by with_reducible assumption)) | (exact na5 (by with_reducible assumption)) | (exact nb5 (by with_reducible assumption)) | (exact na6 (by with_reducible assumption)) | (exact nb6 (by with_reducible assumption)) | (exact na7 (by with_reducible assumption)) | (exact nb7 (by with_reducible assumption)) | (exact na8 (by with_reducible assumption)) | (exact nb8 (by with_reducible assumption)) | (exact na9 (by with_reducible assumption)) | (exact nb9 (by with_reducible assumption)) | (exact oi1) | (exact os1) | (exact ok1 (by with_reducible assumption)) | (exact oc1 (by with_reducible assumption)) | (exact oi2) | (exact os2) | (exact ok2 (by with_reducible assumption)) | (exact oc2 (by with_reducible assumption)) | (exact oi3) | (exact os3) | (exact ok3 (by with_reducible assumption)) | (exact oc3 (by with_reducible assumption)) | (exact oi4) | (exact os4) | (exact ok4 (by with_reducible assumption)) | (exact oc4 (by with_reducible assumption)) | (exact oi5) | (exact os5) | (exact ok5 (by with_reducible assumption)) | (exact oc5 (by with_reducible assumption)) | (exact news_ne (by k_asm) (by k_mem) (by k_mem) (by intro e; cases e)))
  (k_with "z k_ne" => (refine neN ?_; (try dsimp only); k_extra "ne"))
  (k_with "z k_all" => first | exact allNe_mem (by with_reducible assumption) | exact allNe_of_lt (by with_reducible assumption) | with_reducible assumption)
  (k_with "call ref" => (k_here; (with_reducible show wpAny _ _ (call (Value.ref 369) [Value.int _ _, Value.int _ _]) _ _ _); k_dflt (first | (refine' calls_use (low_calls _ _ _ _ _ 2 (by decide)) ?zqB ?zqF ?zqX ?zqN ?zqT ?zqk ?zqd ?zqu ?_; (case zqB => k_asm); (case zqF => k_asm); (case zqX => k_asm); (case zqN => k_asm); (case zqT => k_asm); (case zqk => exact rfl); (case zqd => ktr_room); (case zqu => ktr_units); k_whole) | (refine' calls_use (low_calls _ _ _ _ _ 4 (by decide)) ?zqB ?zqF ?zqX ?zqN ?zqT ?zqk ?zqd ?zqu ?_; (case zqB => k_asm); (case zqF => k_asm); (case zqX => k_asm); (case zqN => k_asm); (case zqT => k_asm); (case zqk => exact rfl); (case zqd => ktr_room); (case zqu => ktr_units); k_whole) | (refine' calls_use (low_calls _ _ _ _ _ _ ?zqn) ?zqB ?zqF ?zqX ?zqN ?zqT ?zqk ?zqd ?zqu ?_; (case zqB => k_asm); (case zqF => k_asm); (case zqX => k_asm); (case zqN => k_asm); (case zqT => k_asm); (case zqk => exact rfl); (case zqd => ktr_room); (case zqu => ktr_units); (case zqn => k_extra "om"); k_whole)); intro v' h' tk' F' P'; obtain ⟨l', vs', hv', N', hI', hO'⟩ := P'; subst hv'; (replace hO' := allNe_of hO'); (try dsimp only); (try k_fold)))
  (k_with "call builtin:len" => (k_here; (with_reducible show wpAny _ _ (call (Value.builtin "len") [Value.ref _]) _ _ _); k_dflt (refine' len_ints ?zqN ?zqm ?zqi ?zqf ?_; (case zqN => k_asm); (case zqm => k_mem); (case zqi => with_reducible assumption); (case zqf => ((try simp only [List.length_append, List.length_replicate, KTBy.little_length]); k_extra "om")); k_whole)))
  (k_with "binaryOp Add ref ref" => (k_here; (with_reducible show wpAny _ _ (binaryOp Operator.Add (Value.ref _) (Value.ref _)) _ _ _); k_dflt (refine' add_ints ?zqF ?zqN ?zqa ?zqb ?zqi ?zqj ?zqf ?_; (case zqF => k_asm); (case zqN => k_asm); (case zqa => k_mem); (case zqb => k_mem); (case zqi => with_reducible assumption); (case zqj => with_reducible assumption); (case zqf => ((try simp only [List.length_append, List.length_replicate, KTBy.little_length]); k_extra "om")); k_whole; intro l' us' h' F' N' I' l1; (try k_lt l1); (try k_sweep))))
  (k_with "binaryOp Mult ref int" => (k_here; (with_reducible show wpAny _ _ (binaryOp Operator.Mult (Value.ref _) (Value.int _ _)) _ _ _); k_dflt (refine' mul_ints ?zqF ?zqN ?zqa ?zqg ?zqf ?_; (case zqF => k_asm); (case zqN => k_asm); (case zqa => k_mem); (case zqg => k_extra "om"); (case zqf => k_extra "om"); k_whole; intro l' us' h' F' N' I' l1; (try k_lt l1); (try k_sweep))))
  (k_with "call ref" => (k_here; (with_reducible show wpAny _ _ (call (Value.ref 388) [Value.ref _, Value.ref _]) _ _ _); k_dflt ((refine' calls_use (parts_calls _ _ _ _ _ _ _ _ _ _ ?zqm ?zqz _ _ _ _ ?zql ?zqi ?zqe) ?zqB ?zqF ?zqX ?zqN ?zqT ?zqk ?zqd ?zqu ?_; (case zqB => k_asm); (case zqF => k_asm); (case zqX => k_asm); (case zqN => k_asm); (case zqT => k_asm); (case zqk => exact rfl); (case zqd => ktr_room); (case zqu => ktr_units); (case zqm => k_mem); (case zql => k_mem); (case zqi => with_reducible assumption); (case zqz => k_extra "om"); (case zqe => ((try simp only [List.length_append, List.length_replicate, KTBy.little_length]); k_extra "om")); k_whole)); intro v' h' tk' F' P'; obtain ⟨l', vs', e', hv', N', hI', hO'⟩ := P'; subst hv'; (replace hO' := allNe_of hO'); (try dsimp only); (try k_fold)))
  (k_with "call builtin:int.to_bytes" => (k_here; (with_reducible show wpAny _ _ (call (Value.builtin "int.to_bytes") [Value.int _ _, Value.int _ _, Value.str _ _]) _ _ _); k_dflt (first | (refine' to_bytes_in (k := 2) (B := 65536) ?zqh1 ?zqh2 ?zqh3 ?zqh4 (fun b' t' k' hb' => ?_); (case zqh1 => decide); (case zqh2 => decide); (case zqh3 => k_extra "om"); (case zqh4 => k_extra "om")) | (refine' to_bytes_in (k := 4) (B := 4294967296) ?zqh1 ?zqh2 ?zqh3 ?zqh4 (fun b' t' k' hb' => ?_); (case zqh1 => decide); (case zqh2 => decide); (case zqh3 => k_extra "om"); (case zqh4 => k_extra "om")) | (refine' to_bytes_all (k := 2) rfl ?zqh (fun hx0 hx1 b' t' k' hb' => ?_) (fun hx h' tk' e' hn' => ?_); (case zqh => decide)) | (refine' to_bytes_all (k := 4) rfl ?zqh (fun hx0 hx1 b' t' k' hb' => ?_) (fun hx h' tk' e' hn' => ?_); (case zqh => decide)) | (refine' to_bytes_all rfl ?zqh (fun hx0 hx1 b' t' k' hb' => ?_) (fun hx h' tk' e' hn' => ?_); (case zqh => k_extra "om")))))
  (k_with "leaving ref" => (k_here; k_dflt (refine' leave_newS ?zqk1 ?zqk0 ?zqk2 ?zqk3 ?_; (case zqk0 => assumption); (case zqk1 => assumption); (case zqk2 => assumption); (case zqk3 => k_asm); k_whole; intro h' R' Rn' U')))
  (k_with "getMethod str" => (k_here; (with_reducible refine encode_method ?_)))
  (k_with "callWith" => (k_here; (with_reducible show wpAny _ _ (callWith _ (Value.builtin _) _ (backTo _ (starEach [] _)) (backToKw _ (keywordEach (_ :: _) _))) _ _ _); k_dflt (refine callWith_kwN ?_)))
  (k_with "call builtin:str.encode" => (k_here; k_dflt (refine' encode_call ?zqhe ?zqhz ?_; (case zqhe => assumption); (case zqhz => assumption); k_whole; intro t' k')))
  (k_with "call builtin:bytes.decode" => (k_here; k_dflt (first | (refine' decode_kw ?zqhd ?zqhe ?zqhz ?_; (case zqhd => assumption); (case zqhe => assumption); (case zqhz => assumption); k_whole; intro t' k') | (refine' decode_ascii ?zqhd ?zqhe ?zqhz ?_; (case zqhd => assumption); (case zqhe => assumption); (case zqhz => assumption); k_whole; intro t' k'))))
  (k_with "binaryOp Add bytes bytes" => (k_here; (with_reducible show wpAny _ _ (binaryOp Operator.Add (Value.bytes _ _) (Value.bytes _ _)) _ _ _); k_dflt (refine' add_b ?zqb ?zqc ?zqz (fun d' t' k' hb' => ?_); (case zqb => first | with_reducible assumption | exact bints_nil); (case zqc => first | with_reducible assumption | exact bints_nil); (case zqz => ((try simp only [List.length_append, List.length_replicate, KTBy.little_length, List.length_cons, List.length_nil]); k_extra "om")))))
  (k_with "call type:bytes" => (k_here; (with_reducible show wpAny _ _ (call (Value.type "bytes") [Value.int _ _]) _ _ _); k_dflt (refine' zeros_call ?zqa ?zqb (fun d' t' k' hb' => ?_); (case zqa => k_extra "om"); (case zqb => k_extra "om"))))
  (k_with "call type:bytes" => (k_here; (with_reducible show wpAny _ _ (call (Value.type "bytes") [Value.ref _]) _ _ _); k_dflt (refine' bytes_of_list rfl ?zqF ?zqN ?zql ?zqi ?zqr ?zqz (fun d' t' k' h' F' N' hb' => ?_); (case zqF => k_asm); (case zqN => k_asm); (case zql => k_mem); (case zqi => with_reducible assumption); (case zqz => ((try simp only [List.length_append, List.length_replicate, KTBy.little_length, List.length_cons, List.length_nil]); k_extra "om")); (case zqr => (repeat' (first | with_reducible assumption | exact rng_little _ _ | exact rng_zeros _ | exact rng_nil | refine rng_app ?_ ?_ | refine rng_cons ⟨by k_extra "om", by k_extra "om"⟩ ?_))))))
  (k_with "call builtin:len" => (k_here; (with_reducible show wpAny _ _ (call (Value.builtin "len") [Value.bytes #[] _]) _ _ _); (with_reducible refine len_nil ?_)))
  (k_with "leaving ref" => (k_here; k_dflt (refine' leave_onE ?zqhf ?zqB ?zqF ?zqR ?zqU ?_; (case zqhf => exact rfl); (case zqR => first | with_reducible assumption | assumption); (case zqB => assumption); (case zqU => assumption); (case zqF => assumption); k_whole; intro h' R' U')))
  (k_with "storeName" => (k_here; k_dflt (first | (refine' store_gi ?zqF ?zqN ?zqa ?zqb ?_; (case zqF => k_asm); (case zqN => k_asm); (case zqa => exact Eq.refl ScopeKind.function); (case zqb => exact Eq.refl (some NameKind.local)); k_whole; intro h' tk' ti' F' N'; (try k_sweep)) | (refine' store_g ?zqF ?zqN ?zqa ?zqb ?_; (case zqF => k_asm); (case zqN => k_asm); (case zqa => exact Eq.refl ScopeKind.function); (case zqb => exact Eq.refl (some NameKind.local)); k_whole; intro h' tk' F' N'; (try k_sweep)))))
  (k_with "fr" => ((with_reducible rename Fr _ _ _ (fun _ ↦ List.lookup _ _) => zrF9); k_dflt (first | (replace zrF9 : Fr _ _ _ (fun y => List.lookup y [(_, _)]) := zrF9) | (replace zrF9 : Fr _ _ _ (fun y => List.lookup y [(_, _), (_, _)]) := zrF9) | (replace zrF9 : Fr _ _ _ (fun y => List.lookup y [(_, _), (_, _), (_, _)]) := zrF9) | (replace zrF9 : Fr _ _ _ (fun y => List.lookup y [(_, _), (_, _), (_, _), (_, _), (_, _), (_, _)]) := zrF9) | (replace zrF9 : Fr _ _ _ (fun y => List.lookup y [(_, _), (_, _), (_, _), (_, _), (_, _)]) := zrF9) | (replace zrF9 : Fr _ _ _ (fun y => List.lookup y [(_, _), (_, _), (_, _), (_, _)]) := zrF9) | (replace zrF9 : Fr _ _ _ (fun y => List.lookup y [(_, _), (_, _), (_, _), (_, _), (_, _), (_, _), (_, _)]) := zrF9)); (try dsimp only at zrF9)))
  (k_with "z k_handed" => with_reducible assumption)
  (k_with "slc find" => first | exact slc_of hz1 (by k_extra "om") (by k_extra "om") | exact slc_of hz2 (by k_extra "om") (by k_extra "om") | exact slc_of hz3 (by k_extra "om") (by k_extra "om") | exact slc_of hz4 (by k_extra "om") (by k_extra "om") | exact slc_of hz5 (by k_extra "om") (by k_extra "om"))
  (k_with "subscriptTail" => (k_here; (with_reducible show wpAny _ _ (subscriptTail _ (Expr.Slice _ _ none _) (Value.bytes _ _) (Value.ref _)) _ _ _); k_dflt (refine' slice_b (s := ⟨_, _, _, _, _⟩) ?zqF ?zqN ?zqb ?zqS ?zql ?zqh ?zqz (fun d' h' t' k' F' N' hb' => ?_); (case zqF => k_asm); (case zqN => k_asm); (case zqb => with_reducible assumption); (case zqS => k_extra "slc find"); (case zql => k_extra "om"); (case zqh => k_extra "om"); (case zqz => k_extra "om"))))
  (k_with "call ref" => (k_here; (with_reducible show wpAny _ _ (call (Value.ref _) [Value.bytes _ _, Value.str _ _]) _ _ _); k_dflt (refine' from_little ?zqN ?zqm ?zqb ?zqv ?zql (fun t' k' => ?_); (case zqN => k_asm); (case zqm => k_mem); (case zqb => with_reducible assumption); (case zqv => with_reducible assumption); (case zql => k_extra "om"))))
  (k_with "call ref" => (k_here; (with_reducible show wpAny _ _ (call (Value.ref _) [Value.ref _, Value.bytes _ _]) _ _ _); (with_reducible rename DeserOk _ _ _ _ => zrhdes); k_dflt (refine' deser_use zrhdes ?zqb ?zqB ?zqF ?zqX ?zqN ?zqT ?zqk ?zqd ?zqu (fun v' h' tk' P' H' F' N' => ?_); (case zqb => with_reducible assumption); (case zqB => k_asm); (case zqF => k_asm); (case zqX => k_asm); (case zqN => k_asm); (case zqT => k_asm); (case zqk => exact rfl); (case zqd => ktr_room); (case zqu => ktr_units))))
  (k_with "callWith ref" => (k_here; (with_reducible show wpAny _ _ (callWith _ (Value.ref _) _ (backTo _ (starEach (_ :: _) _)) []) _ _ _); kfb_any; k_dflt (refine' KFB.callWith_bound ?zqN ?zqM ?_; (case zqN => k_asm); (case zqM => k_mem); k_whole)))
  trivial
section
open PyProof.Rows.LCg
variable {prog : Program} {w : World} {A : Around} {E : Value → Shared → Prop} {R : Result → Shared → Prop} {s : Shared}
/-- the outer loop of a list display over pairs, whatever its turn adds -/
theorem outer_gen {elt : Expr} {gens : List Comprehension} {scope : Scope} {pos : Pos} {BODY : Sem Fin} {x1 x2 : Str} {p1 p2 tp p0 : Pos} {tk0} {I D ax : Addr} {cenv : Env} {H0 : Heap} {items : Array Value} {out : Value → List Value} {m : Str → Option Value}
    (turnEq : compTurn (.ListComp elt gens scope pos) 0 (.ref I) (.ref D) cenv = (standAt p0 >>= fun _ => pyNext (.ref I) >>= fun r => match r with
      | none => pure (.done .next)
      | some v => letOwnedTupleGo (.Tuple [.Name x1 p1, .Name x2 p2] tk0 tp) (.ref I) v >>= fun _ => assign (.Tuple [.Name x1 p1, .Name x2 p2] tk0 tp) cenv v >>= fun _ => BODY))
    (hh : A.handled = none) (hx1 : cenv.kindOf x1 = some .local) (hx2 : cenv.kindOf x2 = some .local) (hxx : x1 ≠ x2) (hsc : (cenv.scope.kind == .class || (cenv.scope.kind == .module && cenv.locals != cenv.globals)) = false)
    (hI0 : H0.get? I = none) (hC0 : H0.get? cenv.locals = none) (hID : I ≠ D) (hIC : I ≠ cenv.locals) (hDC : D ≠ cenv.locals)
    (hkeep : ∀ b o, H0.get? b = some o → s.heap.get? b = some o) (hl : H0.IsList ax items) (hit : s.heap.IsListIter I ax 0) (hD : s.heap.get? D = some (lst [])) (hn : s.heap.Ns cenv.locals m)
    (hitem : ∀ v ∈ items, ∃ t a b, v = .ref t ∧ IsTup H0 t #[a, b] ∧ ∀ (s' : Shared) (m' : Str → Option Value) (ys : List Value) (E' : Value → Shared → Prop), (∃ h tk, s' = { s with heap := h, toks := tk }) → (∀ b o, H0.get? b = some o → s'.heap.get? b = some o) →
      s'.heap.Ns cenv.locals m' → m' x1 = some a → m' x2 = some b → s'.heap.get? D = some (lst ys) → ys.length ≤ 100 →
      wpAny (model prog w) A BODY (fun f s'' => f = .again (.compLoop (.ListComp elt gens scope pos) 0 (.ref I) (.ref D) cenv) ∧ ∃ h tk m'', s'' = { s with heap := h, toks := tk } ∧ (∀ b o, H0.get? b = some o → h.get? b = some o) ∧ (∀ j, s'.heap.IsListIter I ax j → h.IsListIter I ax j) ∧ h.Ns cenv.locals m'' ∧ h.get? D = some (lst (ys ++ out v))) E' s')
    (hout : ∀ v, (out v).length ≤ 10) (hsz : items.size ≤ 10)
    (hR : ∀ h' tk m', h'.Ns cenv.locals m' → h'.get? D = some (lst (items.toList.flatMap out)) → (∀ b o, H0.get? b = some o → h'.get? b = some o) → R (.ok .next) { s with heap := h', toks := tk }) :
    codeAny (model prog w) A (.compLoop (.ListComp elt gens scope pos) 0 (.ref I) (.ref D) cenv) R s := by
  have hlen : ∀ j, ((items.toList.take j).flatMap out).length ≤ 10 * j := by
    intro j
    induction j with
    | zero => simp
    | succ j ih =>
      rw [List.take_add_one, List.flatMap_append, List.length_append]
      have : (List.flatMap out (items.toList[j]?.toList)).length ≤ 10 := by
        cases hv : items.toList[j]? with
        | none => exact Nat.zero_le _
        | some v =>
          show (List.flatMap out [v]).length ≤ 10
          rw [List.flatMap_cons, List.flatMap_nil, List.append_nil]
          exact hout v
      omega
  refine codeAny_loop rfl (fun k s' => ∃ h' tk m' j, s' = { s with heap := h', toks := tk } ∧ k = items.size + 1 - j ∧ j ≤ items.size ∧ h'.IsListIter I ax j ∧ h'.get? D = some (lst ((items.toList.take j).flatMap out)) ∧ h'.Ns cenv.locals m' ∧ ∀ b o, H0.get? b = some o → h'.get? b = some o)
    ?_ (items.size + 1) ⟨s.heap, s.toks, m, 0, rfl, rfl, Nat.zero_le _, hit, hD, hn, hkeep⟩
  rintro k s' ⟨h', tk, m', j, rfl, rfl, hj, hit', hD', hn', hk⟩
  show wpAny _ A ((compTurn (.ListComp elt gens scope pos) 0 (.ref I) (.ref D) cenv).onRaise (fun x => do noteFrame x cenv; theTreesLotGoes x)) _ _ _
  refine wpAny_noted ?_
  rw [turnEq]
  refine wpAny_bind (wpAny_standAt (wpAny_bind ?_))
  have hl' : h'.IsList ax items := by obtain ⟨o, e, r⟩ := hl; exact ⟨o, hk _ _ e, r⟩
  cases hv : items[j]? with
  | none =>
    have hje : items.size ≤ j := by simpa using hv
    refine wpAny_pyNext_list_end hh hit' hl' hv fun h₁ he₁ => wpAny_pure ?_
    have e : items.toList.take j = items.toList := List.take_of_length_le (by simpa using hje)
    rw [e] at hD'
    exact hR h₁ tk m' (hn'.extBut he₁ (Ne.symm hIC)) (he₁ _ _ (Ne.symm hID) hD') fun b o q => he₁ b o (fun z => by rw [z, hI0] at q; cases q) (hk b o q)
  | some v =>
    have hjs : j < items.size := by
      by_cases hc : j < items.size
      · exact hc
      · rw [Array.getElem?_eq_none (by k_extra "om")] at hv; cases hv
    have hmem : v ∈ items := by
      rw [Array.mem_def]
      exact List.mem_of_getElem? (by rw [Array.getElem?_toList]; exact hv)
    obtain ⟨t, a, b, rfl, ht, hb⟩ := hitem v hmem
    refine wpAny_pyNext_list_item hit' hl' hv fun h₁ hit₁ hs₁ => ?_
    have k1 : ∀ b o, H0.get? b = some o → h₁.get? b = some o := fun b o q => (hs₁.2 b fun z => by rw [z, hI0] at q; cases q).trans (hk b o q)
    refine wpAny_bind (wpAny_letOwnedTupleGo_listiter hit₁ ?_)
    refine wpAny_bind (assign_Tuple_tuple hh (ht.keeps k1) rfl rfl fun h₂ he₂ => ?_)
    have he' : ∀ b o, h₁.get? b = some o → h₂.get? b = some o := fun b o e => he₂ b o (Nat.ne_of_lt (Heap.lt_size e)) e
    have hn₁ : h₁.Ns cenv.locals m' := hn'.at' fun o e => (hs₁.2 _ (Ne.symm hIC)).trans e
    refine assignInOrder_cons (wpAny_assign_Name (wpAny_storeName_local hx1 (hn₁.at' fun o e => he' _ o e) (fun h₃ hn₃ hs₃ => ?_) hsc))
    refine assignInOrder_cons (wpAny_assign_Name (wpAny_storeName_local hx2 hn₃ (fun h₄ hn₄ hs₄ => ?_) hsc))
    refine assignInOrder_nil ?_
    have old : ∀ b o, b ≠ cenv.locals → h₁.get? b = some o → h₄.get? b = some o := fun b o hb e => hs₄.extBut b o hb (hs₃.extBut b o hb (he' b o e))
    have hD₁ : h₁.get? D = some (lst ((items.toList.take j).flatMap out)) := (hs₁.2 _ (Ne.symm hID)).trans hD'
    have hit₄ : h₄.IsListIter I ax (j + 1) := by obtain ⟨o, e, r⟩ := hit₁; exact ⟨o, old _ _ hIC e, r⟩
    have hlt := hlen j
    refine wpAny_mono (hb _ _ ((items.toList.take j).flatMap out) _ ⟨h₄, _, rfl⟩ (fun b o q => old b o (fun z => by rw [z, hC0] at q; cases q) (k1 b o q)) hn₄ (by simp [hxx]) (by simp) (old _ _ hDC hD₁) (by k_extra "om")) (fun f s'' hq => ?_) fun _ _ e => e
    obtain ⟨rfl, h, tk', m'', rfl, kk, ki, kn, kD⟩ := hq
    refine ⟨rfl, items.size + 1 - (j + 1), by k_extra "om", h, tk', m'', j + 1, rfl, rfl, hjs, ki _ hit₄, ?_, kn, kk⟩
    rw [kD, List.take_add_one, List.flatMap_append, Array.getElem?_toList, hv]
    simp
theorem compTurn_in (elt iter1 : Expr) (g0 : Comprehension) (x : Str) (px : Pos) (scope : Scope) (pos : Pos) (it acc : Value) (env : Env) :
    compTurn (.ListComp elt [g0, ⟨.Name x px, iter1, [], 0⟩] scope pos) 1 it acc env = (standAt iter1.pos >>= fun _ => pyNext it >>= fun r => match r with
      | none => pure (.done .next)
      | some v => letOwnedTupleGo (.Name x px) it v >>= fun _ => assign (.Name x px) env v >>= fun _ =>
        (eval elt env >>= fun x => call (.builtin "list.append") [acc, x] >>= fun _ => pure ()) >>= fun _ =>
          again (.compLoop (.ListComp elt [g0, ⟨.Name x px, iter1, [], 0⟩] scope pos) 1 it acc env)) := by rfl
theorem compTurn_out (elt iter0 iter1 target0 target1 : Expr) (scope : Scope) (pos : Pos) (it acc : Value) (env : Env) :
    compTurn (.ListComp elt [⟨target0, iter0, [], 0⟩, ⟨target1, iter1, [], 0⟩] scope pos) 0 it acc env = (standAt iter0.pos >>= fun _ => pyNext it >>= fun r => match r with
      | none => pure (.done .next)
      | some v => letOwnedTupleGo target0 it v >>= fun _ => assign target0 env v >>= fun _ =>
        eval iter1 env >>= fun x => standAt iter1.pos >>= fun _ => foldedSetIterable iter1 env x >>= fun x => holding [x] (pyIter x) >>= fun it1 => runOwn (.compStart (.ListComp elt [⟨target0, iter0, [], 0⟩, ⟨target1, iter1, [], 0⟩] scope pos) 1 it1 acc env) env >>= fun _ =>
          again (.compLoop (.ListComp elt [⟨target0, iter0, [], 0⟩, ⟨target1, iter1, [], 0⟩] scope pos) 0 it acc env)) := by rfl
theorem inner_loop {x : Str} {pe px : Pos} {g0 : Comprehension} {iter1 : Expr} {scope : Scope} {pos : Pos} {J D pl : Addr} {cenv : Env} {its : Array Value} {ys : List Value} {m : Str → Option Value}
    (hh : A.handled = none) (hx : cenv.kindOf x = some .local) (hk : cenv.scope.kind = .function) (hsc : (cenv.scope.kind == .class || (cenv.scope.kind == .module && cenv.locals != cenv.globals)) = false) (hxd : (x == ("__debug__" : Str)) = false)
    (hJD : J ≠ D) (hJC : J ≠ cenv.locals) (hDC : D ≠ cenv.locals) (hpJ : pl ≠ J) (hpC : pl ≠ cenv.locals) (hpD : pl ≠ D)
    (hl : s.heap.IsList pl its) (hit : s.heap.IsListIter J pl 0) (hD : s.heap.get? D = some (lst ys)) (hn : s.heap.Ns cenv.locals m) (hsz : its.size ≤ 10) (hys : ys.length ≤ 200)
    (hR : ∀ h' tk m', h'.Ns cenv.locals m' → h'.get? D = some (lst (ys ++ its.toList)) → (∀ b o, b ≠ cenv.locals → b ≠ J → b ≠ D → s.heap.get? b = some o → h'.get? b = some o) → R (.ok .next) { s with heap := h', toks := tk }) :
    codeAny (model prog w) A (.compLoop (.ListComp (.Name x pe) [g0, ⟨.Name x px, iter1, [], 0⟩] scope pos) 1 (.ref J) (.ref D) cenv) R s := by
  refine codeAny_loop rfl (fun k s' => ∃ h' tk m' j, s' = { s with heap := h', toks := tk } ∧ k = its.size + 1 - j ∧ j ≤ its.size ∧ h'.IsListIter J pl j ∧ h'.get? D = some (lst (ys ++ its.toList.take j)) ∧ h'.Ns cenv.locals m' ∧ ∀ b o, b ≠ cenv.locals → b ≠ J → b ≠ D → s.heap.get? b = some o → h'.get? b = some o)
    ?_ (its.size + 1) ⟨s.heap, s.toks, m, 0, rfl, rfl, Nat.zero_le _, hit, by rw [List.take_zero, List.append_nil]; exact hD, hn, fun _ _ _ _ _ e => e⟩
  rintro k s' ⟨h', tk, m', j, rfl, rfl, hj, hit', hD', hn', hkp⟩
  show wpAny _ A ((compTurn (.ListComp (.Name x pe) [g0, ⟨.Name x px, iter1, [], 0⟩] scope pos) 1 (.ref J) (.ref D) cenv).onRaise (fun x => do noteFrame x cenv; theTreesLotGoes x)) _ _ _
  refine wpAny_noted ?_
  rw [compTurn_in]
  refine wpAny_bind (wpAny_standAt (wpAny_bind ?_))
  have hl' : h'.IsList pl its := by obtain ⟨o, e, r⟩ := hl; exact ⟨o, hkp _ _ hpC hpJ hpD e, r⟩
  cases hv : its[j]? with
  | none =>
    have hje : its.size ≤ j := by simpa using hv
    refine wpAny_pyNext_list_end hh hit' hl' hv fun h₁ he₁ => wpAny_pure ?_
    have e : its.toList.take j = its.toList := List.take_of_length_le (by simpa using hje)
    rw [e] at hD'
    exact hR h₁ tk m' (hn'.extBut he₁ (Ne.symm hJC)) (he₁ _ _ (Ne.symm hJD) hD') fun b o q1 q2 q3 q => he₁ b o q2 (hkp b o q1 q2 q3 q)
  | some v =>
    have hjs : j < its.size := by
      by_cases hc : j < its.size
      · exact hc
      · rw [Array.getElem?_eq_none (by k_extra "om")] at hv; cases hv
    refine wpAny_pyNext_list_item hit' hl' hv fun h₁ hit₁ hs₁ => ?_
    refine wpAny_bind (wpAny_of_eq (a := ()) rfl ?_)
    have hn₁ : h₁.Ns cenv.locals m' := hn'.at' fun o e => (hs₁.2 _ (Ne.symm hJC)).trans e
    refine wpAny_bind (wpAny_assign_Name (wpAny_storeName_local hx hn₁ (fun h₂ hn₂ hs₂ => ?_) hsc))
    have hD₂ : h₂.get? D = some (lst (ys ++ its.toList.take j)) := hs₂.extBut _ _ hDC ((hs₁.2 _ (Ne.symm hJD)).trans hD')
    refine wpAny_bind (wpAny_bind (wpAny_Name (wpAny_loadName_local hk hx hn₂ (by simp; rfl) (wpAny_bind ?_)) hxd))
    refine append_at hD₂ (fun h₃ hs₃ hD₃ => wpAny_pure (wpAny_pure ⟨rfl, its.size + 1 - (j + 1), by k_extra "om", h₃, _, _, j + 1, rfl, rfl, hjs, ?_, ?_, hn₂.at' fun o e => (hs₃.2 _ (Ne.symm hDC)).trans e, fun b o q1 q2 q3 q => ?_⟩)) (by
      rw [List.size_toArray, List.length_append, List.length_take, sizeLine_eq]; omega)
    · obtain ⟨o, e, r⟩ := hit₁
      exact ⟨o, hs₃.extBut _ _ hJD (hs₂.extBut _ _ hJC e), r⟩
    · rw [hD₃, lst_snoc, List.take_add_one, Array.getElem?_toList, hv, List.append_assoc]
      rfl
    · exact hs₃.extBut _ _ q3 (hs₂.extBut _ _ q1 ((hs₁.2 _ q2).trans (hkp b o q1 q2 q3 q)))
theorem codeAny_compStart_in {elt iter1 : Expr} {x : Str} {px : Pos} {g0 : Comprehension} {scope : Scope} {pos : Pos} {it acc : Value} {env : Env}
    (h0 : codeAny (model prog w) A (.compLoop (.ListComp elt [g0, ⟨.Name x px, iter1, [], 0⟩] scope pos) 1 it acc env) R s)
    (h : wpAny (model prog w) A (pyIter it) (fun it' s' => codeAny (model prog w) A (.compLoop (.ListComp elt [g0, ⟨.Name x px, iter1, [], 0⟩] scope pos) 1 it' acc env) R s')
      (notedBy (model prog w) A env fun x s' => R (.error x) s') s) :
    codeAny (model prog w) A (.compStart (.ListComp elt [g0, ⟨.Name x px, iter1, [], 0⟩] scope pos) 1 it acc env) R s := by
  refine codeAny_of_tree ?_
  show wpAny _ _ ((compStart (.ListComp elt [g0, ⟨.Name x px, iter1, [], 0⟩] scope pos) 1 it acc env).onRaise (fun x => do noteFrame x env; standAt theWindowsPlace)) _ _ s
  refine wpAny_notedAt ?_
  unfold compStart
  show wpAny _ _ (ask >>= _) _ _ s
  refine wpAny_bind (wpAny_askSetting (wpAny_ite ?_))
  split
  · first
      | exact wpAny_bind (wpAny_pure (wpAny_pure (And.intro rfl h0)))
      | exact wpAny_pure (And.intro rfl h0)
  · first
      | exact wpAny_bind (wpAny_rule (wpAny_bind (wpAny_standAt (wpAny_bind (wpAny_mono h (fun it' s' h' => wpAny_pure (And.intro rfl h')) fun _ _ x => x)))))
      | (refine wpAny_bind (wpAny_rule ?_); show wpAny _ _ (standAt iter1.pos >>= _) _ _ s; exact wpAny_bind (wpAny_standAt (wpAny_bind (wpAny_mono h (fun it' s' h' => wpAny_pure (And.intro rfl h')) fun _ _ x => x))))

/-- what a turn of the display over pairs has to do -/
def PairTurn (prog : Program) (w : World) (A : Around) (s : Shared) (e : Expr) (scope : Scope) (cl : List (Str × Addr)) (env : Env) (BODY : Addr → Addr → Env → Sem Fin) (x1 x2 : Str) (ax : Addr) (out : Value → List Value) (v : Value) : Prop :=
  ∃ t a b, v = .ref t ∧ IsTup s.heap t #[a, b] ∧ ∀ (I D C : Addr) (s' : Shared) (m' : Str → Option Value) (ys : List Value) (E' : Value → Shared → Prop), s.heap.get? I = none → s.heap.get? D = none → s.heap.get? C = none → I ≠ D → I ≠ C → D ≠ C →
    (∃ h tk, s' = { s with heap := h, toks := tk }) → (∀ b o, s.heap.get? b = some o → s'.heap.get? b = some o) →
    s'.heap.Ns C m' → m' x1 = some a → m' x2 = some b → s'.heap.get? D = some (lst ys) → ys.length ≤ 100 →
    wpAny (model prog w) A (BODY I D (compEnvC scope cl C env)) (fun f s'' => f = .again (.compLoop e 0 (.ref I) (.ref D) (compEnvC scope cl C env)) ∧ ∃ h tk m'', s'' = { s with heap := h, toks := tk } ∧ (∀ b o, s.heap.get? b = some o → h.get? b = some o) ∧ (∀ j, s'.heap.IsListIter I ax j → h.IsListIter I ax j) ∧ h.Ns C m'' ∧ h.get? D = some (lst (ys ++ out v))) E' s'
theorem nest_block {elt iter : Expr} {rest : List Comprehension} {scope : Scope} {cl : List (Str × Addr)} {pos : Pos} {BODY : Addr → Addr → Env → Sem Fin} {x1 x2 : Str} {p1 p2 tp p0 : Pos} {tk0} {ax : Addr} {env : Env} {items : Array Value} {out : Value → List Value} {RR : Value → Addr → Result → Shared → Prop}
    (turnEq : ∀ I D cenv, compTurn (.ListComp elt (⟨.Tuple [.Name x1 p1, .Name x2 p2] tk0 tp, iter, [], 0⟩ :: rest) scope pos) 0 (.ref I) (.ref D) cenv = (standAt p0 >>= fun _ => pyNext (.ref I) >>= fun r => match r with
      | none => pure (.done .next)
      | some v => letOwnedTupleGo (.Tuple [.Name x1 p1, .Name x2 p2] tk0 tp) (.ref I) v >>= fun _ => assign (.Tuple [.Name x1 p1, .Name x2 p2] tk0 tp) cenv v >>= fun _ => BODY I D cenv))
    (hh : A.handled = none) (hcell : ∀ y ∈ scope.names, y.2 ≠ .cell) (hkind : scope.kind = .function) (hx1 : scope.names.lookup x1 = some .local) (hx2 : scope.names.lookup x2 = some .local) (hxx : x1 ≠ x2)
    (hl : s.heap.IsList ax items)
    (hitem : ∀ v ∈ items, PairTurn prog w A s (.ListComp elt (⟨.Tuple [.Name x1 p1, .Name x2 p2] tk0 tp, iter, [], 0⟩ :: rest) scope pos) scope cl env BODY x1 x2 ax out v)
    (hout : ∀ v, (out v).length ≤ 10) (hsz : items.size ≤ 10)
    (hRR : ∀ D C h tk m', (∀ b o, s.heap.get? b = some o → h.get? b = some o) → h.Ns C m' → h.get? D = some (lst (items.toList.flatMap out)) → s.heap.get? C = none → s.heap.get? D = none → C ≠ D → s.heap.objs.size ≤ C → s.heap.objs.size ≤ D → RR (.ref D) C (.ok .next) { s with heap := h, toks := tk }) :
    wpAny (model prog w) A (newList []) (fun acc s₃ => wpAny (model prog w) A (newFunctionEnv scope env.globals cl [] env.qual none .none (some env)) (fun cenv s₄ =>
      codeAny (model prog w) A (.compStart (.ListComp elt (⟨.Tuple [.Name x1 p1, .Name x2 p2] tk0 tp, iter, [], 0⟩ :: rest) scope pos) 0 (.ref s.heap.objs.size) acc { cenv with scope := relabel scope env }) (RR acc cenv.locals) s₄) E s₃) E { s with heap := s.heap.push { cls := .type "list_iterator", data := .fields #[.ref ax, .int 0 0] } } := by
  refine wpAny_newObj_type (wpAny_newFunctionEnv hcell (by intro y hy; simp at hy) (fun h₁ hns₁ hsb₁ => ?_) hkind)
  dsimp only at hns₁ hsb₁ ⊢
  generalize hH1 : s.heap.push { cls := .type "list_iterator", data := .fields #[.ref ax, .int 0 0] } = H1 at hns₁ hsb₁ ⊢
  generalize hH2 : H1.push { cls := .type "list", dict := none, data := .seq ([] : List Value).toArray } = H2 at hns₁ hsb₁ ⊢
  have hD : H1.objs.size = s.heap.objs.size + 1 := by rw [← hH1, Heap.size_push]
  have hC : H2.objs.size = s.heap.objs.size + 2 := by rw [← hH2, Heap.size_push, hD]
  have fresh : ∀ a, s.heap.objs.size ≤ a → s.heap.get? a = none := fun a ha => by
    cases e : s.heap.get? a with
    | none => rfl
    | some o' => exact absurd (Heap.lt_size e) (Nat.not_lt.mpr ha)
  have hID : s.heap.objs.size ≠ H1.objs.size := by rw [hD]; exact Nat.ne_of_lt (Nat.lt_succ_self _)
  have hIC : s.heap.objs.size ≠ H2.objs.size := by rw [hC]; exact Nat.ne_of_lt (Nat.lt_succ_of_lt (Nat.lt_succ_self _))
  have hDC : H1.objs.size ≠ H2.objs.size := by rw [hC, hD]; exact Nat.ne_of_lt (Nat.lt_succ_self _)
  have up1 : ∀ b o, H1.get? b = some o → H2.get? b = some o := fun b o e => by rw [← hH2]; exact Heap.get?_push_of_some _ e
  have up0 : ∀ b o, s.heap.get? b = some o → H1.get? b = some o := fun b o e => by rw [← hH1]; exact Heap.get?_push_of_some _ e
  have old : ∀ b o, H2.get? b = some o → h₁.get? b = some o := fun b o e => hsb₁.extBut b o (Nat.ne_of_lt (Heap.lt_size e)) (Heap.get?_push_of_some _ e)
  have hI1 : H1.get? s.heap.objs.size = some { cls := .type "list_iterator", data := .fields #[.ref ax, .int 0 0] } := by rw [← hH1]; exact Heap.get?_push_size _ rfl
  have hD2 : H2.get? H1.objs.size = some (lst []) := by rw [← hH2]; exact Heap.get?_push_size _ rfl
  have hit : h₁.IsListIter s.heap.objs.size ax 0 := ⟨_, old _ _ (up1 _ _ hI1), rfl, rfl⟩
  have loop : ∀ s₃ : Shared, s₃ = { s with heap := h₁, toks := s.toks + ([] : List (Str × Value)).length } →
      codeAny (model prog w) A (.compLoop (.ListComp elt (⟨.Tuple [.Name x1 p1, .Name x2 p2] tk0 tp, iter, [], 0⟩ :: rest) scope pos) 0 (.ref s.heap.objs.size) (.ref H1.objs.size) (compEnvC scope cl H2.objs.size env))
        (RR (.ref H1.objs.size) H2.objs.size) s₃ := by
    rintro s₃ rfl
    refine outer_gen (H0 := s.heap) (out := out) (cenv := compEnvC scope cl H2.objs.size env) (turnEq _ _ _) hh (lookup_relabel_local hx1) (lookup_relabel_local hx2) hxx (by simp [compEnvC, relabel, hkind]) (fresh _ (Nat.le_refl _)) (fresh H2.objs.size (by rw [hC]; omega)) hID hIC hDC
      (fun b o e => old _ _ (up1 _ _ (up0 _ _ e))) hl hit (old _ _ hD2) hns₁ (fun v hv => ?_) hout hsz (fun h' tk m' hn' hD' hk' => hRR _ _ h' tk m' hk' hn' hD' (fresh _ (by rw [hC]; omega)) (fresh _ (by rw [hD]; omega)) (Ne.symm hDC) (by rw [hC]; omega) (by rw [hD]; omega))
    obtain ⟨t, a, b, e, ht, hb⟩ := hitem v hv
    refine ⟨t, a, b, e, ht, fun s' m' ys E' hs hk hn h1 h2 hD' hy => ?_⟩
    exact hb _ _ _ s' m' ys E' (fresh _ (Nat.le_refl _)) (fresh _ (by rw [hD]; omega)) (fresh H2.objs.size (by rw [hC]; omega)) hID hIC hDC hs hk hn h1 h2 hD' hy
  exact codeAny_compStart_list (loop _ rfl) (wpAny_pyIter_listiter hit (loop _ rfl))

theorem fr_fresh {h₀ h h' : Heap} {L : Addr} {m : Str → Option Value} (F : Fr h₀ L h m) (hk : ∀ b o, h.get? b = some o → h'.get? b = some o) : Fr h₀ L h' m := F.keeps hk
/-- `[sign for sign, _ in signs]` -/
theorem comp_first {iter : Expr} {scope : Scope} {cl : List (Str × Addr)} {pos : Pos} {x1 x2 : Str} {pe p1 p2 tp : Pos} {tk0} {ax : Addr} {env : Env} {items : Array Value} {out : Value → List Value} {h₀ : Heap} {L : Addr} {m : Str → Option Value} {news : List (Addr × Obj)} {Q : Value → Shared → Prop}
    (F : Fr h₀ L s.heap m) (N : News h₀ L s.heap news) (hl : s.heap.IsList ax items) (hh : A.handled = none)
    (hclos : closureFor scope env = pure cl) (hcell : ∀ y ∈ scope.names, y.2 ≠ .cell) (hkind : scope.kind = .function) (hnames : ∀ y ∈ scope.names, y.2 = .local → scope.names.lookup y.1 = some .local)
    (hx1 : scope.names.lookup x1 = some .local) (hx2 : scope.names.lookup x2 = some .local) (hxx : x1 ≠ x2) (hxd : (x1 == ("__debug__" : Str)) = false)
    (hitem : ∀ v ∈ items, ∃ t a b, v = .ref t ∧ IsTup s.heap t #[a, b] ∧ out v = [a]) (hout : ∀ v, (out v).length ≤ 10) (hsz : items.size ≤ 10)
    (hev : wpAny (model prog w) A (eval iter env) (fun v s' => v = .ref ax ∧ s' = s) E s)
    (hQ : ∀ D h' tk, Fr h₀ L h' m → News h₀ L h' ((D, lst (items.toList.flatMap out)) :: news) → (∀ q ∈ news, q.1 < D) → Q (.ref D) { s with heap := h', toks := tk })
    (hs : ∀ x, foldedSetIterable iter env x = pure x := by intro _; rfl) :
    wpAny (model prog w) A (eval (.ListComp (.Name x1 pe) [⟨.Tuple [.Name x1 p1, .Name x2 p2] tk0 tp, iter, [], 0⟩] scope pos) env) Q E s := by
  rw [eval_ListComp]
  refine wpAny_comprehension_free (use := none) rfl hs hclos hkind hnames (wpAny_mono hev (fun xv s₁ h₁ => ?_) fun _ _ e => e)
  obtain ⟨rfl, rfl⟩ := h₁
  refine wpAny_pyIter_list hl ?_
  refine nest_block (BODY := fun I D cenv => (eval (.Name x1 pe) cenv >>= fun x => call (.builtin "list.append") [.ref D, x] >>= fun _ => pure ()) >>= fun _ => again (.compLoop (.ListComp (.Name x1 pe) [⟨.Tuple [.Name x1 p1, .Name x2 p2] tk0 tp, iter, [], 0⟩] scope pos) 0 (.ref I) (.ref D) cenv)) (out := out)
    (fun I D cenv => compTurn_list1 _ _ _ _ _ _ _ _) hh hcell hkind hx1 hx2 hxx hl (fun v hv => ?_) hout hsz (fun D C h tk m' hk hn hD hC0 hD0 hCD hCs hDs => ⟨m', hn, fun h'' hs'' => ?_⟩)
  · obtain ⟨t, a, b, e, ht, ho⟩ := hitem v hv
    refine ⟨t, a, b, e, ht, fun I D C s' m' ys E' hI0 hD0 hC0 hID hIC hDC ⟨h, tk, hs'⟩ hk hn h1 h2 hD hy => ?_⟩
    subst hs'
    refine wpAny_bind (wpAny_bind (wpAny_Name (wpAny_loadName_local (by simpa [compEnvC, relabel] using hkind) (lookup_relabel_local hx1) hn h1 (wpAny_bind ?_)) hxd))
    refine append_at hD (fun h₃ hs₃ hD₃ => wpAny_pure (wpAny_pure ⟨rfl, h₃, _, m', rfl, fun b o q => (hs₃.2 b fun z => by rw [z, hD0] at q; cases q).trans (hk b o q), fun j hj => ?_, hn.at' fun o e => (hs₃.2 _ (Ne.symm hDC)).trans e, ?_⟩)) (by rw [List.size_toArray, sizeLine_eq]; omega)
    · obtain ⟨o, e, r⟩ := hj
      exact ⟨o, (hs₃.2 _ hID).trans e, r⟩
    · rw [hD₃, lst_snoc, ho]
  · have hk'' : ∀ b o, s₁.heap.get? b = some o → h''.get? b = some o := fun b o q => hs''.extBut b o (fun z => by rw [z, hC0] at q; cases q) (hk b o q)
    refine hQ D h'' tk (F.keeps hk'') (fun q hq => ?_) (fun q hq => Nat.lt_of_lt_of_le (Heap.lt_size (N q hq).1) hDs)
    rcases List.mem_cons.mp hq with rfl | hq
    · refine ⟨hs''.extBut _ _ (Ne.symm hCD) hD, fun z => ?_, ?_⟩
      · have := F.ns.lt; rw [← z] at this; exact absurd hDs (Nat.not_le.mpr this)
      · cases q : h₀.get? D with
        | none => rfl
        | some o => have := F.keep _ _ q; rw [hD0] at this; cases this
    · exact ⟨hk'' _ _ (N q hq).1, (N q hq).2⟩

/-- `y = [z for _, part in signs for z in part]` -/
theorem assign_nested {iter : Expr} {scope : Scope} {cl : List (Str × Addr)} {pos spos : Pos} {x1 x2 z y : Str} {pe p1 p2 p3 pz py tp : Pos} {tk0} {ax : Addr} {env : Env} {items : Array Value} {out : Value → List Value} {h₀ : Heap} {m : Str → Option Value} {news : List (Addr × Obj)} {Q : Flow → Shared → Prop}
    (F : Fr h₀ env.locals s.heap m) (N : News h₀ env.locals s.heap news) (hl : s.heap.IsList ax items) (hh : A.handled = none)
    (hsw : swapsWith (.ListComp (.Name z pe) [⟨.Tuple [.Name x1 p1, .Name x2 p2] tk0 tp, iter, [], 0⟩, ⟨.Name z pz, .Name x2 p3, [], 0⟩] scope pos) (some (.Name y py)) spos.line env = pure true)
    (hclos : closureFor scope env = pure cl) (hcell : ∀ y ∈ scope.names, y.2 ≠ .cell) (hkind : scope.kind = .function) (hnames : ∀ y ∈ scope.names, y.2 = .local → scope.names.lookup y.1 = some .local)
    (hx1 : scope.names.lookup x1 = some .local) (hx2 : scope.names.lookup x2 = some .local) (hz : scope.names.lookup z = some .local) (hxx : x1 ≠ x2) (hxd : (x2 == ("__debug__" : Str)) = false) (hzd : (z == ("__debug__" : Str)) = false)
    (hy : env.kindOf y = some .local) (hp : (env.scope.kind == .class || (env.scope.kind == .module && env.locals != env.globals)) = false)
    (hitem : ∀ v ∈ items, ∃ t a pl its, v = .ref t ∧ IsTup s.heap t #[a, .ref pl] ∧ s.heap.IsList pl its ∧ its.size ≤ 10 ∧ out v = its.toList) (hout : ∀ v, (out v).length ≤ 10) (hsz : items.size ≤ 10)
    (hev : wpAny (model prog w) A (eval iter env) (fun v s' => v = .ref ax ∧ s' = s) E s)
    (hQ : ∀ D h' tk, Fr h₀ env.locals h' (fun u => if u = y then some (.ref D) else m u) → News h₀ env.locals h' ((D, lst (items.toList.flatMap out)) :: news) → (∀ q ∈ news, q.1 < D) → Q .next { s with heap := h', toks := tk })
    (hs : ∀ x, foldedSetIterable iter env x = pure x := by intro _; rfl) :
    wpAny (model prog w) A (exec (.Assign [.Name y py] (.ListComp (.Name z pe) [⟨.Tuple [.Name x1 p1, .Name x2 p2] tk0 tp, iter, [], 0⟩, ⟨.Name z pz, .Name x2 p3, [], 0⟩] scope pos) spos) env) Q E s := by
  rw [exec_Assign_Name_used _ _ _ _ hsw]
  refine wpAny_bind (wpAny_standAt (wpAny_bind ?_))
  show wpAny _ A (do let _ ← comprehension (.ListComp (.Name z pe) [⟨.Tuple [.Name x1 p1, .Name x2 p2] tk0 tp, iter, [], 0⟩, ⟨.Name z pz, .Name x2 p3, [], 0⟩] scope pos) scope env _ (newList []) false (eval iter env) (some (assign (.Name y py) env))) _ _ s
  refine wpAny_bind (wpAny_mono (wpAny_comprehension_free (use := some (assign (.Name y py) env)) (Q := fun _ s' => Q .next s') rfl hs hclos hkind hnames
    (wpAny_mono hev (fun xv s₁ h₁ => ?_) fun _ _ e => e)) (fun _ s' hq => wpAny_pure (wpAny_pure hq)) fun _ _ e => e)
  obtain ⟨rfl, rfl⟩ := h₁
  refine wpAny_pyIter_list hl ?_
  refine nest_block (BODY := fun I D cenv => eval (.Name x2 p3) cenv >>= fun x => standAt (Expr.Name x2 p3).pos >>= fun _ => foldedSetIterable (.Name x2 p3) cenv x >>= fun x => holding [x] (pyIter x) >>= fun it1 => runOwn (.compStart (.ListComp (.Name z pe) [⟨.Tuple [.Name x1 p1, .Name x2 p2] tk0 tp, iter, [], 0⟩, ⟨.Name z pz, .Name x2 p3, [], 0⟩] scope pos) 1 it1 (.ref D) cenv) cenv >>= fun _ => again (.compLoop (.ListComp (.Name z pe) [⟨.Tuple [.Name x1 p1, .Name x2 p2] tk0 tp, iter, [], 0⟩, ⟨.Name z pz, .Name x2 p3, [], 0⟩] scope pos) 0 (.ref I) (.ref D) cenv)) (out := out)
    (fun I D cenv => compTurn_out _ _ _ _ _ _ _ _ _ _) hh hcell hkind hx1 hx2 hxx hl (fun v hv => ?_) hout hsz (fun D C h tk m' hk hn hD hC0 hD0 hCD hCs hDs => ?_)
  · obtain ⟨t, a, pl, its, e, ht, hpl, hps, ho⟩ := hitem v hv
    refine ⟨t, a, _, e, ht, fun I D C s' m' ys E' hI0 hD0 hC0 hID hIC hDC ⟨h, tk, hs'⟩ hk hn h1 h2 hD hy' => ?_⟩
    subst hs'
    have hkf : (compEnvC scope cl C env).scope.kind = .function := by simpa [compEnvC, relabel] using hkind
    have hpl' : h.IsList pl its := by obtain ⟨o, e, r⟩ := hpl; exact ⟨o, hk _ _ e, r⟩
    have hplt : ∃ o, s₁.heap.get? pl = some o := by obtain ⟨o, e, r⟩ := hpl; exact ⟨o, e⟩
    obtain ⟨opl, eopl⟩ := hplt
    refine wpAny_bind (wpAny_Name (wpAny_loadName_local hkf (lookup_relabel_local hx2) hn h2 ?_) hxd)
    refine wpAny_bind (wpAny_standAt (wpAny_bind (wpAny_of_eq (a := .ref pl) rfl (wpAny_bind (wpAny_holding (wpAny_pyIter_list hpl' ?_))))))
    have hDlt : D < h.objs.size := Heap.lt_size hD
    have hClt : C < h.objs.size := hn.lt
    have up : ∀ b o, h.get? b = some o → (h.push { cls := .type "list_iterator", data := .fields #[.ref pl, .int 0 0] }).get? b = some o := fun b o e => Heap.get?_push_of_some _ e
    have hplJ : pl ≠ h.objs.size := Nat.ne_of_lt (Heap.lt_size (hk _ _ eopl))
    have hit1 : (h.push { cls := .type "list_iterator", data := .fields #[.ref pl, .int 0 0] }).IsListIter h.objs.size pl 0 := ⟨_, Heap.get?_push_size _ rfl, rfl, rfl⟩
    have inner : codeAny (model prog w) (A.mark none) (.compLoop (.ListComp (.Name z pe) [⟨.Tuple [.Name x1 p1, .Name x2 p2] tk0 tp, iter, [], 0⟩, ⟨.Name z pz, .Name x2 p3, [], 0⟩] scope pos) 1 (.ref h.objs.size) (.ref D) (compEnvC scope cl C env))
        (fun r s' => match r with
          | .ok f => (fun _ s' => wpAny (model prog w) A (again (.compLoop (.ListComp (.Name z pe) [⟨.Tuple [.Name x1 p1, .Name x2 p2] tk0 tp, iter, [], 0⟩, ⟨.Name z pz, .Name x2 p3, [], 0⟩] scope pos) 0 (.ref I) (.ref D) (compEnvC scope cl C env)))
              (fun f s'' => f = .again (.compLoop (.ListComp (.Name z pe) [⟨.Tuple [.Name x1 p1, .Name x2 p2] tk0 tp, iter, [], 0⟩, ⟨.Name z pz, .Name x2 p3, [], 0⟩] scope pos) 0 (.ref I) (.ref D) (compEnvC scope cl C env)) ∧ ∃ h'' tk m'', s'' = { s₁ with heap := h'', toks := tk } ∧ (∀ b o, s₁.heap.get? b = some o → h''.get? b = some o) ∧ (∀ j, h.IsListIter I ax j → h''.IsListIter I ax j) ∧ h''.Ns C m'' ∧ h''.get? D = some (lst (ys ++ out v))) E' s') f s'
          | .error e => cameBackBy (model prog w) A (compEnvC scope cl C env) E' e s')
        { s₁ with heap := h.push { cls := .type "list_iterator", data := .fields #[.ref pl, .int 0 0] }, toks := tk } := by
      refine inner_loop (s := { s₁ with heap := h.push { cls := .type "list_iterator", data := .fields #[.ref pl, .int 0 0] }, toks := tk }) (ys := ys) (m := m') (by exact hh) (lookup_relabel_local hz) hkf (by rw [hkf]; rfl) hzd (Ne.symm (Nat.ne_of_lt hDlt)) (Ne.symm (Nat.ne_of_lt hClt)) hDC hplJ
        (fun q => by rw [q] at eopl; exact absurd (eopl.symm.trans hC0) (by simp)) (fun q => by rw [q] at eopl; exact absurd (eopl.symm.trans hD0) (by simp)) (hpl'.push _) hit1 (up _ _ hD) (hn.push _) hps (by k_extra "om") (fun h' tk' m'' hn' hD' hk' => ?_)
      refine wpAny_pure ⟨rfl, h', tk', m'', rfl, fun b o q => ?_, fun j hj => ?_, hn', ?_⟩
      · have q' := hk b o q
        exact hk' b o (fun z => by rw [z] at q; exact absurd (q.symm.trans hC0) (by simp)) (Nat.ne_of_lt (Heap.lt_size q')) (fun z => by rw [z] at q; exact absurd (q.symm.trans hD0) (by simp)) (up _ _ q')
      · obtain ⟨o, e, r⟩ := hj
        exact ⟨o, hk' _ _ hIC (Nat.ne_of_lt (Heap.lt_size e)) hID (up _ _ e), r⟩
      · rw [hD', ho]
    exact wpAny_bind (wpAny_runOwn (codeAny_compStart_in inner (wpAny_pyIter_listiter hit1 inner)) (by intro x; cases x))
  · show wpAny _ A (assign (.Name y py) env (.ref D)) _ _ _
    refine wpAny_assign_Name (wpAny_storeName_local hy (F.keeps hk).ns (fun h₂ hn₂ hs₂ => ?_) hp)
    have hCL : C ≠ env.locals := fun q => by have := F.ns.lt; rw [← q] at this; exact absurd hCs (Nat.not_le.mpr this)
    have hDL : D ≠ env.locals := fun q => by have := F.ns.lt; rw [← q] at this; exact absurd hDs (Nat.not_le.mpr this)
    have hL₀ : h₀.get? env.locals = none := Heap.get?_none_of_le F.above
    have hD₀ : h₀.get? D = none := by
      cases q : h₀.get? D with
      | none => rfl
      | some o => have := F.keep _ _ q; rw [hD0] at this; cases this
    have hC₀ : h₀.get? C = none := by
      cases q : h₀.get? C with
      | none => rfl
      | some o => have := F.keep _ _ q; rw [hC0] at this; cases this
    have F₂ : Fr h₀ env.locals h₂ (fun u => if u = y then some (.ref D) else m u) := ⟨hn₂, fun b o e => hs₂.extBut b o (fun q => by rw [q, hL₀] at e; cases e) (hk _ _ (F.keep b o e)), F.above⟩
    refine ⟨m', hn.sameBut hs₂ hCL, fun h'' hs'' => hQ D h'' _ (F₂.change hs'' hCL hC₀) (fun q hq => ?_) (fun q hq => Nat.lt_of_lt_of_le (Heap.lt_size (N q hq).1) hDs)⟩
    rcases List.mem_cons.mp hq with rfl | hq
    · exact ⟨hs''.extBut _ _ (Ne.symm hCD) (hs₂.extBut _ _ hDL hD), hDL, hD₀⟩
    · refine ⟨hs''.extBut _ _ (fun z => ?_) (hs₂.extBut _ _ (N q hq).2.1 (hk _ _ (N q hq).1)), (N q hq).2⟩
      have := (N q hq).1
      rw [z, hC0] at this
      cases this
end

end
section
/-- the four signs -/
def sgT : Nat → Str
  | 0 => ⟨#[97]⟩ | 1 => ⟨#[122]⟩ | 2 => ⟨#[233]⟩ | _ => ⟨#[8364]⟩
def sgO : Nat → List Int
  | 0 => [97] | 1 => [122] | 2 => [195, 169] | _ => [226, 130, 172]
def tkT : Nat → Nat
  | 0 => 721 | 1 => 723 | 2 => 725 | _ => 728
def valsO : Nat → List Value
  | 0 => [.int 97 722] | 1 => [.int 122 724] | 2 => [.int 195 726, .int 169 727] | _ => [.int 226 729, .int 130 730, .int 172 731]
def sgA (i : Nat) : Value := .ref (357 + 2 * i : Nat)
def outT : Value → List Value
  | .ref a => [.str (sgT ((a - 357) / 2)) (tkT ((a - 357) / 2))]
  | _ => []
def outO : Value → List Value
  | .ref a => valsO ((a - 357) / 2)
  | _ => []
theorem outT_at (i : Nat) : outT (sgA i) = [.str (sgT i) (tkT i)] := by
  show [Value.str (sgT ((357 + 2 * i - 357) / 2)) (tkT ((357 + 2 * i - 357) / 2))] = _
  rw [show (357 + 2 * i - 357) / 2 = i by rw [Nat.add_sub_cancel_left, Nat.mul_div_cancel_left i (by decide)]]
theorem outO_at (i : Nat) : outO (sgA i) = valsO i := by
  show valsO ((357 + 2 * i - 357) / 2) = _
  rw [show (357 + 2 * i - 357) / 2 = i by rw [Nat.add_sub_cancel_left, Nat.mul_div_cancel_left i (by decide)]]
theorem valsO_le (i : Nat) : (valsO i).length ≤ 3 := by
  match i with
  | 0 | 1 | 2 => decide
  | _ + 3 => exact Nat.le_refl _
theorem outT_le (v : Value) : (outT v).length ≤ 10 := by
  unfold outT
  split
  · exact Nat.le_of_ble_eq_true rfl
  · exact Nat.zero_le _
theorem outO_le (v : Value) : (outO v).length ≤ 10 := by
  unfold outO
  split
  · exact Nat.le_trans (valsO_le _) (by decide)
  · exact Nat.zero_le _
theorem ints_vals (i : Nat) : IntsAre (valsO i) (sgO i) := by
  match i with
  | 0 => exact .cons _ _ .nil
  | 1 => exact .cons _ _ .nil
  | 2 => exact .cons _ _ (.cons _ _ .nil)
  | _ + 3 => exact .cons _ _ (.cons _ _ (.cons _ _ .nil))
theorem ints_out : ∀ is : List Nat, IntsAre ((is.map sgA).flatMap outO) (is.flatMap sgO)
  | [] => .nil
  | i :: is => by
    rw [List.map_cons, List.flatMap_cons, List.flatMap_cons, outO_at]
    exact (ints_vals i).append (ints_out is)
theorem strs_out : ∀ is : List Nat, StrsAre ((is.map sgA).flatMap outT) (is.map sgT)
  | [] => .nil
  | i :: is => by
    rw [List.map_cons, List.flatMap_cons, List.map_cons, outT_at]
    exact .cons _ _ (strs_out is)
theorem sign_ok {w : World} {h : Heap} (X : (hd.heap_1 w.params).In h) (i : Nat) (hi : i < 4) : IsTup h (357 + 2 * i : Nat) #[.str (sgT i) (tkT i), .ref (356 + 2 * i : Nat)] ∧ h.IsList (356 + 2 * i : Nat) (valsO i).toArray := by
  match i, hi with
  | 0, _ => exact ⟨tupK (a := 357) (l := [.str ⟨#[97]⟩ 721, .ref 356]) (dd := none) (n := 0) (sl := #[]) X (by kernel_rfl), lstK (a := 356) (l := [.int 97 722]) (dd := none) (n := 0) (sl := #[]) X (by kernel_rfl)⟩
  | 1, _ => exact ⟨tupK (a := 359) (l := [.str ⟨#[122]⟩ 723, .ref 358]) (dd := none) (n := 0) (sl := #[]) X (by kernel_rfl), lstK (a := 358) (l := [.int 122 724]) (dd := none) (n := 0) (sl := #[]) X (by kernel_rfl)⟩
  | 2, _ => exact ⟨tupK (a := 361) (l := [.str ⟨#[233]⟩ 725, .ref 360]) (dd := none) (n := 0) (sl := #[]) X (by kernel_rfl), lstK (a := 360) (l := [.int 195 726, .int 169 727]) (dd := none) (n := 0) (sl := #[]) X (by kernel_rfl)⟩
  | 3, _ => exact ⟨tupK (a := 363) (l := [.str ⟨#[8364]⟩ 728, .ref 362]) (dd := none) (n := 0) (sl := #[]) X (by kernel_rfl), lstK (a := 362) (l := [.int 226 729, .int 130 730, .int 172 731]) (dd := none) (n := 0) (sl := #[]) X (by kernel_rfl)⟩
def dg (m0 k : Int) : Nat := ((m0 / 4 ^ (k + 1).toNat).fmod 4).toNat
theorem dg_lt (m0 k : Int) : dg m0 k < 4 := by
  unfold dg
  rw [Int.fmod_eq_emod_of_nonneg _ (by decide)]
  omega
def dgs (m0 : Int) (n : Nat) : List Nat := (rangeKs 0 n).map (dg m0)
theorem dgs_lt {m0 : Int} {n : Nat} : ∀ i ∈ dgs m0 n, i < 4 := fun i hi => by
  obtain ⟨k, _, rfl⟩ := List.mem_map.mp hi
  exact dg_lt _ _
theorem dgs_len (m0 : Int) (n : Nat) : (dgs m0 n).length = n := by rw [dgs, List.length_map, rangeKs_length]
def SgEl (news : List (Addr × Obj)) (i : Nat) (y : Value) (news' : List (Addr × Obj)) : Prop := news' = news ∧ y = sgA i
section
variable {prog : Program} {w : World} {A : Around} {h₀ : Heap} {L : Addr} {m : Str → Option Value} {env : Env} {elt : Expr} {x : Str} {scope : Scope} {cl : List (Str × Addr)} {s : Shared} {S : List (Addr × Obj) → Prop} {P : Nat → Value → Prop} {Fin : List Value → List (Addr × Obj) → Prop} {news : List (Addr × Obj)}
theorem compEnd_same {s₁ : Shared} {I C D : Addr} {oI oC oD : Obj} {rest : Value → List (Addr × Obj) → Prop} {y : Value} {h' : Heap} {tk : Nat} {news' : List (Addr × Obj)}
    (F : Fr h₀ L h' m) (N : News h₀ L h' ((I, oI) :: (C, oC) :: (D, oD) :: news')) (off : LCg.Off3 I C D news') (hS : S news') (r : rest y news') :
    LCg.CompEnd h₀ L m s₁ I oI C oC D oD S rest y { s₁ with heap := h', toks := tk } := LCg.CompEnd.intro F N news' (fun _ hp => hp) off hS r
theorem sg_range {n : Nat} (g : Int → Nat)
    (turn : ∀ k t I oI C oC D m₂ ys h tk (E' : Value → Shared → Prop), 0 ≤ k → k < (n : Int) → LCg.NsObj oC m₂ → m₂ x = some (.int k t) → Fr h₀ L h m → News h₀ L h ((I, oI) :: (C, oC) :: (D, LCg.lst ys) :: news) → LCg.Off3 I C D news → ((@Ne Nat I C) ∧ (@Ne Nat I D) ∧ (@Ne Nat C D)) →
      wpAny (model prog w) A (eval elt (compEnvC scope cl C env)) (LCg.CompEnd h₀ L m { s with heap := h, toks := tk } I oI C oC D (LCg.lst ys) S (fun y news' => SgEl news (g k) y news')) E' { s with heap := h, toks := tk })
    (fin : Fin (((rangeKs 0 n).map g).map sgA) news) : LCg.CompRest prog w A h₀ L m env elt x scope cl s S (fun i v => ∃ t, v = .int (0 + (i : Int)) t) Fin n 0 [] news := by
  have key : ∀ (j i : Nat), i + j = n → LCg.CompRest prog w A h₀ L m env elt x scope cl s S (fun i v => ∃ t, v = .int (0 + (i : Int)) t) Fin j i ((((rangeKs 0 n).take i).map g).map sgA) news := by
    intro j
    induction j with
    | zero =>
      intro i hi
      refine LCg.CompRest.zero ?_
      rw [List.take_of_length_le (by rw [rangeKs_length]; omega)]
      exact fin
    | succ j ih =>
      intro i hi
      refine LCg.CompRest.succ ?_
      intro v I oI C oC D m₂ h tk E' hv hC hx F N off ne
      obtain ⟨t, rfl⟩ := hv
      refine wpAny_mono (turn _ t I oI C oC D m₂ _ h tk E' (by k_extra "om") (by k_extra "om") hC hx F N off ne) (fun y s₂ hq => ?_) fun _ _ e => e
      obtain ⟨h', tk', nw, e, F', N', off', hS, hn, hy⟩ := hq
      subst hn
      refine ⟨h', tk', _, e, F', N', off', hS, ?_⟩
      subst hy
      have := ih (i + 1) (by k_extra "om")
      rw [List.take_add_one, show (rangeKs 0 n)[i]? = some (0 + (i : Int)) by simp [rangeKs, show i < n by k_extra "om"]] at this
      simpa using this
  have := key n 0 (by k_extra "om")
  simpa using this
end

end
section
theorem mod4_le (m0 : Int) : 0 ≤ m0.fmod 4 ∧ m0.fmod 4 < 4 := by
  rw [Int.fmod_eq_emod_of_nonneg _ (by decide)]
  exact ⟨Int.emod_nonneg _ (by decide), Int.emod_lt_of_pos _ (by decide)⟩
theorem item_oct {w : World} {h₀ h : Heap} {L : Addr} {m : Str → Option Value} (F : Fr h₀ L h m) (X₀ : (hd.heap_1 w.params).In h₀) {m0 : Int} {n : Nat} : ∀ v ∈ ((dgs m0 n).map sgA).toArray, ∃ t a pl its, v = .ref t ∧ IsTup h t #[a, .ref pl] ∧ h.IsList pl its ∧ its.size ≤ 10 ∧ outO v = its.toList := fun v hv => by
  obtain ⟨i, hi, rfl⟩ := List.mem_map.mp (List.mem_toArray.mp hv)
  have S := sign_ok (X₀.keeps F.keep) i (dgs_lt i hi)
  exact ⟨_, _, _, _, rfl, S.1, S.2, by rw [List.size_toArray]; exact Nat.le_trans (valsO_le i) (by decide), outO_at i⟩
theorem item_txt {w : World} {h₀ h : Heap} {L : Addr} {m : Str → Option Value} (F : Fr h₀ L h m) (X₀ : (hd.heap_1 w.params).In h₀) {m0 : Int} {n : Nat} : ∀ v ∈ ((dgs m0 n).map sgA).toArray, ∃ t a b, v = .ref t ∧ IsTup h t #[a, b] ∧ outT v = [a] := fun v hv => by
  obtain ⟨i, hi, rfl⟩ := List.mem_map.mp (List.mem_toArray.mp hv)
  have S := sign_ok (X₀.keeps F.keep) i (dgs_lt i hi)
  exact ⟨_, _, _, rfl, S.1, outT_at i⟩
theorem dgs_size {m0 : Int} {n : Nat} (h : n ≤ 3) : (((dgs m0 n).map sgA).toArray).size ≤ 10 := by
  rw [List.size_toArray, List.length_map, dgs_len]
  omega
theorem isList_lst {h₀ h : Heap} {L D : Addr} {ys : List Value} {news : List (Addr × Obj)} (N : News h₀ L h news) (hm : (D, LCg.lst ys) ∈ news) : h.IsList D ys.toArray := ⟨_, (N _ hm).1, rfl, _, rfl⟩
theorem octs_news {h₀ h : Heap} {L D : Addr} {m0 : Int} {n : Nat} {news : List (Addr × Obj)} (N : News h₀ L h ((D, LCg.lst ((((rangeKs 0 n).map (dg m0)).map sgA).toArray.toList.flatMap outO)) :: news)) :
    ∃ vs, IntsAre vs ((dgs m0 n).flatMap sgO) ∧ News h₀ L h ((D, LCg.lst vs) :: news) := ⟨_, ints_out (dgs m0 n), N⟩
theorem txts_news {h₀ h : Heap} {L D : Addr} {m0 : Int} {n : Nat} {news : List (Addr × Obj)} (N : News h₀ L h ((D, LCg.lst ((((rangeKs 0 n).map (dg m0)).map sgA).toArray.toList.flatMap outT)) :: news)) :
    ∃ vs, StrsAre vs ((dgs m0 n).map sgT) ∧ News h₀ L h ((D, LCg.lst vs) :: news) := ⟨_, strs_out (dgs m0 n), N⟩
theorem sgT_len (i : Nat) : (sgT i).length = 1 := by
  match i with
  | 0 | 1 | 2 => rfl
  | _ + 3 => rfl
theorem sgT_sum : ∀ is : List Nat, ((is.map sgT).map (·.length)).sum = is.length
  | [] => rfl
  | i :: is => by rw [List.map_cons, List.map_cons, List.sum_cons, sgT_sum is, sgT_len, List.length_cons]; omega
theorem sgO_len (i : Nat) : (sgO i).length ≤ 3 := by
  match i with
  | 0 | 1 | 2 => decide
  | _ + 3 => exact Nat.le_refl _
theorem sgO_sum : ∀ is : List Nat, (is.flatMap sgO).length ≤ 3 * is.length
  | [] => Nat.zero_le _
  | i :: is => by
    rw [List.flatMap_cons, List.length_append, List.length_cons]
    have := sgO_sum is
    have := sgO_len i
    omega
theorem octs_len (m0 : Int) (n : Nat) (h : n ≤ 3) : ((dgs m0 n).flatMap sgO).length ≤ 9 := by
  have := sgO_sum (dgs m0 n)
  rw [dgs_len] at this
  omega
theorem join_signs {prog : Program} {w : World} {A : Around} {E : Value → Shared → Prop} {s : Shared} {t : Tok} {Q : Value → Shared → Prop} {h₀ : Heap} {L D : Addr} {m0 : Int} {n : Nat} {news : List (Addr × Obj)} {vs : List Value} (N : News h₀ L s.heap news) (hm : (D, LCg.lst vs) ∈ news)
    (hi : StrsAre vs ((dgs m0 n).map sgT)) (hn : n ≤ 3) (h : ∀ t' k, Q (.str (Txt.join (Str.ofString "") ((dgs m0 n).map sgT)) t') { s with toks := k }) :
    wpAny (model prog w) A (call (.builtin "str.join") [.str (Str.ofString "") t, .ref D]) Q E s :=
  join_list (isList_lst N hm) (by simpa using hi) (by rw [sgT_sum, List.length_map, dgs_len, show (Str.ofString "").length = 0 from rfl]; omega) h
theorem words_p21_key_1 : True := by
  (k_with "call builtin:str.join" => (k_here; k_dflt (refine' join_signs ?zqN ?zqm ?zqi ?zqn (fun t' k' => ?_); (case zqN => k_asm); (case zqm => k_mem); (case zqi => with_reducible assumption); (case zqn => k_extra "om"))))
  (k_with "binaryOp FloorDiv int int" => (k_here; (with_reducible refine fdiv_powr (c := 4) (by decide) (by decide) (by k_extra "om") ?_)))
  (k_with "binaryOp Pow int int" => (k_here; (with_reducible refine pow_int_small (by k_extra "om") (by k_extra "om") (by decide) ?_)))
  trivial
theorem sg_get {k : Int} (h : 0 ≤ k ∧ k < 4) : [Value.ref 357, .ref 359, .ref 361, .ref 363][k.toNat]? = some (sgA k.toNat) := by
  obtain ⟨n, rfl⟩ := Int.eq_ofNat_of_zero_le h.1
  match n, h.2 with
  | 0, _ => rfl
  | 1, _ => rfl
  | 2, _ => rfl
  | 3, _ => rfl
  | n + 4, h => exact absurd h (by k_extra "om")
theorem words_p21_key_2 : True := by
  (k_with "CompSrc" => (k_here; k_dflt (refine LCg.CompSrc.range (by rfl) (by k_asm) (by k_asm) (by assumption) (small_one (by k_extra "om") (by k_extra "om") (by k_extra "om") (by k_extra "om")) (rangeSize_nat _ _) (by rw [PySem.sizeLine_eq]; k_extra "om") ?_; intro g'; (refine' sg_range (dg m0) (fun k' t' I' oI' C' oC' D' m' ys' h' tk' E' hlo' hhi' hC' hx' F' N' off' ne' => ?_) ?_)); kcf_last))
  (k_with "CompEnd" => (k_dflt (refine' compEnd_same ?zqF ?zqN ?zqo trivial ?_; (case zqF => k_asm); (case zqN => with_reducible assumption); (case zqo => first | assumption | (simp only [LCg.Off3, and_true]; assumption)))))
  (k_with "SgEl" => exact ⟨rfl, rfl⟩)
  (k_with "subscriptTail" => (k_here; (with_reducible show wpAny _ _ (subscriptTail _ _ (Value.ref 364) (Value.int (Int.fmod _ _) _)) _ _ _); k_dflt (refine' topList_K (a := 364) ?zqF ?zqX ?zql (mod4_le _).1 (Int.lt_trans (mod4_le _).2 (by decide)) (sg_get (mod4_le _)) ?_; (case zqF => k_asm); (case zqX => k_asm); (case zql => k_is))))
  (k_with "exec Assign cons ListComp" => (k_here; (with_reducible show wpAny _ _ (exec (Stmt.Assign [_] (Expr.ListComp _ [_, _] _ _) _) _) _ _ _); k_dflt (refine' assign_nested (out := outO) ?zqF ?zqN ?zql ?zqhh ?zqhsw ?zqhclos ?zqhcell ?zqhkind ?zqhnames ?zqhx1 ?zqhx2 ?zqhz ?zqhxx ?zqhxd ?zqhzd ?zqhy ?zqhp ?zqhitem outO_le ?zqhsz ?zqhev (fun D' h' tk' F' N' l1 => ?_) (fun _ => rfl); (case zqhev => (refine' nameX_L ?zqF2 ?zqv2 ⟨rfl, rfl⟩; (case zqF2 => k_asm); (case zqv2 => exact rfl))); (case zqF => k_asm); (case zqN => k_asm); (case zql => exact isList_lst (by k_asm) (by k_mem)); (case zqhh => exact rfl); (case zqhsw => with_unfolding_all rfl); (case zqhclos => with_unfolding_all rfl); (case zqhcell => decide); (case zqhkind => rfl); (case zqhnames => decide); (case zqhx1 => rfl); (case zqhx2 => rfl); (case zqhz => rfl); (case zqhxx => decide); (case zqhxd => decide); (case zqhzd => decide); (case zqhy => rfl); (case zqhp => rfl); (case zqhitem => exact item_oct (by k_asm) (by k_asm)); (case zqhsz => exact dgs_size (by k_extra "om")); k_whole); (replace N' := octs_news N'); (obtain ⟨vs', hi', N'⟩ := N'); have hol' := octs_len m0 (m0.fmod 4 - 0).toNat (by k_extra "om"); (try k_lt l1); (try k_sweep)))
  (k_with "eval ListComp" => (k_here; (with_reducible show wpAny _ _ (eval (Expr.ListComp _ [Comprehension.mk (Expr.Tuple _ _ _) _ _ _] _ _) _) _ _ _); k_dflt (refine' comp_first (out := outT) ?zqF ?zqN ?zql ?zqhh ?zqhclos ?zqhcell ?zqhkind ?zqhnames ?zqhx1 ?zqhx2 ?zqhxx ?zqhxd ?zqhitem outT_le ?zqhsz ?zqhev (fun D' h' tk' F' N' l1 => ?_) (fun _ => rfl); (case zqhev => (refine' nameX_L ?zqF2 ?zqv2 ⟨rfl, rfl⟩; (case zqF2 => k_asm); (case zqv2 => exact rfl))); (case zqF => k_asm); (case zqN => k_asm); (case zql => exact isList_lst (by k_asm) (by k_mem)); (case zqhh => exact rfl); (case zqhclos => with_unfolding_all rfl); (case zqhcell => decide); (case zqhkind => rfl); (case zqhnames => decide); (case zqhx1 => rfl); (case zqhx2 => rfl); (case zqhxx => decide); (case zqhxd => decide); (case zqhitem => exact item_txt (by k_asm) (by k_asm)); (case zqhsz => exact dgs_size (by k_extra "om")); k_whole); (replace N' := txts_news N'); (obtain ⟨vs', hi', N'⟩ := N'); (try k_lt l1); (try k_sweep)))
  trivial
/-- what `_law_key` gives back -/
def KeyPost (kv : Tok → Value) (ko : List Int) (good : Prop) (fault : String) (news : List (Addr × Obj)) (h₀ : Heap) (L : Addr) (h' : Heap) (v : Value) : Prop :=
  ∃ tup t tf, v = .ref tup ∧ (∀ q ∈ news, q.1 ≠ tup) ∧
    ((good ∧ ∃ l vs, IntsAre vs ko ∧ News h₀ L h' ((tup, { cls := .type "tuple", data := .seq #[kv t, .ref l, .str (PySem.Str.ofString "") tf] }) :: (l, LCg.lst vs) :: news) ∧ (∀ q ∈ news, q.1 ≠ l) ∧ (@Ne Nat l tup)) ∨
     (¬ good ∧ News h₀ L h' ((tup, { cls := .type "tuple", data := .seq #[kv t, .none, .str (PySem.Str.ofString fault) tf] }) :: news)))
theorem ne_allLt {D : Addr} {news : List (Addr × Obj)} (h : AllLt D news) : ∀ q ∈ news, q.1 ≠ D := fun q hq => Nat.ne_of_lt (allLt_mem h q hq)
abbrev textKey (m0 : Int) : Str := Txt.join (Str.ofString "") ((dgs m0 (m0.fmod 4 - 0).toNat).map sgT)
abbrev textOct (m0 : Int) : List Int := (dgs m0 (m0.fmod 4 - 0).toNat).flatMap sgO
theorem words_p21_key_3 : True := by
  (k_with "execs cons" => (k_here; (fail_if_success (refine hasMark (by with_reducible assumption) ?_)); refine' let_B ?_; intro am qa; (try k_fold); (try k_extra "fr")))
  trivial
set_option maxHeartbeats 4000000 in
theorem key_text (w : World) (news : List (Addr × Obj)) (c : Addr) (ks vsz : Nat) (sr : Addr) (t1 t2 t3 t4 : Tok) (hc : (c, confObj ks vsz sr t1 t2 t3 t4) ∈ news) (hcs : confs ks vsz)
   (m0 : Int) (tm : Tok) :
    Calls w (.ref 381) [.ref c, .bool true, .int m0 tm] news 15 500 (fun h₀ L h' v => KeyPost (fun t => .str (textKey m0) t) (textOct m0) ((textOct m0).length ≤ ks) "refused" news h₀ L h' v) := by
  unfold Calls
  k_fill
  intro p loose mean mg mb dp un gd cn cs a ccd cl outer A₀ base h₀ L m s Q E B F X N T hk hd hu hret
  obtain ⟨kd, nm, ig, ic, mo⟩ := cs
  cases hk
  have hm4 := mod4_le m0
  refine wpAny_call ?_
  k_dflt k_enter
  k_steps
  all_goals repeat (with_reducible rename _ ∧ _ => hz; obtain ⟨_, _⟩ := hz)
  · exact hret _ _ _ (by k_asm) ⟨_, _, _, rfl, ne_allLt (by assumption), .inr ⟨by unfold textOct; omega, cb_drop (by k_asm) (by kcf_all)⟩⟩
  · exact hret _ _ _ (by k_asm) ⟨_, _, _, rfl, ne_allLt (by assumption), .inl ⟨by unfold textOct; omega, _, _, by with_reducible assumption, cb_drop (by k_asm) (by kcf_all), ne_allLt (by assumption), by k_extra "om"⟩⟩
theorem log2_small {y : Int} (h0 : 0 ≤ y) (h1 : y ≤ 2199023255553) : y.natAbs.log2 < 9000 := by
  by_cases hz : y.natAbs = 0
  · rw [hz]; decide
  · exact (Nat.log2_lt hz).mpr (Nat.lt_of_lt_of_le (show y.natAbs < 2 ^ 42 by k_extra "om") (Nat.pow_le_pow_right (by decide) (by decide)))
theorem pow_le5 {ks : Nat} (h : ks ≤ 5) : (0 : Int) < 256 ^ ks ∧ (256 : Int) ^ ks ≤ 1099511627776 := by
  match ks, h with
  | 0, _ => decide
  | 1, _ => decide
  | 2, _ => decide
  | 3, _ => decide
  | 4, _ => decide
  | 5, _ => decide
  | n + 6, h => exact absurd h (by k_extra "om")
abbrev intKey (ks : Nat) (m0 : Int) : Int := m0.fmod (2 * 256 ^ ks + 1) - 1
theorem words_p21_key_4 : True := by
  (k_with "binaryOp Pow int int" => (k_here; (with_reducible refine pow_int_small (by k_extra "om") (by k_extra "om") (by decide) ?_); rw [Int.toNat_natCast]))
  (k_with "binaryOp Mult int int" => (k_here; (with_reducible refine mul_int ?_ (IntMulOk.of_left (intBits_le_64 (by k_extra "om") (by k_extra "om"))))))
  (k_with "binaryOp Mod int int" => (k_here; (with_reducible refine mod_int (by k_extra "om") ?_ (Or.inl (PyProof.noPylong_of_log2 (log2_small (by k_extra "om") (by k_extra "om"))))); rw [Int.fmod_eq_emod_of_nonneg _ (by k_extra "om")]))
  trivial
set_option maxHeartbeats 4000000 in
theorem key_int (w : World) (news : List (Addr × Obj)) (c : Addr) (ks vsz : Nat) (sr : Addr) (t1 t2 t3 t4 : Tok) (hc : (c, confObj ks vsz sr t1 t2 t3 t4) ∈ news) (hcs : confs ks vsz)
   (m0 : Int) (tm : Tok) :
    Calls w (.ref 381) [.ref c, .bool false, .int m0 tm] news 15 500 (fun h₀ L h' v => KeyPost (fun t => .int (intKey ks m0) t) (KTBy.little ks (intKey ks m0)) (0 ≤ intKey ks m0 ∧ intKey ks m0 < 256 ^ ks) "too great" news h₀ L h' v) := by
  unfold Calls
  k_fill
  intro p loose mean mg mb dp un gd cn cs a ccd cl outer A₀ base h₀ L m s Q E B F X N T hk hd hu hret
  obtain ⟨kd, nm, ig, ic, mo⟩ := cs
  cases hk
  have hp5 := pow_le5 hcs.2.1
  refine wpAny_call ?_
  k_dflt k_enter
  k_steps
  all_goals repeat (with_reducible rename _ ∧ _ => hz; obtain ⟨_, _⟩ := hz)
  all_goals first
    | exact hret _ _ _ (by k_asm) ⟨_, _, _, rfl, ne_allLt (by assumption), .inr ⟨by unfold intKey; omega, cb_drop (by k_asm) (by kcf_all)⟩⟩
    | exact hret _ _ _ (by k_asm) ⟨_, _, _, rfl, ne_allLt (by assumption), .inl ⟨by unfold intKey; omega, _, _, by with_reducible assumption, cb_drop (by k_asm) (by kcf_all), (fun q hq => allNe_mem (by with_reducible assumption) q (by k_mem)), by k_extra "om"⟩⟩

end
section
theorem words_22_kind : True := by
  k_with_none
  (k_with "z ktr_units" => ((simp only [units_under_kw, units_in1, units_deeper, Around.mark_units, units_caller, ktrTop, cLine_is] at ⊢); (rename _ < cLine => zrhcU); (rw [cLine_is] at zrhcU); omega))
  (k_with "z ktr_room" => ((simp only [depth_under_kw, depth_in1, depth_deeper, depth_caller, ktrTop] at ⊢); omega))
  (k_with "z ktr_units" => ((rename _ < cLine => zrhcU); first | exact u3 zrhcU rfl | exact u2 zrhcU rfl | exact u4 zrhcU rfl | exact u5 zrhcU rfl | exact u1 zrhcU))
  (k_with "z ktr_room" => ((rename _ < recursionLimit => zrhcD); first | exact u2 zrhcD rfl | exact u3 zrhcD rfl | exact u4 zrhcD rfl | exact u5 zrhcD rfl | exact u1 zrhcD))
  (k_with "z k_room" => ktr_room)
  (k_with "z k_units" => ktr_units)
  (k_with "z k_mem" => ((show @Membership.mem (Addr × Obj) (List (Addr × Obj)) _ _ _); with_reducible assumption))
  (k_with "om0" => ((repeat (with_reducible rename _ ≠ _ ∧ _ => zrhz; clear zrhz)); (repeat (with_reducible rename (_ ≠ _ ∧ _) ∧ _ => zrhz; clear zrhz)); omega))
  (k_with "bd1" => first | decide | (with_reducible first | apply om_b1 | apply om_b2 | apply om_b3 | apply om_b4 | apply om_b5 | apply om_b6 | apply om_b7 | apply om_bs | apply om_bt | apply om_bz | apply om_bt4 | apply om_b2t | apply om_bm | (apply om_bq; assumption) | refine om_bl (by assumption) ?_ | refine om_be (by assumption) ?_ | (apply om_bk; assumption; decide) | (apply om_bv; assumption; decide)))
  (k_with "bd" => (k_whole; (with_reducible first | (apply om_b0; rotate_left; with_unfolding_all rfl) | (apply om_b0l; rotate_left; with_unfolding_all rfl)); (repeat' k_extra "bd1"); done))
  (k_with "five" => first | assumption | exact om_lk5 (by assumption) | exact om_lt5 (by assumption) | exact Nat.le_trans (by assumption) (om_lk5 (by assumption)) | exact Nat.le_trans (by assumption) (om_lt5 (by assumption)))
  (k_with "om1" => first | rfl | assumption | exact And.left (by assumption) | exact And.right (by assumption) | ((show @LE.le Int _ _ _); first | apply Int.natCast_nonneg | (apply om_sub_nn; assumption) | (apply om_sa0; assumption) | (apply Int.le_of_lt; apply om_lp2) | (apply Int.le_add_of_nonneg_right; first | assumption | apply Int.natCast_nonneg)) | ((show @LE.le Nat _ _ _); apply Nat.le_of_lt; assumption) | ((show @LT.lt Int _ _ _); apply om_lp2) | ((show @LT.lt Nat _ _ _); first | (apply om_posD; assumption) | (apply om_posF; assumption)) | ((show @Eq Nat _ _); first | apply tns | apply tn0 | (apply castD; assumption) | (apply castF; assumption)))
  (k_with "om2" => first | decide | ((show @LE.le Nat _ _ _); first | exact Nat.le_trans (by assumption) (by decide) | exact om_be (by assumption) (by decide) | (apply om_bq4; assumption; rfl) | (apply om_kbt; assumption; k_extra "five") | (apply om_kmt <;> assumption)) | ((show @LE.le Int _ _ _); first | (apply Int.le_add_of_nonneg_right; decide) | (apply om_ic 5; k_extra "five"; decide) | (apply om_sub_le0; apply om_ic 5; k_extra "five"; decide) | (apply om_sub0_le; apply om_ic 5; k_extra "five"; decide) | (apply om_sa4; k_extra "five") | (refine Int.le_trans (om_kb (by assumption) (by k_extra "five")) (by decide)) | (apply om_kb1; assumption; k_extra "five") | (apply om_kb2; assumption; k_extra "five") | (apply om_km <;> assumption)) | ((show @Eq Int _ _); first | (apply om_lnO; assumption) | (apply om_lnI <;> assumption) | (apply om_lnF; assumption)) | ((show @LT.lt Int _ _ _); first | (apply om_icl 5; k_extra "five"; decide) | exact Int.lt_of_lt_of_le (by decide) (And.left (by assumption)) | exact Int.lt_trans (And.right (by assumption)) (by decide)))
  (k_with "nn" => ((show @LE.le Int _ _ _); apply Int.add_nonneg; (repeat' first | apply Int.natCast_nonneg | assumption | decide | apply Int.add_nonneg); done))
  (k_with "om" => first | (k_whole; with_reducible k_extra "om1") | (k_whole; with_reducible k_extra "om2") | (k_whole; with_reducible k_extra "nn") | k_extra "bd" | k_extra "om0")
  (k_with "z kba_size" => k_extra "bd")
  (k_with "fold" => (refine' let_A ?_; intro qa; k_fold))
  (k_with "ite" => first | refine ite_dpos (by assumption) ?_ | refine ite_dneg (by first | assumption | (apply Int.not_lt.mpr; assumption) | (apply Int.not_le.mpr; assumption)) ?_)
  (k_with "z kcf_bnd" => first | (k_whole; with_reducible k_extra "om1") | (k_whole; with_reducible k_extra "om2") | (k_whole; with_reducible k_extra "nn") | k_extra "bd")
  (k_with "gl" => with_reducible (first | exact glUSEDKEYLENGTHBYTES _ | exact glUSEDVALUELENGTHBYTES _ | exact glPAGEREFERENCEBYTES _ | exact glENDIAN _ | exact glRecord _ | exact glReference _ | exact gllawlow _ | exact gllawkey _ | exact gllawparts _ | exact gllawpages _ | exact gllawdone _ | exact gllawnumber _ | exact gllawsigns _ | exact glTreeConf _ | exact glStrSerializer _ | exact glIntSerializer _ | exact gllawrecord _ | exact gllawreference _ | exact gllawread _ | exact gllaworder _))
  (k_with "gb" => with_reducible (first | exact glint _ | exact gllen _ | exact glbytes _ | exact glisinstance _ | exact glrange _ | exact glenumerate _ | exact gltuple _ | exact gltype _))
  (k_with "eval Name" => (k_here; k_dflt (first | (refine' nameX_L ?zqF ?zqv ?_ ?zqa ?zqb; (case zqF => k_asm); (case zqa => exact Eq.refl ScopeKind.function); (case zqb => exact Eq.refl (some NameKind.local)); (case zqv => exact Eq.refl (some _)); k_whole) | (refine' name_top ?zqg ?zqF ?zqX ?zqT ?zqa ?zqb ?_; (case zqX => k_asm); (case zqg => k_extra "gl"); (case zqF => k_asm); (case zqT => k_asm); (case zqa => exact Eq.refl ScopeKind.function); (case zqb => exact Eq.refl (some NameKind.globalImplicit)); k_whole) | (refine' name_boot ?zqg ?zqF ?zqX ?zqT ?zqa ?zqb ?_; (case zqX => k_asm); (case zqg => k_extra "gb"); (case zqF => k_asm); (case zqT => k_asm); (case zqa => exact Eq.refl ScopeKind.function); (case zqb => exact Eq.refl (some NameKind.globalImplicit)); k_whole))))
  (k_with "callWith ref" => (k_here; k_dflt (first | (refine' callWith_K ?zqk1 ?zqk2 ?_; (case zqk1 => k_asm); (case zqk2 => k_extra "kp"); k_whole) | (refine' callWith_K0 ?zqk1 ?zqk2 ?_; (case zqk1 => first | with_reducible assumption | exact Frag.In.keeps (by with_reducible assumption) (Fr.keep (by with_reducible assumption)) | k_in); (case zqk2 => k_extra "kp"); k_whole) | (refine' callWith_M0 ?zqk1 ?zqk2 ?_; (case zqk1 => k_meth); (case zqk2 => k_extra "kp"); k_whole; (try dsimp only [List.nil_append, List.cons_append])) | (refine' callWith_M ?zqk1 ?zqk2 ?zqk3 ?zqk4 ?_; (case zqk1 => k_asm); (case zqk2 => k_asm); (case zqk3 => k_mem); (case zqk4 => k_is); k_whole) | (refine' callWith_KW ?zqk1 ?zqk2 ?zqk3 ?_; (case zqk1 => k_asm); (case zqk2 => k_extra "kp"); (case zqk3 => exact rfl); k_whole) | (refine' callWith_KW0 ?zqk1 ?zqk2 ?zqk3 ?_; (case zqk1 => k_asm); (case zqk2 => k_extra "kp"); (case zqk3 => exact rfl); k_whole))))
  (k_with "getMethod type:int" => (k_here; (with_reducible refine' KFB.getm ?zqkfbF ?zqkfbN ?zqkfbX ?zqkfbE ?_); k_dflt ((case zqkfbF => k_asm); (case zqkfbN => k_asm); (case zqkfbX => k_asm); (case zqkfbE => exact from_bytes_at _); k_whole; intro x' h' F' N' l1; (try k_lt l1); (try k_sweep))))
  (k_with "kp" => first | with_reducible assumption | (with_reducible first | exact kp232 _ | exact kp273 _ | exact kp355 _ | exact kp369 _ | exact kp376 _ | exact kp381 _ | exact kp388 _ | exact kp395 _ | exact kp400 _ | exact kp407 _ | exact kp412 _ | exact kp419 _ | exact kp141 _ | exact kp346 _ | exact kp320 _) | k_is)
  (k_with "getAttr ref" => (k_here; (with_reducible show wpAny _ _ (getAttr (Value.ref _) (PySem.Str.ofString "key_size") _) _ _ _); k_dflt (refine' conf_attr (And.left (get_conf _ _ _ _ _ _ _ _ _ _ ?zqm)) ?zqm2 ?zqc1 ?zqc3 ?zqB ?zqF ?zqX ?zqN ?zqT ?zqk ?zqd ?zqu ?zqp ?zqp2 ?zqp3 ?zqf2 ?zqf3 ?zqf4 ?zqhh ?_; (case zqN => k_asm); (case zqm => k_mem); (case zqm2 => k_mem); (case zqc1 => exact rfl); (case zqc3 => exact rfl); (case zqB => k_asm); (case zqF => k_asm); (case zqX => k_asm); (case zqT => k_asm); (case zqk => exact rfl); (case zqd => ktr_room); (case zqu => ktr_units); (case zqp => k_is); (case zqp2 => k_is); (case zqp3 => k_is); (case zqf2 => k_is); (case zqf3 => k_is); (case zqf4 => k_is); (case zqhh => exact rfl); k_whole; intro h' tk' F' N'; (try k_sweep))))
  (k_with "getAttr ref" => (k_here; (with_reducible show wpAny _ _ (getAttr (Value.ref _) (PySem.Str.ofString "value_size") _) _ _ _); k_dflt (refine' conf_attr (And.left (And.right (get_conf _ _ _ _ _ _ _ _ _ _ ?zqm))) ?zqm2 ?zqc1 ?zqc3 ?zqB ?zqF ?zqX ?zqN ?zqT ?zqk ?zqd ?zqu ?zqp ?zqp2 ?zqp3 ?zqf2 ?zqf3 ?zqf4 ?zqhh ?_; (case zqN => k_asm); (case zqm => k_mem); (case zqm2 => k_mem); (case zqc1 => exact rfl); (case zqc3 => exact rfl); (case zqB => k_asm); (case zqF => k_asm); (case zqX => k_asm); (case zqT => k_asm); (case zqk => exact rfl); (case zqd => ktr_room); (case zqu => ktr_units); (case zqp => k_is); (case zqp2 => k_is); (case zqp3 => k_is); (case zqf2 => k_is); (case zqf3 => k_is); (case zqf4 => k_is); (case zqhh => exact rfl); k_whole; intro h' tk' F' N'; (try k_sweep))))
  (k_with "getAttr ref" => (k_here; (with_reducible show wpAny _ _ (getAttr (Value.ref _) (PySem.Str.ofString "serializer") _) _ _ _); k_dflt (refine' conf_attr (And.right (And.right (get_conf _ _ _ _ _ _ _ _ _ _ ?zqm))) ?zqm2 ?zqc1 ?zqc3 ?zqB ?zqF ?zqX ?zqN ?zqT ?zqk ?zqd ?zqu ?zqp ?zqp2 ?zqp3 ?zqf2 ?zqf3 ?zqf4 ?zqhh ?_; (case zqN => k_asm); (case zqm => k_mem); (case zqm2 => k_mem); (case zqc1 => exact rfl); (case zqc3 => exact rfl); (case zqB => k_asm); (case zqF => k_asm); (case zqX => k_asm); (case zqT => k_asm); (case zqk => exact rfl); (case zqd => ktr_room); (case zqu => ktr_units); (case zqp => k_is); (case zqp2 => k_is); (case zqp3 => k_is); (case zqf2 => k_is); (case zqf3 => k_is); (case zqf4 => k_is); (case zqhh => exact rfl); k_whole; intro h' tk' F' N'; (try k_sweep))))
  (k_with "ne" => first | (with_reducible assumption) | (exact Nat.ne_of_lt (by with_reducible assumption)) | (exact Nat.ne_of_gt (by with_reducible assumption)) | (exact Ne.symm (by with_reducible assumption)) | (exact allNe_mem2 (by with_reducible assumption) (by k_mem)) | (exact Ne.symm (allNe_mem2 (by with_reducible assumption) (by k_mem))) | (exact ng0 (by with_reducible assumption)) | (exact nl0 (by with_reducible assumption)) | (exact ng1 (by with_reducible assumption)) | (exact nl1 (by with_reducible assumption)) | (exact fg1 (by with_reducible assumption)) | (exact fl1 (by with_reducible assumption)) | (exact ng2 (by with_reducible assumption)) | (exact nl2 (by with_reducible assumption)) | (exact fg2 (by with_reducible assumption)) | (exact fl2 (by with_reducible assumption)) | (exact ng3 (by with_reducible assumption)) | (exact nl3 (by with_reducible assumption)) | (exact fg3 (by with_reducible assumption)) | (exact fl3 (by with_reducible assumption)) | (exact ng4 (by with_reducible assumption)) | (exact nl4 (by with_reducible assumption)) | (exact fg4 (by with_reducible assumption)) | (exact fl4 (by with_reducible assumption)) | (exact ng5 (by with_reducible assumption)) | (exact nl5 (by with_reducible assumption)) | (exact fg5 (by with_reducible assumption)) | (exact fl5 (by with_reducible assumption)) | (exact ng6 (by with_reducible assumption)) | (exact nl6 (by with_reducible assumption)) | (exact fg6 (by with_reducible assumption)) | (exact fl6 (by with_reducible assumption)) | (exact ng7 (by with_reducible assumption)) | (exact nl7 (by with_reducible assumption)) | (exact fg7 (by with_reducible assumption)) | (exact fl7 (by with_reducible assumption)) | (exact ng8 (by with_reducible assumption)) | (exact nl8 (by with_reducible assumption)) | (exact fg8 (by with_reducible assumption)) | (exact fl8 (by with_reducible assumption)) | (exact ng9 (by with_reducible assumption)) | (exact nl9 (by with_reducible assumption)) | (exact fg9 (by with_reducible assumption)) | (exact fl9 (by with_reducible assumption)) | (exact ng10 (by with_reducible assumption)) | (exact nl10 (by with_reducible assumption)) | (exact fg10 (by with_reducible assumption)) | (exact fl10 (by with_reducible assumption)) | (exact ng11 (by with_reducible assumption)) | (exact nl11 (by with_reducible assumption)) | (exact fg11 (by with_reducible assumption)) | (exact fl11 (by with_reducible assumption)) | (exact ng12 (by with_reducible assumption)) | (exact nl12 (by with_reducible assumption)) | (exact fg12 (by with_reducible assumption)) | (exact fl12 (by with_reducible assumption)) | (exact ng13 (by with_reducible assumption)) | (exact nl13 (by with_reducible assumption)) | (exact fg13 (by with_reducible assumption)) | (exact fl13 (by with_reducible assumption)) | (exact na0 (by with_reducible assumption)) | (exact nb0 (by with_reducible assumption)) | (exact na1 (by with_reducible assumption)) | (exact nb1 (by with_reducible assumption)) | (exact na2 (by with_reducible assumption)) | (exact nb2 (by with_reducible assumption)) | (exact na3 (by with_reducible assumption)) | (exact nb3 (by with_reducible assumption)) | (exact na4 (by with_reducible assumption)) | (exact nb4 (by with_reducible assumption)) | (exact na5 (by with_reducible assumption)) | (exact nb5 (by with_reducible assumption)) | (exact na6 (by with_reducible assumption)) | (exact nb6 (by with_reducible assumption)) | (exact na7 (by with_reducible assumption)) | (exact nb7 (by with_reducible assumption)) | (exact na8 (by with_reducible assumption)) | (exact nb8 (by with_reducible assumption)) | (exact na9 (by with_reducible assumption)) | (exact nb9 (by with_reducible assumption)) | (exact oi1) | (exact os1) | (exact ok1 (by with_reducible assumption)) | (exact oc1 (by with_reducible assumption)) | (exact oi2) | (exact os2) | (exact ok2 (by with_reducible assumption)) | (exact oc2 (by with_reducible assumption)) | (exact oi3) | (exact os3) | (exact ok3 (by with_reducible assumption)) | (exact oc3 (by with_reducible assumption)) | (exact oi4) | (exact os4) | (exact ok4 (by with_reducible assumption)) | (exact oc4 (by with_reducible assumption)) | (exact oi5) | (exact os5) | (exact ok5 (by with_reducible assumption)) | (exact oc5 (by with_reducible assumption)) | (exact news_ne (by k_asm) (by k_mem) (by k_mem) (by intro e; cases e)))
  (k_with "z k_ne" => (refine neN ?_; (try dsimp only); k_extra "ne"))
  (k_with "z k_all" => first | exact allNe_mem (by with_reducible assumption) | exact allNe_of_lt (by with_reducible assumption) | with_reducible assumption)
  (k_with "call ref" => (k_here; (with_reducible show wpAny _ _ (call (Value.ref 369) [Value.int _ _, Value.int _ _]) _ _ _); k_dflt (first | (refine' calls_use (low_calls _ _ _ _ _ 2 (by decide)) ?zqB ?zqF ?zqX ?zqN ?zqT ?zqk ?zqd ?zqu ?_; (case zqB => k_asm); (case zqF => k_asm); (case zqX => k_asm); (case zqN => k_asm); (case zqT => k_asm); (case zqk => exact rfl); (case zqd => ktr_room); (case zqu => ktr_units); k_whole) | (refine' calls_use (low_calls _ _ _ _ _ 4 (by decide)) ?zqB ?zqF ?zqX ?zqN ?zqT ?zqk ?zqd ?zqu ?_; (case zqB => k_asm); (case zqF => k_asm); (case zqX => k_asm); (case zqN => k_asm); (case zqT => k_asm); (case zqk => exact rfl); (case zqd => ktr_room); (case zqu => ktr_units); k_whole) | (refine' calls_use (low_calls _ _ _ _ _ _ ?zqn) ?zqB ?zqF ?zqX ?zqN ?zqT ?zqk ?zqd ?zqu ?_; (case zqB => k_asm); (case zqF => k_asm); (case zqX => k_asm); (case zqN => k_asm); (case zqT => k_asm); (case zqk => exact rfl); (case zqd => ktr_room); (case zqu => ktr_units); (case zqn => k_extra "om"); k_whole)); intro v' h' tk' F' P'; obtain ⟨l', vs', hv', N', hI', hO'⟩ := P'; subst hv'; (replace hO' := allNe_of hO'); (try dsimp only); (try k_fold)))
  (k_with "call builtin:len" => (k_here; (with_reducible show wpAny _ _ (call (Value.builtin "len") [Value.ref _]) _ _ _); k_dflt (refine' len_ints ?zqN ?zqm ?zqi ?zqf ?_; (case zqN => k_asm); (case zqm => k_mem); (case zqi => with_reducible assumption); (case zqf => ((try simp only [List.length_append, List.length_replicate, KTBy.little_length]); k_extra "om")); k_whole)))
  (k_with "binaryOp Add ref ref" => (k_here; (with_reducible show wpAny _ _ (binaryOp Operator.Add (Value.ref _) (Value.ref _)) _ _ _); k_dflt (refine' add_ints ?zqF ?zqN ?zqa ?zqb ?zqi ?zqj ?zqf ?_; (case zqF => k_asm); (case zqN => k_asm); (case zqa => k_mem); (case zqb => k_mem); (case zqi => with_reducible assumption); (case zqj => with_reducible assumption); (case zqf => ((try simp only [List.length_append, List.length_replicate, KTBy.little_length]); k_extra "om")); k_whole; intro l' us' h' F' N' I' l1; (try k_lt l1); (try k_sweep))))
  (k_with "binaryOp Mult ref int" => (k_here; (with_reducible show wpAny _ _ (binaryOp Operator.Mult (Value.ref _) (Value.int _ _)) _ _ _); k_dflt (refine' mul_ints ?zqF ?zqN ?zqa ?zqg ?zqf ?_; (case zqF => k_asm); (case zqN => k_asm); (case zqa => k_mem); (case zqg => k_extra "om"); (case zqf => k_extra "om"); k_whole; intro l' us' h' F' N' I' l1; (try k_lt l1); (try k_sweep))))
  (k_with "call ref" => (k_here; (with_reducible show wpAny _ _ (call (Value.ref 388) [Value.ref _, Value.ref _]) _ _ _); k_dflt ((refine' calls_use (parts_calls _ _ _ _ _ _ _ _ _ _ ?zqm ?zqz _ _ _ _ ?zql ?zqi ?zqe) ?zqB ?zqF ?zqX ?zqN ?zqT ?zqk ?zqd ?zqu ?_; (case zqB => k_asm); (case zqF => k_asm); (case zqX => k_asm); (case zqN => k_asm); (case zqT => k_asm); (case zqk => exact rfl); (case zqd => ktr_room); (case zqu => ktr_units); (case zqm => k_mem); (case zql => k_mem); (case zqi => with_reducible assumption); (case zqz => k_extra "om"); (case zqe => ((try simp only [List.length_append, List.length_replicate, KTBy.little_length]); k_extra "om")); k_whole)); intro v' h' tk' F' P'; obtain ⟨l', vs', e', hv', N', hI', hO'⟩ := P'; subst hv'; (replace hO' := allNe_of hO'); (try dsimp only); (try k_fold)))
  (k_with "call builtin:int.to_bytes" => (k_here; (with_reducible show wpAny _ _ (call (Value.builtin "int.to_bytes") [Value.int _ _, Value.int _ _, Value.str _ _]) _ _ _); k_dflt (first | (refine' to_bytes_in (k := 2) (B := 65536) ?zqh1 ?zqh2 ?zqh3 ?zqh4 (fun b' t' k' hb' => ?_); (case zqh1 => decide); (case zqh2 => decide); (case zqh3 => k_extra "om"); (case zqh4 => k_extra "om")) | (refine' to_bytes_in (k := 4) (B := 4294967296) ?zqh1 ?zqh2 ?zqh3 ?zqh4 (fun b' t' k' hb' => ?_); (case zqh1 => decide); (case zqh2 => decide); (case zqh3 => k_extra "om"); (case zqh4 => k_extra "om")) | (refine' to_bytes_all (k := 2) rfl ?zqh (fun hx0 hx1 b' t' k' hb' => ?_) (fun hx h' tk' e' hn' => ?_); (case zqh => decide)) | (refine' to_bytes_all (k := 4) rfl ?zqh (fun hx0 hx1 b' t' k' hb' => ?_) (fun hx h' tk' e' hn' => ?_); (case zqh => decide)) | (refine' to_bytes_all rfl ?zqh (fun hx0 hx1 b' t' k' hb' => ?_) (fun hx h' tk' e' hn' => ?_); (case zqh => k_extra "om")))))
  (k_with "leaving ref" => (k_here; k_dflt (refine' leave_newS ?zqk1 ?zqk0 ?zqk2 ?zqk3 ?_; (case zqk0 => assumption); (case zqk1 => assumption); (case zqk2 => assumption); (case zqk3 => k_asm); k_whole; intro h' R' Rn' U')))
  (k_with "getMethod str" => (k_here; (with_reducible refine encode_method ?_)))
  (k_with "callWith" => (k_here; (with_reducible show wpAny _ _ (callWith _ (Value.builtin _) _ (backTo _ (starEach [] _)) (backToKw _ (keywordEach (_ :: _) _))) _ _ _); k_dflt (refine callWith_kwN ?_)))
  (k_with "call builtin:str.encode" => (k_here; k_dflt (refine' encode_call ?zqhe ?zqhz ?_; (case zqhe => assumption); (case zqhz => assumption); k_whole; intro t' k')))
  (k_with "call builtin:bytes.decode" => (k_here; k_dflt (first | (refine' decode_kw ?zqhd ?zqhe ?zqhz ?_; (case zqhd => assumption); (case zqhe => assumption); (case zqhz => assumption); k_whole; intro t' k') | (refine' decode_ascii ?zqhd ?zqhe ?zqhz ?_; (case zqhd => assumption); (case zqhe => assumption); (case zqhz => assumption); k_whole; intro t' k'))))
  (k_with "binaryOp Add bytes bytes" => (k_here; (with_reducible show wpAny _ _ (binaryOp Operator.Add (Value.bytes _ _) (Value.bytes _ _)) _ _ _); k_dflt (refine' add_b ?zqb ?zqc ?zqz (fun d' t' k' hb' => ?_); (case zqb => first | with_reducible assumption | exact bints_nil); (case zqc => first | with_reducible assumption | exact bints_nil); (case zqz => ((try simp only [List.length_append, List.length_replicate, KTBy.little_length, List.length_cons, List.length_nil]); k_extra "om")))))
  (k_with "call type:bytes" => (k_here; (with_reducible show wpAny _ _ (call (Value.type "bytes") [Value.int _ _]) _ _ _); k_dflt (refine' zeros_call ?zqa ?zqb (fun d' t' k' hb' => ?_); (case zqa => k_extra "om"); (case zqb => k_extra "om"))))
  (k_with "call type:bytes" => (k_here; (with_reducible show wpAny _ _ (call (Value.type "bytes") [Value.ref _]) _ _ _); k_dflt (refine' bytes_of_list rfl ?zqF ?zqN ?zql ?zqi ?zqr ?zqz (fun d' t' k' h' F' N' hb' => ?_); (case zqF => k_asm); (case zqN => k_asm); (case zql => k_mem); (case zqi => with_reducible assumption); (case zqz => ((try simp only [List.length_append, List.length_replicate, KTBy.little_length, List.length_cons, List.length_nil]); k_extra "om")); (case zqr => (repeat' (first | with_reducible assumption | exact rng_little _ _ | exact rng_zeros _ | exact rng_nil | refine rng_app ?_ ?_ | refine rng_cons ⟨by k_extra "om", by k_extra "om"⟩ ?_))))))
  (k_with "call builtin:len" => (k_here; (with_reducible show wpAny _ _ (call (Value.builtin "len") [Value.bytes #[] _]) _ _ _); (with_reducible refine len_nil ?_)))
  (k_with "leaving ref" => (k_here; k_dflt (refine' leave_onE ?zqhf ?zqB ?zqF ?zqR ?zqU ?_; (case zqhf => exact rfl); (case zqR => first | with_reducible assumption | assumption); (case zqB => assumption); (case zqU => assumption); (case zqF => assumption); k_whole; intro h' R' U')))
  (k_with "storeName" => (k_here; k_dflt (first | (refine' store_gi ?zqF ?zqN ?zqa ?zqb ?_; (case zqF => k_asm); (case zqN => k_asm); (case zqa => exact Eq.refl ScopeKind.function); (case zqb => exact Eq.refl (some NameKind.local)); k_whole; intro h' tk' ti' F' N'; (try k_sweep)) | (refine' store_g ?zqF ?zqN ?zqa ?zqb ?_; (case zqF => k_asm); (case zqN => k_asm); (case zqa => exact Eq.refl ScopeKind.function); (case zqb => exact Eq.refl (some NameKind.local)); k_whole; intro h' tk' F' N'; (try k_sweep)))))
  (k_with "fr" => ((with_reducible rename Fr _ _ _ (fun _ ↦ List.lookup _ _) => zrF9); k_dflt (first | (replace zrF9 : Fr _ _ _ (fun y => List.lookup y [(_, _)]) := zrF9) | (replace zrF9 : Fr _ _ _ (fun y => List.lookup y [(_, _), (_, _)]) := zrF9) | (replace zrF9 : Fr _ _ _ (fun y => List.lookup y [(_, _), (_, _), (_, _)]) := zrF9) | (replace zrF9 : Fr _ _ _ (fun y => List.lookup y [(_, _), (_, _), (_, _), (_, _), (_, _), (_, _)]) := zrF9) | (replace zrF9 : Fr _ _ _ (fun y => List.lookup y [(_, _), (_, _), (_, _), (_, _), (_, _)]) := zrF9) | (replace zrF9 : Fr _ _ _ (fun y => List.lookup y [(_, _), (_, _), (_, _), (_, _)]) := zrF9) | (replace zrF9 : Fr _ _ _ (fun y => List.lookup y [(_, _), (_, _), (_, _), (_, _), (_, _), (_, _), (_, _)]) := zrF9)); (try dsimp only at zrF9)))
  (k_with "z k_handed" => with_reducible assumption)
  (k_with "slc find" => first | exact slc_of hz1 (by k_extra "om") (by k_extra "om") | exact slc_of hz2 (by k_extra "om") (by k_extra "om") | exact slc_of hz3 (by k_extra "om") (by k_extra "om") | exact slc_of hz4 (by k_extra "om") (by k_extra "om") | exact slc_of hz5 (by k_extra "om") (by k_extra "om"))
  (k_with "subscriptTail" => (k_here; (with_reducible show wpAny _ _ (subscriptTail _ (Expr.Slice _ _ none _) (Value.bytes _ _) (Value.ref _)) _ _ _); k_dflt (refine' slice_b (s := ⟨_, _, _, _, _⟩) ?zqF ?zqN ?zqb ?zqS ?zql ?zqh ?zqz (fun d' h' t' k' F' N' hb' => ?_); (case zqF => k_asm); (case zqN => k_asm); (case zqb => with_reducible assumption); (case zqS => k_extra "slc find"); (case zql => k_extra "om"); (case zqh => k_extra "om"); (case zqz => k_extra "om"))))
  (k_with "call ref" => (k_here; (with_reducible show wpAny _ _ (call (Value.ref _) [Value.bytes _ _, Value.str _ _]) _ _ _); k_dflt (refine' from_little ?zqN ?zqm ?zqb ?zqv ?zql (fun t' k' => ?_); (case zqN => k_asm); (case zqm => k_mem); (case zqb => with_reducible assumption); (case zqv => with_reducible assumption); (case zql => k_extra "om"))))
  (k_with "call ref" => (k_here; (with_reducible show wpAny _ _ (call (Value.ref _) [Value.ref _, Value.bytes _ _]) _ _ _); (with_reducible rename DeserOk _ _ _ _ => zrhdes); k_dflt (refine' deser_use zrhdes ?zqb ?zqB ?zqF ?zqX ?zqN ?zqT ?zqk ?zqd ?zqu (fun v' h' tk' P' H' F' N' => ?_); (case zqb => with_reducible assumption); (case zqB => k_asm); (case zqF => k_asm); (case zqX => k_asm); (case zqN => k_asm); (case zqT => k_asm); (case zqk => exact rfl); (case zqd => ktr_room); (case zqu => ktr_units))))
  (k_with "callWith ref" => (k_here; (with_reducible show wpAny _ _ (callWith _ (Value.ref _) _ (backTo _ (starEach (_ :: _) _)) []) _ _ _); kfb_any; k_dflt (refine' KFB.callWith_bound ?zqN ?zqM ?_; (case zqN => k_asm); (case zqM => k_mem); k_whole)))
  trivial
def bOf (is : List Nat) : Array UInt8 := ((is.flatMap sgO).map fun x => UInt8.ofNat x.toNat).toArray
def tOf (is : List Nat) : Str := Txt.join (Str.ofString "") (is.map sgT)
open PySem.Builtin PySem.Builtin._codecs in
structure SgOk (is : List Nat) : Prop where
  enc : ∀ id self, encodeNarrow id utf8Codec none self (tOf is) = pure (bOf is)
  dec : ∀ id, runDecoder id utf8Decoder none true (bOf is) 0 [] = pure ((tOf is).cps, (bOf is).size)
  oct : KBw.bInts (bOf is) = is.flatMap sgO
  emp : (bOf is).isEmpty = true → tOf is = Str.empty
  tlen : (tOf is).length ≤ 100
theorem lt4 {a : Nat} {is : List Nat} (h : ∀ i ∈ is, i < 4) (hm : a ∈ is) : a = 0 ∨ a = 1 ∨ a = 2 ∨ a = 3 := by
  have := h a hm
  match a, this with
  | 0, _ => exact .inl rfl
  | 1, _ => exact .inr (.inl rfl)
  | 2, _ => exact .inr (.inr (.inl rfl))
  | 3, _ => exact .inr (.inr (.inr rfl))
set_option maxHeartbeats 40000000 in
theorem sg_ok : ∀ (is : List Nat), is.length ≤ 3 → (∀ i ∈ is, i < 4) → SgOk is
  | [], _, _ => ⟨fun _ _ => by kernel_rfl, fun _ => by kernel_rfl, by kernel_rfl, fun _ => by kernel_rfl, by decide⟩
  | [a], _, h => by
    rcases lt4 h (a := a) (by simp) with rfl | rfl | rfl | rfl <;> exact ⟨fun _ _ => by kernel_rfl, fun _ => by kernel_rfl, by kernel_rfl, fun h => absurd h (by decide), by decide⟩
  | [a, b], _, h => by
    rcases lt4 h (a := a) (by simp) with rfl | rfl | rfl | rfl <;> rcases lt4 h (a := b) (by simp) with rfl | rfl | rfl | rfl <;> exact ⟨fun _ _ => by kernel_rfl, fun _ => by kernel_rfl, by kernel_rfl, fun h => absurd h (by decide), by decide⟩
  | [a, b, c], _, h => by
    rcases lt4 h (a := a) (by simp) with rfl | rfl | rfl | rfl <;> rcases lt4 h (a := b) (by simp) with rfl | rfl | rfl | rfl <;> rcases lt4 h (a := c) (by simp) with rfl | rfl | rfl | rfl <;> exact ⟨fun _ _ => by kernel_rfl, fun _ => by kernel_rfl, by kernel_rfl, fun h => absurd h (by decide), by decide⟩
  | _ :: _ :: _ :: _ :: _, h, _ => absurd h (by simp)
theorem map_inj : ∀ (l l' : List UInt8), l.map (fun c => ((c.toNat : Nat) : Int)) = l'.map (fun c => ((c.toNat : Nat) : Int)) → l = l'
  | [], [], _ => rfl
  | [], _ :: _, h => by cases h
  | _ :: _, [], h => by cases h
  | a :: l, b :: l', h => by
    simp only [List.map_cons, List.cons.injEq] at h
    have e : a = b := UInt8.toNat_inj.mp (by k_extra "om")
    rw [e, map_inj l l' h.2]
theorem bints_inj {b b' : Array UInt8} (h : KBw.bInts b = KBw.bInts b') : b = b' := by
  have := map_inj b.toList b'.toList h
  exact Array.ext' this
theorem value_cons (n : Int) (ns : List Int) : KFB.value (n :: ns).reverse = KFB.value ns.reverse * 256 + n := by
  rw [List.reverse_cons]
  unfold KFB.value
  rw [List.foldl_append]
  rfl
theorem value_little : ∀ (k : Nat) (x : Int), 0 ≤ x → x < 256 ^ k → KFB.value (KTBy.little k x).reverse = x
  | 0, x, h0, h1 => by
    have : x = 0 := by simp at h1; omega
    subst this
    rfl
  | k + 1, x, h0, h1 => by
    show KFB.value ((x % 256) :: KTBy.little k (x / 256)).reverse = x
    rw [value_cons, value_little k (x / 256) (by k_extra "om") (by rw [Int.pow_succ] at h1; omega)]
    omega
theorem rng_sg : ∀ is : List Nat, Rng (is.flatMap sgO)
  | [] => rng_nil
  | i :: is => by
    rw [List.flatMap_cons]
    refine rng_app ?_ (rng_sg is)
    match i with
    | 0 => exact rng_cons (by decide) rng_nil
    | 1 => exact rng_cons (by decide) rng_nil
    | 2 => exact rng_cons (by decide) (rng_cons (by decide) rng_nil)
    | _ + 3 => exact rng_cons (by decide) (rng_cons (by decide) (rng_cons (by decide) rng_nil))
structure KeyKind (w : World) (ks : Nat) (sC sfn dfn : Addr) (kv : Tok → Value) (ko : List Int) (good : Prop) (exc fault : String) : Prop where
  hand : ∀ t, handedIn (kv t) = true
  ser : ∀ t, SerOk w sfn (kv t) ks ko good exc
  des : good → DeserOk w dfn ko (fun v => ∃ t, v = kv t)
  rng : Rng ko
  cls : (sC = 320 ∧ sfn = 310 ∧ dfn = 317) ∨ (sC = 346 ∧ sfn = 336 ∧ dfn = 343)
  exf : (exc = "OverflowError" ∧ fault = "too great") ∨ (exc = "AssertionError" ∧ fault = "refused")
theorem kind_int (w : World) (ks : Nat) (hks : ks ≤ 5) (m0 : Int) : KeyKind w ks 320 310 317 (fun t => .int (intKey ks m0) t) (KTBy.little ks (intKey ks m0)) (0 ≤ intKey ks m0 ∧ intKey ks m0 < 256 ^ ks) "OverflowError" "too great" where
  hand _ := rfl
  ser t := serOk_int w _ t ks hks
  des g := by
    have h := deserOk_int w (KTBy.little ks (intKey ks m0)) (by rw [KTBy.little_length]; omega)
    rw [value_little ks _ g.1 g.2] at h
    exact h
  rng := rng_little _ _
  cls := .inl ⟨rfl, rfl, rfl⟩
  exf := .inl ⟨rfl, rfl⟩
theorem text_sg (m0 : Int) : SgOk (dgs m0 (m0.fmod 4 - 0).toNat) := sg_ok _ (by rw [dgs_len]; have := mod4_le m0; omega) dgs_lt
theorem kind_text (w : World) (ks : Nat) (hks : ks ≤ 5) (m0 : Int) : KeyKind w ks 346 336 343 (fun t => .str (textKey m0) t) (textOct m0) ((textOct m0).length ≤ ks) "AssertionError" "refused" where
  hand _ := rfl
  ser t := serOk_str w _ t ks hks (bOf (dgs m0 (m0.fmod 4 - 0).toNat)) _ (text_sg m0).enc (by
    have e := KBw.ints_length (bOf (dgs m0 (m0.fmod 4 - 0).toNat))
    rw [(text_sg m0).oct] at e
    have := octs_len m0 (m0.fmod 4 - 0).toNat (by have := mod4_le m0; omega)
    omega) (text_sg m0).oct (by have := octs_len m0 (m0.fmod 4 - 0).toNat (by have := mod4_le m0; omega); unfold textOct; omega)
  des g := deserOk_str w _ (textKey m0) (bOf (dgs m0 (m0.fmod 4 - 0).toNat)).size (fun b hb => by
    have e : b = bOf (dgs m0 (m0.fmod 4 - 0).toNat) := bints_inj (hb.trans (text_sg m0).oct.symm)
    subst e
    exact ⟨(text_sg m0).dec, (text_sg m0).emp⟩) (Nat.le_trans (text_sg m0).tlen (by decide))
  rng := rng_sg _
  cls := .inr ⟨rfl, rfl, rfl⟩
  exf := .inr ⟨rfl, rfl⟩

end
section
theorem code_rec {w : World} {h : Heap} (X : (hd.heap_1 w.params).In h) : CodeHd h 399 397 := by
  refine ⟨_, _, _, _, _, _, _, _, _, X 399 _ (by rfl), by rfl, by rfl, by rfl, by rfl, by rfl, by rfl, by rfl, by rfl, by decide⟩
theorem code_ref {w : World} {h : Heap} (X : (hd.heap_1 w.params).In h) : CodeHd h 406 402 := by
  refine ⟨_, _, _, _, _, _, _, _, _, X 406 _ (by rfl), by rfl, by rfl, by rfl, by rfl, by rfl, by rfl, by rfl, by rfl, by decide⟩
theorem code_read {w : World} {h : Heap} (X : (hd.heap_1 w.params).In h) : CodeHd h 411 409 := by
  refine ⟨_, _, _, _, _, _, _, _, _, X 411 _ (by rfl), by rfl, by rfl, by rfl, by rfl, by rfl, by rfl, by rfl, by rfl, by decide⟩
abbrev pgs : List Int := [0, 1, 258, 4294967295, 4294967296]
set_option maxHeartbeats 4000000 in
theorem pages_calls (w : World) (news : List (Addr × Obj)) : Calls w (.ref 355) [] news 5 60 (fun h₀ L h' v => ∃ l vs e, v = .ref l ∧ IntsAre vs pgs ∧ News h₀ L h' ((l, listOf vs.toArray e) :: news) ∧ ∀ q ∈ news, q.1 < l) := by
  unfold Calls
  k_fill
  intro p loose mean mg mb dp un gd cn cs a ccd cl outer A₀ base h₀ L m s Q E B F X N T hk hd hu hret
  obtain ⟨kd, nm, ig, ic, mo⟩ := cs
  cases hk
  refine wpAny_call ?_
  k_dflt k_enter
  k_steps
  exact hret _ _ _ (by k_asm) ⟨_, [.int 0 _, .int 1 _, .int 258 _, .int 4294967295 _, .int 4294967296 _], _, rfl, .cons _ _ (.cons _ _ (.cons _ _ (.cons _ _ (.cons _ _ .nil)))), by k_asm, by with_reducible assumption⟩
/-- what is known of the page at a place -/
def PgOk (k P : Int) : Prop := 0 ≤ P ∧ P ≤ 4294967296 ∧ (1 ≤ k → 0 < P) ∧ (k ≠ 4 → P < 4294967296) ∧ (k = 4 → P = 4294967296)
theorem page_at {vs : List Value} (hi : IntsAre vs pgs) {k : Int} (h0 : 0 ≤ k) (h1 : k ≤ 4) : ∃ P t, vs.toArray[k.toNat]? = some (.int P t) ∧ PgOk k P := by
  cases hi with | cons _ t0 hi =>
  cases hi with | cons _ t1 hi =>
  cases hi with | cons _ t2 hi =>
  cases hi with | cons _ t3 hi =>
  cases hi with | cons _ t4 hi =>
  cases hi
  obtain ⟨n, rfl⟩ := Int.eq_ofNat_of_zero_le h0
  match n, h1 with
  | 0, _ => exact ⟨_, _, rfl, by unfold PgOk; omega⟩
  | 1, _ => exact ⟨_, _, rfl, by unfold PgOk; omega⟩
  | 2, _ => exact ⟨_, _, rfl, by unfold PgOk; omega⟩
  | 3, _ => exact ⟨_, _, rfl, by unfold PgOk; omega⟩
  | 4, _ => exact ⟨_, _, rfl, by unfold PgOk; omega⟩
  | n + 5, h => exact absurd h (by k_extra "om")
section
variable {prog : Program} {w : World} {A : Around} {E : Value → Shared → Prop} {s : Shared} {h₀ : Heap} {L l : Addr} {news : List (Addr × Obj)} {value slice : Expr} {vs : List Value} {k : Int} {u : Tok} {Q : Value → Shared → Prop}
theorem page_get {e : Nat} (N : News h₀ L s.heap news) (hm : (l, listOf vs.toArray e) ∈ news) (hi : IntsAre vs pgs) (h0 : 0 ≤ k) (h1 : k ≤ 4) (h : ∀ P t, PgOk k P → Q (.int P t) s)
    (hs : subscripted slice false (.ref l) (.int k u) = operate [.ref l, .int k u] (getItem (.ref l) (.int k u)) := by with_unfolding_all rfl) :
    wpAny (model prog w) A (subscriptTail value slice (.ref l) (.int k u)) Q E s := by
  obtain ⟨P, t, hx, hp⟩ := page_at hi h0 h1
  have hL := News.isList N hm
  exact tail_any hL.typeIs slot_list_getitem.lookup (wpAny_getItem_list hL h0 (by k_extra "om") hx (h P t hp)) hs
end
/-- how `_law_key` answers these -/
def KeyCalls (w : World) (c : Addr) (ks vsz : Nat) (sr : Addr) (t1 t2 t3 t4 : Tok) (tx : Bool) (m0 : Int) (kv : Tok → Value) (ko : List Int) (good : Prop) (fault : String) : Prop :=
  ∀ (news : List (Addr × Obj)) (tm : Tok), (c, confObj ks vsz sr t1 t2 t3 t4) ∈ news → Calls w (.ref 381) [.ref c, .bool tx, .int m0 tm] news 15 500 (fun h₀ L h' v => KeyPost kv ko good fault news h₀ L h' v)
theorem key_use {w : World} {c : Addr} {ks vsz : Nat} {sr : Addr} {t1 t2 t3 t4 : Tok} {tx : Bool} {m0 : Int} {kv : Tok → Value} {ko : List Int} {good : Prop} {fault : String} {news : List (Addr × Obj)} {tm : Tok}
    {p : Program} {loose : List Str} {mean : ExcName → Option Value} {mg mb : Str → Option Value}
    {dp un : Nat} {gd : Option (List Code)} {cn : Str} {cs : Scope} {a : Addr} {ccd : Value} {cl : List (Str × Addr)} {outer : List Env} {A₀ : Around} {base h₀ : Heap} {L : Addr} {m : Str → Option Value} {s : Shared} {Q E : Value → Shared → Prop}
    (h : KeyCalls w c ks vsz sr t1 t2 t3 t4 tx m0 kv ko good fault) (hc : (c, confObj ks vsz sr t1 t2 t3 t4) ∈ news) (B : Below A₀ base outer h₀) (F : Fr h₀ L s.heap m) (X : (hd.heap_1 w.params).In h₀) (N : News h₀ L s.heap news) (T : Top p loose mean mg mb h₀) (hk : cs.kind = .function)
    (hdp : dp + 15 < recursionLimit) (hu : un + 500 < cLine)
    (hgood : ∀ tup t tf l vs h' tk, good → IntsAre vs ko → Fr h₀ L h' m → News h₀ L h' ((tup, { cls := .type "tuple", data := .seq #[kv t, .ref l, .str (PySem.Str.ofString "") tf] }) :: (l, LCg.lst vs) :: news) → AllNe tup news ∧ AllNe l news ∧ (@Ne Nat l tup) → Q (.ref tup) { s with heap := h', toks := tk })
    (hbad : ∀ tup t tf h' tk, ¬ good → Fr h₀ L h' m → News h₀ L h' ((tup, { cls := .type "tuple", data := .seq #[kv t, .none, .str (PySem.Str.ofString fault) tf] }) :: news) → AllNe tup news → Q (.ref tup) { s with heap := h', toks := tk }) :
    wpAny (model PySem.Challenge.rw_ke0001_01.row.prog w) (ktrTop dp un gd cn cs L a ccd cl outer) (call (.ref 381) [.ref c, .bool tx, .int m0 tm]) Q E s :=
  calls_use (h news tm hc) B F X N T hk hdp hu (fun v h' tk' F' P => by
    obtain ⟨tup, t, tf, rfl, hne, ⟨hg, l, vs, hi, N', hl, hlt⟩ | ⟨hg, N'⟩⟩ := P
    · exact hgood tup t tf l vs h' tk' hg hi F' N' ⟨allNe_of hne, allNe_of hl, hlt⟩
    · exact hbad tup t tf h' tk' hg F' N' (allNe_of hne))
theorem rng_fmod {n : Nat} {f : Int → Int} : Rng ((rangeKs 0 n).map fun k => (f k).fmod 256) := fun x hx => by
  obtain ⟨k, _, rfl⟩ := List.mem_map.mp hx
  rw [Int.fmod_eq_emod_of_nonneg _ (by decide)]
  exact ⟨Int.emod_nonneg _ (by decide), Int.emod_lt_of_pos _ (by decide)⟩
theorem allLt_succ {d : Nat} {l : List (Addr × Obj)} (h : AllLt d l) : AllLt (d + 1) l := allLt_of fun p hp => Nat.lt_succ_of_lt (allLt_mem h p hp)
theorem fmod_bnd (a b : Int) (h : 0 < b) : 0 ≤ a.fmod b ∧ a.fmod b < b := by
  rw [Int.fmod_eq_emod_of_nonneg _ (Int.le_of_lt h)]
  exact ⟨Int.emod_nonneg _ (Int.ne_of_gt h), Int.emod_lt_of_pos _ h⟩
theorem cell_is {o : Obj} {x : Option Value} (h : o.data = .cell x) (v : Option Value) (hx : x = v) : o.data = .cell v := hx ▸ h
theorem tabOk_q {ps : Array Value} {rest : List (Addr × Obj)} {q q' : Str} (h : TabOk ps rest q) (e : q = q') : TabOk ps rest q' := e ▸ h

end
section
theorem words_24_tool : True := by
  (k_with "call ref" => (k_here; (with_reducible show wpAny _ _ (call (Value.ref 355) _) _ _ _); k_dflt (refine' calls_use (pages_calls _ _) ?zqB ?zqF ?zqX ?zqN ?zqT ?zqk ?zqd ?zqu ?_; (case zqB => k_asm); (case zqF => k_asm); (case zqX => k_asm); (case zqN => k_asm); (case zqT => k_asm); (case zqk => exact rfl); (case zqd => ktr_room); (case zqu => ktr_units); k_whole); intro v' h' tk' F' P'; obtain ⟨l', vs', e', hv', hI', N', l1⟩ := P'; subst hv'; (try k_lt l1); (try dsimp only); (try k_fold)))
  (k_with "subscriptTail" => (k_here; (with_reducible show wpAny _ _ (subscriptTail _ _ (Value.ref _) (Value.int _ _)) _ _ _); k_dflt (refine' page_get ?zqN ?zqm ?zqi ?zqa ?zqb (fun P' t' hP' => ?_); (case zqN => k_asm); (case zqm => k_mem); (case zqi => with_reducible assumption); (case zqa => k_extra "om"); (case zqb => k_extra "om"))))
  (k_with "call ref" => (k_here; (with_reducible show wpAny _ _ (call (Value.ref 381) [Value.ref _, Value.bool _, Value.int _ _]) _ _ _); (with_reducible rename KeyCalls _ _ _ _ _ _ _ _ _ _ _ _ _ _ _ => zrhkc); k_dflt (refine' key_use zrhkc ?zqm ?zqB ?zqF ?zqX ?zqN ?zqT ?zqk ?zqd ?zqu (fun tup' t' tf' l' vs' h' tk' hg' hi' F' N' hO' => ?_) (fun tup' t' tf' h' tk' hg' F' N' hO' => ?_); (case zqN => k_asm); (case zqm => k_mem); (case zqB => k_asm); (case zqF => k_asm); (case zqX => k_asm); (case zqT => k_asm); (case zqk => exact rfl); (case zqd => ktr_room); (case zqu => ktr_units)); (all_goals (try simp only [AllNe, and_true] at hO')); (all_goals (try k_fold))))
  (k_with "binaryOp Mult int int" => (k_here; (with_reducible refine mul_int ?_ (IntMulOk.of_left (intBits_le_64 (by k_extra "om") (by k_extra "om"))))))
  (k_with "CompSrc" => (k_here; k_dflt (refine LCg.CompSrc.range (by rfl) (by k_asm) (by k_asm) (by assumption) (by first | exact small_one (by kcf_bnd) (by kcf_bnd) (by kcf_bnd) (by kcf_bnd) | decide) (by first | exact rangeSize_nat _ _ | rfl) (by rw [PySem.sizeLine_eq]; k_extra "om") ?_; intro g'; (refine' kcf_range _ (fun k' t' I' oI' C' oC' D' m' ys' h' tk' E' hlo' hhi' hC' hx' F' N' off' ne' hMark' => ?_) ?_); (all_goals (try (simp only [LCg.Off3, and_true] at off'))); kcf_last)))
  trivial
/-- the octets of a key, or none -/
def KeyAns (ko : List Int) (good : Prop) (fault : String) (ov : Value) (fv : String) (l : Addr) (ol : Obj) : Prop :=
  (good ∧ ov = .ref l ∧ fv = "" ∧ ∃ vs, ol = LCg.lst vs ∧ IntsAre vs ko) ∨ (¬ good ∧ ov = .none ∧ fv = fault)
theorem keyAns_hand {ko : List Int} {good : Prop} {fault : String} {ov : Value} {fv : String} {l : Addr} {ol : Obj} (h : KeyAns ko good fault ov fv l ol) : handedIn ov = true := by
  rcases h with ⟨_, rfl, _⟩ | ⟨_, rfl, _⟩ <;> rfl
theorem key_use2 {w : World} {c : Addr} {ks vsz : Nat} {sr : Addr} {t1 t2 t3 t4 : Tok} {tx : Bool} {m0 : Int} {kv : Tok → Value} {ko : List Int} {good : Prop} {fault : String} {news : List (Addr × Obj)} {tm : Tok}
    {p : Program} {loose : List Str} {mean : ExcName → Option Value} {mg mb : Str → Option Value}
    {dp un : Nat} {gd : Option (List Code)} {cn : Str} {cs : Scope} {a : Addr} {ccd : Value} {cl : List (Str × Addr)} {outer : List Env} {A₀ : Around} {base h₀ : Heap} {L : Addr} {m : Str → Option Value} {s : Shared} {Q E : Value → Shared → Prop}
    (h : KeyCalls w c ks vsz sr t1 t2 t3 t4 tx m0 kv ko good fault) (hc : (c, confObj ks vsz sr t1 t2 t3 t4) ∈ news) (B : Below A₀ base outer h₀) (F : Fr h₀ L s.heap m) (X : (hd.heap_1 w.params).In h₀) (N : News h₀ L s.heap news) (T : Top p loose mean mg mb h₀) (hk : cs.kind = .function)
    (hdp : dp + 15 < recursionLimit) (hu : un + 500 < cLine)
    (hret : ∀ tup t tf ov fv l ol h' tk, KeyAns ko good fault ov fv l ol → Fr h₀ L h' m → News h₀ L h' ((tup, { cls := .type "tuple", data := .seq #[kv t, ov, .str (PySem.Str.ofString fv) tf] }) :: (l, ol) :: news) → AllNe tup news ∧ AllNe l news → Q (.ref tup) { s with heap := h', toks := tk }) :
    wpAny (model PySem.Challenge.rw_ke0001_01.row.prog w) (ktrTop dp un gd cn cs L a ccd cl outer) (call (.ref 381) [.ref c, .bool tx, .int m0 tm]) Q E s :=
  calls_use (h news tm hc) B F X N T hk hdp hu (fun v h' tk' F' P => by
    obtain ⟨tup, t, tf, rfl, hne, ⟨hg, l, vs, hi, N', hl, hlt⟩ | ⟨hg, N'⟩⟩ := P
    · exact hret tup t tf _ _ l _ h' tk' (.inl ⟨hg, rfl, rfl, vs, rfl, hi⟩) F' N' ⟨allNe_of hne, allNe_of hl⟩
    · exact hret tup t tf _ _ tup _ h' tk' (.inr ⟨hg, rfl, rfl⟩) F' (fun q hq => by
        rcases List.mem_cons.mp hq with rfl | hq
        · exact N' _ (.head _)
        · rcases List.mem_cons.mp hq with rfl | hq
          · exact N' _ (.head _)
          · exact N' _ (.tail _ hq)) ⟨allNe_of hne, allNe_of hne⟩)
/-- `_law_done` of a def: what came of it, the ledger as it stood -/
theorem done_use {w : World} {f : Addr} {oc : Value} {od : Option Addr} {fd : FuncData} {sl : Array (Option Value)} {news : List (Addr × Obj)} {dm um : Nat} {PV : Value → Prop} {Exc : String → Prop}
    {p : Program} {loose : List Str} {mean : ExcName → Option Value} {mg mb : Str → Option Value}
    {dp un : Nat} {gd : Option (List Code)} {cn : Str} {cs : Scope} {a : Addr} {ccd : Value} {cl : List (Str × Addr)} {outer : List Env} {A₀ : Around} {base h₀ g₀ : Heap} {L : Addr} {m : Str → Option Value} {s : Shared} {Q E : Value → Shared → Prop}
    (hf : (f, (⟨oc, od, .func fd, sl⟩ : Obj)) ∈ news) (hlam : CallsN w (.ref f) [] news dm um (fun v news' => PV v ∧ ∀ q ∈ news, q ∈ news') Exc)
    (hx : ∀ c, Exc c → c = "AssertionError" ∨ c = "OverflowError")
    (B : Below A₀ base outer h₀) (F : Fr h₀ L s.heap m) (X : (hd.heap_1 w.params).In h₀) (N : News h₀ L s.heap news) (T : Top p loose mean mg mb h₀) (hk : cs.kind = .function)
    (XB : (hd.heap_1 w.params).In base) (TB : Top p loose mean mg mb base) (D : KtsDicts (outer.filterMap (·.frame)) h₀) (T0 : KtsTurn (outer.filterMap (·.frame)) g₀ h₀)
    (hdp : dp + (dm + 3) < recursionLimit) (hu : un + (um + 20) < cLine)
    (hret : ∀ (v : Value) (h' : Heap) (tk' : Nat) (h₁ : Heap), (PV v ∨ (Exc "AssertionError" ∧ ∃ t, v = .str (PySem.Str.ofString "refused") t) ∨ (Exc "OverflowError" ∧ ∃ t, v = .str (PySem.Str.ofString "too great") t)) →
      KtsTurn (outer.filterMap (·.frame)) g₀ h₁ → Fr h₁ L h' m → News h₁ L h' news → Below A₀ base outer h₁ → (hd.heap_1 w.params).In h₁ → Top p loose mean mg mb h₁ → KtsDicts (outer.filterMap (·.frame)) h₁ → Q v { s with heap := h', toks := tk' }) :
    wpAny (model PySem.Challenge.rw_ke0001_01.row.prog w) (ktrTop dp un gd cn cs L a ccd cl outer) (call (.ref 395) [.ref f]) Q E s :=
  callsC_use (done_calls w news f oc od fd sl hf dm um _ Exc hlam hx) B F X N T hk XB TB D T0 hdp hu (fun v news' h' tk' h₁ T1 F1 N1 B1 X1 TT D1 P => by
    rcases P with ⟨P, hs⟩ | ⟨P1, P2, hs⟩ | ⟨P1, P2, hs⟩
    · exact hret v h' tk' h₁ (.inl P) T1 F1 (cb_drop N1 hs) B1 X1 TT D1
    · exact hret v h' tk' h₁ (.inr (.inl ⟨P1, P2⟩)) T1 F1 (cb_drop N1 hs) B1 X1 TT D1
    · exact hret v h' tk' h₁ (.inr (.inr ⟨P1, P2⟩)) T1 F1 (cb_drop N1 hs) B1 X1 TT D1)
/-- a tree's value told, its ledger brought back -/
theorem cut_tree {α : Type} {M : Model} {A : Around} {t : Sem α} {h₀ : Heap} {L : Addr} {m : Str → Option Value} {news : List (Addr × Obj)} {P : α → Prop} {Q : α → Shared → Prop} {E : Value → Shared → Prop} {s : Shared}
    (h : wpAny M A t (fun v s' => P v ∧ ∃ h' tk, s' = { s with heap := h', toks := tk } ∧ Fr h₀ L h' m ∧ News h₀ L h' news) E s)
    (hQ : ∀ v h' tk, P v → Fr h₀ L h' m → News h₀ L h' news → Q v { s with heap := h', toks := tk }) : wpAny M A t Q E s :=
  wpAny_mono h (fun v s' ⟨p, h', tk, e, F, N⟩ => e ▸ hQ v h' tk p F N) fun _ _ e => e
section
variable {prog : Program} {w : World} {A : Around} {E : Value → Shared → Prop} {s : Shared} {b c : Array UInt8} {t u : Tok} {D D' : List Int} {Q : Value → Shared → Prop}
theorem ne_b (h1 : KBw.bInts b = D) (h2 : KBw.bInts c = D') (e : D = D') (h : Q (.bool false) s) : wpAny (model prog w) A (compareOp .NotEq (.bytes b t) (.bytes c u)) Q E s := by
  have e2 : b = c := bints_inj (h1.trans (e.trans h2.symm))
  subst e2
  refine ne_bytes ?_
  simpa using h
theorem eq_b (h1 : KBw.bInts b = D) (h2 : KBw.bInts c = D') (e : D = D') (h : Q (.bool true) s) : wpAny (model prog w) A (compareOp .Eq (.bytes b t) (.bytes c u)) Q E s := by
  have e2 : b = c := bints_inj (h1.trans (e.trans h2.symm))
  subst e2
  refine eq_bytes ?_
  simpa using h
end
section
open PySem.SeqAt
variable {A : Around} {s : Shared}
theorem at_int (x : Int) (t u : Tok) : EqAt A s (.int x t) (.int x u) true := by
  have h := EqAt.int_int (A := A) (s := s) x t x u
  rwa [beq_self_eq_true] at h
theorem at_str (x : Str) (t u : Tok) : EqAt A s (.str x t) (.str x u) true := by
  have h := EqAt.str_str (A := A) (s := s) x t x u
  rwa [beq_self_eq_true] at h
theorem at_bytes {b c : Array UInt8} {t u : Tok} {D D' : List Int} (h1 : KBw.bInts b = D) (h2 : KBw.bInts c = D') (e : D = D') : EqAt A s (.bytes b t) (.bytes c u) true := fun prog w E Q hq => by
  unfold eqBool
  refine wpAny_holding ?_
  refine wpAny_ite_split (fun _ => wpAny_bind (wpAny_rule (wpAny_pure hq))) (fun _ => wpAny_bind ?_)
  exact eq_b (prog := prog) (w := w) h1 h2 e (wpAny_truthy_bool hq)
/-- two rows of values, equal place by place -/
def AllAt (A : Around) (s : Shared) : List Value → List Value → Prop
  | [], [] => True
  | x :: xs, y :: ys => EqAt A.in1 s x y true ∧ AllAt A s xs ys
  | _, _ => False
theorem allAt_get : ∀ {xs ys : List Value}, AllAt A s xs ys → xs.length = ys.length ∧ ∀ j (h1 : j < xs.length) (h2 : j < ys.length), EqAt A.in1 s xs[j] ys[j] true
  | [], [], _ => ⟨rfl, fun j h1 _ => absurd h1 (Nat.not_lt_zero _)⟩
  | x :: xs, y :: ys, h => by
    have r := allAt_get h.2
    refine ⟨by rw [List.length_cons, List.length_cons, r.1], fun j h1 h2 => ?_⟩
    cases j with
    | zero => exact h.1
    | succ j => exact r.2 j (by simpa using h1) (by simpa using h2)
  | [], _ :: _, h => absurd h id
  | _ :: _, [], h => absurd h id
variable {prog : Program} {w : World} {E : Value → Shared → Prop} {h₀ : Heap} {L a b : Addr} {news : List (Addr × Obj)} {xs ys : List Value} {n k : Nat} {Q : Value → Shared → Prop}
theorem tup_is (N : News h₀ L s.heap news) (ma : (a, ({ cls := .type "tuple", data := .seq xs.toArray n } : Obj)) ∈ news) : s.heap.IsTuple a xs.toArray := ⟨_, (N _ ma).1, rfl, n, rfl⟩
theorem tup_eq (N : News h₀ L s.heap news) (ma : (a, ({ cls := .type "tuple", data := .seq xs.toArray n } : Obj)) ∈ news) (mb : (b, ({ cls := .type "tuple", data := .seq ys.toArray k } : Obj)) ∈ news) (hu : A.units < cLine)
    (h : AllAt A s xs ys) (hQ : Q (.bool true) s) : wpAny (model prog w) A (compareOp .Eq (.ref a) (.ref b)) Q E s := by
  have r := allAt_get h
  refine RcAt.tuples (e := fun _ => true) (tup_is N ma) (tup_is N mb) hu (fun j h1 h2 => by simpa using r.2 j (by simpa using h1) (by simpa using h2)) prog w E Q ?_
  have e1 : ((List.range (min xs.toArray.size ys.toArray.size)).all fun _ => true) = true := List.all_eq_true.mpr fun _ _ => rfl
  have e2 : (xs.toArray.size == ys.toArray.size) = true := by rw [List.size_toArray, List.size_toArray, r.1]; exact beq_self_eq_true _
  rw [e1, e2]
  exact hQ
theorem tup_ne (N : News h₀ L s.heap news) (ma : (a, ({ cls := .type "tuple", data := .seq xs.toArray n } : Obj)) ∈ news) (mb : (b, ({ cls := .type "tuple", data := .seq ys.toArray k } : Obj)) ∈ news) (hu : A.units < cLine)
    (h : AllAt A s xs ys) (hQ : Q (.bool false) s) : wpAny (model prog w) A (compareOp .NotEq (.ref a) (.ref b)) Q E s := by
  have r := allAt_get h
  refine RcNeAt.tuples (e := fun _ => true) (tup_is N ma) (tup_is N mb) hu (fun j h1 h2 => by simpa using r.2 j (by simpa using h1) (by simpa using h2)) prog w E Q ?_
  have e1 : ((List.range (min xs.toArray.size ys.toArray.size)).all fun _ => true) = true := List.all_eq_true.mpr fun _ _ => rfl
  have e2 : (xs.toArray.size == ys.toArray.size) = true := by rw [List.size_toArray, List.size_toArray, r.1]; exact beq_self_eq_true _
  rw [e1, e2]
  exact hQ
/-- keys of one make are equal whatever their tokens -/
structure KeyEq (kv : Tok → Value) : Prop where
  at' : ∀ (A : Around) (s : Shared) (t u : Tok), EqAt A s (kv t) (kv u) true
  ne' : ∀ (prog : Program) (w : World) (A : Around) (s : Shared) (Q E : Value → Shared → Prop) (t u : Tok), Q (.bool false) s → wpAny (model prog w) A (compareOp .NotEq (kv t) (kv u)) Q E s
theorem keyEq_int (x : Int) : KeyEq (fun t => .int x t) := ⟨fun _ _ t u => at_int x t u, fun prog w A s Q E t u h => PyProof.Rows.ne_int (by simpa using h)⟩
theorem keyEq_str (x : Str) : KeyEq (fun t => .str x t) := ⟨fun _ _ t u => at_str x t u, fun prog w A s Q E t u h => PyProof.Rows.ne_str (by simpa using h)⟩
end

end
section
theorem words_24b_back : True := by
  (k_with "eval Lambda" => (k_here; k_dflt (refine' kla_eval ?zqd0 ?_; (case zqd0 => exact rfl)); k_dflt (refine' lam_make ?zqF ?zqN ?zqT ?zqC ?zqcd ?zqU ?zqO ?zqsub ?zqcl (fun f' c' oc' vs' t' ct' ps' h' tk' F' N' O' d1' d2' l1 hk' => ?_); (case zqF => k_asm); (case zqN => k_asm); (case zqT => k_asm); (case zqC => with_reducible assumption); (case zqcd => exact rfl); (case zqU => k_updF); (case zqO => ((with_reducible rename TabOk _ _ _ => zrhO'); exact tabOk_q zrhO' (by kernel_rfl))); (case zqsub => first | (intro q hq; k_mem; done) | kcf_all); (case zqcl => exact rfl)); (try dsimp only at N'); (try k_lt l1)))
  (k_with "call ref" => (k_here; (with_reducible show wpAny _ _ (call (Value.ref 381) [Value.ref _, Value.bool _, Value.int _ _]) _ _ _); (with_reducible rename KeyCalls _ _ _ _ _ _ _ _ _ _ _ _ _ _ _ => zrhkc); k_dflt (refine' key_use2 zrhkc ?zqm ?zqB ?zqF ?zqX ?zqN ?zqT ?zqk ?zqd ?zqu (fun tup' t' tf' ov' fv' l' ol' h' tk' hA' F' N' hO' => ?_); (case zqN => k_asm); (case zqm => k_mem); (case zqB => k_asm); (case zqF => k_asm); (case zqX => k_asm); (case zqT => k_asm); (case zqk => exact rfl); (case zqd => ktr_room); (case zqu => ktr_units)); (have hH' := keyAns_hand hA'); (obtain ⟨hO1', hO2'⟩ := hO'); (try k_fold)))
  trivial
theorem slc_mid {A S B D : List Int} {lo hi : Int} (e : D = A ++ (S ++ B)) (h1 : A.length = lo.toNat) (h2 : S.length = hi.toNat - lo.toNat) : Slc D lo hi S := by
  unfold Slc
  rw [e, ← h1, List.drop_left, h1, ← h2, List.take_left]
theorem slc_nat {A S B D : List Int} {lo hi : Int} (a b : Nat) (e : D = A ++ (S ++ B)) (ha : lo = (a : Int)) (hb : hi = (b : Int)) (h1 : A.length = a) (h2 : a + S.length = b) : Slc D lo hi S := by
  subst ha hb
  refine slc_mid e h1 ?_
  rw [Int.toNat_natCast, Int.toNat_natCast, ← h2, Nat.add_sub_cancel_left]
theorem bnd_rec {n ks vsz : Nat} (h : n = 2 + ks + 2 + vsz + 4) (h1 : ks ≤ 5) (h2 : vsz ≤ 5) : 0 < n ∧ n ≤ 1000 := by
  subst h
  exact ⟨Nat.succ_pos _, Nat.le_trans (Nat.add_le_add_right (Nat.add_le_add (Nat.add_le_add_right (Nat.add_le_add_left h1 2) 2) h2) 4) (by decide)⟩
theorem bnd_ref {n ks : Nat} (h : n = 2 * 4 + 2 + ks) (h1 : ks ≤ 5) : 0 < n ∧ n ≤ 1000 := by
  subst h
  exact ⟨Nat.lt_of_lt_of_le (by decide) (Nat.le_add_right (2 * 4 + 2) ks), Nat.le_trans (Nat.add_le_add_left h1 _) (by decide)⟩
theorem ln1 {k s : Nat} (h : k ≤ s) : 2 + k + (s - k) = 2 + s := ln3 h
theorem len_lt {a s : Nat} (h : a ≤ s) (h5 : s ≤ 5) : (0 : Int) ≤ a ∧ (a : Int) < 256 ^ 2 := by rw [show (256 : Int) ^ 2 = 65536 from by decide]; omega
theorem lt4p {P : Int} (h : P < 4294967296) : P < 256 ^ 4 := by rw [show (256 : Int) ^ 4 = 4294967296 from by decide]; exact h
/-- the octets of a record -/
def rowOf (ks vsz : Nat) (ko ns : List Int) (P : Int) : List Int := KTBy.little 2 ko.length ++ ko ++ List.replicate (ks - ko.length) 0 ++ KTBy.little 2 ns.length ++ ns ++ List.replicate (vsz - ns.length) 0 ++ KTBy.little 4 P
theorem row_len {ks vsz : Nat} {ko ns : List Int} {P : Int} (h1 : ko.length ≤ ks) (h2 : ns.length ≤ vsz) : (rowOf ks vsz ko ns P).length = 2 + ks + 2 + vsz + 4 := by
  unfold rowOf
  simp only [List.length_append, List.length_replicate, KTBy.little_length]
  rw [ln3 h1, ln3 h2]
/-- the octets of a reference -/
def rowRef (ks : Nat) (ko : List Int) (bf af : Int) : List Int := KTBy.little 4 bf ++ KTBy.little 2 ko.length ++ ko ++ List.replicate (ks - ko.length) 0 ++ KTBy.little 4 af
theorem rowRef_len {ks : Nat} {ko : List Int} {bf af : Int} (h1 : ko.length ≤ ks) : (rowRef ks ko bf af).length = 2 * 4 + 2 + ks := by
  unfold rowRef
  simp only [List.length_append, List.length_replicate, KTBy.little_length]
  rw [ln3 h1, Nat.add_right_comm]
theorem row_slc {ks vsz : Nat} {ko ns : List Int} {P : Int} (h1 : ko.length ≤ ks) (h2 : ns.length ≤ vsz) :
    Slc (rowOf ks vsz ko ns P) 0 2 (KTBy.little 2 ko.length) ∧ Slc (rowOf ks vsz ko ns P) 2 (2 + (ko.length : Int)) ko ∧ Slc (rowOf ks vsz ko ns P) (2 + (ks : Int)) (2 + (ks : Int) + 2) (KTBy.little 2 ns.length) ∧
      Slc (rowOf ks vsz ko ns P) (2 + (ks : Int) + 2) (2 + (ks : Int) + 2 + (ns.length : Int)) ns ∧ Slc (rowOf ks vsz ko ns P) (2 + (ks : Int) + 2 + (vsz : Int)) (2 + (ks : Int) + 2 + (vsz : Int) + 4) (KTBy.little 4 P) := by
  refine ⟨slc_nat 0 2 (A := []) (B := ko ++ List.replicate (ks - ko.length) 0 ++ KTBy.little 2 ns.length ++ ns ++ List.replicate (vsz - ns.length) 0 ++ KTBy.little 4 P) (by simp [rowOf]) rfl rfl rfl (by rw [KTBy.little_length]), ?_, ?_, ?_, ?_⟩
  · exact slc_nat 2 (2 + ko.length) (A := KTBy.little 2 ko.length) (B := List.replicate (ks - ko.length) 0 ++ KTBy.little 2 ns.length ++ ns ++ List.replicate (vsz - ns.length) 0 ++ KTBy.little 4 P) (by simp [rowOf]) rfl rfl (by rw [KTBy.little_length]) rfl
  · exact slc_nat (2 + ks) (2 + ks + 2) (A := KTBy.little 2 ko.length ++ ko ++ List.replicate (ks - ko.length) 0) (B := ns ++ List.replicate (vsz - ns.length) 0 ++ KTBy.little 4 P) (by simp [rowOf]) rfl rfl (by simp only [List.length_append, List.length_replicate, KTBy.little_length, ln1 h1]) (by rw [KTBy.little_length])
  · exact slc_nat (2 + ks + 2) (2 + ks + 2 + ns.length) (A := KTBy.little 2 ko.length ++ ko ++ List.replicate (ks - ko.length) 0 ++ KTBy.little 2 ns.length) (B := List.replicate (vsz - ns.length) 0 ++ KTBy.little 4 P) (by simp [rowOf]) rfl rfl (by simp only [List.length_append, List.length_replicate, KTBy.little_length, ln1 h1]) rfl
  · exact slc_nat (2 + ks + 2 + vsz) (2 + ks + 2 + vsz + 4) (A := KTBy.little 2 ko.length ++ ko ++ List.replicate (ks - ko.length) 0 ++ KTBy.little 2 ns.length ++ ns ++ List.replicate (vsz - ns.length) 0) (B := []) (by simp [rowOf]) rfl rfl (by simp only [List.length_append, List.length_replicate, KTBy.little_length, ln1 h1, Nat.add_assoc, Nat.add_sub_of_le h2]) (by rw [KTBy.little_length])
theorem refrow_slc {ks : Nat} {ko : List Int} {bf af : Int} (h1 : ko.length ≤ ks) :
    Slc (rowRef ks ko bf af) 0 4 (KTBy.little 4 bf) ∧ Slc (rowRef ks ko bf af) 4 (4 + 2) (KTBy.little 2 ko.length) ∧ Slc (rowRef ks ko bf af) (4 + 2) (4 + 2 + (ko.length : Int)) ko ∧ Slc (rowRef ks ko bf af) (4 + 2 + (ks : Int)) (4 + 2 + (ks : Int) + 4) (KTBy.little 4 af) := by
  refine ⟨slc_nat 0 4 (A := []) (B := KTBy.little 2 ko.length ++ ko ++ List.replicate (ks - ko.length) 0 ++ KTBy.little 4 af) (by simp [rowRef]) rfl rfl rfl (by rw [KTBy.little_length]),
    slc_nat 4 6 (A := KTBy.little 4 bf) (B := ko ++ List.replicate (ks - ko.length) 0 ++ KTBy.little 4 af) (by simp [rowRef]) rfl rfl (by rw [KTBy.little_length]) (by rw [KTBy.little_length]), ?_, ?_⟩
  · exact slc_nat 6 (6 + ko.length) (A := KTBy.little 4 bf ++ KTBy.little 2 ko.length) (B := List.replicate (ks - ko.length) 0 ++ KTBy.little 4 af) (by simp [rowRef]) rfl rfl (by simp only [List.length_append, KTBy.little_length]) rfl
  · exact slc_nat (6 + ks) (6 + ks + 4) (A := KTBy.little 4 bf ++ KTBy.little 2 ko.length ++ ko ++ List.replicate (ks - ko.length) 0) (B := []) (by simp [rowRef]) rfl rfl (by simp only [List.length_append, List.length_replicate, KTBy.little_length]; rw [Nat.add_assoc, Nat.add_sub_of_le h1]) (by rw [KTBy.little_length])
theorem pow2 : (256 : Int) ^ 2 = 65536 := by decide
theorem pow4 : (256 : Int) ^ 4 = 4294967296 := by decide
theorem sdcls {sC sfn dfn : Addr} (h : (sC = 320 ∧ sfn = 310 ∧ dfn = 317) ∨ (sC = 346 ∧ sfn = 336 ∧ dfn = 343)) : (sC = 320 ∧ dfn = 317) ∨ (sC = 346 ∧ dfn = 343) := h.imp (fun x => ⟨x.1, x.2.2⟩) fun x => ⟨x.1, x.2.2⟩
theorem sscls {sC sfn dfn : Addr} (h : (sC = 320 ∧ sfn = 310 ∧ dfn = 317) ∨ (sC = 346 ∧ sfn = 336 ∧ dfn = 343)) : (sC = 320 ∧ sfn = 310) ∨ (sC = 346 ∧ sfn = 336) := h.imp (fun x => ⟨x.1, x.2.1⟩) fun x => ⟨x.1, x.2.1⟩
theorem ko_le {w : World} {ks : Nat} {sC sfn dfn : Addr} {kv : Tok → Value} {ko : List Int} {good : Prop} {exc fault : String} (hK : KeyKind w ks sC sfn dfn kv ko good exc fault) (hg : good) : ko.length ≤ ks := (hK.ser 0).1 hg
theorem rec_back (w : World) (news : List (Addr × Obj)) (c : Addr) (ks vsz : Nat) (sr dsr : Addr) (t1 t2 t3 t4 : Tok) (hc : (c, confObj ks vsz sr t1 t2 t3 t4) ∈ news) (hcs : confs ks vsz)
    (hs2 : (dsr, dictOf [] 0) ∈ news) (sC sfn dfn : Addr) (hs1 : (sr, instObj sC dsr) ∈ news) (kv : Tok → Value) (ko : List Int) (good : Prop) (exc fault : String) (hK : KeyKind w ks sC sfn dfn kv ko good exc fault) (hg : good)
    (ns : List Int) (hns : ns.length ≤ vsz) (P : Int) (hP0 : 0 ≤ P) (hP1 : P < 4294967296) (b : Array UInt8) (tb : Tok) (hb : KBw.bInts b = rowOf ks vsz ko ns P) :
    CallsK w (.ref 232) [.ref c] [(PySem.Str.ofString "data", .bytes b tb)] news 15 500 (fun v news' => ∃ t vv pv, ((P = 0 ∧ pv = .none ∧ ∃ b' t', vv = .bytes b' t' ∧ KBw.bInts b' = ns) ∨ (P ≠ 0 ∧ vv = .none ∧ ∃ t', pv = .int P t')) ∧ RecIn w c news (kv t) vv pv (2 + ks + 2 + vsz + 4) v news') (fun _ => False) := by
  have hko := ko_le hK hg
  have hlen := row_len (P := P) hko hns
  have hbn := bnd_rec hlen hcs.2.1 hcs.2.2
  have S := row_slc (P := P) hko hns
  have e1 := len_lt hko hcs.2.1
  have e2 := len_lt hns hcs.2.2
  have R := rec_load w news c ks vsz sr dsr t1 t2 t3 t4 hc hcs hs2 sC dfn hs1 (sdcls hK.cls) b tb (rowOf ks vsz ko ns P) (KTBy.little 2 ko.length) ko (KTBy.little 2 ns.length) ns (KTBy.little 4 P) ko.length ns.length P hb hbn.1 hbn.2 S.1 S.2.1 S.2.2.1 S.2.2.2.1 S.2.2.2.2
    (by rw [KTBy.little_length]; exact Nat.le_refl _) (by rw [KTBy.little_length]; exact Nat.le_refl _) (Nat.le_refl _) (by rw [KTBy.little_length]; exact Nat.le_refl _)
    (value_little 2 _ e1.1 e1.2) (value_little 2 _ e2.1 e2.2) (value_little 4 _ hP0 (lt4p hP1)) e1.1 e2.1 _ (hK.des hg)
  intro p loose mean mg mb dp un gd cn cs a ccd cl outer A₀ base h₀ L m s Q E B F X N T hk hd hu hret hexc
  refine R p loose mean mg mb dp un gd cn cs a ccd cl outer A₀ base h₀ L m s Q E B F X N T hk hd hu (fun v n' h' tk' F' N' P' => ?_) (fun c' e' h' tk' g' C' _ _ _ => absurd ⟨hlen, Int.ofNat_le.mpr hko, Int.ofNat_le.mpr hns⟩ C'.1)
  obtain ⟨_, kv', vv, pv, ⟨t, rfl⟩, hP', hR⟩ := P'
  exact hret v n' h' tk' F' N' ⟨t, vv, pv, hP', hR⟩
theorem ref_back (w : World) (news : List (Addr × Obj)) (c : Addr) (ks vsz : Nat) (sr dsr : Addr) (t1 t2 t3 t4 : Tok) (hc : (c, confObj ks vsz sr t1 t2 t3 t4) ∈ news) (hcs : confs ks vsz)
    (hs2 : (dsr, dictOf [] 0) ∈ news) (sC sfn dfn : Addr) (hs1 : (sr, instObj sC dsr) ∈ news) (kv : Tok → Value) (ko : List Int) (good : Prop) (exc fault : String) (hK : KeyKind w ks sC sfn dfn kv ko good exc fault) (hg : good)
    (bf af : Int) (hb0 : 0 ≤ bf) (hb1 : bf < 4294967296) (ha0 : 0 ≤ af) (ha1 : af < 4294967296) (b : Array UInt8) (tb : Tok) (hb : KBw.bInts b = rowRef ks ko bf af) :
    CallsK w (.ref 273) [.ref c] [(PySem.Str.ofString "data", .bytes b tb)] news 15 500 (fun v news' => ∃ t t' t'', RefIn w c news (kv t) (.int bf t') (.int af t'') (2 * 4 + 2 + ks) v news') (fun _ => False) := by
  have hko := ko_le hK hg
  have hlen := rowRef_len (bf := bf) (af := af) hko
  have hbn := bnd_ref hlen hcs.2.1
  have S := refrow_slc (bf := bf) (af := af) hko
  have e1 := len_lt hko hcs.2.1
  have R := ref_load w news c ks vsz sr dsr t1 t2 t3 t4 hc hcs hs2 sC dfn hs1 (sdcls hK.cls) b tb (rowRef ks ko bf af) (KTBy.little 4 bf) (KTBy.little 2 ko.length) ko (KTBy.little 4 af) [] bf ko.length af hb hbn.1 hbn.2 S.1 S.2.1 S.2.2.1 S.2.2.2
    (slc_mid (A := []) (B := rowRef ks ko bf af) rfl rfl rfl)
    (by rw [KTBy.little_length]; exact Nat.le_refl _) (by rw [KTBy.little_length]; exact Nat.le_refl _) (by rw [KTBy.little_length]; exact Nat.le_refl _)
    (value_little 4 _ hb0 (lt4p hb1)) (value_little 2 _ e1.1 e1.2) (value_little 4 _ ha0 (lt4p ha1)) e1.1 _ (hK.des hg)
  intro p loose mean mg mb dp un gd cn cs a ccd cl outer A₀ base h₀ L m s Q E B F X N T hk hd hu hret hexc
  refine R p loose mean mg mb dp un gd cn cs a ccd cl outer A₀ base h₀ L m s Q E B F X N T hk hd hu (fun v n' h' tk' F' N' P' => ?_) (fun c' e' h' tk' g' C' _ _ _ => absurd ⟨hlen, Int.ofNat_le.mpr hko⟩ C'.1)
  obtain ⟨_, kv', t', t'', ⟨t, rfl⟩, hR⟩ := P'
  exact hret v n' h' tk' F' N' ⟨t, t', t'', hR⟩

end
section
/-- a tree that the walk shall leave alone -/
def Hold (P : Prop) : Prop := P
theorem hold_in {P : Prop} (h : Hold P) : P := h
theorem hold_out {P : Prop} (h : P) : Hold P := h
/-- how the caller stands behind a def that caught -/
structure BackC (w : World) (p : Program) (loose : List Str) (mean : ExcName → Option Value) (mg mb : Str → Option Value) (outer : List Env) (A₀ : Around) (base g₀ : Heap) (L : Addr) (m : Str → Option Value) (news : List (Addr × Obj)) (h₁ h' : Heap) : Prop where
  turn : KtsTurn (outer.filterMap (·.frame)) g₀ h₁
  fr : Fr h₁ L h' m
  nw : News h₁ L h' news
  bl : Below A₀ base outer h₁
  x : (hd.heap_1 w.params).In h₁
  top : Top p loose mean mg mb h₁
  d : KtsDicts (outer.filterMap (·.frame)) h₁
theorem exf_fault {exc fault : String} (h : (exc = "OverflowError" ∧ fault = "too great") ∨ (exc = "AssertionError" ∧ fault = "refused")) {bad : Prop} {v : Value}
    (hv : ((bad ∧ "AssertionError" = exc) ∧ ∃ t, v = .str (PySem.Str.ofString "refused") t) ∨ ((bad ∧ "OverflowError" = exc) ∧ ∃ t, v = .str (PySem.Str.ofString "too great") t)) : ∃ t, v = .str (PySem.Str.ofString fault) t := by
  rcases h with ⟨rfl, rfl⟩ | ⟨rfl, rfl⟩
  · rcases hv with ⟨⟨_, e⟩, _⟩ | ⟨_, h⟩
    · exact absurd e (by decide)
    · exact h
  · rcases hv with ⟨_, h⟩ | ⟨⟨_, e⟩, _⟩
    · exact h
    · exact absurd e (by decide)
theorem exf_cases {exc fault : String} (h : (exc = "OverflowError" ∧ fault = "too great") ∨ (exc = "AssertionError" ∧ fault = "refused")) (c : String) (e : c = exc) : c = "AssertionError" ∨ c = "OverflowError" := by
  rcases h with ⟨rfl, _⟩ | ⟨rfl, _⟩
  · exact .inr e
  · exact .inl e
/-- `_law_done` of a lambda that dumps: bad | too great | its octets -/
theorem done_dump {w : World} {f : Addr} {oc : Value} {od : Option Addr} {fd : FuncData} {sl : Array (Option Value)} {news : List (Addr × Obj)} {good big : Prop} {D : List Int} {exc fault : String}
    {p : Program} {loose : List Str} {mean : ExcName → Option Value} {mg mb : Str → Option Value}
    {dp un : Nat} {gd : Option (List Code)} {cn : Str} {cs : Scope} {a : Addr} {ccd : Value} {cl : List (Str × Addr)} {outer : List Env} {A₀ : Around} {base h₀ g₀ : Heap} {L : Addr} {m : Str → Option Value} {s : Shared} {Q E : Value → Shared → Prop}
    (hxf : (exc = "OverflowError" ∧ fault = "too great") ∨ (exc = "AssertionError" ∧ fault = "refused"))
    (hf : (f, (⟨oc, od, .func fd, sl⟩ : Obj)) ∈ news)
    (hlam : CallsN w (.ref f) [] news 40 1500 (fun v news' => (good ∧ ¬ big ∧ ∃ b t, v = .bytes b t ∧ KBw.bInts b = D) ∧ ∀ q ∈ news, q ∈ news') (fun c => (¬ good ∧ c = exc) ∨ (good ∧ big ∧ c = "OverflowError")))
    (B : Below A₀ base outer h₀) (F : Fr h₀ L s.heap m) (X : (hd.heap_1 w.params).In h₀) (N : News h₀ L s.heap news) (T : Top p loose mean mg mb h₀) (hk : cs.kind = .function)
    (XB : (hd.heap_1 w.params).In base) (TB : Top p loose mean mg mb base) (Dc : KtsDicts (outer.filterMap (·.frame)) h₀) (T0 : KtsTurn (outer.filterMap (·.frame)) g₀ h₀)
    (hdp : dp + 43 < recursionLimit) (hu : un + 1520 < cLine)
    (hbad : ¬ good → ∀ (t : Tok) (h' : Heap) (tk' : Nat) (h₁ : Heap), BackC w p loose mean mg mb outer A₀ base g₀ L m news h₁ h' → Q (.str (PySem.Str.ofString fault) t) { s with heap := h', toks := tk' })
    (hbig : good → big → ∀ (t : Tok) (h' : Heap) (tk' : Nat) (h₁ : Heap), BackC w p loose mean mg mb outer A₀ base g₀ L m news h₁ h' → Q (.str (PySem.Str.ofString "too great") t) { s with heap := h', toks := tk' })
    (hok : good → ¬ big → ∀ (b : Array UInt8) (t : Tok) (h' : Heap) (tk' : Nat) (h₁ : Heap), KBw.bInts b = D → BackC w p loose mean mg mb outer A₀ base g₀ L m news h₁ h' → Q (.bytes b t) { s with heap := h', toks := tk' }) :
    wpAny (model PySem.Challenge.rw_ke0001_01.row.prog w) (ktrTop dp un gd cn cs L a ccd cl outer) (call (.ref 395) [.ref f]) Q E s :=
  done_use hf hlam (fun c hc => by
    rcases hc with ⟨_, e⟩ | ⟨_, _, e⟩
    · exact exf_cases hxf c e
    · exact .inr e) B F X N T hk XB TB Dc T0 hdp hu (fun v h' tk' h₁ P T1 F1 N1 B1 X1 TT D1 => by
    have BC : BackC w p loose mean mg mb outer A₀ base g₀ L m news h₁ h' := ⟨T1, F1, N1, B1, X1, TT, D1⟩
    rcases P with ⟨hg, hb, b, t, rfl, hB⟩ | ⟨⟨hg, e⟩ | ⟨_, _, e⟩, hv⟩ | ⟨⟨hg, e⟩ | ⟨hg, hb, _⟩, hv⟩
    · exact hok hg hb b t h' tk' h₁ hB BC
    · obtain ⟨t, rfl⟩ := exf_fault hxf (bad := ¬ good) (.inl ⟨⟨hg, e⟩, hv⟩)
      exact hbad hg t h' tk' h₁ BC
    · exact absurd e (by decide)
    · obtain ⟨t, rfl⟩ := exf_fault hxf (bad := ¬ good) (.inr ⟨⟨hg, e⟩, hv⟩)
      exact hbad hg t h' tk' h₁ BC
    · obtain ⟨t, rfl⟩ := hv
      exact hbig hg hb t h' tk' h₁ BC)
theorem rec_news {h₀ h : Heap} {L : Addr} {news news' : List (Addr × Obj)} {p q : Addr × Obj} (N : News h₀ L h news') (h1 : p ∈ news') (h2 : q ∈ news') (hs : ∀ r ∈ news, r ∈ news') : News h₀ L h (p :: q :: news) := cb_drop N fun r hr => by
  rcases List.mem_cons.mp hr with rfl | hr
  · exact h1
  · rcases List.mem_cons.mp hr with rfl | hr
    · exact h2
    · exact hs r hr
section
variable {prog : Program} {w : World} {A : Around} {E : Value → Shared → Prop} {s : Shared} {x y : Int} {t u : Tok} {Q : Value → Shared → Prop}
theorem ne_same (e : x = y) (h : Q (.bool false) s) : wpAny (model prog w) A (compareOp .NotEq (.int x t) (.int y u)) Q E s := PyProof.Rows.ne_int (by subst e; simpa using h)
theorem eq_same (e : x = y) (h : Q (.bool true) s) : wpAny (model prog w) A (compareOp .Eq (.int x t) (.int y u)) Q E s := PyProof.Rows.eq_int (by subst e; simpa using h)
end
theorem rep_add (a b : Nat) : List.replicate a (0 : Int) ++ List.replicate b 0 = List.replicate (a + b) 0 := List.replicate_append_replicate
/-- the row that the law lays for a record whose value lies on another page -/
theorem row_out (ks vsz : Nat) (ko : List Int) (P : Int) : rowOf ks vsz ko [] P = (KTBy.little 2 ko.length ++ ko ++ List.replicate (ks - ko.length) 0) ++ List.replicate (2 + (vsz : Int)).toNat 0 ++ KTBy.little 4 P := by
  have e : KTBy.little 2 (0 : Int) = List.replicate 2 0 := by decide
  have e2 : (2 + (vsz : Int)).toNat = 2 + vsz := tn2
  unfold rowOf
  rw [e2, ← rep_add]
  show _ ++ KTBy.little 2 (0 : Int) ++ [] ++ List.replicate vsz 0 ++ _ = _
  rw [e, List.append_nil]
  simp only [List.append_assoc]

end
section
theorem words_24d_recs : True := by
  (k_with "call ref" => (k_here; (with_reducible show wpAny _ _ (call (Value.ref 395) [Value.ref _]) _ _ _); refine hold_in ?_))
  trivial
section
variable (w : World) (news : List (Addr × Obj)) (c : Addr) (ks vsz : Nat) (sr dsr : Addr) (t1 t2 t3 t4 : Tok) (hc : (c, confObj ks vsz sr t1 t2 t3 t4) ∈ news) (hcs : confs ks vsz)
    (hs2 : (dsr, dictOf [] 0) ∈ news) (sC sfn dfn : Addr) (hs1 : (sr, instObj sC dsr) ∈ news) (kv : Tok → Value) (ko : List Int) (good : Prop) (exc fault : String) (hK : KeyKind w ks sC sfn dfn kv ko good exc fault)
    (tk : Tok) (x dx : Addr) (k1 k2 k3 k4 k5 : Tok) (len : Value)
include hc hcs hs2 hs1 hK
theorem dump_out (pg : Int) (tp : Tok) (hp0 : 0 < pg) (hx : (x, instObj 232 dx) ∈ news) (hdx : (dx, recDict w k1 k2 k3 k4 k5 c (kv tk) .none len (.int pg tp)) ∈ news) :
    CallsN w (.ref 222) [.ref x] news 15 400 (fun v news' => (good ∧ ¬ 4294967296 ≤ pg ∧ ∃ b t, v = .bytes b t ∧ KBw.bInts b = rowOf ks vsz ko [] pg) ∧ ∀ q ∈ news, q ∈ news') (fun c => (¬ good ∧ c = exc) ∨ (good ∧ 4294967296 ≤ pg ∧ c = "OverflowError")) := by
  have h4 := pow4
  have R := dump_page w news c ks vsz sr dsr t1 t2 t3 t4 hc hcs hs2 sC sfn hs1 (sscls hK.cls) (kv tk) ko good exc (hK.ser tk) (hK.hand tk) x dx k1 k2 k3 k4 k5 pg tp len hp0 hx hdx
  intro p loose mean mg mb dp un gd cn cs a ccd cl outer A₀ base h₀ L m s Q E B F X N T hk hd hu hret hexc
  refine R p loose mean mg mb dp un gd cn cs a ccd cl outer A₀ base h₀ L m s Q E B F X N T hk hd hu (fun v n' h' tk' F' N' P' => ?_) (fun c' e' h' tk' g' C' => hexc c' e' h' tk' g' (by rw [h4] at C'; exact C'))
  obtain ⟨hg, hp, ⟨b', t', rfl, hb'⟩, hs⟩ := P'
  exact hret _ n' h' tk' F' N' ⟨⟨hg, by k_extra "om", b', t', rfl, hb'⟩, hs⟩
theorem dump_out_ok (hg : good) (pg : Int) (tp : Tok) (hp0 : 0 < pg) (hp1 : pg < 4294967296) (hx : (x, instObj 232 dx) ∈ news) (hdx : (dx, recDict w k1 k2 k3 k4 k5 c (kv tk) .none len (.int pg tp)) ∈ news) :
    CallsN w (.ref 222) [.ref x] news 15 400 (fun v news' => (∃ b t, v = .bytes b t ∧ KBw.bInts b = rowOf ks vsz ko [] pg) ∧ ∀ q ∈ news, q ∈ news') (fun _ => False) := by
  have R := dump_out w news c ks vsz sr dsr t1 t2 t3 t4 hc hcs hs2 sC sfn dfn hs1 kv ko good exc fault hK tk x dx k1 k2 k3 k4 k5 len pg tp hp0 hx hdx
  intro p loose mean mg mb dp un gd cn cs a ccd cl outer A₀ base h₀ L m s Q E B F X N T hk hd hu hret hexc
  refine R p loose mean mg mb dp un gd cn cs a ccd cl outer A₀ base h₀ L m s Q E B F X N T hk hd hu (fun v n' h' tk' F' N' P' => hret v n' h' tk' F' N' ⟨P'.1.2.2, P'.2⟩) (fun c' e' h' tk' g' C' _ _ _ => ?_)
  rcases C' with ⟨h, _⟩ | ⟨_, h, _⟩
  · exact absurd hg h
  · exact absurd h (by k_extra "om")
theorem dump_in (b : Array UInt8) (tb : Tok) (ns : List Int) (hb : KBw.bInts b = ns) (hln : ns.length ≤ vsz) (hx : (x, instObj 232 dx) ∈ news) (hdx : (dx, recDict w k1 k2 k3 k4 k5 c (kv tk) (.bytes b tb) len .none) ∈ news) :
    CallsN w (.ref 222) [.ref x] news 15 400 (fun v news' => (good ∧ ¬ False ∧ ∃ b t, v = .bytes b t ∧ KBw.bInts b = rowOf ks vsz ko ns 0) ∧ ∀ q ∈ news, q ∈ news') (fun c => (¬ good ∧ c = exc) ∨ (good ∧ False ∧ c = "OverflowError")) := by
  have R := dump_value w news c ks vsz sr dsr t1 t2 t3 t4 hc hcs hs2 sC sfn hs1 (sscls hK.cls) (kv tk) ko good exc (hK.ser tk) (hK.hand tk) x dx k1 k2 k3 k4 k5 b tb len ns hb hln hx hdx
  intro p loose mean mg mb dp un gd cn cs a ccd cl outer A₀ base h₀ L m s Q E B F X N T hk hd hu hret hexc
  refine R p loose mean mg mb dp un gd cn cs a ccd cl outer A₀ base h₀ L m s Q E B F X N T hk hd hu (fun v n' h' tk' F' N' P' => ?_) (fun c' e' h' tk' g' C' => hexc c' e' h' tk' g' (.inl C'))
  obtain ⟨hg, ⟨b', t', rfl, hb'⟩, hs⟩ := P'
  exact hret _ n' h' tk' F' N' ⟨⟨hg, id, b', t', rfl, hb'⟩, hs⟩
theorem dump_in_ok (hg : good) (b : Array UInt8) (tb : Tok) (ns : List Int) (hb : KBw.bInts b = ns) (hln : ns.length ≤ vsz) (hx : (x, instObj 232 dx) ∈ news) (hdx : (dx, recDict w k1 k2 k3 k4 k5 c (kv tk) (.bytes b tb) len .none) ∈ news) :
    CallsN w (.ref 222) [.ref x] news 15 400 (fun v news' => (∃ b t, v = .bytes b t ∧ KBw.bInts b = rowOf ks vsz ko ns 0) ∧ ∀ q ∈ news, q ∈ news') (fun _ => False) := by
  have R := dump_in w news c ks vsz sr dsr t1 t2 t3 t4 hc hcs hs2 sC sfn dfn hs1 kv ko good exc fault hK tk x dx k1 k2 k3 k4 k5 len b tb ns hb hln hx hdx
  intro p loose mean mg mb dp un gd cn cs a ccd cl outer A₀ base h₀ L m s Q E B F X N T hk hd hu hret hexc
  refine R p loose mean mg mb dp un gd cn cs a ccd cl outer A₀ base h₀ L m s Q E B F X N T hk hd hu (fun v n' h' tk' F' N' P' => hret v n' h' tk' F' N' ⟨P'.1.2.2, P'.2⟩) (fun c' e' h' tk' g' C' _ _ _ => ?_)
  rcases C' with ⟨h, _⟩ | ⟨_, h, _⟩
  · exact absurd hg h
  · exact h.elim
theorem dump_ref (bf af : Int) (tb ta : Tok) (hb0 : 0 ≤ bf) (ha0 : 0 ≤ af) (hx : (x, instObj 273 dx) ∈ news) (hdx : (dx, refDict w k1 k2 k3 k4 k5 c len (kv tk) (.int bf tb) (.int af ta)) ∈ news) :
    CallsN w (.ref 263) [.ref x] news 15 400 (fun v news' => (good ∧ ¬ (4294967296 ≤ bf ∨ 4294967296 ≤ af) ∧ ∃ b t, v = .bytes b t ∧ KBw.bInts b = rowRef ks ko bf af) ∧ ∀ q ∈ news, q ∈ news') (fun c => (¬ good ∧ c = exc) ∨ (good ∧ (4294967296 ≤ bf ∨ 4294967296 ≤ af) ∧ c = "OverflowError")) := by
  have h4 := pow4
  have R := refdump w news c ks vsz sr dsr t1 t2 t3 t4 hc hcs hs2 sC sfn hs1 (sscls hK.cls) (kv tk) ko good exc (hK.ser tk) (hK.hand tk) x dx k1 k2 k3 k4 k5 bf af tb ta len hb0 ha0 hx hdx
  intro p loose mean mg mb dp un gd cn cs a ccd cl outer A₀ base h₀ L m s Q E B F X N T hk hd hu hret hexc
  refine R p loose mean mg mb dp un gd cn cs a ccd cl outer A₀ base h₀ L m s Q E B F X N T hk hd hu (fun v n' h' tk' F' N' P' => ?_) (fun c' e' h' tk' g' C' => hexc c' e' h' tk' g' (by rw [h4] at C'; exact C'))
  obtain ⟨hg, h1, h2, ⟨b', t', rfl, hb'⟩, hs⟩ := P'
  exact hret _ n' h' tk' F' N' ⟨⟨hg, by k_extra "om", b', t', rfl, hb'⟩, hs⟩
theorem dump_ref_ok (hg : good) (bf af : Int) (tb ta : Tok) (hb0 : 0 ≤ bf) (ha0 : 0 ≤ af) (hb1 : bf < 4294967296) (ha1 : af < 4294967296) (hx : (x, instObj 273 dx) ∈ news) (hdx : (dx, refDict w k1 k2 k3 k4 k5 c len (kv tk) (.int bf tb) (.int af ta)) ∈ news) :
    CallsN w (.ref 263) [.ref x] news 15 400 (fun v news' => (∃ b t, v = .bytes b t ∧ KBw.bInts b = rowRef ks ko bf af) ∧ ∀ q ∈ news, q ∈ news') (fun _ => False) := by
  have R := dump_ref w news c ks vsz sr dsr t1 t2 t3 t4 hc hcs hs2 sC sfn dfn hs1 kv ko good exc fault hK tk x dx k1 k2 k3 k4 k5 len bf af tb ta hb0 ha0 hx hdx
  intro p loose mean mg mb dp un gd cn cs a ccd cl outer A₀ base h₀ L m s Q E B F X N T hk hd hu hret hexc
  refine R p loose mean mg mb dp un gd cn cs a ccd cl outer A₀ base h₀ L m s Q E B F X N T hk hd hu (fun v n' h' tk' F' N' P' => hret v n' h' tk' F' N' ⟨P'.1.2.2, P'.2⟩) (fun c' e' h' tk' g' C' _ _ _ => ?_)
  rcases C' with ⟨h, _⟩ | ⟨_, h, _⟩
  · exact absurd hg h
  · exact absurd h (by k_extra "om")
theorem rec_back_out (hg : good) (P : Int) (hP0 : 0 < P) (hP1 : P < 4294967296) (b : Array UInt8) (tb : Tok) (hb : KBw.bInts b = rowOf ks vsz ko [] P) :
    CallsK w (.ref 232) [.ref c] [(PySem.Str.ofString "data", .bytes b tb)] news 15 500 (fun v news' => ∃ t t', RecIn w c news (kv t) .none (.int P t') (2 + ks + 2 + vsz + 4) v news') (fun _ => False) := by
  have R := rec_back w news c ks vsz sr dsr t1 t2 t3 t4 hc hcs hs2 sC sfn dfn hs1 kv ko good exc fault hK hg [] (Nat.zero_le _) P (by k_extra "om") hP1 b tb hb
  intro p loose mean mg mb dp un gd cn cs a ccd cl outer A₀ base h₀ L m s Q E B F X N T hk hd hu hret hexc
  refine R p loose mean mg mb dp un gd cn cs a ccd cl outer A₀ base h₀ L m s Q E B F X N T hk hd hu (fun v n' h' tk' F' N' P' => ?_) (fun _ _ _ _ _ C' => C'.elim)
  obtain ⟨t, vv, pv, ⟨h0, _⟩ | ⟨_, rfl, t', rfl⟩, hR⟩ := P'
  · exact absurd h0 (by k_extra "om")
  · exact hret v n' h' tk' F' N' ⟨t, t', hR⟩
theorem rec_back_in (hg : good) (ns : List Int) (hns : ns.length ≤ vsz) (b : Array UInt8) (tb : Tok) (hb : KBw.bInts b = rowOf ks vsz ko ns 0) :
    CallsK w (.ref 232) [.ref c] [(PySem.Str.ofString "data", .bytes b tb)] news 15 500 (fun v news' => ∃ t b' t', KBw.bInts b' = ns ∧ RecIn w c news (kv t) (.bytes b' t') .none (2 + ks + 2 + vsz + 4) v news') (fun _ => False) := by
  have R := rec_back w news c ks vsz sr dsr t1 t2 t3 t4 hc hcs hs2 sC sfn dfn hs1 kv ko good exc fault hK hg ns hns 0 (by k_extra "om") (by k_extra "om") b tb hb
  intro p loose mean mg mb dp un gd cn cs a ccd cl outer A₀ base h₀ L m s Q E B F X N T hk hd hu hret hexc
  refine R p loose mean mg mb dp un gd cn cs a ccd cl outer A₀ base h₀ L m s Q E B F X N T hk hd hu (fun v n' h' tk' F' N' P' => ?_) (fun _ _ _ _ _ C' => C'.elim)
  obtain ⟨t, vv, pv, ⟨_, rfl, b', t', rfl, hb'⟩ | ⟨h0, _⟩, hR⟩ := P'
  · exact hret v n' h' tk' F' N' ⟨t, b', t', hb', hR⟩
  · exact absurd rfl h0
end
abbrev pgOf {k P : Int} (_ : PgOk k P) : Int := P
theorem eq_diff {prog : Program} {w : World} {A : Around} {E : Value → Shared → Prop} {s : Shared} {x y : Int} {t u : Tok} {Q : Value → Shared → Prop} (e : x ≠ y) (h : Q (.bool false) s) : wpAny (model prog w) A (compareOp .Eq (.int x t) (.int y u)) Q E s := PyProof.Rows.eq_int (by rw [show (x == y) = false from by simpa using e]; exact h)
section
variable {w : World} {f : Value} {vs : List Value} {kw : List (Str × Value)} {news : List (Addr × Obj)} {dm um : Nat} {c : Addr} {kv : Tok → Value} {key v pg before after : Value} {len : Int} {Exc : String → Prop} {good big : Prop} {D ns : List Int} {P bf af : Int} {vsz : Nat}
    {p : Program} {loose : List Str} {mean : ExcName → Option Value} {mg mb : Str → Option Value}
    {dp un : Nat} {gd : Option (List Code)} {cn : Str} {cs : Scope} {a : Addr} {ccd : Value} {cl : List (Str × Addr)} {outer : List Env} {A₀ : Around} {base h₀ : Heap} {L : Addr} {m : Str → Option Value} {s : Shared} {Q E : Value → Shared → Prop}
    (B : Below A₀ base outer h₀) (F : Fr h₀ L s.heap m) (X : (hd.heap_1 w.params).In h₀) (N : News h₀ L s.heap news) (T : Top p loose mean mg mb h₀) (hk : cs.kind = .function)
    (hdp : dp + dm < recursionLimit) (hu : un + um < cLine)
include B F X N T hk hdp hu
theorem dumpN_use (h : CallsN w f vs news dm um (fun v news' => (good ∧ ¬ big ∧ ∃ b t, v = .bytes b t ∧ KBw.bInts b = D) ∧ ∀ q ∈ news, q ∈ news') Exc)
    (hret : good → ¬ big → ∀ (b : Array UInt8) (t : Tok) (h' : Heap) (tk' : Nat), KBw.bInts b = D → Fr h₀ L h' m → News h₀ L h' news → Q (.bytes b t) { s with heap := h', toks := tk' })
    (hexc : ∀ (c : String) (e : Addr) (h' : Heap) (tk' : Nat) (g : Heap), Exc c → Fr h₀ L g m → RaisedSN base g (envX cn cs L a ccd cl :: outer) e (.type c) news h' → g.UpToSlots h' → E (.ref e) { s with heap := h', toks := tk' }) :
    wpAny (model PySem.Challenge.rw_ke0001_01.row.prog w) (ktrTop dp un gd cn cs L a ccd cl outer) (call f vs) Q E s :=
  callsK_use h B F X N T hk hdp hu (fun v n' h' tk' F' N' P' => by
    obtain ⟨⟨h1, h2, b, t, rfl, hb⟩, hs⟩ := P'
    exact hret h1 h2 b t h' tk' hb F' (cb_drop N' hs)) hexc
theorem dumpO_use (h : CallsN w f vs news dm um (fun v news' => (∃ b t, v = .bytes b t ∧ KBw.bInts b = D) ∧ ∀ q ∈ news, q ∈ news') (fun _ => False))
    (hret : ∀ (b : Array UInt8) (t : Tok) (h' : Heap) (tk' : Nat), KBw.bInts b = D → Fr h₀ L h' m → News h₀ L h' news → Q (.bytes b t) { s with heap := h', toks := tk' }) :
    wpAny (model PySem.Challenge.rw_ke0001_01.row.prog w) (ktrTop dp un gd cn cs L a ccd cl outer) (call f vs) Q E s :=
  callsK_use h B F X N T hk hdp hu (fun v n' h' tk' F' N' P' => by
    obtain ⟨⟨b, t, rfl, hb⟩, hs⟩ := P'
    exact hret b t h' tk' hb F' (cb_drop N' hs)) (fun _ _ _ _ _ C' => C'.elim)
theorem recN_use (h : CallsK w f vs kw news dm um (fun v' news' => RecNew w c news key v pg len v' news') (fun _ => False))
    (hret : ∀ (x dx : Addr) (k1 k2 k3 k4 k5 tl : Tok) (h' : Heap) (tk' : Nat), AllLt dx news → @LT.lt Nat _ dx x → Fr h₀ L h' m → News h₀ L h' ((x, instObj 232 dx) :: (dx, recDict w k1 k2 k3 k4 k5 c key v (.int len tl) pg) :: news) → Q (.ref x) { s with heap := h', toks := tk' }) :
    wpAny (model PySem.Challenge.rw_ke0001_01.row.prog w) (ktrTop dp un gd cn cs L a ccd cl outer) (call f vs kw) Q E s :=
  callsK_use h B F X N T hk hdp hu (fun v n' h' tk' F' N' P' => by
    obtain ⟨x, dx, k1, k2, k3, k4, k5, tl, rfl, rfl, l1, l2⟩ := P'
    exact hret x dx k1 k2 k3 k4 k5 tl h' tk' (allLt_of l1) l2 F' N') (fun _ _ _ _ _ C' => C'.elim)
theorem recV_ok (hle : ns.length ≤ vsz) (h : CallsK w f vs kw news dm um (fun v' news' => ns.length ≤ vsz ∧ RecNew w c news key v pg len v' news') (fun c => ¬ ns.length ≤ vsz ∧ c = "AssertionError"))
    (hret : ∀ (x dx : Addr) (k1 k2 k3 k4 k5 tl : Tok) (h' : Heap) (tk' : Nat), AllLt dx news → @LT.lt Nat _ dx x → Fr h₀ L h' m → News h₀ L h' ((x, instObj 232 dx) :: (dx, recDict w k1 k2 k3 k4 k5 c key v (.int len tl) pg) :: news) → Q (.ref x) { s with heap := h', toks := tk' }) :
    wpAny (model PySem.Challenge.rw_ke0001_01.row.prog w) (ktrTop dp un gd cn cs L a ccd cl outer) (call f vs kw) Q E s :=
  callsK_use h B F X N T hk hdp hu (fun v n' h' tk' F' N' P' => by
    obtain ⟨_, x, dx, k1, k2, k3, k4, k5, tl, rfl, rfl, l1, l2⟩ := P'
    exact hret x dx k1 k2 k3 k4 k5 tl h' tk' (allLt_of l1) l2 F' N') (fun _ _ _ _ _ C' => absurd hle C'.1)
theorem recV_no (hle : ¬ ns.length ≤ vsz) (h : CallsK w f vs kw news dm um (fun v' news' => ns.length ≤ vsz ∧ RecNew w c news key v pg len v' news') (fun c => ¬ ns.length ≤ vsz ∧ c = "AssertionError"))
    (hexc : ∀ (e : Addr) (h' : Heap) (tk' : Nat) (g : Heap), Fr h₀ L g m → RaisedSN base g (envX cn cs L a ccd cl :: outer) e (.type "AssertionError") news h' → g.UpToSlots h' → E (.ref e) { s with heap := h', toks := tk' }) :
    wpAny (model PySem.Challenge.rw_ke0001_01.row.prog w) (ktrTop dp un gd cn cs L a ccd cl outer) (call f vs kw) Q E s :=
  callsK_use h B F X N T hk hdp hu (fun v n' h' tk' F' N' P' => absurd P'.1 hle) (fun c e h' tk' g C' => by
    obtain ⟨_, rfl⟩ := C'
    exact hexc e h' tk' g)
theorem refN_use (h : CallsK w f vs kw news dm um (fun v' news' => RefNew w c news key before after len v' news') (fun _ => False))
    (hret : ∀ (x dx : Addr) (k1 k2 k3 k4 k5 tl : Tok) (h' : Heap) (tk' : Nat), AllLt dx news → @LT.lt Nat _ dx x → Fr h₀ L h' m → News h₀ L h' ((x, instObj 273 dx) :: (dx, refDict w k1 k2 k3 k4 k5 c (.int len tl) key before after) :: news) → Q (.ref x) { s with heap := h', toks := tk' }) :
    wpAny (model PySem.Challenge.rw_ke0001_01.row.prog w) (ktrTop dp un gd cn cs L a ccd cl outer) (call f vs kw) Q E s :=
  callsK_use h B F X N T hk hdp hu (fun v n' h' tk' F' N' P' => by
    obtain ⟨x, dx, k1, k2, k3, k4, k5, tl, rfl, rfl, l1, l2⟩ := P'
    exact hret x dx k1 k2 k3 k4 k5 tl h' tk' (allLt_of l1) l2 F' N') (fun _ _ _ _ _ C' => C'.elim)
theorem recBo_use (h : CallsK w f vs kw news dm um (fun v news' => ∃ t t', RecIn w c news (kv t) .none (.int P t') len v news') (fun _ => False))
    (hret : ∀ (t t' : Tok) (x dx : Addr) (k1 k2 k3 k4 k5 tl : Tok) (h' : Heap) (tk' : Nat), Fr h₀ L h' m → News h₀ L h' ((x, instObj 232 dx) :: (dx, recDict w k1 k2 k3 k4 k5 c (kv t) .none (.int len tl) (.int P t')) :: news) → Q (.ref x) { s with heap := h', toks := tk' }) :
    wpAny (model PySem.Challenge.rw_ke0001_01.row.prog w) (ktrTop dp un gd cn cs L a ccd cl outer) (call f vs kw) Q E s :=
  callsK_use h B F X N T hk hdp hu (fun v n' h' tk' F' N' P' => by
    obtain ⟨t, t', x, dx, k1, k2, k3, k4, k5, tl, rfl, m1, m2, hs⟩ := P'
    exact hret t t' x dx k1 k2 k3 k4 k5 tl h' tk' F' (rec_news N' m1 m2 hs)) (fun _ _ _ _ _ C' => C'.elim)
theorem recBi_use (h : CallsK w f vs kw news dm um (fun v news' => ∃ t b' t', KBw.bInts b' = ns ∧ RecIn w c news (kv t) (.bytes b' t') .none len v news') (fun _ => False))
    (hret : ∀ (t : Tok) (b' : Array UInt8) (t' : Tok) (x dx : Addr) (k1 k2 k3 k4 k5 tl : Tok) (h' : Heap) (tk' : Nat), KBw.bInts b' = ns → Fr h₀ L h' m → News h₀ L h' ((x, instObj 232 dx) :: (dx, recDict w k1 k2 k3 k4 k5 c (kv t) (.bytes b' t') (.int len tl) .none) :: news) → Q (.ref x) { s with heap := h', toks := tk' }) :
    wpAny (model PySem.Challenge.rw_ke0001_01.row.prog w) (ktrTop dp un gd cn cs L a ccd cl outer) (call f vs kw) Q E s :=
  callsK_use h B F X N T hk hdp hu (fun v n' h' tk' F' N' P' => by
    obtain ⟨t, b', t', hb, x, dx, k1, k2, k3, k4, k5, tl, rfl, m1, m2, hs⟩ := P'
    exact hret t b' t' x dx k1 k2 k3 k4 k5 tl h' tk' hb F' (rec_news N' m1 m2 hs)) (fun _ _ _ _ _ C' => C'.elim)
theorem refB_use (h : CallsK w f vs kw news dm um (fun v news' => ∃ t t' t'', RefIn w c news (kv t) (.int bf t') (.int af t'') len v news') (fun _ => False))
    (hret : ∀ (t t' t'' : Tok) (x dx : Addr) (k1 k2 k3 k4 k5 tl : Tok) (h' : Heap) (tk' : Nat), Fr h₀ L h' m → News h₀ L h' ((x, instObj 273 dx) :: (dx, refDict w k1 k2 k3 k4 k5 c (.int len tl) (kv t) (.int bf t') (.int af t'')) :: news) → Q (.ref x) { s with heap := h', toks := tk' }) :
    wpAny (model PySem.Challenge.rw_ke0001_01.row.prog w) (ktrTop dp un gd cn cs L a ccd cl outer) (call f vs kw) Q E s :=
  callsK_use h B F X N T hk hdp hu (fun v n' h' tk' F' N' P' => by
    obtain ⟨t, t', t'', x, dx, k1, k2, k3, k4, k5, tl, rfl, m1, m2, hs⟩ := P'
    exact hret t t' t'' x dx k1 k2 k3 k4 k5 tl h' tk' F' (rec_news N' m1 m2 hs)) (fun _ _ _ _ _ C' => C'.elim)
end
/-- an object that is some def's code -/
def CodeLike (o : Obj) : Prop := ∃ vs q t, o.data = .fields vs ∧ vs[1]? = some (.str q t)
/-- the ledger behind a def that makes lambdas -/
def TabPost (P : Addr) (qual : Str) (news news' : List (Addr × Obj)) : Prop := ∃ ps' ex, news' = (P, tabObj ps') :: (ex ++ news) ∧ TabOk ps' (ex ++ news) qual ∧ ∀ q ∈ ex, CodeLike q.2
theorem tabPost_one {P : Addr} {ps' : Array Value} {c' : Addr} {oc' : Obj} {vs : Array Value} {q q2 : Str} {t : Tok} {news : List (Addr × Obj)} (h : TabOk ps' ((c', oc') :: news) q) (hd : oc'.data = .fields vs) (hv : vs[1]? = some (.str q2 t)) :
    TabPost P q news ((P, tabObj ps') :: (c', oc') :: news) := ⟨ps', [(c', oc')], rfl, h, fun r hr => by
  obtain rfl := List.mem_singleton.mp hr
  exact ⟨vs, q2, t, hd, hv⟩⟩
theorem val_ok {ys : List Value} {n : Nat} {f : Int → Int} (h : IntsAre ys ((rangeKs 0 n).map fun k => (f k).fmod 256)) : ∃ VL, IntsAre ys VL ∧ VL.length = n ∧ Rng VL := ⟨_, h, by rw [List.length_map, rangeKs_length], rng_fmod⟩
/-- the row that the law lays for a record with its value -/
theorem row_in (ks vsz : Nat) (ko ns : List Int) (h : ns.length ≤ vsz) : rowOf ks vsz ko ns 0 = (KTBy.little 2 ko.length ++ ko ++ List.replicate (ks - ko.length) 0) ++ KTBy.little 2 ns.length ++ ns ++ List.replicate ((vsz : Int) - (ns.length : Int) + 4).toNat 0 := by
  have e : KTBy.little 4 (0 : Int) = List.replicate 4 0 := by decide
  have e2 : ((vsz : Int) - (ns.length : Int) + 4).toNat = (vsz - ns.length) + 4 := tn4 h
  unfold rowOf
  rw [e2, ← rep_add, e]
  simp only [List.append_assoc]
/-- the row that the law lays for a reference -/
theorem row_ref (ks : Nat) (ko : List Int) (bf af : Int) : rowRef ks ko bf af = KTBy.little 4 bf ++ (KTBy.little 2 ko.length ++ ko ++ List.replicate (ks - ko.length) 0) ++ KTBy.little 4 af := by
  unfold rowRef
  simp only [List.append_assoc]
/-- a page, or none -/
def PgV (k : Int) (v : Value) : Prop := (k = 5 ∧ v = .none) ∨ (k ≠ 5 ∧ ∃ P t, v = .int P t ∧ PgOk k P)
theorem refdump_no (w : World) (news : List (Addr × Obj)) (c : Addr) (key bv av len : Value) (ka kb : Int) (hb : PgV kb bv) (ha : PgV ka av) (hn : kb = 5 ∨ ka = 5) (x dx : Addr) (k1 k2 k3 k4 k5 : Tok)
    (hx : (x, instObj 273 dx) ∈ news) (hdx : (dx, refDict w k1 k2 k3 k4 k5 c len key bv av) ∈ news) :
    CallsN w (.ref 263) [.ref x] news 15 400 (fun _ _ => False) (fun c => c = "AssertionError") := by
  rcases hb with ⟨_, rfl⟩ | ⟨hb, P, t, rfl, _⟩
  · exact refdump_n1 w news c key av len x dx k1 k2 k3 k4 k5 hx hdx
  · rcases ha with ⟨_, rfl⟩ | ⟨ha, _⟩
    · exact refdump_n2 w news c key len P t x dx k1 k2 k3 k4 k5 hx hdx
    · exact absurd hn (by k_extra "om")
theorem callsX_use {w : World} {f : Value} {vs : List Value} {news : List (Addr × Obj)} {dm um : Nat}
    {p : Program} {loose : List Str} {mean : ExcName → Option Value} {mg mb : Str → Option Value}
    {dp un : Nat} {gd : Option (List Code)} {cn : Str} {cs : Scope} {a : Addr} {ccd : Value} {cl : List (Str × Addr)} {outer : List Env} {A₀ : Around} {base h₀ : Heap} {L : Addr} {m : Str → Option Value} {s : Shared} {Q E : Value → Shared → Prop}
    (B : Below A₀ base outer h₀) (F : Fr h₀ L s.heap m) (X : (hd.heap_1 w.params).In h₀) (N : News h₀ L s.heap news) (T : Top p loose mean mg mb h₀) (hk : cs.kind = .function)
    (hdp : dp + dm < recursionLimit) (hu : un + um < cLine) (h : CallsN w f vs news dm um (fun _ _ => False) (fun c => c = "AssertionError"))
    (hexc : ∀ (e : Addr) (h' : Heap) (tk' : Nat) (g : Heap), Fr h₀ L g m → RaisedSN base g (envX cn cs L a ccd cl :: outer) e (.type "AssertionError") news h' → g.UpToSlots h' → E (.ref e) { s with heap := h', toks := tk' }) :
    wpAny (model PySem.Challenge.rw_ke0001_01.row.prog w) (ktrTop dp un gd cn cs L a ccd cl outer) (call f vs) Q E s :=
  callsK_use h B F X N T hk hdp hu (fun _ _ _ _ _ _ P' => P'.elim) (fun c e h' tk' g C' => by subst C'; exact hexc e h' tk' g)
section
open PySem.SeqAt
theorem at_int' {A : Around} {s : Shared} {x y : Int} {t u : Tok} (e : x = y) : EqAt A s (.int x t) (.int y u) true := by subst e; exact at_int _ _ _
end
theorem cut_two {α : Type} {M : Model} {A : Around} {t : Sem α} {h₀ : Heap} {L : Addr} {m : Str → Option Value} {news : List (Addr × Obj)} {P : α → Prop} {Q : α → Shared → Prop} {E : Value → Shared → Prop} {s : Shared}
    (_F : Fr h₀ L s.heap m) (_N : News h₀ L s.heap news) (h : wpAny M A t (fun v s' => P v ∧ ∃ h' tk, s' = { s with heap := h', toks := tk } ∧ Fr h₀ L h' m ∧ News h₀ L h' news) E s)
    (hQ : ∀ v h' tk, P v → Fr h₀ L h' m → News h₀ L h' news → Q v { s with heap := h', toks := tk }) : wpAny M A t Q E s := cut_tree h hQ

end
section
theorem words_25_reco : True := by
  (k_with "call ref" => (k_here; (with_reducible show wpAny _ _ (call (Value.ref 232) _ _) _ _ _); k_dflt (first | (refine' recN_use ?zqB ?zqF ?zqX ?zqN ?zqT ?zqk ?zqd ?zqu (rec_page _ _ _ _ _ _ _ _ _ _ ?zqm ?zqcs _ _ _) (fun x' dx' k1' k2' k3' k4' k5' tl' h' tk' l1 l2 F' N' => ?_); (case zqN => k_asm); (case zqB => k_asm); (case zqF => k_asm); (case zqX => k_asm); (case zqT => k_asm); (case zqk => exact rfl); (case zqd => ktr_room); (case zqu => ktr_units); (case zqm => k_mem); (case zqcs => assumption)) | (refine' recV_ok ?zqB ?zqF ?zqX ?zqN ?zqT ?zqk ?zqd ?zqu ?zql (rec_value _ _ _ _ _ _ _ _ _ _ ?zqm ?zqcs _ _ _ _ ?zqb ?zql2) (fun x' dx' k1' k2' k3' k4' k5' tl' h' tk' l1 l2 F' N' => ?_); (case zqN => k_asm); (case zqB => k_asm); (case zqF => k_asm); (case zqX => k_asm); (case zqT => k_asm); (case zqk => exact rfl); (case zqd => ktr_room); (case zqu => ktr_units); (case zqm => k_mem); (case zqcs => assumption); (case zqb => with_reducible assumption); (case zql => with_reducible assumption); (case zql2 => k_extra "om")) | (refine' recV_no ?zqB ?zqF ?zqX ?zqN ?zqT ?zqk ?zqd ?zqu ?zql (rec_value _ _ _ _ _ _ _ _ _ _ ?zqm ?zqcs _ _ _ _ ?zqb ?zql2) (fun e' h' tk' g' F' R' U' => ?_); (case zqN => k_asm); (case zqB => k_asm); (case zqF => k_asm); (case zqX => k_asm); (case zqT => k_asm); (case zqk => exact rfl); (case zqd => ktr_room); (case zqu => ktr_units); (case zqm => k_mem); (case zqcs => assumption); (case zqb => with_reducible assumption); (case zql => with_reducible assumption); (case zql2 => k_extra "om")) | ((with_reducible rename KeyKind _ _ _ _ _ _ _ _ _ _ => zrhKK); (refine' recBo_use ?zqB ?zqF ?zqX ?zqN ?zqT ?zqk ?zqd ?zqu (rec_back_out _ _ _ _ _ _ _ _ _ _ _ ?zqm ?zqcs ?zqs2 _ _ _ ?zqs1 _ _ _ _ _ zrhKK ?zqg _ ?zqp0 ?zqp1 _ _ ?zqb) (fun t9 t8 x' dx' k1' k2' k3' k4' k5' tl' h' tk' F' N' => ?_); (case zqN => k_asm); (case zqB => k_asm); (case zqF => k_asm); (case zqX => k_asm); (case zqT => k_asm); (case zqk => exact rfl); (case zqd => ktr_room); (case zqu => ktr_units); (case zqb => with_reducible assumption); (case zqm => k_mem); (case zqcs => assumption); (case zqs1 => k_mem); (case zqs2 => k_mem); (case zqg => with_reducible assumption); (case zqp0 => k_extra "om"); (case zqp1 => k_extra "om"))) | ((with_reducible rename KeyKind _ _ _ _ _ _ _ _ _ _ => zrhKK); (refine' recBi_use ?zqB ?zqF ?zqX ?zqN ?zqT ?zqk ?zqd ?zqu (rec_back_in _ _ _ _ _ _ _ _ _ _ _ ?zqm ?zqcs ?zqs2 _ _ _ ?zqs1 _ _ _ _ _ zrhKK ?zqg _ ?zqn _ _ ?zqb) (fun t9 b8 t8 x' dx' k1' k2' k3' k4' k5' tl' h' tk' hb8 F' N' => ?_); (case zqN => k_asm); (case zqB => k_asm); (case zqF => k_asm); (case zqX => k_asm); (case zqT => k_asm); (case zqk => exact rfl); (case zqd => ktr_room); (case zqu => ktr_units); (case zqb => with_reducible assumption); (case zqm => k_mem); (case zqcs => assumption); (case zqs1 => k_mem); (case zqs2 => k_mem); (case zqg => with_reducible assumption); (case zqn => with_reducible assumption))) | (refine' recN_use ?zqB ?zqF ?zqX ?zqN ?zqT ?zqk ?zqd ?zqu (rec_plain _ _ _ _ _ _ _ _ _ _ ?zqm ?zqcs _) (fun x' dx' k1' k2' k3' k4' k5' tl' h' tk' l1 l2 F' N' => ?_); (case zqN => k_asm); (case zqB => k_asm); (case zqF => k_asm); (case zqX => k_asm); (case zqT => k_asm); (case zqk => exact rfl); (case zqd => ktr_room); (case zqu => ktr_units); (case zqm => k_mem); (case zqcs => assumption))); (try k_fold)))
  (k_with "call ref" => (k_here; (with_reducible show wpAny _ _ (call (Value.ref 273) _ _) _ _ _); k_dflt (first | (refine' refN_use ?zqB ?zqF ?zqX ?zqN ?zqT ?zqk ?zqd ?zqu (ref_new _ _ _ _ _ _ _ _ _ _ ?zqm ?zqcs _ _ _) (fun x' dx' k1' k2' k3' k4' k5' tl' h' tk' l1 l2 F' N' => ?_); (case zqN => k_asm); (case zqB => k_asm); (case zqF => k_asm); (case zqX => k_asm); (case zqT => k_asm); (case zqk => exact rfl); (case zqd => ktr_room); (case zqu => ktr_units); (case zqm => k_mem); (case zqcs => assumption)) | ((with_reducible rename KeyKind _ _ _ _ _ _ _ _ _ _ => zrhKK); (refine' refB_use ?zqB ?zqF ?zqX ?zqN ?zqT ?zqk ?zqd ?zqu (ref_back _ _ _ _ _ _ _ _ _ _ _ ?zqm ?zqcs ?zqs2 _ _ _ ?zqs1 _ _ _ _ _ zrhKK ?zqg _ _ ?zqp0 ?zqp1 ?zqp2 ?zqp3 _ _ ?zqb) (fun t9 t8 t7 x' dx' k1' k2' k3' k4' k5' tl' h' tk' F' N' => ?_); (case zqN => k_asm); (case zqB => k_asm); (case zqF => k_asm); (case zqX => k_asm); (case zqT => k_asm); (case zqk => exact rfl); (case zqd => ktr_room); (case zqu => ktr_units); (case zqb => with_reducible assumption); (case zqm => k_mem); (case zqcs => assumption); (case zqs1 => k_mem); (case zqs2 => k_mem); (case zqg => with_reducible assumption); (case zqp0 => k_extra "om"); (case zqp1 => k_extra "om"); (case zqp2 => k_extra "om"); (case zqp3 => k_extra "om"))) | (refine' refN_use ?zqB ?zqF ?zqX ?zqN ?zqT ?zqk ?zqd ?zqu (ref_plain _ _ _ _ _ _ _ _ _ _ ?zqm ?zqcs _) (fun x' dx' k1' k2' k3' k4' k5' tl' h' tk' l1 l2 F' N' => ?_); (case zqN => k_asm); (case zqB => k_asm); (case zqF => k_asm); (case zqX => k_asm); (case zqT => k_asm); (case zqk => exact rfl); (case zqd => ktr_room); (case zqu => ktr_units); (case zqm => k_mem); (case zqcs => assumption))); (try k_fold)))
  (k_with "call ref" => (k_here; (with_reducible show wpAny _ _ (call (Value.ref 222) _) _ _ _); (with_reducible rename KeyKind _ _ _ _ _ _ _ _ _ _ => zrhKK); k_dflt (first | (refine' dumpO_use ?zqB ?zqF ?zqX ?zqN ?zqT ?zqk ?zqd ?zqu (dump_out_ok _ _ _ _ _ _ _ _ _ _ _ ?zqm ?zqcs ?zqs2 _ _ _ ?zqs1 _ _ _ _ _ zrhKK _ _ _ _ _ _ _ _ _ ?zqg _ _ ?zqp0 ?zqp1 ?zqx ?zqy) (fun b9 t9 h' tk' hb9 F' N' => ?_); (case zqg => with_reducible assumption); (case zqN => k_asm); (case zqB => k_asm); (case zqF => k_asm); (case zqX => k_asm); (case zqT => k_asm); (case zqk => exact rfl); (case zqd => ktr_room); (case zqu => ktr_units); (case zqx => k_mem); (case zqy => k_mem); (case zqm => k_mem); (case zqcs => assumption); (case zqs1 => k_mem); (case zqs2 => k_mem); (case zqp0 => k_extra "om"); (case zqp1 => k_extra "om")) | (refine' dumpO_use ?zqB ?zqF ?zqX ?zqN ?zqT ?zqk ?zqd ?zqu (dump_in_ok _ _ _ _ _ _ _ _ _ _ _ ?zqm ?zqcs ?zqs2 _ _ _ ?zqs1 _ _ _ _ _ zrhKK _ _ _ _ _ _ _ _ _ ?zqg _ _ _ ?zqb ?zql ?zqx ?zqy) (fun b9 t9 h' tk' hb9 F' N' => ?_); (case zqg => with_reducible assumption); (case zqN => k_asm); (case zqB => k_asm); (case zqF => k_asm); (case zqX => k_asm); (case zqT => k_asm); (case zqk => exact rfl); (case zqd => ktr_room); (case zqu => ktr_units); (case zqx => k_mem); (case zqy => k_mem); (case zqm => k_mem); (case zqcs => assumption); (case zqs1 => k_mem); (case zqs2 => k_mem); (case zqb => with_reducible assumption); (case zql => with_reducible assumption)) | (refine' dumpN_use ?zqB ?zqF ?zqX ?zqN ?zqT ?zqk ?zqd ?zqu (dump_out _ _ _ _ _ _ _ _ _ _ _ ?zqm ?zqcs ?zqs2 _ _ _ ?zqs1 _ _ _ _ _ zrhKK _ _ _ _ _ _ _ _ _ _ _ ?zqp0 ?zqx ?zqy) (fun hg9 hn9 b9 t9 h' tk' hb9 F' N' => ?_) (fun c' e' h' tk' g' C' F' R' U' => ?_); (case zqN => k_asm); (case zqB => k_asm); (case zqF => k_asm); (case zqX => k_asm); (case zqT => k_asm); (case zqk => exact rfl); (case zqd => ktr_room); (case zqu => ktr_units); (case zqx => k_mem); (case zqy => k_mem); (case zqm => k_mem); (case zqcs => assumption); (case zqs1 => k_mem); (case zqs2 => k_mem); (case zqp0 => k_extra "om")) | (refine' dumpN_use ?zqB ?zqF ?zqX ?zqN ?zqT ?zqk ?zqd ?zqu (dump_in _ _ _ _ _ _ _ _ _ _ _ ?zqm ?zqcs ?zqs2 _ _ _ ?zqs1 _ _ _ _ _ zrhKK _ _ _ _ _ _ _ _ _ _ _ _ ?zqb ?zql ?zqx ?zqy) (fun hg9 hn9 b9 t9 h' tk' hb9 F' N' => ?_) (fun c' e' h' tk' g' C' F' R' U' => ?_); (case zqN => k_asm); (case zqB => k_asm); (case zqF => k_asm); (case zqX => k_asm); (case zqT => k_asm); (case zqk => exact rfl); (case zqd => ktr_room); (case zqu => ktr_units); (case zqx => k_mem); (case zqy => k_mem); (case zqm => k_mem); (case zqcs => assumption); (case zqs1 => k_mem); (case zqs2 => k_mem); (case zqb => with_reducible assumption); (case zql => with_reducible assumption))); (try k_fold)))
  (k_with "call ref" => (k_here; (with_reducible show wpAny _ _ (call (Value.ref 263) _) _ _ _); (with_reducible rename KeyKind _ _ _ _ _ _ _ _ _ _ => zrhKK); k_dflt (first | (refine' callsX_use ?zqB ?zqF ?zqX ?zqN ?zqT ?zqk ?zqd ?zqu (refdump_no _ _ _ _ _ _ _ _ _ ?zqhb ?zqha ?zqhn _ _ _ _ _ _ _ ?zqx ?zqy) (fun e' h' tk' g' F' R' U' => ?_); (case zqhn => with_reducible assumption); (case zqN => k_asm); (case zqB => k_asm); (case zqF => k_asm); (case zqX => k_asm); (case zqT => k_asm); (case zqk => exact rfl); (case zqd => ktr_room); (case zqu => ktr_units); (case zqx => k_mem); (case zqy => k_mem); (case zqhb => with_reducible assumption); (case zqha => with_reducible assumption)) | (refine' dumpO_use ?zqB ?zqF ?zqX ?zqN ?zqT ?zqk ?zqd ?zqu (dump_ref_ok _ _ _ _ _ _ _ _ _ _ _ ?zqm ?zqcs ?zqs2 _ _ _ ?zqs1 _ _ _ _ _ zrhKK _ _ _ _ _ _ _ _ _ ?zqg _ _ _ _ ?zqp0 ?zqp1 ?zqp2 ?zqp3 ?zqx ?zqy) (fun b9 t9 h' tk' hb9 F' N' => ?_); (case zqg => with_reducible assumption); (case zqN => k_asm); (case zqB => k_asm); (case zqF => k_asm); (case zqX => k_asm); (case zqT => k_asm); (case zqk => exact rfl); (case zqd => ktr_room); (case zqu => ktr_units); (case zqx => k_mem); (case zqy => k_mem); (case zqm => k_mem); (case zqcs => assumption); (case zqs1 => k_mem); (case zqs2 => k_mem); (case zqp0 => k_extra "om"); (case zqp1 => k_extra "om"); (case zqp2 => k_extra "om"); (case zqp3 => k_extra "om")) | (refine' dumpN_use ?zqB ?zqF ?zqX ?zqN ?zqT ?zqk ?zqd ?zqu (dump_ref _ _ _ _ _ _ _ _ _ _ _ ?zqm ?zqcs ?zqs2 _ _ _ ?zqs1 _ _ _ _ _ zrhKK _ _ _ _ _ _ _ _ _ _ _ _ _ ?zqp0 ?zqp1 ?zqx ?zqy) (fun hg9 hn9 b9 t9 h' tk' hb9 F' N' => ?_) (fun c' e' h' tk' g' C' F' R' U' => ?_); (case zqN => k_asm); (case zqB => k_asm); (case zqF => k_asm); (case zqX => k_asm); (case zqT => k_asm); (case zqk => exact rfl); (case zqd => ktr_room); (case zqu => ktr_units); (case zqx => k_mem); (case zqy => k_mem); (case zqm => k_mem); (case zqcs => assumption); (case zqs1 => k_mem); (case zqs2 => k_mem); (case zqp0 => k_extra "om"); (case zqp1 => k_extra "om"))); (try k_fold)))
  (k_with "compareOp NotEq bytes bytes" => (k_here; (with_reducible show wpAny _ _ (compareOp CmpOp.NotEq (Value.bytes _ _) (Value.bytes _ _)) _ _ _); refine' ne_b ?zqa ?zqb ?zqe ?_; (case zqa => with_reducible assumption); (case zqb => with_reducible assumption); (case zqe => k_extra "rows")))
  (k_with "compareOp Eq bytes bytes" => (k_here; (with_reducible show wpAny _ _ (compareOp CmpOp.Eq (Value.bytes _ _) (Value.bytes _ _)) _ _ _); refine' eq_b ?zqa ?zqb ?zqe ?_; (case zqa => with_reducible assumption); (case zqb => with_reducible assumption); (case zqe => k_extra "rows")))
  (k_with "compareOp Eq ref ref" => (k_here; (with_reducible show wpAny _ _ (compareOp CmpOp.Eq (Value.ref _) (Value.ref _)) _ _ _); k_dflt (refine' tup_eq ?zqN ?zqa ?zqb ?zqu ?zqe ?_; (case zqN => k_asm); (case zqa => k_mem); (case zqb => k_mem); (case zqu => ktr_units); (case zqe => k_extra "all at"))))
  (k_with "compareOp NotEq ref ref" => (k_here; (with_reducible show wpAny _ _ (compareOp CmpOp.NotEq (Value.ref _) (Value.ref _)) _ _ _); k_dflt (refine' tup_ne ?zqN ?zqa ?zqb ?zqu ?zqe ?_; (case zqN => k_asm); (case zqa => k_mem); (case zqb => k_mem); (case zqu => ktr_units); (case zqe => k_extra "all at"))))
  (k_with "compareOp NotEq int int" => (k_here; (with_reducible show wpAny _ _ (compareOp CmpOp.NotEq (Value.int _ _) (Value.int _ _)) _ _ _); refine' ne_same ?zqq1 ?_; (case zqq1 => ((try simp only [List.length_append, List.length_replicate, KTBy.little_length, List.length_cons, List.length_nil]); k_extra "om"))))
  (k_with "compareOp Eq int int" => (k_here; (with_reducible show wpAny _ _ (compareOp CmpOp.Eq (Value.int _ _) (Value.int _ _)) _ _ _); first | (refine' eq_same ?zqq1 ?_; (case zqq1 => k_extra "om")) | (refine' eq_diff ?zqq1 ?_; (case zqq1 => k_extra "om"))))
  (k_with "compareOp NotEq" => (k_here; (with_reducible show wpAny _ _ (compareOp CmpOp.NotEq _ _) _ _ _); (with_reducible rename KeyEq _ => zrhke); (with_reducible refine' zrhke.ne' _ _ _ _ _ _ _ _ ?_)))
  (k_with "rows" => first | (with_reducible exact rfl) | exact row_out _ _ _ _ | exact row_in _ _ _ _ (by with_reducible assumption) | exact row_ref _ _ _ _)
  (k_with "z k_handed" => ((with_reducible rename KeyKind _ _ _ _ _ _ _ _ _ _ => zrhKK); exact zrhKK.hand _))
  (k_with "all at" => ((try (with_reducible rename KeyEq _ => zrhke)); (repeat' (refine And.intro ?_ ?_)); (all_goals first | exact trivial | exact zrhke.at' _ _ _ _ | exact PySem.SeqAt.EqAt.same _ | exact at_int _ _ _ | (refine at_bytes (by with_reducible assumption) (by with_reducible assumption) ?_; k_extra "rows") | (refine at_int' ?_; ((try simp only [List.length_append, List.length_replicate, KTBy.little_length, List.length_cons, List.length_nil]); k_extra "om")))))
  trivial
set_option maxHeartbeats 8000000 in
theorem law_reco (w : World) (news : List (Addr × Obj)) (c : Addr) (ks vsz : Nat) (sr dsr : Addr) (t1 t2 t3 t4 : Tok) (hc : (c, confObj ks vsz sr t1 t2 t3 t4) ∈ news) (hcs : confs ks vsz)
    (hs2 : (dsr, dictOf [] 0) ∈ news) (sC sfn dfn : Addr) (hs1 : (sr, instObj sC dsr) ∈ news)
    (tx : Bool) (m0 : Int) (kv : Tok → Value) (ko : List Int) (good : Prop) (exc fault : String) (hK : KeyKind w ks sC sfn dfn kv ko good exc fault) (hke : KeyEq kv) (hkc : KeyCalls w c ks vsz sr t1 t2 t3 t4 tx m0 kv ko good fault)
    (ps : Array Value) (hO : TabOk ps news (Str.ofString "_law_record.<locals>.<lambda>")) (hne : ∀ q ∈ news, q.1 ≠ 397) (tm : Tok) :
    CallsC w (.ref 400) [.ref c, .bool tx, .int m0 tm, .bool true] ((397, tabObj ps) :: news) 60 3000 (fun v news' => v = .bool true ∧ TabPost 397 (Str.ofString "_law_record.<locals>.<lambda>") news news') := by
  unfold CallsC
  k_fill
  intro p loose mean mg mb dp un gd cn cs a ccd cl outer A₀ base h₀ L m s Q E B F X N T hk XB TB D hd hu hret
  obtain ⟨kd, nm, ig, ic, mo⟩ := cs
  cases hk
  refine wpAny_call ?_
  k_dflt (refine' enter_turnC ?k1 ?k2 ?k3 ?k4 ?k5 ?XB ?TB ?D ?T0 ?kA ?kF ?kK ?k6 ?k7 ?k8 ?k9 ?kB ?kD ?_ ?c2 ?c3 ?c4)
  (case kA => exact rfl); (case kF => exact rfl); (case kK => exact rfl); (case k2 => k_asm); (case k1 => k_asm); (case XB => assumption); (case TB => assumption); (case D => assumption); (case T0 => exact KtsTurn.refl)
  (case k3 => k_asm); (case k4 => k_asm); (case k5 => k_asm); (case k6 => k_is); (case k7 => k_is); (case k8 => k_room); (case k9 => exact BindsTo.of_eq rfl); (case kB => exact rfl); (case kD => decide +kernel); (case c2 => exact rfl); (case c3 => exact rfl); (case c4 => exact rfl)
  k_whole
  intro g' L' h' tk' cells' FG' F' N' Y' B' X' T' D' l1
  (first | (replace F' : Fr g' L' h' (fun y => if y = _ then some _ else none) := F') | (replace F' : Fr g' L' h' (fun y => if y = _ then some _ else if y = _ then some _ else none) := F'))
  (try dsimp only at F')
  (try k_lt l1)
  have hY := PyProof.Rows.kc_five Y'
  obtain ⟨o1, o2, o3, o4, o5, hE, e1, e2, e3, e4, e5⟩ := hY
  subst hE; clear Y'
  have d1 := cell_is e1 none (by kernel_rfl)
  have d2 := cell_is e2 none (by kernel_rfl)
  have d3 := cell_is e3 none (by kernel_rfl)
  have d4 := cell_is e4 (some (.int m0 tm)) (by kernel_rfl)
  have d5 := cell_is e5 (some (.ref c)) (by kernel_rfl)
  clear e1 e2 e3 e4 e5
  (try simp only [List.cons_append, List.nil_append] at N'); (try dsimp only); (try k_lift B'); (try k_fold)
  have hCode := code_rec X'
  have a1 := allLt_succ l1.2
  have a2 := allLt_succ a1
  have a3 := allLt_succ a2
  have a4 := allLt_succ a3
  have a5 := allLt_succ a4
  have hq1 := fmod_bnd (m0.fdiv 5) 4 (by decide)
  have hq2 := fmod_bnd (m0.fdiv 7) (vsz + 2) (by k_extra "om")
  (try k_extra "fold")
  k_steps
  refine hold_out ?_
  with_reducible rename PgOk _ _ => hPg
  with_reducible rename KeyAns _ _ _ _ _ _ _ => hA
  with_reducible rename TabOk _ _ _ => hTab
  obtain ⟨P, hPe⟩ : ∃ P, P = pgOf hPg := ⟨_, rfl⟩
  dsimp only [pgOf] at hPe
  subst hPe
  have hPp := hPg.2.2.1 (by k_extra "om")
  have hPm := hPg.2.1
  refine' done_dump (D := rowOf ks vsz ko [] P) (big := 4294967296 ≤ P) (good := good) hK.exf ?f ?lam ?B ?F ?X ?N ?T ?k ?XB ?TB ?D ?T0 ?d ?u (fun hbad t9 h9 tk9 h8 BC => ?_) (fun hg hbig t9 h9 tk9 h8 BC => ?_) (fun hg hsm b9 t9 h9 tk9 h8 hb9 BC => ?_)
  case N => k_asm
  case f => k_mem
  case B => k_asm
  case F => k_asm
  case X => k_asm
  case T => k_asm
  case k => exact rfl
  case XB => k_asm
  case TB => k_asm
  case D => k_asm
  case T0 => exact KtsTurn.refl
  case d => ktr_room
  case u => ktr_units
  case lam =>
    unfold CallsN CallsK
    k_fill
    intro p loose mean mg mb dp un gd cn cs a ccd cl outer A₀ base h₀ L m s Q E B F X N T hk hd hu hret hexc
    obtain ⟨kd, nm, ig, ic, mo⟩ := cs
    cases hk
    refine wpAny_call ?_
    k_dflt kla_enter
    (try k_extra "fold")
    k_steps
    all_goals first
      | (exact hret _ _ _ _ (by k_asm) (by k_asm) ⟨⟨by with_reducible assumption, by with_reducible assumption, _, _, rfl, by with_reducible assumption⟩, by intro q hq; k_mem⟩)
      | (exact hexc _ _ _ _ _ (by with_reducible assumption) (by k_asm) (raised_sub (by with_reducible assumption) (by intro q hq; k_mem)) (by with_reducible assumption))
  · (obtain ⟨T1, F1, N1, B1, X1, TT1, D1⟩ := BC)
    rcases hA with ⟨hg, _⟩ | ⟨_, rfl, rfl⟩
    · exact absurd hg hbad
    (try k_extra "fold")
    k_steps
    all_goals first
      | (exfalso; omega)
      | (exact hret _ (((397 : Nat), tabObj _) :: (_, _) :: news) _ _ _ (by k_asm) (by k_asm) (cb_drop (by k_asm) (by kcf_all)) (by k_asm) (by k_asm) (by k_asm) (by k_asm) ⟨by simp, tabPost_one hTab (by with_reducible assumption) (by with_reducible assumption)⟩)
  · (obtain ⟨T1, F1, N1, B1, X1, TT1, D1⟩ := BC)
    rcases hA with ⟨_, rfl, rfl, vs9, rfl, hI9⟩ | ⟨hg9, _⟩
    case inr => exact absurd hg hg9
    have hko := ko_le hK hg
    have hrk : Rng ko := hK.rng
    obtain rfl : P = 4294967296 := Int.le_antisymm (by assumption) (by assumption)
    (try k_extra "fold")
    k_steps
    all_goals first
      | (exfalso; omega)
      | (exact hret _ (((397 : Nat), tabObj _) :: (_, _) :: news) _ _ _ (by k_asm) (by k_asm) (cb_drop (by k_asm) (by kcf_all)) (by k_asm) (by k_asm) (by k_asm) (by k_asm) ⟨by simp, tabPost_one hTab (by with_reducible assumption) (by with_reducible assumption)⟩)
  · (obtain ⟨T1, F1, N1, B1, X1, TT1, D1⟩ := BC)
    rcases hA with ⟨_, rfl, rfl, vs9, rfl, hI9⟩ | ⟨hg9, _⟩
    case inr => exact absurd hg hg9
    have hko := ko_le hK hg
    have hrk : Rng ko := hK.rng
    have hP1 : P < 4294967296 := Int.not_le.mp (by assumption)
    have hP9 : P ≠ 4294967296 := Int.ne_of_lt hP1
    (try k_extra "fold")
    k_steps
    all_goals first
      | (exfalso; omega)
      | (exact hret _ (((397 : Nat), tabObj _) :: (_, _) :: news) _ _ _ (by k_asm) (by k_asm) (cb_drop (by k_asm) (by kcf_all)) (by k_asm) (by k_asm) (by k_asm) (by k_asm) ⟨by simp, tabPost_one hTab (by with_reducible assumption) (by with_reducible assumption)⟩)

end
section
set_option maxHeartbeats 8000000 in
theorem law_reci (w : World) (news : List (Addr × Obj)) (c : Addr) (ks vsz : Nat) (sr dsr : Addr) (t1 t2 t3 t4 : Tok) (hc : (c, confObj ks vsz sr t1 t2 t3 t4) ∈ news) (hcs : confs ks vsz)
    (hs2 : (dsr, dictOf [] 0) ∈ news) (sC sfn dfn : Addr) (hs1 : (sr, instObj sC dsr) ∈ news)
    (tx : Bool) (m0 : Int) (kv : Tok → Value) (ko : List Int) (good : Prop) (exc fault : String) (hK : KeyKind w ks sC sfn dfn kv ko good exc fault) (hke : KeyEq kv) (hkc : KeyCalls w c ks vsz sr t1 t2 t3 t4 tx m0 kv ko good fault)
    (ps : Array Value) (hO : TabOk ps news (Str.ofString "_law_record.<locals>.<lambda>")) (hne : ∀ q ∈ news, q.1 ≠ 397) (tm : Tok) :
    CallsC w (.ref 400) [.ref c, .bool tx, .int m0 tm, .bool false] ((397, tabObj ps) :: news) 60 3000 (fun v news' => v = .bool true ∧ TabPost 397 (Str.ofString "_law_record.<locals>.<lambda>") news news') := by
  unfold CallsC
  k_fill
  intro p loose mean mg mb dp un gd cn cs a ccd cl outer A₀ base h₀ L m s Q E B F X N T hk XB TB D hd hu hret
  obtain ⟨kd, nm, ig, ic, mo⟩ := cs
  cases hk
  refine wpAny_call ?_
  k_dflt (refine' enter_turnC ?k1 ?k2 ?k3 ?k4 ?k5 ?XB ?TB ?D ?T0 ?kA ?kF ?kK ?k6 ?k7 ?k8 ?k9 ?kB ?kD ?_ ?c2 ?c3 ?c4)
  (case kA => exact rfl); (case kF => exact rfl); (case kK => exact rfl); (case k2 => k_asm); (case k1 => k_asm); (case XB => assumption); (case TB => assumption); (case D => assumption); (case T0 => exact KtsTurn.refl)
  (case k3 => k_asm); (case k4 => k_asm); (case k5 => k_asm); (case k6 => k_is); (case k7 => k_is); (case k8 => k_room); (case k9 => exact BindsTo.of_eq rfl); (case kB => exact rfl); (case kD => decide +kernel); (case c2 => exact rfl); (case c3 => exact rfl); (case c4 => exact rfl)
  k_whole
  intro g' L' h' tk' cells' FG' F' N' Y' B' X' T' D' l1
  (first | (replace F' : Fr g' L' h' (fun y => if y = _ then some _ else none) := F') | (replace F' : Fr g' L' h' (fun y => if y = _ then some _ else if y = _ then some _ else none) := F'))
  (try dsimp only at F')
  (try k_lt l1)
  have hY := PyProof.Rows.kc_five Y'
  obtain ⟨o1, o2, o3, o4, o5, hE, e1, e2, e3, e4, e5⟩ := hY
  subst hE; clear Y'
  have d1 := cell_is e1 none (by kernel_rfl)
  have d2 := cell_is e2 none (by kernel_rfl)
  have d3 := cell_is e3 none (by kernel_rfl)
  have d4 := cell_is e4 (some (.int m0 tm)) (by kernel_rfl)
  have d5 := cell_is e5 (some (.ref c)) (by kernel_rfl)
  clear e1 e2 e3 e4 e5
  (try simp only [List.cons_append, List.nil_append] at N'); (try dsimp only); (try k_lift B'); (try k_fold)
  have hCode := code_rec X'
  have a1 := allLt_succ l1.2
  have a2 := allLt_succ a1
  have a3 := allLt_succ a2
  have a4 := allLt_succ a3
  have a5 := allLt_succ a4
  have hq1 := fmod_bnd (m0.fdiv 5) 4 (by decide)
  have hq2 := fmod_bnd (m0.fdiv 7) (vsz + 2) (by k_extra "om")
  (try k_extra "fold")
  k_steps
  refine hold_out ?_
  with_reducible rename KeyAns _ _ _ _ _ _ _ => hA
  with_reducible rename TabOk _ _ _ => hTab
  with_reducible rename IntsAre _ (List.map _ _) => hV
  obtain ⟨VL, hV, hvn, hrv⟩ := val_ok hV
  have hvl : VL.length ≤ 6 := by k_extra "om"
  by_cases hle : VL.length ≤ vsz
  · refine' done_dump (D := rowOf ks vsz ko VL 0) (big := False) (good := good) hK.exf ?f ?lam ?B ?F ?X ?N ?T ?k ?XB ?TB ?D ?T0 ?d ?u (fun hbad t9 h9 tk9 h8 BC => ?_) (fun hg hbig t9 h9 tk9 h8 BC => hbig.elim) (fun hg hsm b9 t9 h9 tk9 h8 hb9 BC => ?_)
    case N => k_asm
    case f => k_mem
    case B => k_asm
    case F => k_asm
    case X => k_asm
    case T => k_asm
    case k => exact rfl
    case XB => k_asm
    case TB => k_asm
    case D => k_asm
    case T0 => exact KtsTurn.refl
    case d => ktr_room
    case u => ktr_units
    case lam =>
      unfold CallsN CallsK
      k_fill
      intro p loose mean mg mb dp un gd cn cs a ccd cl outer A₀ base h₀ L m s Q E B F X N T hk hd hu hret hexc
      obtain ⟨kd, nm, ig, ic, mo⟩ := cs
      cases hk
      refine wpAny_call ?_
      k_dflt kla_enter
      (try k_extra "fold")
      k_steps
      all_goals first
        | (exact hret _ _ _ _ (by k_asm) (by k_asm) ⟨⟨by with_reducible assumption, by with_reducible assumption, _, _, rfl, by with_reducible assumption⟩, by intro q hq; k_mem⟩)
        | (exact hexc _ _ _ _ _ (by with_reducible assumption) (by k_asm) (raised_sub (by with_reducible assumption) (by intro q hq; k_mem)) (by with_reducible assumption))
    · (obtain ⟨T1, F1, N1, B1, X1, TT1, D1⟩ := BC)
      rcases hA with ⟨hg, _⟩ | ⟨_, rfl, rfl⟩
      · exact absurd hg hbad
      (try k_extra "fold")
      k_steps
      all_goals first
        | (exfalso; omega)
        | (exact hret _ (((397 : Nat), tabObj _) :: (_, _) :: news) _ _ _ (by k_asm) (by k_asm) (cb_drop (by k_asm) (by kcf_all)) (by k_asm) (by k_asm) (by k_asm) (by k_asm) ⟨by simp, tabPost_one hTab (by with_reducible assumption) (by with_reducible assumption)⟩)
    · (obtain ⟨T1, F1, N1, B1, X1, TT1, D1⟩ := BC)
      rcases hA with ⟨_, rfl, rfl, vs9, rfl, hI9⟩ | ⟨hg9, _⟩
      case inr => exact absurd hg hg9
      have hko := ko_le hK hg
      have hrk : Rng ko := hK.rng
      (try k_extra "fold")
      k_steps
      all_goals first
        | (exfalso; omega)
        | (exact hret _ (((397 : Nat), tabObj _) :: (_, _) :: news) _ _ _ (by k_asm) (by k_asm) (cb_drop (by k_asm) (by kcf_all)) (by k_asm) (by k_asm) (by k_asm) (by k_asm) ⟨by simp, tabPost_one hTab (by with_reducible assumption) (by with_reducible assumption)⟩)
  · refine' done_dump (D := []) (big := False) (good := False) (.inr ⟨rfl, rfl⟩ : ("AssertionError" = "OverflowError" ∧ "refused" = "too great") ∨ ("AssertionError" = "AssertionError" ∧ "refused" = "refused")) ?f ?lam ?B ?F ?X ?N ?T ?k ?XB ?TB ?D ?T0 ?d ?u (fun hbad t9 h9 tk9 h8 BC => ?_) (fun hg hbig t9 h9 tk9 h8 BC => hbig.elim) (fun hg hsm b9 t9 h9 tk9 h8 hb9 BC => hg.elim)
    case N => k_asm
    case f => k_mem
    case B => k_asm
    case F => k_asm
    case X => k_asm
    case T => k_asm
    case k => exact rfl
    case XB => k_asm
    case TB => k_asm
    case D => k_asm
    case T0 => exact KtsTurn.refl
    case d => ktr_room
    case u => ktr_units
    case lam =>
      unfold CallsN CallsK
      k_fill
      intro p loose mean mg mb dp un gd cn cs a ccd cl outer A₀ base h₀ L m s Q E B F X N T hk hd hu hret hexc
      obtain ⟨kd, nm, ig, ic, mo⟩ := cs
      cases hk
      refine wpAny_call ?_
      k_dflt kla_enter
      (try k_extra "fold")
      k_steps
      all_goals first
        | (exact hexc _ _ _ _ _ (.inl ⟨id, rfl⟩) (by k_asm) (raised_sub (by with_reducible assumption) (by intro q hq; k_mem)) (by with_reducible assumption))
    (obtain ⟨T1, F1, N1, B1, X1, TT1, D1⟩ := BC)
    (try k_extra "fold")
    k_steps
    all_goals first
      | (exfalso; omega)
      | (exact hret _ (((397 : Nat), tabObj _) :: (_, _) :: news) _ _ _ (by k_asm) (by k_asm) (cb_drop (by k_asm) (by kcf_all)) (by k_asm) (by k_asm) (by k_asm) (by k_asm) ⟨by simp, tabPost_one hTab (by with_reducible assumption) (by with_reducible assumption)⟩)

end
section
theorem words_p27_refe_1 : True := by
  (k_with "eval IfExp" => (k_here; (with_reducible rename (True ∧ True) => zrhS); refine hold_in ?_))
  (k_with "ite" => refine ite_dpos (hz47 (by assumption)) ?_)
  trivial
set_option maxHeartbeats 8000000 in
theorem law_refe (w : World) (news : List (Addr × Obj)) (c : Addr) (ks vsz : Nat) (sr dsr : Addr) (t1 t2 t3 t4 : Tok) (hc : (c, confObj ks vsz sr t1 t2 t3 t4) ∈ news) (hcs : confs ks vsz)
    (hs2 : (dsr, dictOf [] 0) ∈ news) (sC sfn dfn : Addr) (hs1 : (sr, instObj sC dsr) ∈ news)
    (tx : Bool) (m0 : Int) (kv : Tok → Value) (ko : List Int) (good : Prop) (exc fault : String) (hK : KeyKind w ks sC sfn dfn kv ko good exc fault) (hke : KeyEq kv) (hkc : KeyCalls w c ks vsz sr t1 t2 t3 t4 tx m0 kv ko good fault)
    (ps : Array Value) (hO : TabOk ps news (Str.ofString "_law_reference.<locals>.<lambda>")) (hne : ∀ q ∈ news, q.1 ≠ 402) (tm : Tok) :
    CallsC w (.ref 407) [.ref c, .bool tx, .int m0 tm] ((402, tabObj ps) :: news) 60 3000 (fun v news' => v = .bool true ∧ TabPost 402 (Str.ofString "_law_reference.<locals>.<lambda>") news news') := by
  unfold CallsC
  k_fill
  intro p loose mean mg mb dp un gd cn cs a ccd cl outer A₀ base h₀ L m s Q E B F X N T hk XB TB D hd hu hret
  obtain ⟨kd, nm, ig, ic, mo⟩ := cs
  cases hk
  refine wpAny_call ?_
  k_dflt (refine' enter_turnC ?k1 ?k2 ?k3 ?k4 ?k5 ?XB ?TB ?D ?T0 ?kA ?kF ?kK ?k6 ?k7 ?k8 ?k9 ?kB ?kD ?_ ?c2 ?c3 ?c4)
  (case kA => exact rfl); (case kF => exact rfl); (case kK => exact rfl); (case k2 => k_asm); (case k1 => k_asm); (case XB => assumption); (case TB => assumption); (case D => assumption); (case T0 => exact KtsTurn.refl)
  (case k3 => k_asm); (case k4 => k_asm); (case k5 => k_asm); (case k6 => k_is); (case k7 => k_is); (case k8 => k_room); (case k9 => exact BindsTo.of_eq rfl); (case kB => exact rfl); (case kD => decide +kernel); (case c2 => exact rfl); (case c3 => exact rfl); (case c4 => exact rfl)
  k_whole
  intro g' L' h' tk' cells' FG' F' N' Y' B' X' T' D' l1
  (first | (replace F' : Fr g' L' h' (fun y => if y = _ then some _ else none) := F') | (replace F' : Fr g' L' h' (fun y => if y = _ then some _ else if y = _ then some _ else none) := F'))
  (try dsimp only at F')
  (try k_lt l1)
  have hY := CellsAre.four Y'
  obtain ⟨o1, o2, o3, o4, hE, e1, e2, e3, e4⟩ := hY
  subst hE; clear Y'
  have d1 := cell_is e1 none (by kernel_rfl)
  have d2 := cell_is e2 none (by kernel_rfl)
  have d3 := cell_is e3 none (by kernel_rfl)
  have d4 := cell_is e4 (some (.ref c)) (by kernel_rfl)
  clear e1 e2 e3 e4
  (try simp only [List.cons_append, List.nil_append] at N'); (try dsimp only); (try k_lift B'); (try k_fold)
  have hCode := code_ref X'
  have a1 := allLt_succ l1.2
  have a2 := allLt_succ a1
  have a3 := allLt_succ a2
  have a4 := allLt_succ a3
  have hq1 := fmod_bnd (m0.fdiv 5) 6 (by decide)
  have hq2 := fmod_bnd (m0.fdiv 7) 6 (by decide)
  have hStop : True ∧ True := ⟨trivial, trivial⟩
  (try k_extra "fold")
  k_steps
  refine hold_out ?_
  refine' cut_two (P := PgV ((m0.fdiv 5).fmod 6)) ?F ?N ?h (fun v9 h9 tk9 hpb F9 N9 => ?_)
  case F => k_asm
  case N => k_asm
  case h =>
    (with_reducible rename (True ∧ True) => hS); clear hS
    (try k_extra "fold")
    k_steps
    all_goals first
      | exact .inl ⟨by k_extra "om", rfl⟩
      | exact .inr ⟨by k_extra "om", _, _, rfl, by with_reducible assumption⟩
      | k_asm
      | exact cb_drop (by k_asm) (by kcf_all)
  (try k_extra "fold")
  k_steps
  refine hold_out ?_
  refine' cut_two (P := PgV ((m0.fdiv 7).fmod 6)) ?F ?N ?h (fun v9 h9 tk9 hpa F9 N9 => ?_)
  case F => k_asm
  case N => k_asm
  case h =>
    (with_reducible rename (True ∧ True) => hS); clear hS
    (try k_extra "fold")
    k_steps
    all_goals first
      | exact .inl ⟨by k_extra "om", rfl⟩
      | exact .inr ⟨by k_extra "om", _, _, rfl, by with_reducible assumption⟩
      | k_asm
      | exact cb_drop (by k_asm) (by kcf_all)
  (try k_extra "fold")
  k_steps
  refine hold_out ?_
  with_reducible rename KeyAns _ _ _ _ _ _ _ => hA
  with_reducible rename TabOk _ _ _ => hTab
  by_cases hno : (m0.fdiv 5).fmod 6 = 5 ∨ (m0.fdiv 7).fmod 6 = 5
  · refine' done_dump (D := []) (big := False) (good := False) (.inr ⟨rfl, rfl⟩ : ("AssertionError" = "OverflowError" ∧ "refused" = "too great") ∨ ("AssertionError" = "AssertionError" ∧ "refused" = "refused")) ?f ?lam ?B ?F ?X ?N ?T ?k ?XB ?TB ?D ?T0 ?d ?u (fun hbad t9 h9 tk9 h8 BC => ?_) (fun hg hbig t9 h9 tk9 h8 BC => hbig.elim) (fun hg hsm b9 t9 h9 tk9 h8 hb9 BC => hg.elim)
    case N => k_asm
    case f => k_mem
    case B => k_asm
    case F => k_asm
    case X => k_asm
    case T => k_asm
    case k => exact rfl
    case XB => k_asm
    case TB => k_asm
    case D => k_asm
    case T0 => exact KtsTurn.refl
    case d => ktr_room
    case u => ktr_units
    case lam =>
      unfold CallsN CallsK
      k_fill
      intro p loose mean mg mb dp un gd cn cs a ccd cl outer A₀ base h₀ L m s Q E B F X N T hk hd hu hret hexc
      obtain ⟨kd, nm, ig, ic, mo⟩ := cs
      cases hk
      refine wpAny_call ?_
      k_dflt kla_enter
      (try k_extra "fold")
      k_steps
      all_goals first
        | (exact hexc _ _ _ _ _ (.inl ⟨id, rfl⟩) (by k_asm) (raised_sub (by with_reducible assumption) (by intro q hq; k_mem)) (by with_reducible assumption))
    (obtain ⟨T1, F1, N1, B1, X1, TT1, D1⟩ := BC)
    rcases hpb with ⟨hb5, rfl⟩ | ⟨hb5, P1, t11, rfl, hp1⟩
    · k_steps
      all_goals first
        | (exfalso; omega)
        | (exact hret _ (((402 : Nat), tabObj _) :: (_, _) :: news) _ _ _ (by k_asm) (by k_asm) (cb_drop (by k_asm) (by kcf_all)) (by k_asm) (by k_asm) (by k_asm) (by k_asm) ⟨by simp, tabPost_one hTab (by with_reducible assumption) (by with_reducible assumption)⟩)
    · rcases hpa with ⟨ha5, rfl⟩ | ⟨ha5, _⟩
      case inr => exact absurd hno (by k_extra "om")
      (try k_extra "fold")
      k_steps
      all_goals first
        | (exfalso; omega)
        | (exact hret _ (((402 : Nat), tabObj _) :: (_, _) :: news) _ _ _ (by k_asm) (by k_asm) (cb_drop (by k_asm) (by kcf_all)) (by k_asm) (by k_asm) (by k_asm) (by k_asm) ⟨by simp, tabPost_one hTab (by with_reducible assumption) (by with_reducible assumption)⟩)
  · rcases hpb with ⟨hb5, _⟩ | ⟨hb5, P1, t11, rfl, hp1⟩
    · exact absurd hno (by k_extra "om")
    rcases hpa with ⟨ha5, _⟩ | ⟨ha5, P2, t12, rfl, hp2⟩
    · exact absurd hno (by k_extra "om")
    have b1 := hp1.1
    have b2 := hp1.2.1
    have b3 := hp1.2.2.2.1
    have b4 := hp1.2.2.2.2
    have c1 := hp2.1
    have c2 := hp2.2.1
    have c3 := hp2.2.2.2.1
    have c4 := hp2.2.2.2.2
    refine' done_dump (D := rowRef ks ko P1 P2) (big := (4294967296 ≤ P1 ∨ 4294967296 ≤ P2)) (good := good) hK.exf ?f ?lam ?B ?F ?X ?N ?T ?k ?XB ?TB ?D ?T0 ?d ?u (fun hbad t9 h9 tk9 h8 BC => ?_) (fun hg hbig t9 h9 tk9 h8 BC => ?_) (fun hg hsm b9 t9 h9 tk9 h8 hb9 BC => ?_)
    case N => k_asm
    case f => k_mem
    case B => k_asm
    case F => k_asm
    case X => k_asm
    case T => k_asm
    case k => exact rfl
    case XB => k_asm
    case TB => k_asm
    case D => k_asm
    case T0 => exact KtsTurn.refl
    case d => ktr_room
    case u => ktr_units
    case lam =>
      unfold CallsN CallsK
      k_fill
      intro p loose mean mg mb dp un gd cn cs a ccd cl outer A₀ base h₀ L m s Q E B F X N T hk hd hu hret hexc
      obtain ⟨kd, nm, ig, ic, mo⟩ := cs
      cases hk
      refine wpAny_call ?_
      k_dflt kla_enter
      (try k_extra "fold")
      k_steps
      all_goals first
        | (exact hret _ _ _ _ (by k_asm) (by k_asm) ⟨⟨by with_reducible assumption, by with_reducible assumption, _, _, rfl, by with_reducible assumption⟩, by intro q hq; k_mem⟩)
        | (exact hexc _ _ _ _ _ (by with_reducible assumption) (by k_asm) (raised_sub (by with_reducible assumption) (by intro q hq; k_mem)) (by with_reducible assumption))
    · (obtain ⟨T1, F1, N1, B1, X1, TT1, D1⟩ := BC)
      rcases hA with ⟨hg, _⟩ | ⟨_, rfl, rfl⟩
      · exact absurd hg hbad
      (try k_extra "fold")
      k_steps
      all_goals first
        | (exfalso; omega)
        | (exact hret _ (((402 : Nat), tabObj _) :: (_, _) :: news) _ _ _ (by k_asm) (by k_asm) (cb_drop (by k_asm) (by kcf_all)) (by k_asm) (by k_asm) (by k_asm) (by k_asm) ⟨by simp, tabPost_one hTab (by with_reducible assumption) (by with_reducible assumption)⟩)
    · (obtain ⟨T1, F1, N1, B1, X1, TT1, D1⟩ := BC)
      rcases hA with ⟨_, rfl, rfl, vs9, rfl, hI9⟩ | ⟨hg9, _⟩
      case inr => exact absurd hg hg9
      have hko := ko_le hK hg
      have hrk : Rng ko := hK.rng
      have hz47 : (m0.fdiv 5).fmod 6 ≠ 4 → (m0.fdiv 7).fmod 6 = 4 := fun z1 => Decidable.not_not.mp fun z2 => hbig.elim (Int.not_le.mpr (b3 z1)) (Int.not_le.mpr (c3 z2))
      (try k_extra "fold")
      k_steps
      all_goals first
        | (exfalso; omega)
        | (exact hret _ (((402 : Nat), tabObj _) :: (_, _) :: news) _ _ _ (by k_asm) (by k_asm) (cb_drop (by k_asm) (by kcf_all)) (by k_asm) (by k_asm) (by k_asm) (by k_asm) ⟨by simp, tabPost_one hTab (by with_reducible assumption) (by with_reducible assumption)⟩)
    · (obtain ⟨T1, F1, N1, B1, X1, TT1, D1⟩ := BC)
      rcases hA with ⟨_, rfl, rfl, vs9, rfl, hI9⟩ | ⟨hg9, _⟩
      case inr => exact absurd hg hg9
      have hko := ko_le hK hg
      have hrk : Rng ko := hK.rng
      have hn4 : (m0.fdiv 5).fmod 6 ≠ 4 := fun z => hsm (.inl (Int.le_of_eq (b4 z).symm))
      have hn7 : (m0.fdiv 7).fmod 6 ≠ 4 := fun z => hsm (.inr (Int.le_of_eq (c4 z).symm))
      have hP1 : P1 < 4294967296 := Int.not_le.mp fun hz => hsm (.inl hz)
      have hP2 : P2 < 4294967296 := Int.not_le.mp fun hz => hsm (.inr hz)
      (try k_extra "fold")
      k_steps
      all_goals first
        | (exfalso; omega)
        | (exact hret _ (((402 : Nat), tabObj _) :: (_, _) :: news) _ _ _ (by k_asm) (by k_asm) (cb_drop (by k_asm) (by kcf_all)) (by k_asm) (by k_asm) (by k_asm) (by k_asm) ⟨by simp, tabPost_one hTab (by with_reducible assumption) (by with_reducible assumption)⟩)

end
section
theorem words_28a_dec : True := by
  k_with_none
  (k_with "z ktr_units" => ((simp only [units_under_kw, units_in1, units_deeper, Around.mark_units, units_caller, ktrTop, cLine_is] at ⊢); (rename _ < cLine => zrhcU); (rw [cLine_is] at zrhcU); omega))
  (k_with "z ktr_room" => ((simp only [depth_under_kw, depth_in1, depth_deeper, depth_caller, ktrTop] at ⊢); omega))
  (k_with "z ktr_units" => ((rename _ < cLine => zrhcU); first | exact u3 zrhcU rfl | exact u2 zrhcU rfl | exact u4 zrhcU rfl | exact u5 zrhcU rfl | exact u1 zrhcU))
  (k_with "z ktr_room" => ((rename _ < recursionLimit => zrhcD); first | exact u2 zrhcD rfl | exact u3 zrhcD rfl | exact u4 zrhcD rfl | exact u5 zrhcD rfl | exact u1 zrhcD))
  (k_with "z k_room" => ktr_room)
  (k_with "z k_units" => ktr_units)
  (k_with "z k_mem" => ((show @Membership.mem (Addr × Obj) (List (Addr × Obj)) _ _ _); with_reducible assumption))
  (k_with "om0" => ((repeat (with_reducible rename _ ≠ _ ∧ _ => zrhz; clear zrhz)); (repeat (with_reducible rename (_ ≠ _ ∧ _) ∧ _ => zrhz; clear zrhz)); omega))
  (k_with "bd1" => first | decide | (with_reducible first | apply om_b1 | apply om_b2 | apply om_b3 | apply om_b4 | apply om_b5 | apply om_b6 | apply om_b7 | apply om_bs | apply om_bt | apply om_bz | apply om_bt4 | apply om_b2t | apply om_bm | (apply om_bq; assumption) | refine om_bl (by assumption) ?_ | refine om_be (by assumption) ?_ | (apply om_bk; assumption; decide) | (apply om_bv; assumption; decide)))
  (k_with "bd" => (k_whole; (with_reducible first | (apply om_b0; rotate_left; with_unfolding_all rfl) | (apply om_b0l; rotate_left; with_unfolding_all rfl)); (repeat' k_extra "bd1"); done))
  (k_with "five" => first | assumption | exact om_lk5 (by assumption) | exact om_lt5 (by assumption) | exact Nat.le_trans (by assumption) (om_lk5 (by assumption)) | exact Nat.le_trans (by assumption) (om_lt5 (by assumption)))
  (k_with "om1" => first | rfl | assumption | exact And.left (by assumption) | exact And.right (by assumption) | ((show @LE.le Int _ _ _); first | apply Int.natCast_nonneg | (apply om_sub_nn; assumption) | (apply om_sa0; assumption) | (apply Int.le_of_lt; apply om_lp2) | (apply Int.le_add_of_nonneg_right; first | assumption | apply Int.natCast_nonneg)) | ((show @LE.le Nat _ _ _); apply Nat.le_of_lt; assumption) | ((show @LT.lt Int _ _ _); apply om_lp2) | ((show @LT.lt Nat _ _ _); first | (apply om_posD; assumption) | (apply om_posF; assumption)) | ((show @Eq Nat _ _); first | apply tns | apply tn0 | (apply castD; assumption) | (apply castF; assumption)))
  (k_with "om2" => first | decide | ((show @LE.le Nat _ _ _); first | exact Nat.le_trans (by assumption) (by decide) | exact om_be (by assumption) (by decide) | (apply om_bq4; assumption; rfl) | (apply om_kbt; assumption; k_extra "five") | (apply om_kmt <;> assumption)) | ((show @LE.le Int _ _ _); first | (apply Int.le_add_of_nonneg_right; decide) | (apply om_ic 5; k_extra "five"; decide) | (apply om_sub_le0; apply om_ic 5; k_extra "five"; decide) | (apply om_sub0_le; apply om_ic 5; k_extra "five"; decide) | (apply om_sa4; k_extra "five") | (refine Int.le_trans (om_kb (by assumption) (by k_extra "five")) (by decide)) | (apply om_kb1; assumption; k_extra "five") | (apply om_kb2; assumption; k_extra "five") | (apply om_km <;> assumption)) | ((show @Eq Int _ _); first | (apply om_lnO; assumption) | (apply om_lnI <;> assumption) | (apply om_lnF; assumption)) | ((show @LT.lt Int _ _ _); first | (apply om_icl 5; k_extra "five"; decide) | exact Int.lt_of_lt_of_le (by decide) (And.left (by assumption)) | exact Int.lt_trans (And.right (by assumption)) (by decide)))
  (k_with "nn" => ((show @LE.le Int _ _ _); apply Int.add_nonneg; (repeat' first | apply Int.natCast_nonneg | assumption | decide | apply Int.add_nonneg); done))
  (k_with "om" => first | (k_whole; with_reducible k_extra "om1") | (k_whole; with_reducible k_extra "om2") | (k_whole; with_reducible k_extra "nn") | k_extra "bd" | k_extra "om0")
  (k_with "z kba_size" => k_extra "bd")
  (k_with "fold" => (refine' let_A ?_; intro qa; k_fold))
  (k_with "ite" => first | refine ite_dpos (by assumption) ?_ | refine ite_dneg (by first | assumption | (apply Int.not_lt.mpr; assumption) | (apply Int.not_le.mpr; assumption)) ?_)
  (k_with "z kcf_bnd" => first | (k_whole; with_reducible k_extra "om1") | (k_whole; with_reducible k_extra "om2") | (k_whole; with_reducible k_extra "nn") | k_extra "bd")
  (k_with "gl" => with_reducible (first | exact glUSEDKEYLENGTHBYTES _ | exact glUSEDVALUELENGTHBYTES _ | exact glPAGEREFERENCEBYTES _ | exact glENDIAN _ | exact glRecord _ | exact glReference _ | exact gllawlow _ | exact gllawkey _ | exact gllawparts _ | exact gllawpages _ | exact gllawdone _ | exact gllawnumber _ | exact gllawsigns _ | exact glTreeConf _ | exact glStrSerializer _ | exact glIntSerializer _ | exact gllawrecord _ | exact gllawreference _ | exact gllawread _ | exact gllaworder _))
  (k_with "gb" => with_reducible (first | exact glint _ | exact gllen _ | exact glbytes _ | exact glisinstance _ | exact glrange _ | exact glenumerate _ | exact gltuple _ | exact gltype _))
  (k_with "eval Name" => (k_here; k_dflt (first | (refine' nameX_L ?zqF ?zqv ?_ ?zqa ?zqb; (case zqF => k_asm); (case zqa => exact Eq.refl ScopeKind.function); (case zqb => exact Eq.refl (some NameKind.local)); (case zqv => exact Eq.refl (some _)); k_whole) | (refine' name_top ?zqg ?zqF ?zqX ?zqT ?zqa ?zqb ?_; (case zqX => k_asm); (case zqg => k_extra "gl"); (case zqF => k_asm); (case zqT => k_asm); (case zqa => exact Eq.refl ScopeKind.function); (case zqb => exact Eq.refl (some NameKind.globalImplicit)); k_whole) | (refine' name_boot ?zqg ?zqF ?zqX ?zqT ?zqa ?zqb ?_; (case zqX => k_asm); (case zqg => k_extra "gb"); (case zqF => k_asm); (case zqT => k_asm); (case zqa => exact Eq.refl ScopeKind.function); (case zqb => exact Eq.refl (some NameKind.globalImplicit)); k_whole))))
  (k_with "callWith ref" => (k_here; k_dflt (first | (refine' callWith_K ?zqk1 ?zqk2 ?_; (case zqk1 => k_asm); (case zqk2 => k_extra "kp"); k_whole) | (refine' callWith_K0 ?zqk1 ?zqk2 ?_; (case zqk1 => first | with_reducible assumption | exact Frag.In.keeps (by with_reducible assumption) (Fr.keep (by with_reducible assumption)) | k_in); (case zqk2 => k_extra "kp"); k_whole) | (refine' callWith_M0 ?zqk1 ?zqk2 ?_; (case zqk1 => k_meth); (case zqk2 => k_extra "kp"); k_whole; (try dsimp only [List.nil_append, List.cons_append])) | (refine' callWith_M ?zqk1 ?zqk2 ?zqk3 ?zqk4 ?_; (case zqk1 => k_asm); (case zqk2 => k_asm); (case zqk3 => k_mem); (case zqk4 => k_is); k_whole) | (refine' callWith_KW ?zqk1 ?zqk2 ?zqk3 ?_; (case zqk1 => k_asm); (case zqk2 => k_extra "kp"); (case zqk3 => exact rfl); k_whole) | (refine' callWith_KW0 ?zqk1 ?zqk2 ?zqk3 ?_; (case zqk1 => k_asm); (case zqk2 => k_extra "kp"); (case zqk3 => exact rfl); k_whole))))
  (k_with "getMethod type:int" => (k_here; (with_reducible refine' KFB.getm ?zqkfbF ?zqkfbN ?zqkfbX ?zqkfbE ?_); k_dflt ((case zqkfbF => k_asm); (case zqkfbN => k_asm); (case zqkfbX => k_asm); (case zqkfbE => exact from_bytes_at _); k_whole; intro x' h' F' N' l1; (try k_lt l1); (try k_sweep))))
  (k_with "kp" => first | with_reducible assumption | (with_reducible first | exact kp232 _ | exact kp273 _ | exact kp355 _ | exact kp369 _ | exact kp376 _ | exact kp381 _ | exact kp388 _ | exact kp395 _ | exact kp400 _ | exact kp407 _ | exact kp412 _ | exact kp419 _ | exact kp141 _ | exact kp346 _ | exact kp320 _) | k_is)
  (k_with "getAttr ref" => (k_here; (with_reducible show wpAny _ _ (getAttr (Value.ref _) (PySem.Str.ofString "key_size") _) _ _ _); k_dflt (refine' conf_attr (And.left (get_conf _ _ _ _ _ _ _ _ _ _ ?zqm)) ?zqm2 ?zqc1 ?zqc3 ?zqB ?zqF ?zqX ?zqN ?zqT ?zqk ?zqd ?zqu ?zqp ?zqp2 ?zqp3 ?zqf2 ?zqf3 ?zqf4 ?zqhh ?_; (case zqN => k_asm); (case zqm => k_mem); (case zqm2 => k_mem); (case zqc1 => exact rfl); (case zqc3 => exact rfl); (case zqB => k_asm); (case zqF => k_asm); (case zqX => k_asm); (case zqT => k_asm); (case zqk => exact rfl); (case zqd => ktr_room); (case zqu => ktr_units); (case zqp => k_is); (case zqp2 => k_is); (case zqp3 => k_is); (case zqf2 => k_is); (case zqf3 => k_is); (case zqf4 => k_is); (case zqhh => exact rfl); k_whole; intro h' tk' F' N'; (try k_sweep))))
  (k_with "getAttr ref" => (k_here; (with_reducible show wpAny _ _ (getAttr (Value.ref _) (PySem.Str.ofString "value_size") _) _ _ _); k_dflt (refine' conf_attr (And.left (And.right (get_conf _ _ _ _ _ _ _ _ _ _ ?zqm))) ?zqm2 ?zqc1 ?zqc3 ?zqB ?zqF ?zqX ?zqN ?zqT ?zqk ?zqd ?zqu ?zqp ?zqp2 ?zqp3 ?zqf2 ?zqf3 ?zqf4 ?zqhh ?_; (case zqN => k_asm); (case zqm => k_mem); (case zqm2 => k_mem); (case zqc1 => exact rfl); (case zqc3 => exact rfl); (case zqB => k_asm); (case zqF => k_asm); (case zqX => k_asm); (case zqT => k_asm); (case zqk => exact rfl); (case zqd => ktr_room); (case zqu => ktr_units); (case zqp => k_is); (case zqp2 => k_is); (case zqp3 => k_is); (case zqf2 => k_is); (case zqf3 => k_is); (case zqf4 => k_is); (case zqhh => exact rfl); k_whole; intro h' tk' F' N'; (try k_sweep))))
  (k_with "getAttr ref" => (k_here; (with_reducible show wpAny _ _ (getAttr (Value.ref _) (PySem.Str.ofString "serializer") _) _ _ _); k_dflt (refine' conf_attr (And.right (And.right (get_conf _ _ _ _ _ _ _ _ _ _ ?zqm))) ?zqm2 ?zqc1 ?zqc3 ?zqB ?zqF ?zqX ?zqN ?zqT ?zqk ?zqd ?zqu ?zqp ?zqp2 ?zqp3 ?zqf2 ?zqf3 ?zqf4 ?zqhh ?_; (case zqN => k_asm); (case zqm => k_mem); (case zqm2 => k_mem); (case zqc1 => exact rfl); (case zqc3 => exact rfl); (case zqB => k_asm); (case zqF => k_asm); (case zqX => k_asm); (case zqT => k_asm); (case zqk => exact rfl); (case zqd => ktr_room); (case zqu => ktr_units); (case zqp => k_is); (case zqp2 => k_is); (case zqp3 => k_is); (case zqf2 => k_is); (case zqf3 => k_is); (case zqf4 => k_is); (case zqhh => exact rfl); k_whole; intro h' tk' F' N'; (try k_sweep))))
  (k_with "ne" => first | (with_reducible assumption) | (exact Nat.ne_of_lt (by with_reducible assumption)) | (exact Nat.ne_of_gt (by with_reducible assumption)) | (exact Ne.symm (by with_reducible assumption)) | (exact allNe_mem2 (by with_reducible assumption) (by k_mem)) | (exact Ne.symm (allNe_mem2 (by with_reducible assumption) (by k_mem))) | (exact ng0 (by with_reducible assumption)) | (exact nl0 (by with_reducible assumption)) | (exact ng1 (by with_reducible assumption)) | (exact nl1 (by with_reducible assumption)) | (exact fg1 (by with_reducible assumption)) | (exact fl1 (by with_reducible assumption)) | (exact ng2 (by with_reducible assumption)) | (exact nl2 (by with_reducible assumption)) | (exact fg2 (by with_reducible assumption)) | (exact fl2 (by with_reducible assumption)) | (exact ng3 (by with_reducible assumption)) | (exact nl3 (by with_reducible assumption)) | (exact fg3 (by with_reducible assumption)) | (exact fl3 (by with_reducible assumption)) | (exact ng4 (by with_reducible assumption)) | (exact nl4 (by with_reducible assumption)) | (exact fg4 (by with_reducible assumption)) | (exact fl4 (by with_reducible assumption)) | (exact ng5 (by with_reducible assumption)) | (exact nl5 (by with_reducible assumption)) | (exact fg5 (by with_reducible assumption)) | (exact fl5 (by with_reducible assumption)) | (exact ng6 (by with_reducible assumption)) | (exact nl6 (by with_reducible assumption)) | (exact fg6 (by with_reducible assumption)) | (exact fl6 (by with_reducible assumption)) | (exact ng7 (by with_reducible assumption)) | (exact nl7 (by with_reducible assumption)) | (exact fg7 (by with_reducible assumption)) | (exact fl7 (by with_reducible assumption)) | (exact ng8 (by with_reducible assumption)) | (exact nl8 (by with_reducible assumption)) | (exact fg8 (by with_reducible assumption)) | (exact fl8 (by with_reducible assumption)) | (exact ng9 (by with_reducible assumption)) | (exact nl9 (by with_reducible assumption)) | (exact fg9 (by with_reducible assumption)) | (exact fl9 (by with_reducible assumption)) | (exact ng10 (by with_reducible assumption)) | (exact nl10 (by with_reducible assumption)) | (exact fg10 (by with_reducible assumption)) | (exact fl10 (by with_reducible assumption)) | (exact ng11 (by with_reducible assumption)) | (exact nl11 (by with_reducible assumption)) | (exact fg11 (by with_reducible assumption)) | (exact fl11 (by with_reducible assumption)) | (exact ng12 (by with_reducible assumption)) | (exact nl12 (by with_reducible assumption)) | (exact fg12 (by with_reducible assumption)) | (exact fl12 (by with_reducible assumption)) | (exact ng13 (by with_reducible assumption)) | (exact nl13 (by with_reducible assumption)) | (exact fg13 (by with_reducible assumption)) | (exact fl13 (by with_reducible assumption)) | (exact na0 (by with_reducible assumption)) | (exact nb0 (by with_reducible assumption)) | (exact na1 (by with_reducible assumption)) | (exact nb1 (by with_reducible assumption)) | (exact na2 (by with_reducible assumption)) | (exact nb2 (by with_reducible assumption)) | (exact na3 (by with_reducible assumption)) | (exact nb3 (by with_reducible assumption)) | (exact na4 (by with_reducible assumption)) | (exact nb4 (by with_reducible assumption)) | (exact na5 (by with_reducible assumption)) | (exact nb5 (by with_reducible assumption)) | (exact na6 (by with_reducible assumption)) | (exact nb6 (by with_reducible assumption)) | (exact na7 (by with_reducible assumption)) | (exact nb7 (by with_reducible assumption)) | (exact na8 (by with_reducible assumption)) | (exact nb8 (by with_reducible assumption)) | (exact na9 (by with_reducible assumption)) | (exact nb9 (by with_reducible assumption)) | (exact oi1) | (exact os1) | (exact ok1 (by with_reducible assumption)) | (exact oc1 (by with_reducible assumption)) | (exact oi2) | (exact os2) | (exact ok2 (by with_reducible assumption)) | (exact oc2 (by with_reducible assumption)) | (exact oi3) | (exact os3) | (exact ok3 (by with_reducible assumption)) | (exact oc3 (by with_reducible assumption)) | (exact oi4) | (exact os4) | (exact ok4 (by with_reducible assumption)) | (exact oc4 (by with_reducible assumption)) | (exact oi5) | (exact os5) | (exact ok5 (by with_reducible assumption)) | (exact oc5 (by with_reducible assumption)) | (exact news_ne (by k_asm) (by k_mem) (by k_mem) (by intro e; cases e)))
  (k_with "z k_ne" => (refine neN ?_; (try dsimp only); k_extra "ne"))
  (k_with "z k_all" => first | exact allNe_mem (by with_reducible assumption) | exact allNe_of_lt (by with_reducible assumption) | with_reducible assumption)
  (k_with "call ref" => (k_here; (with_reducible show wpAny _ _ (call (Value.ref 369) [Value.int _ _, Value.int _ _]) _ _ _); k_dflt (first | (refine' calls_use (low_calls _ _ _ _ _ 2 (by decide)) ?zqB ?zqF ?zqX ?zqN ?zqT ?zqk ?zqd ?zqu ?_; (case zqB => k_asm); (case zqF => k_asm); (case zqX => k_asm); (case zqN => k_asm); (case zqT => k_asm); (case zqk => exact rfl); (case zqd => ktr_room); (case zqu => ktr_units); k_whole) | (refine' calls_use (low_calls _ _ _ _ _ 4 (by decide)) ?zqB ?zqF ?zqX ?zqN ?zqT ?zqk ?zqd ?zqu ?_; (case zqB => k_asm); (case zqF => k_asm); (case zqX => k_asm); (case zqN => k_asm); (case zqT => k_asm); (case zqk => exact rfl); (case zqd => ktr_room); (case zqu => ktr_units); k_whole) | (refine' calls_use (low_calls _ _ _ _ _ _ ?zqn) ?zqB ?zqF ?zqX ?zqN ?zqT ?zqk ?zqd ?zqu ?_; (case zqB => k_asm); (case zqF => k_asm); (case zqX => k_asm); (case zqN => k_asm); (case zqT => k_asm); (case zqk => exact rfl); (case zqd => ktr_room); (case zqu => ktr_units); (case zqn => k_extra "om"); k_whole)); intro v' h' tk' F' P'; obtain ⟨l', vs', hv', N', hI', hO'⟩ := P'; subst hv'; (replace hO' := allNe_of hO'); (try dsimp only); (try k_fold)))
  (k_with "call builtin:len" => (k_here; (with_reducible show wpAny _ _ (call (Value.builtin "len") [Value.ref _]) _ _ _); k_dflt (refine' len_ints ?zqN ?zqm ?zqi ?zqf ?_; (case zqN => k_asm); (case zqm => k_mem); (case zqi => with_reducible assumption); (case zqf => ((try simp only [List.length_append, List.length_replicate, KTBy.little_length]); k_extra "om")); k_whole)))
  (k_with "binaryOp Add ref ref" => (k_here; (with_reducible show wpAny _ _ (binaryOp Operator.Add (Value.ref _) (Value.ref _)) _ _ _); k_dflt (refine' add_ints ?zqF ?zqN ?zqa ?zqb ?zqi ?zqj ?zqf ?_; (case zqF => k_asm); (case zqN => k_asm); (case zqa => k_mem); (case zqb => k_mem); (case zqi => with_reducible assumption); (case zqj => with_reducible assumption); (case zqf => ((try simp only [List.length_append, List.length_replicate, KTBy.little_length]); k_extra "om")); k_whole; intro l' us' h' F' N' I' l1; (try k_lt l1); (try k_sweep))))
  (k_with "binaryOp Mult ref int" => (k_here; (with_reducible show wpAny _ _ (binaryOp Operator.Mult (Value.ref _) (Value.int _ _)) _ _ _); k_dflt (refine' mul_ints ?zqF ?zqN ?zqa ?zqg ?zqf ?_; (case zqF => k_asm); (case zqN => k_asm); (case zqa => k_mem); (case zqg => k_extra "om"); (case zqf => k_extra "om"); k_whole; intro l' us' h' F' N' I' l1; (try k_lt l1); (try k_sweep))))
  (k_with "call ref" => (k_here; (with_reducible show wpAny _ _ (call (Value.ref 388) [Value.ref _, Value.ref _]) _ _ _); k_dflt ((refine' calls_use (parts_calls _ _ _ _ _ _ _ _ _ _ ?zqm ?zqz _ _ _ _ ?zql ?zqi ?zqe) ?zqB ?zqF ?zqX ?zqN ?zqT ?zqk ?zqd ?zqu ?_; (case zqB => k_asm); (case zqF => k_asm); (case zqX => k_asm); (case zqN => k_asm); (case zqT => k_asm); (case zqk => exact rfl); (case zqd => ktr_room); (case zqu => ktr_units); (case zqm => k_mem); (case zql => k_mem); (case zqi => with_reducible assumption); (case zqz => k_extra "om"); (case zqe => ((try simp only [List.length_append, List.length_replicate, KTBy.little_length]); k_extra "om")); k_whole)); intro v' h' tk' F' P'; obtain ⟨l', vs', e', hv', N', hI', hO'⟩ := P'; subst hv'; (replace hO' := allNe_of hO'); (try dsimp only); (try k_fold)))
  (k_with "call builtin:int.to_bytes" => (k_here; (with_reducible show wpAny _ _ (call (Value.builtin "int.to_bytes") [Value.int _ _, Value.int _ _, Value.str _ _]) _ _ _); k_dflt (first | (refine' to_bytes_in (k := 2) (B := 65536) ?zqh1 ?zqh2 ?zqh3 ?zqh4 (fun b' t' k' hb' => ?_); (case zqh1 => decide); (case zqh2 => decide); (case zqh3 => k_extra "om"); (case zqh4 => k_extra "om")) | (refine' to_bytes_in (k := 4) (B := 4294967296) ?zqh1 ?zqh2 ?zqh3 ?zqh4 (fun b' t' k' hb' => ?_); (case zqh1 => decide); (case zqh2 => decide); (case zqh3 => k_extra "om"); (case zqh4 => k_extra "om")) | (refine' to_bytes_all (k := 2) rfl ?zqh (fun hx0 hx1 b' t' k' hb' => ?_) (fun hx h' tk' e' hn' => ?_); (case zqh => decide)) | (refine' to_bytes_all (k := 4) rfl ?zqh (fun hx0 hx1 b' t' k' hb' => ?_) (fun hx h' tk' e' hn' => ?_); (case zqh => decide)) | (refine' to_bytes_all rfl ?zqh (fun hx0 hx1 b' t' k' hb' => ?_) (fun hx h' tk' e' hn' => ?_); (case zqh => k_extra "om")))))
  (k_with "leaving ref" => (k_here; k_dflt (refine' leave_newS ?zqk1 ?zqk0 ?zqk2 ?zqk3 ?_; (case zqk0 => assumption); (case zqk1 => assumption); (case zqk2 => assumption); (case zqk3 => k_asm); k_whole; intro h' R' Rn' U')))
  (k_with "getMethod str" => (k_here; (with_reducible refine encode_method ?_)))
  (k_with "callWith" => (k_here; (with_reducible show wpAny _ _ (callWith _ (Value.builtin _) _ (backTo _ (starEach [] _)) (backToKw _ (keywordEach (_ :: _) _))) _ _ _); k_dflt (refine callWith_kwN ?_)))
  (k_with "call builtin:str.encode" => (k_here; k_dflt (refine' encode_call ?zqhe ?zqhz ?_; (case zqhe => assumption); (case zqhz => assumption); k_whole; intro t' k')))
  (k_with "call builtin:bytes.decode" => (k_here; k_dflt (first | (refine' decode_kw ?zqhd ?zqhe ?zqhz ?_; (case zqhd => assumption); (case zqhe => assumption); (case zqhz => assumption); k_whole; intro t' k') | (refine' decode_ascii ?zqhd ?zqhe ?zqhz ?_; (case zqhd => assumption); (case zqhe => assumption); (case zqhz => assumption); k_whole; intro t' k'))))
  (k_with "binaryOp Add bytes bytes" => (k_here; (with_reducible show wpAny _ _ (binaryOp Operator.Add (Value.bytes _ _) (Value.bytes _ _)) _ _ _); k_dflt (refine' add_b ?zqb ?zqc ?zqz (fun d' t' k' hb' => ?_); (case zqb => first | with_reducible assumption | exact bints_nil); (case zqc => first | with_reducible assumption | exact bints_nil); (case zqz => ((try simp only [List.length_append, List.length_replicate, KTBy.little_length, List.length_cons, List.length_nil]); k_extra "om")))))
  (k_with "call type:bytes" => (k_here; (with_reducible show wpAny _ _ (call (Value.type "bytes") [Value.int _ _]) _ _ _); k_dflt (refine' zeros_call ?zqa ?zqb (fun d' t' k' hb' => ?_); (case zqa => k_extra "om"); (case zqb => k_extra "om"))))
  (k_with "call type:bytes" => (k_here; (with_reducible show wpAny _ _ (call (Value.type "bytes") [Value.ref _]) _ _ _); k_dflt (refine' bytes_of_list rfl ?zqF ?zqN ?zql ?zqi ?zqr ?zqz (fun d' t' k' h' F' N' hb' => ?_); (case zqF => k_asm); (case zqN => k_asm); (case zql => k_mem); (case zqi => with_reducible assumption); (case zqz => ((try simp only [List.length_append, List.length_replicate, KTBy.little_length, List.length_cons, List.length_nil]); k_extra "om")); (case zqr => (repeat' (first | with_reducible assumption | exact rng_little _ _ | exact rng_zeros _ | exact rng_nil | refine rng_app ?_ ?_ | refine rng_cons ⟨by k_extra "om", by k_extra "om"⟩ ?_))))))
  (k_with "call builtin:len" => (k_here; (with_reducible show wpAny _ _ (call (Value.builtin "len") [Value.bytes #[] _]) _ _ _); (with_reducible refine len_nil ?_)))
  (k_with "leaving ref" => (k_here; k_dflt (refine' leave_onE ?zqhf ?zqB ?zqF ?zqR ?zqU ?_; (case zqhf => exact rfl); (case zqR => first | with_reducible assumption | assumption); (case zqB => assumption); (case zqU => assumption); (case zqF => assumption); k_whole; intro h' R' U')))
  (k_with "storeName" => (k_here; k_dflt (first | (refine' store_gi ?zqF ?zqN ?zqa ?zqb ?_; (case zqF => k_asm); (case zqN => k_asm); (case zqa => exact Eq.refl ScopeKind.function); (case zqb => exact Eq.refl (some NameKind.local)); k_whole; intro h' tk' ti' F' N'; (try k_sweep)) | (refine' store_g ?zqF ?zqN ?zqa ?zqb ?_; (case zqF => k_asm); (case zqN => k_asm); (case zqa => exact Eq.refl ScopeKind.function); (case zqb => exact Eq.refl (some NameKind.local)); k_whole; intro h' tk' F' N'; (try k_sweep)))))
  (k_with "fr" => ((with_reducible rename Fr _ _ _ (fun _ ↦ List.lookup _ _) => zrF9); k_dflt (first | (replace zrF9 : Fr _ _ _ (fun y => List.lookup y [(_, _)]) := zrF9) | (replace zrF9 : Fr _ _ _ (fun y => List.lookup y [(_, _), (_, _)]) := zrF9) | (replace zrF9 : Fr _ _ _ (fun y => List.lookup y [(_, _), (_, _), (_, _)]) := zrF9) | (replace zrF9 : Fr _ _ _ (fun y => List.lookup y [(_, _), (_, _), (_, _), (_, _), (_, _), (_, _)]) := zrF9) | (replace zrF9 : Fr _ _ _ (fun y => List.lookup y [(_, _), (_, _), (_, _), (_, _), (_, _)]) := zrF9) | (replace zrF9 : Fr _ _ _ (fun y => List.lookup y [(_, _), (_, _), (_, _), (_, _)]) := zrF9) | (replace zrF9 : Fr _ _ _ (fun y => List.lookup y [(_, _), (_, _), (_, _), (_, _), (_, _), (_, _), (_, _)]) := zrF9)); (try dsimp only at zrF9)))
  (k_with "z k_handed" => with_reducible assumption)
  (k_with "slc find" => first | exact slc_of hz1 (by k_extra "om") (by k_extra "om") | exact slc_of hz2 (by k_extra "om") (by k_extra "om") | exact slc_of hz3 (by k_extra "om") (by k_extra "om") | exact slc_of hz4 (by k_extra "om") (by k_extra "om") | exact slc_of hz5 (by k_extra "om") (by k_extra "om"))
  (k_with "subscriptTail" => (k_here; (with_reducible show wpAny _ _ (subscriptTail _ (Expr.Slice _ _ none _) (Value.bytes _ _) (Value.ref _)) _ _ _); k_dflt (refine' slice_b (s := ⟨_, _, _, _, _⟩) ?zqF ?zqN ?zqb ?zqS ?zql ?zqh ?zqz (fun d' h' t' k' F' N' hb' => ?_); (case zqF => k_asm); (case zqN => k_asm); (case zqb => with_reducible assumption); (case zqS => k_extra "slc find"); (case zql => k_extra "om"); (case zqh => k_extra "om"); (case zqz => k_extra "om"))))
  (k_with "call ref" => (k_here; (with_reducible show wpAny _ _ (call (Value.ref _) [Value.bytes _ _, Value.str _ _]) _ _ _); k_dflt (refine' from_little ?zqN ?zqm ?zqb ?zqv ?zql (fun t' k' => ?_); (case zqN => k_asm); (case zqm => k_mem); (case zqb => with_reducible assumption); (case zqv => with_reducible assumption); (case zql => k_extra "om"))))
  (k_with "call ref" => (k_here; (with_reducible show wpAny _ _ (call (Value.ref _) [Value.ref _, Value.bytes _ _]) _ _ _); (with_reducible rename DeserOk _ _ _ _ => zrhdes); k_dflt (refine' deser_use zrhdes ?zqb ?zqB ?zqF ?zqX ?zqN ?zqT ?zqk ?zqd ?zqu (fun v' h' tk' P' H' F' N' => ?_); (case zqb => with_reducible assumption); (case zqB => k_asm); (case zqF => k_asm); (case zqX => k_asm); (case zqN => k_asm); (case zqT => k_asm); (case zqk => exact rfl); (case zqd => ktr_room); (case zqu => ktr_units))))
  (k_with "callWith ref" => (k_here; (with_reducible show wpAny _ _ (callWith _ (Value.ref _) _ (backTo _ (starEach (_ :: _) _)) []) _ _ _); kfb_any; k_dflt (refine' KFB.callWith_bound ?zqN ?zqM ?_; (case zqN => k_asm); (case zqM => k_mem); k_whole)))
  (k_with "call ref" => (k_here; (with_reducible show wpAny _ _ (call (Value.ref 355) _) _ _ _); k_dflt (refine' calls_use (pages_calls _ _) ?zqB ?zqF ?zqX ?zqN ?zqT ?zqk ?zqd ?zqu ?_; (case zqB => k_asm); (case zqF => k_asm); (case zqX => k_asm); (case zqN => k_asm); (case zqT => k_asm); (case zqk => exact rfl); (case zqd => ktr_room); (case zqu => ktr_units); k_whole); intro v' h' tk' F' P'; obtain ⟨l', vs', e', hv', hI', N', l1⟩ := P'; subst hv'; (try k_lt l1); (try dsimp only); (try k_fold)))
  (k_with "subscriptTail" => (k_here; (with_reducible show wpAny _ _ (subscriptTail _ _ (Value.ref _) (Value.int _ _)) _ _ _); k_dflt (refine' page_get ?zqN ?zqm ?zqi ?zqa ?zqb (fun P' t' hP' => ?_); (case zqN => k_asm); (case zqm => k_mem); (case zqi => with_reducible assumption); (case zqa => k_extra "om"); (case zqb => k_extra "om"))))
  (k_with "call ref" => (k_here; (with_reducible show wpAny _ _ (call (Value.ref 381) [Value.ref _, Value.bool _, Value.int _ _]) _ _ _); (with_reducible rename KeyCalls _ _ _ _ _ _ _ _ _ _ _ _ _ _ _ => zrhkc); k_dflt (refine' key_use zrhkc ?zqm ?zqB ?zqF ?zqX ?zqN ?zqT ?zqk ?zqd ?zqu (fun tup' t' tf' l' vs' h' tk' hg' hi' F' N' hO' => ?_) (fun tup' t' tf' h' tk' hg' F' N' hO' => ?_); (case zqN => k_asm); (case zqm => k_mem); (case zqB => k_asm); (case zqF => k_asm); (case zqX => k_asm); (case zqT => k_asm); (case zqk => exact rfl); (case zqd => ktr_room); (case zqu => ktr_units)); (all_goals (try simp only [AllNe, and_true] at hO')); (all_goals (try k_fold))))
  (k_with "binaryOp Mult int int" => (k_here; (with_reducible refine mul_int ?_ (IntMulOk.of_left (intBits_le_64 (by k_extra "om") (by k_extra "om"))))))
  (k_with "CompSrc" => (k_here; k_dflt (refine LCg.CompSrc.range (by rfl) (by k_asm) (by k_asm) (by assumption) (by first | exact small_one (by kcf_bnd) (by kcf_bnd) (by kcf_bnd) (by kcf_bnd) | decide) (by first | exact rangeSize_nat _ _ | rfl) (by rw [PySem.sizeLine_eq]; k_extra "om") ?_; intro g'; (refine' kcf_range _ (fun k' t' I' oI' C' oC' D' m' ys' h' tk' E' hlo' hhi' hC' hx' F' N' off' ne' hMark' => ?_) ?_); (all_goals (try (simp only [LCg.Off3, and_true] at off'))); kcf_last)))
  (k_with "eval Lambda" => (k_here; k_dflt (refine' kla_eval ?zqd0 ?_; (case zqd0 => exact rfl)); k_dflt (refine' lam_make ?zqF ?zqN ?zqT ?zqC ?zqcd ?zqU ?zqO ?zqsub ?zqcl (fun f' c' oc' vs' t' ct' ps' h' tk' F' N' O' d1' d2' l1 hk' => ?_); (case zqF => k_asm); (case zqN => k_asm); (case zqT => k_asm); (case zqC => with_reducible assumption); (case zqcd => exact rfl); (case zqU => k_updF); (case zqO => ((with_reducible rename TabOk _ _ _ => zrhO'); exact tabOk_q zrhO' (by kernel_rfl))); (case zqsub => first | (intro q hq; k_mem; done) | kcf_all); (case zqcl => exact rfl)); (try dsimp only at N'); (try k_lt l1)))
  (k_with "call ref" => (k_here; (with_reducible show wpAny _ _ (call (Value.ref 381) [Value.ref _, Value.bool _, Value.int _ _]) _ _ _); (with_reducible rename KeyCalls _ _ _ _ _ _ _ _ _ _ _ _ _ _ _ => zrhkc); k_dflt (refine' key_use2 zrhkc ?zqm ?zqB ?zqF ?zqX ?zqN ?zqT ?zqk ?zqd ?zqu (fun tup' t' tf' ov' fv' l' ol' h' tk' hA' F' N' hO' => ?_); (case zqN => k_asm); (case zqm => k_mem); (case zqB => k_asm); (case zqF => k_asm); (case zqX => k_asm); (case zqT => k_asm); (case zqk => exact rfl); (case zqd => ktr_room); (case zqu => ktr_units)); (have hH' := keyAns_hand hA'); (obtain ⟨hO1', hO2'⟩ := hO'); (try k_fold)))
  (k_with "call ref" => (k_here; (with_reducible show wpAny _ _ (call (Value.ref 395) [Value.ref _]) _ _ _); refine hold_in ?_))
  (k_with "call ref" => (k_here; (with_reducible show wpAny _ _ (call (Value.ref 232) _ _) _ _ _); k_dflt (first | (refine' recN_use ?zqB ?zqF ?zqX ?zqN ?zqT ?zqk ?zqd ?zqu (rec_page _ _ _ _ _ _ _ _ _ _ ?zqm ?zqcs _ _ _) (fun x' dx' k1' k2' k3' k4' k5' tl' h' tk' l1 l2 F' N' => ?_); (case zqN => k_asm); (case zqB => k_asm); (case zqF => k_asm); (case zqX => k_asm); (case zqT => k_asm); (case zqk => exact rfl); (case zqd => ktr_room); (case zqu => ktr_units); (case zqm => k_mem); (case zqcs => assumption)) | (refine' recV_ok ?zqB ?zqF ?zqX ?zqN ?zqT ?zqk ?zqd ?zqu ?zql (rec_value _ _ _ _ _ _ _ _ _ _ ?zqm ?zqcs _ _ _ _ ?zqb ?zql2) (fun x' dx' k1' k2' k3' k4' k5' tl' h' tk' l1 l2 F' N' => ?_); (case zqN => k_asm); (case zqB => k_asm); (case zqF => k_asm); (case zqX => k_asm); (case zqT => k_asm); (case zqk => exact rfl); (case zqd => ktr_room); (case zqu => ktr_units); (case zqm => k_mem); (case zqcs => assumption); (case zqb => with_reducible assumption); (case zql => with_reducible assumption); (case zql2 => k_extra "om")) | (refine' recV_no ?zqB ?zqF ?zqX ?zqN ?zqT ?zqk ?zqd ?zqu ?zql (rec_value _ _ _ _ _ _ _ _ _ _ ?zqm ?zqcs _ _ _ _ ?zqb ?zql2) (fun e' h' tk' g' F' R' U' => ?_); (case zqN => k_asm); (case zqB => k_asm); (case zqF => k_asm); (case zqX => k_asm); (case zqT => k_asm); (case zqk => exact rfl); (case zqd => ktr_room); (case zqu => ktr_units); (case zqm => k_mem); (case zqcs => assumption); (case zqb => with_reducible assumption); (case zql => with_reducible assumption); (case zql2 => k_extra "om")) | ((with_reducible rename KeyKind _ _ _ _ _ _ _ _ _ _ => zrhKK); (refine' recBo_use ?zqB ?zqF ?zqX ?zqN ?zqT ?zqk ?zqd ?zqu (rec_back_out _ _ _ _ _ _ _ _ _ _ _ ?zqm ?zqcs ?zqs2 _ _ _ ?zqs1 _ _ _ _ _ zrhKK ?zqg _ ?zqp0 ?zqp1 _ _ ?zqb) (fun t9 t8 x' dx' k1' k2' k3' k4' k5' tl' h' tk' F' N' => ?_); (case zqN => k_asm); (case zqB => k_asm); (case zqF => k_asm); (case zqX => k_asm); (case zqT => k_asm); (case zqk => exact rfl); (case zqd => ktr_room); (case zqu => ktr_units); (case zqb => with_reducible assumption); (case zqm => k_mem); (case zqcs => assumption); (case zqs1 => k_mem); (case zqs2 => k_mem); (case zqg => with_reducible assumption); (case zqp0 => k_extra "om"); (case zqp1 => k_extra "om"))) | ((with_reducible rename KeyKind _ _ _ _ _ _ _ _ _ _ => zrhKK); (refine' recBi_use ?zqB ?zqF ?zqX ?zqN ?zqT ?zqk ?zqd ?zqu (rec_back_in _ _ _ _ _ _ _ _ _ _ _ ?zqm ?zqcs ?zqs2 _ _ _ ?zqs1 _ _ _ _ _ zrhKK ?zqg _ ?zqn _ _ ?zqb) (fun t9 b8 t8 x' dx' k1' k2' k3' k4' k5' tl' h' tk' hb8 F' N' => ?_); (case zqN => k_asm); (case zqB => k_asm); (case zqF => k_asm); (case zqX => k_asm); (case zqT => k_asm); (case zqk => exact rfl); (case zqd => ktr_room); (case zqu => ktr_units); (case zqb => with_reducible assumption); (case zqm => k_mem); (case zqcs => assumption); (case zqs1 => k_mem); (case zqs2 => k_mem); (case zqg => with_reducible assumption); (case zqn => with_reducible assumption))) | (refine' recN_use ?zqB ?zqF ?zqX ?zqN ?zqT ?zqk ?zqd ?zqu (rec_plain _ _ _ _ _ _ _ _ _ _ ?zqm ?zqcs _) (fun x' dx' k1' k2' k3' k4' k5' tl' h' tk' l1 l2 F' N' => ?_); (case zqN => k_asm); (case zqB => k_asm); (case zqF => k_asm); (case zqX => k_asm); (case zqT => k_asm); (case zqk => exact rfl); (case zqd => ktr_room); (case zqu => ktr_units); (case zqm => k_mem); (case zqcs => assumption))); (try k_fold)))
  (k_with "call ref" => (k_here; (with_reducible show wpAny _ _ (call (Value.ref 273) _ _) _ _ _); k_dflt (first | (refine' refN_use ?zqB ?zqF ?zqX ?zqN ?zqT ?zqk ?zqd ?zqu (ref_new _ _ _ _ _ _ _ _ _ _ ?zqm ?zqcs _ _ _) (fun x' dx' k1' k2' k3' k4' k5' tl' h' tk' l1 l2 F' N' => ?_); (case zqN => k_asm); (case zqB => k_asm); (case zqF => k_asm); (case zqX => k_asm); (case zqT => k_asm); (case zqk => exact rfl); (case zqd => ktr_room); (case zqu => ktr_units); (case zqm => k_mem); (case zqcs => assumption)) | ((with_reducible rename KeyKind _ _ _ _ _ _ _ _ _ _ => zrhKK); (refine' refB_use ?zqB ?zqF ?zqX ?zqN ?zqT ?zqk ?zqd ?zqu (ref_back _ _ _ _ _ _ _ _ _ _ _ ?zqm ?zqcs ?zqs2 _ _ _ ?zqs1 _ _ _ _ _ zrhKK ?zqg _ _ ?zqp0 ?zqp1 ?zqp2 ?zqp3 _ _ ?zqb) (fun t9 t8 t7 x' dx' k1' k2' k3' k4' k5' tl' h' tk' F' N' => ?_); (case zqN => k_asm); (case zqB => k_asm); (case zqF => k_asm); (case zqX => k_asm); (case zqT => k_asm); (case zqk => exact rfl); (case zqd => ktr_room); (case zqu => ktr_units); (case zqb => with_reducible assumption); (case zqm => k_mem); (case zqcs => assumption); (case zqs1 => k_mem); (case zqs2 => k_mem); (case zqg => with_reducible assumption); (case zqp0 => k_extra "om"); (case zqp1 => k_extra "om"); (case zqp2 => k_extra "om"); (case zqp3 => k_extra "om"))) | (refine' refN_use ?zqB ?zqF ?zqX ?zqN ?zqT ?zqk ?zqd ?zqu (ref_plain _ _ _ _ _ _ _ _ _ _ ?zqm ?zqcs _) (fun x' dx' k1' k2' k3' k4' k5' tl' h' tk' l1 l2 F' N' => ?_); (case zqN => k_asm); (case zqB => k_asm); (case zqF => k_asm); (case zqX => k_asm); (case zqT => k_asm); (case zqk => exact rfl); (case zqd => ktr_room); (case zqu => ktr_units); (case zqm => k_mem); (case zqcs => assumption))); (try k_fold)))
  (k_with "call ref" => (k_here; (with_reducible show wpAny _ _ (call (Value.ref 222) _) _ _ _); (with_reducible rename KeyKind _ _ _ _ _ _ _ _ _ _ => zrhKK); k_dflt (first | (refine' dumpO_use ?zqB ?zqF ?zqX ?zqN ?zqT ?zqk ?zqd ?zqu (dump_out_ok _ _ _ _ _ _ _ _ _ _ _ ?zqm ?zqcs ?zqs2 _ _ _ ?zqs1 _ _ _ _ _ zrhKK _ _ _ _ _ _ _ _ _ ?zqg _ _ ?zqp0 ?zqp1 ?zqx ?zqy) (fun b9 t9 h' tk' hb9 F' N' => ?_); (case zqg => with_reducible assumption); (case zqN => k_asm); (case zqB => k_asm); (case zqF => k_asm); (case zqX => k_asm); (case zqT => k_asm); (case zqk => exact rfl); (case zqd => ktr_room); (case zqu => ktr_units); (case zqx => k_mem); (case zqy => k_mem); (case zqm => k_mem); (case zqcs => assumption); (case zqs1 => k_mem); (case zqs2 => k_mem); (case zqp0 => k_extra "om"); (case zqp1 => k_extra "om")) | (refine' dumpO_use ?zqB ?zqF ?zqX ?zqN ?zqT ?zqk ?zqd ?zqu (dump_in_ok _ _ _ _ _ _ _ _ _ _ _ ?zqm ?zqcs ?zqs2 _ _ _ ?zqs1 _ _ _ _ _ zrhKK _ _ _ _ _ _ _ _ _ ?zqg _ _ _ ?zqb ?zql ?zqx ?zqy) (fun b9 t9 h' tk' hb9 F' N' => ?_); (case zqg => with_reducible assumption); (case zqN => k_asm); (case zqB => k_asm); (case zqF => k_asm); (case zqX => k_asm); (case zqT => k_asm); (case zqk => exact rfl); (case zqd => ktr_room); (case zqu => ktr_units); (case zqx => k_mem); (case zqy => k_mem); (case zqm => k_mem); (case zqcs => assumption); (case zqs1 => k_mem); (case zqs2 => k_mem); (case zqb => with_reducible assumption); (case zql => with_reducible assumption)) | (refine' dumpN_use ?zqB ?zqF ?zqX ?zqN ?zqT ?zqk ?zqd ?zqu (dump_out _ _ _ _ _ _ _ _ _ _ _ ?zqm ?zqcs ?zqs2 _ _ _ ?zqs1 _ _ _ _ _ zrhKK _ _ _ _ _ _ _ _ _ _ _ ?zqp0 ?zqx ?zqy) (fun hg9 hn9 b9 t9 h' tk' hb9 F' N' => ?_) (fun c' e' h' tk' g' C' F' R' U' => ?_); (case zqN => k_asm); (case zqB => k_asm); (case zqF => k_asm); (case zqX => k_asm); (case zqT => k_asm); (case zqk => exact rfl); (case zqd => ktr_room); (case zqu => ktr_units); (case zqx => k_mem); (case zqy => k_mem); (case zqm => k_mem); (case zqcs => assumption); (case zqs1 => k_mem); (case zqs2 => k_mem); (case zqp0 => k_extra "om")) | (refine' dumpN_use ?zqB ?zqF ?zqX ?zqN ?zqT ?zqk ?zqd ?zqu (dump_in _ _ _ _ _ _ _ _ _ _ _ ?zqm ?zqcs ?zqs2 _ _ _ ?zqs1 _ _ _ _ _ zrhKK _ _ _ _ _ _ _ _ _ _ _ _ ?zqb ?zql ?zqx ?zqy) (fun hg9 hn9 b9 t9 h' tk' hb9 F' N' => ?_) (fun c' e' h' tk' g' C' F' R' U' => ?_); (case zqN => k_asm); (case zqB => k_asm); (case zqF => k_asm); (case zqX => k_asm); (case zqT => k_asm); (case zqk => exact rfl); (case zqd => ktr_room); (case zqu => ktr_units); (case zqx => k_mem); (case zqy => k_mem); (case zqm => k_mem); (case zqcs => assumption); (case zqs1 => k_mem); (case zqs2 => k_mem); (case zqb => with_reducible assumption); (case zql => with_reducible assumption))); (try k_fold)))
  (k_with "call ref" => (k_here; (with_reducible show wpAny _ _ (call (Value.ref 263) _) _ _ _); (with_reducible rename KeyKind _ _ _ _ _ _ _ _ _ _ => zrhKK); k_dflt (first | (refine' callsX_use ?zqB ?zqF ?zqX ?zqN ?zqT ?zqk ?zqd ?zqu (refdump_no _ _ _ _ _ _ _ _ _ ?zqhb ?zqha ?zqhn _ _ _ _ _ _ _ ?zqx ?zqy) (fun e' h' tk' g' F' R' U' => ?_); (case zqhn => with_reducible assumption); (case zqN => k_asm); (case zqB => k_asm); (case zqF => k_asm); (case zqX => k_asm); (case zqT => k_asm); (case zqk => exact rfl); (case zqd => ktr_room); (case zqu => ktr_units); (case zqx => k_mem); (case zqy => k_mem); (case zqhb => with_reducible assumption); (case zqha => with_reducible assumption)) | (refine' dumpO_use ?zqB ?zqF ?zqX ?zqN ?zqT ?zqk ?zqd ?zqu (dump_ref_ok _ _ _ _ _ _ _ _ _ _ _ ?zqm ?zqcs ?zqs2 _ _ _ ?zqs1 _ _ _ _ _ zrhKK _ _ _ _ _ _ _ _ _ ?zqg _ _ _ _ ?zqp0 ?zqp1 ?zqp2 ?zqp3 ?zqx ?zqy) (fun b9 t9 h' tk' hb9 F' N' => ?_); (case zqg => with_reducible assumption); (case zqN => k_asm); (case zqB => k_asm); (case zqF => k_asm); (case zqX => k_asm); (case zqT => k_asm); (case zqk => exact rfl); (case zqd => ktr_room); (case zqu => ktr_units); (case zqx => k_mem); (case zqy => k_mem); (case zqm => k_mem); (case zqcs => assumption); (case zqs1 => k_mem); (case zqs2 => k_mem); (case zqp0 => k_extra "om"); (case zqp1 => k_extra "om"); (case zqp2 => k_extra "om"); (case zqp3 => k_extra "om")) | (refine' dumpN_use ?zqB ?zqF ?zqX ?zqN ?zqT ?zqk ?zqd ?zqu (dump_ref _ _ _ _ _ _ _ _ _ _ _ ?zqm ?zqcs ?zqs2 _ _ _ ?zqs1 _ _ _ _ _ zrhKK _ _ _ _ _ _ _ _ _ _ _ _ _ ?zqp0 ?zqp1 ?zqx ?zqy) (fun hg9 hn9 b9 t9 h' tk' hb9 F' N' => ?_) (fun c' e' h' tk' g' C' F' R' U' => ?_); (case zqN => k_asm); (case zqB => k_asm); (case zqF => k_asm); (case zqX => k_asm); (case zqT => k_asm); (case zqk => exact rfl); (case zqd => ktr_room); (case zqu => ktr_units); (case zqx => k_mem); (case zqy => k_mem); (case zqm => k_mem); (case zqcs => assumption); (case zqs1 => k_mem); (case zqs2 => k_mem); (case zqp0 => k_extra "om"); (case zqp1 => k_extra "om"))); (try k_fold)))
  (k_with "compareOp NotEq bytes bytes" => (k_here; (with_reducible show wpAny _ _ (compareOp CmpOp.NotEq (Value.bytes _ _) (Value.bytes _ _)) _ _ _); refine' ne_b ?zqa ?zqb ?zqe ?_; (case zqa => with_reducible assumption); (case zqb => with_reducible assumption); (case zqe => k_extra "rows")))
  (k_with "compareOp Eq bytes bytes" => (k_here; (with_reducible show wpAny _ _ (compareOp CmpOp.Eq (Value.bytes _ _) (Value.bytes _ _)) _ _ _); refine' eq_b ?zqa ?zqb ?zqe ?_; (case zqa => with_reducible assumption); (case zqb => with_reducible assumption); (case zqe => k_extra "rows")))
  (k_with "compareOp Eq ref ref" => (k_here; (with_reducible show wpAny _ _ (compareOp CmpOp.Eq (Value.ref _) (Value.ref _)) _ _ _); k_dflt (refine' tup_eq ?zqN ?zqa ?zqb ?zqu ?zqe ?_; (case zqN => k_asm); (case zqa => k_mem); (case zqb => k_mem); (case zqu => ktr_units); (case zqe => k_extra "all at"))))
  (k_with "compareOp NotEq ref ref" => (k_here; (with_reducible show wpAny _ _ (compareOp CmpOp.NotEq (Value.ref _) (Value.ref _)) _ _ _); k_dflt (refine' tup_ne ?zqN ?zqa ?zqb ?zqu ?zqe ?_; (case zqN => k_asm); (case zqa => k_mem); (case zqb => k_mem); (case zqu => ktr_units); (case zqe => k_extra "all at"))))
  (k_with "compareOp NotEq int int" => (k_here; (with_reducible show wpAny _ _ (compareOp CmpOp.NotEq (Value.int _ _) (Value.int _ _)) _ _ _); refine' ne_same ?zqq1 ?_; (case zqq1 => ((try simp only [List.length_append, List.length_replicate, KTBy.little_length, List.length_cons, List.length_nil]); k_extra "om"))))
  (k_with "compareOp Eq int int" => (k_here; (with_reducible show wpAny _ _ (compareOp CmpOp.Eq (Value.int _ _) (Value.int _ _)) _ _ _); first | (refine' eq_same ?zqq1 ?_; (case zqq1 => k_extra "om")) | (refine' eq_diff ?zqq1 ?_; (case zqq1 => k_extra "om"))))
  (k_with "compareOp NotEq" => (k_here; (with_reducible show wpAny _ _ (compareOp CmpOp.NotEq _ _) _ _ _); (with_reducible rename KeyEq _ => zrhke); (with_reducible refine' zrhke.ne' _ _ _ _ _ _ _ _ ?_)))
  (k_with "rows" => first | (with_reducible exact rfl) | exact row_out _ _ _ _ | exact row_in _ _ _ _ (by with_reducible assumption) | exact row_ref _ _ _ _)
  (k_with "z k_handed" => ((with_reducible rename KeyKind _ _ _ _ _ _ _ _ _ _ => zrhKK); exact zrhKK.hand _))
  (k_with "all at" => ((try (with_reducible rename KeyEq _ => zrhke)); (repeat' (refine And.intro ?_ ?_)); (all_goals first | exact trivial | exact zrhke.at' _ _ _ _ | exact PySem.SeqAt.EqAt.same _ | exact at_int _ _ _ | (refine at_bytes (by with_reducible assumption) (by with_reducible assumption) ?_; k_extra "rows") | (refine at_int' ?_; ((try simp only [List.length_append, List.length_replicate, KTBy.little_length, List.length_cons, List.length_nil]); k_extra "om")))))
  trivial
section
open PySem.Builtin PySem.Builtin._codecs
/-- a loop that never breaks off -/
theorem loop_all {σ : Type} {body : Nat → σ → Sem (ForInStep σ)} {st : Nat → σ} {N : Nat} (h : ∀ k, k < N → body k (st k) = pure (.yield (st (k + 1)))) (n : Nat) : ∀ k, k + n = N → forIn (List.range' k n) (st k) body = pure (st N) := by
  induction n with
  | zero => intro k e; cases e; rfl
  | succ n ih =>
    intro k e
    rw [List.range'_succ, List.forIn_cons, h k (Nat.lt_of_lt_of_eq (Nat.lt_add_of_pos_right (Nat.succ_pos n)) e), pure_bind]
    exact ih (k + 1) ((Nat.succ_add_eq_add_succ k n).trans e)
/-- a decoder that reads one sign an octet, on at most five octets -/
theorem run_plain (d : Decoder) (b : Array UInt8) (hb : b.size ≤ 5) (hf : ∀ p, p < b.size → d.find true b p = .text [(b.getD p 0).toNat] (p + 1)) (id : String) :
    runDecoder id d none true b 0 [] = pure (b.map (·.toNat), b.size) := by
  unfold runDecoder
  simp only [Std.Legacy.Range.forIn_eq_forIn_range', Std.Legacy.Range.size]
  rw [show (b.size - 0 + 1 - 1) / 1 = b.size by rw [Nat.div_one]; rfl]
  refine (congrArg (· >>= _) (loop_all (N := b.size) (st := fun k => (k, ((b.toList.take k).map (·.toNat)).toArray, ({} : Faults))) (fun k hk => ?_) b.size 0 (Nat.zero_add _))).trans ?_
  · have h1 : ¬ ((b.toList.take k).map (·.toNat)).toArray.size > sizeLine := by
      rw [sizeLine_eq, List.size_toArray, List.length_map, List.length_take]
      exact Nat.not_lt_of_le (Nat.le_trans (Nat.min_le_right ..) (Nat.le_trans (by rw [Array.length_toList]; exact hb) (by decide)))
    have h2 : ((b.toList.take k).map (·.toNat)).toArray ++ [(b.getD k 0).toNat].toArray = ((b.toList.take (k + 1)).map (·.toNat)).toArray := by
      rw [List.take_add_one, List.map_append, List.append_toArray]
      congr 2
      rw [Array.getElem?_toList, Array.getElem?_eq_getElem hk, Array.getD_eq_getD_getElem?, Array.getElem?_eq_getElem hk]; rfl
    dsimp only
    rw [if_neg h1, if_neg (Nat.not_le_of_lt hk), hf k hk]
    dsimp only
    rw [h2]
  · rw [pure_bind, List.take_of_length_le (by rw [Array.length_toList]; exact Nat.le_refl _)]
    dsimp only
    rw [← List.map_toArray, Array.toArray_toList]
end

end
section
/-- four octets in a list of their own -/
def PageCut (h₀ : Heap) (L : Addr) (m : Str → Option Value) (news : List (Addr × Obj)) (s : Shared) (v : Value) (s' : Shared) : Prop :=
  ∃ l vs e PL h' tk, v = .ref l ∧ IntsAre vs PL ∧ PL.length = 4 ∧ Rng PL ∧ s' = { s with heap := h', toks := tk } ∧ Fr h₀ L h' m ∧ News h₀ L h' ((l, listOf vs.toArray e) :: news) ∧ AllNe l news
theorem cut_page {M : Model} {A : Around} {t : Sem Value} {h₀ : Heap} {L : Addr} {m : Str → Option Value} {news : List (Addr × Obj)} {Q : Value → Shared → Prop} {E : Value → Shared → Prop} {s : Shared}
    (_F : Fr h₀ L s.heap m) (_N : News h₀ L s.heap news) (h : wpAny M A t (PageCut h₀ L m news s) E s)
    (hQ : ∀ l vs e PL h' tk, IntsAre vs PL → PL.length = 4 → Rng PL → Fr h₀ L h' m → News h₀ L h' ((l, listOf vs.toArray e) :: news) → AllNe l news → Q (.ref l) { s with heap := h', toks := tk }) : wpAny M A t Q E s :=
  wpAny_mono h (fun v s' hq => by obtain ⟨l, vs, e, PL, h', tk, e1, i, pl, pr, e2, F, N, ne⟩ := hq; subst e1; subst e2; exact hQ l vs e PL h' tk i pl pr F N ne) fun _ _ e => e
theorem allNe_of_allLt {d : Addr} {l : List (Addr × Obj)} (h : AllLt d l) : AllNe d l := allNe_of (allNe_of_lt h)
theorem ints4 {a b c d : Int} {t1 t2 t3 t4 : Tok} : IntsAre [.int a t1, .int b t2, .int c t3, .int d t4] [a, b, c, d] := .cons _ _ (.cons _ _ (.cons _ _ (.cons _ _ .nil)))
theorem val_len {ys : List Value} {n m : Nat} {f : Int → Int} {b : Int} (hb : 0 < b) (h : IntsAre ys ((rangeKs 0 n).map fun k => (f k).fmod b)) (hn : n = m) : ∃ VL, IntsAre ys VL ∧ VL.length = m ∧ ∀ x ∈ VL, 0 ≤ x ∧ x < b := ⟨_, h, by rw [List.length_map, rangeKs_length, hn], fun x hx => by
  obtain ⟨k, _, rfl⟩ := List.mem_map.mp hx
  exact fmod_bnd _ _ hb⟩
theorem log2_small2 {y : Int} (h0 : 0 < y) (h1 : y ≤ 1000) : y.natAbs.log2 < 9000 := log2_small (by k_extra "om") (by k_extra "om")
theorem fdiv_small {prog : Program} {w : World} {A : Around} {E : Value → Shared → Prop} {s : Shared} {a d : Int} {t u : Tok} {Q : Value → Shared → Prop}
    (hd : 0 < d) (hd2 : d ≤ 1000) (h : Q (.int (a.fdiv d) s.toks) { s with toks := s.toks + 1 }) :
    wpAny (model prog w) A (binaryOp .FloorDiv (.int a t) (.int d u)) Q E s :=
  floordiv_int (Int.ne_of_gt hd) h (Or.inl (PyProof.noPylong_of_log2 (log2_small2 hd hd2)))
theorem pageCut_zero {h₀ h' : Heap} {L l : Addr} {m : Str → Option Value} {news : List (Addr × Obj)} {s : Shared} {a b c d : Tok} {e tk : Nat} (F : Fr h₀ L h' m) (N : News h₀ L h' ((l, listOf #[.int 0 a, .int 0 b, .int 0 c, .int 0 d] e) :: news)) (hl : AllLt l news) :
    PageCut h₀ L m news s (.ref l) { s with heap := h', toks := tk } := ⟨l, _, e, [0, 0, 0, 0], h', tk, rfl, ints4, rfl, by decide, rfl, F, N, allNe_of_allLt hl⟩
theorem pageCut_low {h₀ h' : Heap} {L l : Addr} {m : Str → Option Value} {news : List (Addr × Obj)} {s : Shared} {vs : List Value} {x : Int} {tk : Nat} (F : Fr h₀ L h' m) (N : News h₀ L h' ((l, LCg.lst vs) :: news)) (hi : IntsAre vs (KTBy.little 4 x)) (hl : AllNe l news) :
    PageCut h₀ L m news s (.ref l) { s with heap := h', toks := tk } := ⟨l, vs, _, _, h', tk, rfl, hi, KTBy.little_length _ _, rng_little _ _, rfl, F, N, hl⟩
/-- ints in a list of their own, the newest -/
def ListCut (D : List Int) (h₀ : Heap) (L : Addr) (m : Str → Option Value) (news : List (Addr × Obj)) (s : Shared) (v : Value) (s' : Shared) : Prop :=
  ∃ l us h' tk, v = .ref l ∧ IntsAre us D ∧ s' = { s with heap := h', toks := tk } ∧ Fr h₀ L h' m ∧ News h₀ L h' ((l, listOf us.toArray 0) :: news) ∧ AllLt l news
theorem cut_list {M : Model} {A : Around} {t : Sem Value} {h₀ : Heap} {L : Addr} {m : Str → Option Value} {news : List (Addr × Obj)} {Q : Value → Shared → Prop} {E : Value → Shared → Prop} {s : Shared} {D : List Int}
    (_F : Fr h₀ L s.heap m) (_N : News h₀ L s.heap news) (h : wpAny M A t (ListCut D h₀ L m news s) E s)
    (hQ : ∀ l us h' tk, IntsAre us D → Fr h₀ L h' m → News h₀ L h' ((l, listOf us.toArray 0) :: news) → AllLt l news → Q (.ref l) { s with heap := h', toks := tk }) : wpAny M A t Q E s :=
  wpAny_mono h (fun v s' hq => by obtain ⟨l, us, h', tk, e1, i, e2, F, N, lt⟩ := hq; subst e1; subst e2; exact hQ l us h' tk i F N lt) fun _ _ e => e
theorem listCut_in {D D' : List Int} {h₀ h' : Heap} {L l : Addr} {m : Str → Option Value} {news news' : List (Addr × Obj)} {s : Shared} {us : List Value} {tk : Nat} (F : Fr h₀ L h' m) (N : News h₀ L h' ((l, listOf us.toArray 0) :: news')) (hs : ∀ q ∈ news, q ∈ news') (hi : IntsAre us D') (e : D' = D) (hl : AllLt l news') :
    ListCut D h₀ L m news s (.ref l) { s with heap := h', toks := tk } := ⟨l, us, h', tk, rfl, e ▸ hi, rfl, F, cb_drop N (fun q hq => by
      rcases List.mem_cons.mp hq with rfl | hq
      · exact .head _
      · exact .tail _ (hs q hq)), allLt_of fun p hp => allLt_mem hl p (hs p hp)⟩
section
variable {prog : Program} {w : World} {A : Around} {E : Value → Shared → Prop} {s : Shared} {h₀ : Heap} {L D : Addr} {m : Str → Option Value} {news : List (Addr × Obj)} {g : Obj → List (Addr × Obj)} {us : List Value} {ns : List Int} {e : Nat} {x : Int} {t : Tok} {Q : Value → Shared → Prop}
theorem ints_dropLast {us : List Value} {ns : List Int} (h : IntsAre us ns) : IntsAre us.dropLast ns.dropLast := by
  induction h with
  | nil => exact .nil
  | cons i t r ih =>
    cases r with
    | nil => exact .nil
    | cons j u r => exact .cons i t ih
theorem app_U (F : Fr h₀ L s.heap m) (N : News h₀ L s.heap news) (U : UpdF D (listOf us.toArray e) news g) (hi : IntsAre us ns) (hz : ns.length ≤ 1000)
    (h : ∀ h', Fr h₀ L h' m → News h₀ L h' (g (listOf (us ++ [Value.int x t]).toArray (e + 1))) → IntsAre (us ++ [Value.int x t]) (ns ++ [x]) → Q .none { s with heap := h' }) :
    wpAny (model prog w) A (call (.builtin "list.append") [.ref D, .int x t]) Q E s := by
  obtain ⟨own, rest, rfl, hg, h1, h2⟩ := U.split
  have hmem := N (D, listOf us.toArray e) (List.mem_append_right _ (.head _))
  refine append_at hmem.1 (fun h' hs ho => h h' ⟨F.ns.sameBut hs (Ne.symm hmem.2.1), fun b ob e => (hs.2 b (fun q => ?_)).trans (F.keep b ob e), F.above⟩ (hg _ ▸ N.setAt h1 h2 hs ?_) (hi.append (.cons _ _ .nil))) (by rw [List.size_toArray, hi.length, sizeLine_eq]; omega)
  · rw [q, hmem.2.2] at e; cases e
  · rw [ho, List.push_toArray]
theorem pop_U (F : Fr h₀ L s.heap m) (N : News h₀ L s.heap news) (U : UpdF D (listOf us.toArray e) news g) (hi : IntsAre us ns) (hz : ns.length ≤ 1000) (hne : 0 < ns.length)
    (h : ∀ y h', Fr h₀ L h' m → News h₀ L h' (g (listOf us.dropLast.toArray (e + 1))) → IntsAre us.dropLast ns.dropLast → Q y { s with heap := h' }) :
    wpAny (model prog w) A (call (.builtin "list.pop") [.ref D]) Q E s := by
  obtain ⟨own, rest, rfl, hg, h1, h2⟩ := U.split
  have hmem := N (D, listOf us.toArray e) (List.mem_append_right _ (.head _))
  have hl : us.length = ns.length := hi.length
  obtain ⟨y, hy⟩ : ∃ y, us.toArray[us.toArray.size - 1]? = some y := ⟨us[us.length - 1]'(by k_extra "om"), by
    rw [List.size_toArray, List.getElem?_toArray]
    exact List.getElem?_eq_getElem (by k_extra "om")⟩
  refine PyProof.Rows.Copied.pop_at hmem.1 hy (fun h' hs ho => h y h' ⟨F.ns.sameBut hs (Ne.symm hmem.2.1), fun b ob e => (hs.2 b (fun q => ?_)).trans (F.keep b ob e), F.above⟩ (hg _ ▸ N.setAt h1 h2 hs ?_) (ints_dropLast hi)) (by rw [List.size_toArray, hl, sizeLine_eq]; omega)
  · rw [q, hmem.2.2] at e; cases e
  · rw [ho, List.pop_toArray]
end
/-- the rows of octets, one too long, one too short, or as they were -/
def IfCut (wr : Prop) (D1 D2 : List Int) (lf lr : Addr) (h₀ : Heap) (L : Addr) (m : Str → Option Value) (rest : List (Addr × Obj)) (s : Shared) (f : Flow) (s' : Shared) : Prop :=
  ∃ uf ef DF ur er DR h' tk, f = .next ∧ IntsAre uf DF ∧ IntsAre ur DR ∧ ((wr ∧ (DR = D1 ++ [0] ∨ DR = D1.dropLast) ∧ (DF = D2 ++ [0] ∨ DF = D2.dropLast)) ∨ (¬ wr ∧ DR = D1 ∧ DF = D2)) ∧ s' = { s with heap := h', toks := tk } ∧ Fr h₀ L h' m ∧ News h₀ L h' ((lf, listOf uf.toArray ef) :: (lr, listOf ur.toArray er) :: rest)
theorem cut_if {M : Model} {A : Around} {t : Sem Flow} {wr : Prop} {D1 D2 : List Int} {lf lr : Addr} {h₀ : Heap} {L : Addr} {m : Str → Option Value} {rest : List (Addr × Obj)} {Q : Flow → Shared → Prop} {E : Value → Shared → Prop} {s : Shared} {uf ur : List Value} {ef er : Nat}
    (_F : Fr h₀ L s.heap m) (_N : News h₀ L s.heap ((lf, listOf uf.toArray ef) :: (lr, listOf ur.toArray er) :: rest)) (h : wpAny M A t (IfCut wr D1 D2 lf lr h₀ L m rest s) E s)
    (hQ : ∀ uf ef DF ur er DR h' tk, IntsAre uf DF → IntsAre ur DR → ((wr ∧ (DR = D1 ++ [0] ∨ DR = D1.dropLast) ∧ (DF = D2 ++ [0] ∨ DF = D2.dropLast)) ∨ (¬ wr ∧ DR = D1 ∧ DF = D2)) → Fr h₀ L h' m → News h₀ L h' ((lf, listOf uf.toArray ef) :: (lr, listOf ur.toArray er) :: rest) → Q .next { s with heap := h', toks := tk }) : wpAny M A t Q E s :=
  wpAny_mono h (fun f s' hq => by obtain ⟨uf, ef, DF, ur, er, DR, h', tk, e1, i1, i2, hc, e2, F, N⟩ := hq; subst e1; subst e2; exact hQ uf ef DF ur er DR h' tk i1 i2 hc F N) fun _ _ e => e
theorem ifCut_in {wr : Prop} {D1 D2 DF DR : List Int} {lf lr : Addr} {h₀ h' : Heap} {L : Addr} {m : Str → Option Value} {rest : List (Addr × Obj)} {s : Shared} {uf ur : List Value} {ef er tk : Nat}
    (F : Fr h₀ L h' m) (N : News h₀ L h' ((lf, listOf uf.toArray ef) :: (lr, listOf ur.toArray er) :: rest)) (i1 : IntsAre uf DF) (i2 : IntsAre ur DR) (hc : (wr ∧ (DR = D1 ++ [0] ∨ DR = D1.dropLast) ∧ (DF = D2 ++ [0] ∨ DF = D2.dropLast)) ∨ (¬ wr ∧ DR = D1 ∧ DF = D2)) :
    IfCut wr D1 D2 lf lr h₀ L m rest s .next { s with heap := h', toks := tk } := ⟨uf, ef, DF, ur, er, DR, h', tk, rfl, i1, i2, hc, rfl, F, N⟩
/-- addresses that differ from one, told shut -/
def AllNeL (d : Nat) : List Nat → Prop
  | [] => True
  | a :: r => a ≠ d ∧ AllNeL d r
theorem allNeL_mem {d a : Nat} : ∀ {l : List Nat}, AllNeL d l → a ∈ l → @Ne Nat a d
  | _ :: _, h, m => by
    rcases List.mem_cons.mp m with rfl | m
    · exact h.1
    · exact allNeL_mem h.2 m

theorem value_nn : ∀ {ns : List Int}, Rng ns → 0 ≤ KFB.value ns.reverse
  | [], _ => Int.le_refl 0
  | n :: ns, h => by
    rw [value_cons]
    have h1 := value_nn (ns := ns) fun x hx => h x (List.mem_cons_of_mem _ hx)
    have h2 := h n List.mem_cons_self
    omega
section
variable {prog : Program} {w : World} {A : Around} {E : Value → Shared → Prop} {s : Shared} {h₀ : Heap} {L : Addr} {m : Str → Option Value} {x : Str} {t : Tok} {Q : Value → Shared → Prop}
theorem isi_no_rec (F : Fr h₀ L s.heap m) (X₀ : (hd.heap_1 w.params).In h₀) (h : ∀ tk, Q (.bool false) { s with toks := tk }) : wpAny (model prog w) A (call (.builtin "isinstance") [.str x t, .ref 232]) Q E s :=
  kia_one kitx_str (X₀.keeps F.keep) trivial (by kernel_rfl) (by intro q; cases q) h
theorem isi_no_ref (F : Fr h₀ L s.heap m) (X₀ : (hd.heap_1 w.params).In h₀) (h : ∀ tk, Q (.bool false) { s with toks := tk }) : wpAny (model prog w) A (call (.builtin "isinstance") [.str x t, .ref 273]) Q E s :=
  kia_one kitx_str (X₀.keeps F.keep) trivial (by kernel_rfl) (by intro q; cases q) h
end

end
section
theorem words_28c_bad : True := by
  (k_with "binaryOp FloorDiv int int" => (k_here; (with_reducible refine fdiv_small (by k_extra "om") (by k_extra "om") ?_)))
  (k_with "all ne" => ((try simp only [AllNe]); (repeat' (refine And.intro ?_ ?_)); all_goals (first | k_extra "om" | exact allNe_of_allLt (by with_reducible assumption) | with_reducible assumption)))
  (k_with "call builtin:list.append" => (k_here; (with_reducible show wpAny _ _ (call (Value.builtin _) [Value.ref _, Value.int _ _]) _ _ _); k_dflt (refine' app_U ?zqF ?zqN ?zqU ?zqi ?zqz (fun h' F' N' I' => ?_); (case zqF => k_asm); (case zqN => k_asm); (case zqU => k_updF); (case zqi => with_reducible assumption); (case zqz => k_extra "om")); (try dsimp only at N')))
  (k_with "call builtin:list.pop" => (k_here; k_dflt (refine' pop_U ?zqF ?zqN ?zqU ?zqi ?zqz ?zqn (fun y' h' F' N' I' => ?_); (case zqF => k_asm); (case zqN => k_asm); (case zqU => k_updF); (case zqi => with_reducible assumption); (case zqz => k_extra "om"); (case zqn => k_extra "om")); (try dsimp only at N')))
  (k_with "call builtin:isinstance" => (k_here; (with_reducible show wpAny _ _ (call _ [Value.str _ _, Value.ref _]) _ _ _); k_dflt (first | (refine' isi_no_rec ?zqF ?zqX (fun tk' => ?_); (case zqF => k_asm); (case zqX => k_asm)) | (refine' isi_no_ref ?zqF ?zqX (fun tk' => ?_); (case zqF => k_asm); (case zqX => k_asm)))))
  (k_with "subscriptTail Name Slice ref ref" => (k_here; (with_reducible show wpAny _ _ (subscriptTail _ (PySem.Expr.Slice none (some _) none _) (Value.ref _) (Value.ref _)) _ _ _); k_dflt (refine' kmk_slice_ints (s := ⟨_, _, _, _, _⟩) ?zqF ?zqN ?zql ?zqp ?zqq ?zqi ?zqm ?zqc ?_ ?zqs ?zqt ?zqz; (case zqF => k_asm); (case zqN => k_asm); (case zql => exact News.isList (by k_asm) (by k_mem)); (case zqp => exact IsPart.none); (case zqq => exact IsPart.int _ _); (case zqi => with_reducible assumption); (case zqm => exact kmk_upto (by with_reducible assumption) (by with_reducible assumption)); (case zqc => exact List.length_take ..); (case zqs => with_unfolding_all rfl); (case zqt => kmk_pure); (case zqz => exact kmk_sz (by with_reducible assumption) (by rw [sizeLine_eq]; k_extra "om")); intro D' ws' h' F' N' l1 hI' hC' hL'; (try k_lt l1); (try k_sweep))))
  (k_with "call builtin:isinstance" => (k_here; (with_reducible show wpAny _ _ (call _ [Value.ref _, Value.ref _]) _ _ _); k_dflt (refine' isi_call ?zqk1 ?zqk2 ?zqk3 ?zqk4 ?_; (case zqk1 => k_in); (case zqk2 => k_types); (case zqk3 => k_is); (case zqk4 => intro e; cases e); k_whole)))
  trivial
section
theorem words_p28c_bad_1 : True := by
  (k_with "getMethod ref" => (k_here; (with_reducible show wpAny _ _ (getMethod (Value.ref _) (Str.ofString "deserialize") _) _ _ _); refine hold_in ?_))
  (k_with "ite" => first | refine ite_dpos (Int.le_of_lt (Int.lt_of_le_of_lt (Int.natCast_nonneg _) (hbad (castD (by assumption))))) ?_ | refine ite_dneg (Int.not_le.mpr (hbad (castD (by assumption)))) ?_ | refine ite_dpos (Int.le_of_lt (Int.lt_of_le_of_lt (Int.natCast_nonneg _) (hbad (castF (by assumption))))) ?_ | refine ite_dneg (Int.not_le.mpr (hbad (castF (by assumption)))) ?_)
  (k_with "execs cons" => (k_here; (fail_if_success (refine hasMark (by with_reducible assumption) ?_)); refine' let_B ?_; intro am qa; (try k_fold); (try k_extra "fr")))
  trivial
set_option maxHeartbeats 8000000 in
theorem rec_bad (w : World) (news : List (Addr × Obj)) (c : Addr) (ks vsz : Nat) (sr : Addr) (t1 t2 t3 t4 : Tok) (hc : (c, confObj ks vsz sr t1 t2 t3 t4) ∈ news) (hcs : confs ks vsz)
    (b : Array UInt8) (tb : Tok) (D S1 : List Int) (U : Int) (hb : KBw.bInts b = D) (hD0 : 0 < D.length) (hD1 : D.length ≤ 1000)
    (hz1 : Slc D 0 2 S1) (l1 : S1.length ≤ 2) (hU : KFB.value S1.reverse = U) (hbad : D.length = 2 + ks + 2 + vsz + 4 → (ks : Int) < U) :
    CallsK w (.ref 232) [.ref c] [(PySem.Str.ofString "data", .bytes b tb)] news 15 500 (fun _ _ => False) (fun c => c = "AssertionError") := by
  unfold CallsK
  k_fill
  intro p loose mean mg mb dp un gd cn cs a ccd cl outer A₀ base h₀ L m s Q E B F' X N T hk hd hu hret hexc
  obtain ⟨kd, nm, ig, ic, mo⟩ := cs
  cases hk
  k_steps
  all_goals first
    | (exfalso; omega)
    | (exact hexc _ _ _ _ _ rfl (by k_asm) (raised_sub (by with_reducible assumption) (by intro q hq; k_mem)) (by with_reducible assumption))
set_option maxHeartbeats 8000000 in
theorem ref_bad (w : World) (news : List (Addr × Obj)) (c : Addr) (ks vsz : Nat) (sr : Addr) (t1 t2 t3 t4 : Tok) (hc : (c, confObj ks vsz sr t1 t2 t3 t4) ∈ news) (hcs : confs ks vsz)
    (b : Array UInt8) (tb : Tok) (D S1 S2 : List Int) (BF U : Int) (hb : KBw.bInts b = D) (hD0 : 0 < D.length) (hD1 : D.length ≤ 1000)
    (hz1 : Slc D 0 4 S1) (hz2 : Slc D 4 (4 + 2) S2) (l1 : S1.length ≤ 4) (l2 : S2.length ≤ 2) (hBF : KFB.value S1.reverse = BF) (hU : KFB.value S2.reverse = U) (hbad : D.length = 2 * 4 + 2 + ks → (ks : Int) < U) :
    CallsK w (.ref 273) [.ref c] [(PySem.Str.ofString "data", .bytes b tb)] news 15 500 (fun _ _ => False) (fun c => c = "AssertionError") := by
  unfold CallsK
  k_fill
  intro p loose mean mg mb dp un gd cn cs a ccd cl outer A₀ base h₀ L m s Q E B F' X N T hk hd hu hret hexc
  obtain ⟨kd, nm, ig, ic, mo⟩ := cs
  cases hk
  k_steps
  all_goals first
    | (exfalso; omega)
    | (exact hexc _ _ _ _ _ rfl (by k_asm) (raised_sub (by with_reducible assumption) (by intro q hq; k_mem)) (by with_reducible assumption))
end

end
section
theorem words_28d_rk : True := by
  k_with_none
  (k_with "z ktr_units" => ((simp only [units_under_kw, units_in1, units_deeper, Around.mark_units, units_caller, ktrTop, cLine_is] at ⊢); (rename _ < cLine => zrhcU); (rw [cLine_is] at zrhcU); omega))
  (k_with "z ktr_room" => ((simp only [depth_under_kw, depth_in1, depth_deeper, depth_caller, ktrTop] at ⊢); omega))
  (k_with "z ktr_units" => ((rename _ < cLine => zrhcU); first | exact u3 zrhcU rfl | exact u2 zrhcU rfl | exact u4 zrhcU rfl | exact u5 zrhcU rfl | exact u1 zrhcU))
  (k_with "z ktr_room" => ((rename _ < recursionLimit => zrhcD); first | exact u2 zrhcD rfl | exact u3 zrhcD rfl | exact u4 zrhcD rfl | exact u5 zrhcD rfl | exact u1 zrhcD))
  (k_with "z k_room" => ktr_room)
  (k_with "z k_units" => ktr_units)
  (k_with "z k_mem" => ((show @Membership.mem (Addr × Obj) (List (Addr × Obj)) _ _ _); with_reducible assumption))
  (k_with "om0" => ((repeat (with_reducible rename _ ≠ _ ∧ _ => zrhz; clear zrhz)); (repeat (with_reducible rename (_ ≠ _ ∧ _) ∧ _ => zrhz; clear zrhz)); omega))
  (k_with "bd1" => first | decide | (with_reducible first | apply om_b1 | apply om_b2 | apply om_b3 | apply om_b4 | apply om_b5 | apply om_b6 | apply om_b7 | apply om_bs | apply om_bt | apply om_bz | apply om_bt4 | apply om_b2t | apply om_bm | (apply om_bq; assumption) | refine om_bl (by assumption) ?_ | refine om_be (by assumption) ?_ | (apply om_bk; assumption; decide) | (apply om_bv; assumption; decide)))
  (k_with "bd" => (k_whole; (with_reducible first | (apply om_b0; rotate_left; with_unfolding_all rfl) | (apply om_b0l; rotate_left; with_unfolding_all rfl)); (repeat' k_extra "bd1"); done))
  (k_with "five" => first | assumption | exact om_lk5 (by assumption) | exact om_lt5 (by assumption) | exact Nat.le_trans (by assumption) (om_lk5 (by assumption)) | exact Nat.le_trans (by assumption) (om_lt5 (by assumption)))
  (k_with "om1" => first | rfl | assumption | exact And.left (by assumption) | exact And.right (by assumption) | ((show @LE.le Int _ _ _); first | apply Int.natCast_nonneg | (apply om_sub_nn; assumption) | (apply om_sa0; assumption) | (apply Int.le_of_lt; apply om_lp2) | (apply Int.le_add_of_nonneg_right; first | assumption | apply Int.natCast_nonneg)) | ((show @LE.le Nat _ _ _); apply Nat.le_of_lt; assumption) | ((show @LT.lt Int _ _ _); apply om_lp2) | ((show @LT.lt Nat _ _ _); first | (apply om_posD; assumption) | (apply om_posF; assumption)) | ((show @Eq Nat _ _); first | apply tns | apply tn0 | (apply castD; assumption) | (apply castF; assumption)))
  (k_with "om2" => first | decide | ((show @LE.le Nat _ _ _); first | exact Nat.le_trans (by assumption) (by decide) | exact om_be (by assumption) (by decide) | (apply om_bq4; assumption; rfl) | (apply om_kbt; assumption; k_extra "five") | (apply om_kmt <;> assumption)) | ((show @LE.le Int _ _ _); first | (apply Int.le_add_of_nonneg_right; decide) | (apply om_ic 5; k_extra "five"; decide) | (apply om_sub_le0; apply om_ic 5; k_extra "five"; decide) | (apply om_sub0_le; apply om_ic 5; k_extra "five"; decide) | (apply om_sa4; k_extra "five") | (refine Int.le_trans (om_kb (by assumption) (by k_extra "five")) (by decide)) | (apply om_kb1; assumption; k_extra "five") | (apply om_kb2; assumption; k_extra "five") | (apply om_km <;> assumption)) | ((show @Eq Int _ _); first | (apply om_lnO; assumption) | (apply om_lnI <;> assumption) | (apply om_lnF; assumption)) | ((show @LT.lt Int _ _ _); first | (apply om_icl 5; k_extra "five"; decide) | exact Int.lt_of_lt_of_le (by decide) (And.left (by assumption)) | exact Int.lt_trans (And.right (by assumption)) (by decide)))
  (k_with "nn" => ((show @LE.le Int _ _ _); apply Int.add_nonneg; (repeat' first | apply Int.natCast_nonneg | assumption | decide | apply Int.add_nonneg); done))
  (k_with "om" => first | (k_whole; with_reducible k_extra "om1") | (k_whole; with_reducible k_extra "om2") | (k_whole; with_reducible k_extra "nn") | k_extra "bd" | k_extra "om0")
  (k_with "z kba_size" => k_extra "bd")
  (k_with "fold" => (refine' let_A ?_; intro qa; k_fold))
  (k_with "ite" => first | refine ite_dpos (by assumption) ?_ | refine ite_dneg (by first | assumption | (apply Int.not_lt.mpr; assumption) | (apply Int.not_le.mpr; assumption)) ?_)
  (k_with "z kcf_bnd" => first | (k_whole; with_reducible k_extra "om1") | (k_whole; with_reducible k_extra "om2") | (k_whole; with_reducible k_extra "nn") | k_extra "bd")
  (k_with "gl" => with_reducible (first | exact glUSEDKEYLENGTHBYTES _ | exact glUSEDVALUELENGTHBYTES _ | exact glPAGEREFERENCEBYTES _ | exact glENDIAN _ | exact glRecord _ | exact glReference _ | exact gllawlow _ | exact gllawkey _ | exact gllawparts _ | exact gllawpages _ | exact gllawdone _ | exact gllawnumber _ | exact gllawsigns _ | exact glTreeConf _ | exact glStrSerializer _ | exact glIntSerializer _ | exact gllawrecord _ | exact gllawreference _ | exact gllawread _ | exact gllaworder _))
  (k_with "gb" => with_reducible (first | exact glint _ | exact gllen _ | exact glbytes _ | exact glisinstance _ | exact glrange _ | exact glenumerate _ | exact gltuple _ | exact gltype _))
  (k_with "eval Name" => (k_here; k_dflt (first | (refine' nameX_L ?zqF ?zqv ?_ ?zqa ?zqb; (case zqF => k_asm); (case zqa => exact Eq.refl ScopeKind.function); (case zqb => exact Eq.refl (some NameKind.local)); (case zqv => exact Eq.refl (some _)); k_whole) | (refine' name_top ?zqg ?zqF ?zqX ?zqT ?zqa ?zqb ?_; (case zqX => k_asm); (case zqg => k_extra "gl"); (case zqF => k_asm); (case zqT => k_asm); (case zqa => exact Eq.refl ScopeKind.function); (case zqb => exact Eq.refl (some NameKind.globalImplicit)); k_whole) | (refine' name_boot ?zqg ?zqF ?zqX ?zqT ?zqa ?zqb ?_; (case zqX => k_asm); (case zqg => k_extra "gb"); (case zqF => k_asm); (case zqT => k_asm); (case zqa => exact Eq.refl ScopeKind.function); (case zqb => exact Eq.refl (some NameKind.globalImplicit)); k_whole))))
  (k_with "callWith ref" => (k_here; k_dflt (first | (refine' callWith_K ?zqk1 ?zqk2 ?_; (case zqk1 => k_asm); (case zqk2 => k_extra "kp"); k_whole) | (refine' callWith_K0 ?zqk1 ?zqk2 ?_; (case zqk1 => first | with_reducible assumption | exact Frag.In.keeps (by with_reducible assumption) (Fr.keep (by with_reducible assumption)) | k_in); (case zqk2 => k_extra "kp"); k_whole) | (refine' callWith_M0 ?zqk1 ?zqk2 ?_; (case zqk1 => k_meth); (case zqk2 => k_extra "kp"); k_whole; (try dsimp only [List.nil_append, List.cons_append])) | (refine' callWith_M ?zqk1 ?zqk2 ?zqk3 ?zqk4 ?_; (case zqk1 => k_asm); (case zqk2 => k_asm); (case zqk3 => k_mem); (case zqk4 => k_is); k_whole) | (refine' callWith_KW ?zqk1 ?zqk2 ?zqk3 ?_; (case zqk1 => k_asm); (case zqk2 => k_extra "kp"); (case zqk3 => exact rfl); k_whole) | (refine' callWith_KW0 ?zqk1 ?zqk2 ?zqk3 ?_; (case zqk1 => k_asm); (case zqk2 => k_extra "kp"); (case zqk3 => exact rfl); k_whole))))
  (k_with "getMethod type:int" => (k_here; (with_reducible refine' KFB.getm ?zqkfbF ?zqkfbN ?zqkfbX ?zqkfbE ?_); k_dflt ((case zqkfbF => k_asm); (case zqkfbN => k_asm); (case zqkfbX => k_asm); (case zqkfbE => exact from_bytes_at _); k_whole; intro x' h' F' N' l1; (try k_lt l1); (try k_sweep))))
  (k_with "kp" => first | with_reducible assumption | (with_reducible first | exact kp232 _ | exact kp273 _ | exact kp355 _ | exact kp369 _ | exact kp376 _ | exact kp381 _ | exact kp388 _ | exact kp395 _ | exact kp400 _ | exact kp407 _ | exact kp412 _ | exact kp419 _ | exact kp141 _ | exact kp346 _ | exact kp320 _) | k_is)
  (k_with "getAttr ref" => (k_here; (with_reducible show wpAny _ _ (getAttr (Value.ref _) (PySem.Str.ofString "key_size") _) _ _ _); k_dflt (refine' conf_attr (And.left (get_conf _ _ _ _ _ _ _ _ _ _ ?zqm)) ?zqm2 ?zqc1 ?zqc3 ?zqB ?zqF ?zqX ?zqN ?zqT ?zqk ?zqd ?zqu ?zqp ?zqp2 ?zqp3 ?zqf2 ?zqf3 ?zqf4 ?zqhh ?_; (case zqN => k_asm); (case zqm => k_mem); (case zqm2 => k_mem); (case zqc1 => exact rfl); (case zqc3 => exact rfl); (case zqB => k_asm); (case zqF => k_asm); (case zqX => k_asm); (case zqT => k_asm); (case zqk => exact rfl); (case zqd => ktr_room); (case zqu => ktr_units); (case zqp => k_is); (case zqp2 => k_is); (case zqp3 => k_is); (case zqf2 => k_is); (case zqf3 => k_is); (case zqf4 => k_is); (case zqhh => exact rfl); k_whole; intro h' tk' F' N'; (try k_sweep))))
  (k_with "getAttr ref" => (k_here; (with_reducible show wpAny _ _ (getAttr (Value.ref _) (PySem.Str.ofString "value_size") _) _ _ _); k_dflt (refine' conf_attr (And.left (And.right (get_conf _ _ _ _ _ _ _ _ _ _ ?zqm))) ?zqm2 ?zqc1 ?zqc3 ?zqB ?zqF ?zqX ?zqN ?zqT ?zqk ?zqd ?zqu ?zqp ?zqp2 ?zqp3 ?zqf2 ?zqf3 ?zqf4 ?zqhh ?_; (case zqN => k_asm); (case zqm => k_mem); (case zqm2 => k_mem); (case zqc1 => exact rfl); (case zqc3 => exact rfl); (case zqB => k_asm); (case zqF => k_asm); (case zqX => k_asm); (case zqT => k_asm); (case zqk => exact rfl); (case zqd => ktr_room); (case zqu => ktr_units); (case zqp => k_is); (case zqp2 => k_is); (case zqp3 => k_is); (case zqf2 => k_is); (case zqf3 => k_is); (case zqf4 => k_is); (case zqhh => exact rfl); k_whole; intro h' tk' F' N'; (try k_sweep))))
  (k_with "getAttr ref" => (k_here; (with_reducible show wpAny _ _ (getAttr (Value.ref _) (PySem.Str.ofString "serializer") _) _ _ _); k_dflt (refine' conf_attr (And.right (And.right (get_conf _ _ _ _ _ _ _ _ _ _ ?zqm))) ?zqm2 ?zqc1 ?zqc3 ?zqB ?zqF ?zqX ?zqN ?zqT ?zqk ?zqd ?zqu ?zqp ?zqp2 ?zqp3 ?zqf2 ?zqf3 ?zqf4 ?zqhh ?_; (case zqN => k_asm); (case zqm => k_mem); (case zqm2 => k_mem); (case zqc1 => exact rfl); (case zqc3 => exact rfl); (case zqB => k_asm); (case zqF => k_asm); (case zqX => k_asm); (case zqT => k_asm); (case zqk => exact rfl); (case zqd => ktr_room); (case zqu => ktr_units); (case zqp => k_is); (case zqp2 => k_is); (case zqp3 => k_is); (case zqf2 => k_is); (case zqf3 => k_is); (case zqf4 => k_is); (case zqhh => exact rfl); k_whole; intro h' tk' F' N'; (try k_sweep))))
  (k_with "ne" => first | (with_reducible assumption) | (exact Nat.ne_of_lt (by with_reducible assumption)) | (exact Nat.ne_of_gt (by with_reducible assumption)) | (exact Ne.symm (by with_reducible assumption)) | (exact allNe_mem2 (by with_reducible assumption) (by k_mem)) | (exact Ne.symm (allNe_mem2 (by with_reducible assumption) (by k_mem))) | (exact ng0 (by with_reducible assumption)) | (exact nl0 (by with_reducible assumption)) | (exact ng1 (by with_reducible assumption)) | (exact nl1 (by with_reducible assumption)) | (exact fg1 (by with_reducible assumption)) | (exact fl1 (by with_reducible assumption)) | (exact ng2 (by with_reducible assumption)) | (exact nl2 (by with_reducible assumption)) | (exact fg2 (by with_reducible assumption)) | (exact fl2 (by with_reducible assumption)) | (exact ng3 (by with_reducible assumption)) | (exact nl3 (by with_reducible assumption)) | (exact fg3 (by with_reducible assumption)) | (exact fl3 (by with_reducible assumption)) | (exact ng4 (by with_reducible assumption)) | (exact nl4 (by with_reducible assumption)) | (exact fg4 (by with_reducible assumption)) | (exact fl4 (by with_reducible assumption)) | (exact ng5 (by with_reducible assumption)) | (exact nl5 (by with_reducible assumption)) | (exact fg5 (by with_reducible assumption)) | (exact fl5 (by with_reducible assumption)) | (exact ng6 (by with_reducible assumption)) | (exact nl6 (by with_reducible assumption)) | (exact fg6 (by with_reducible assumption)) | (exact fl6 (by with_reducible assumption)) | (exact ng7 (by with_reducible assumption)) | (exact nl7 (by with_reducible assumption)) | (exact fg7 (by with_reducible assumption)) | (exact fl7 (by with_reducible assumption)) | (exact ng8 (by with_reducible assumption)) | (exact nl8 (by with_reducible assumption)) | (exact fg8 (by with_reducible assumption)) | (exact fl8 (by with_reducible assumption)) | (exact ng9 (by with_reducible assumption)) | (exact nl9 (by with_reducible assumption)) | (exact fg9 (by with_reducible assumption)) | (exact fl9 (by with_reducible assumption)) | (exact ng10 (by with_reducible assumption)) | (exact nl10 (by with_reducible assumption)) | (exact fg10 (by with_reducible assumption)) | (exact fl10 (by with_reducible assumption)) | (exact ng11 (by with_reducible assumption)) | (exact nl11 (by with_reducible assumption)) | (exact fg11 (by with_reducible assumption)) | (exact fl11 (by with_reducible assumption)) | (exact ng12 (by with_reducible assumption)) | (exact nl12 (by with_reducible assumption)) | (exact fg12 (by with_reducible assumption)) | (exact fl12 (by with_reducible assumption)) | (exact ng13 (by with_reducible assumption)) | (exact nl13 (by with_reducible assumption)) | (exact fg13 (by with_reducible assumption)) | (exact fl13 (by with_reducible assumption)) | (exact na0 (by with_reducible assumption)) | (exact nb0 (by with_reducible assumption)) | (exact na1 (by with_reducible assumption)) | (exact nb1 (by with_reducible assumption)) | (exact na2 (by with_reducible assumption)) | (exact nb2 (by with_reducible assumption)) | (exact na3 (by with_reducible assumption)) | (exact nb3 (by with_reducible assumption)) | (exact na4 (by with_reducible assumption)) | (exact nb4 (by with_reducible assumption)) | (exact na5 (by with_reducible assumption)) | (exact nb5 (by with_reducible assumption)) | (exact na6 (by with_reducible assumption)) | (exact nb6 (by with_reducible assumption)) | (exact na7 (by with_reducible assumption)) | (exact nb7 (by with_reducible assumption)) | (exact na8 (by with_reducible assumption)) | (exact nb8 (by with_reducible assumption)) | (exact na9 (by with_reducible assumption)) | (exact nb9 (by with_reducible assumption)) | (exact oi1) | (exact os1) | (exact ok1 (by with_reducible assumption)) | (exact oc1 (by with_reducible assumption)) | (exact oi2) | (exact os2) | (exact ok2 (by with_reducible assumption)) | (exact oc2 (by with_reducible assumption)) | (exact oi3) | (exact os3) | (exact ok3 (by with_reducible assumption)) | (exact oc3 (by with_reducible assumption)) | (exact oi4) | (exact os4) | (exact ok4 (by with_reducible assumption)) | (exact oc4 (by with_reducible assumption)) | (exact oi5) | (exact os5) | (exact ok5 (by with_reducible assumption)) | (exact oc5 (by with_reducible assumption)) | (exact news_ne (by k_asm) (by k_mem) (by k_mem) (by intro e; cases e)))
  (k_with "z k_ne" => (refine neN ?_; (try dsimp only); k_extra "ne"))
  (k_with "z k_all" => first | exact allNe_mem (by with_reducible assumption) | exact allNe_of_lt (by with_reducible assumption) | with_reducible assumption)
  (k_with "call ref" => (k_here; (with_reducible show wpAny _ _ (call (Value.ref 369) [Value.int _ _, Value.int _ _]) _ _ _); k_dflt (first | (refine' calls_use (low_calls _ _ _ _ _ 2 (by decide)) ?zqB ?zqF ?zqX ?zqN ?zqT ?zqk ?zqd ?zqu ?_; (case zqB => k_asm); (case zqF => k_asm); (case zqX => k_asm); (case zqN => k_asm); (case zqT => k_asm); (case zqk => exact rfl); (case zqd => ktr_room); (case zqu => ktr_units); k_whole) | (refine' calls_use (low_calls _ _ _ _ _ 4 (by decide)) ?zqB ?zqF ?zqX ?zqN ?zqT ?zqk ?zqd ?zqu ?_; (case zqB => k_asm); (case zqF => k_asm); (case zqX => k_asm); (case zqN => k_asm); (case zqT => k_asm); (case zqk => exact rfl); (case zqd => ktr_room); (case zqu => ktr_units); k_whole) | (refine' calls_use (low_calls _ _ _ _ _ _ ?zqn) ?zqB ?zqF ?zqX ?zqN ?zqT ?zqk ?zqd ?zqu ?_; (case zqB => k_asm); (case zqF => k_asm); (case zqX => k_asm); (case zqN => k_asm); (case zqT => k_asm); (case zqk => exact rfl); (case zqd => ktr_room); (case zqu => ktr_units); (case zqn => k_extra "om"); k_whole)); intro v' h' tk' F' P'; obtain ⟨l', vs', hv', N', hI', hO'⟩ := P'; subst hv'; (replace hO' := allNe_of hO'); (try dsimp only); (try k_fold)))
  (k_with "call builtin:len" => (k_here; (with_reducible show wpAny _ _ (call (Value.builtin "len") [Value.ref _]) _ _ _); k_dflt (refine' len_ints ?zqN ?zqm ?zqi ?zqf ?_; (case zqN => k_asm); (case zqm => k_mem); (case zqi => with_reducible assumption); (case zqf => ((try simp only [List.length_append, List.length_replicate, KTBy.little_length]); k_extra "om")); k_whole)))
  (k_with "binaryOp Add ref ref" => (k_here; (with_reducible show wpAny _ _ (binaryOp Operator.Add (Value.ref _) (Value.ref _)) _ _ _); k_dflt (refine' add_ints ?zqF ?zqN ?zqa ?zqb ?zqi ?zqj ?zqf ?_; (case zqF => k_asm); (case zqN => k_asm); (case zqa => k_mem); (case zqb => k_mem); (case zqi => with_reducible assumption); (case zqj => with_reducible assumption); (case zqf => ((try simp only [List.length_append, List.length_replicate, KTBy.little_length]); k_extra "om")); k_whole; intro l' us' h' F' N' I' l1; (try k_lt l1); (try k_sweep))))
  (k_with "binaryOp Mult ref int" => (k_here; (with_reducible show wpAny _ _ (binaryOp Operator.Mult (Value.ref _) (Value.int _ _)) _ _ _); k_dflt (refine' mul_ints ?zqF ?zqN ?zqa ?zqg ?zqf ?_; (case zqF => k_asm); (case zqN => k_asm); (case zqa => k_mem); (case zqg => k_extra "om"); (case zqf => k_extra "om"); k_whole; intro l' us' h' F' N' I' l1; (try k_lt l1); (try k_sweep))))
  (k_with "call ref" => (k_here; (with_reducible show wpAny _ _ (call (Value.ref 388) [Value.ref _, Value.ref _]) _ _ _); k_dflt ((refine' calls_use (parts_calls _ _ _ _ _ _ _ _ _ _ ?zqm ?zqz _ _ _ _ ?zql ?zqi ?zqe) ?zqB ?zqF ?zqX ?zqN ?zqT ?zqk ?zqd ?zqu ?_; (case zqB => k_asm); (case zqF => k_asm); (case zqX => k_asm); (case zqN => k_asm); (case zqT => k_asm); (case zqk => exact rfl); (case zqd => ktr_room); (case zqu => ktr_units); (case zqm => k_mem); (case zql => k_mem); (case zqi => with_reducible assumption); (case zqz => k_extra "om"); (case zqe => ((try simp only [List.length_append, List.length_replicate, KTBy.little_length]); k_extra "om")); k_whole)); intro v' h' tk' F' P'; obtain ⟨l', vs', e', hv', N', hI', hO'⟩ := P'; subst hv'; (replace hO' := allNe_of hO'); (try dsimp only); (try k_fold)))
  (k_with "call builtin:int.to_bytes" => (k_here; (with_reducible show wpAny _ _ (call (Value.builtin "int.to_bytes") [Value.int _ _, Value.int _ _, Value.str _ _]) _ _ _); k_dflt (first | (refine' to_bytes_in (k := 2) (B := 65536) ?zqh1 ?zqh2 ?zqh3 ?zqh4 (fun b' t' k' hb' => ?_); (case zqh1 => decide); (case zqh2 => decide); (case zqh3 => k_extra "om"); (case zqh4 => k_extra "om")) | (refine' to_bytes_in (k := 4) (B := 4294967296) ?zqh1 ?zqh2 ?zqh3 ?zqh4 (fun b' t' k' hb' => ?_); (case zqh1 => decide); (case zqh2 => decide); (case zqh3 => k_extra "om"); (case zqh4 => k_extra "om")) | (refine' to_bytes_all (k := 2) rfl ?zqh (fun hx0 hx1 b' t' k' hb' => ?_) (fun hx h' tk' e' hn' => ?_); (case zqh => decide)) | (refine' to_bytes_all (k := 4) rfl ?zqh (fun hx0 hx1 b' t' k' hb' => ?_) (fun hx h' tk' e' hn' => ?_); (case zqh => decide)) | (refine' to_bytes_all rfl ?zqh (fun hx0 hx1 b' t' k' hb' => ?_) (fun hx h' tk' e' hn' => ?_); (case zqh => k_extra "om")))))
  (k_with "leaving ref" => (k_here; k_dflt (refine' leave_newS ?zqk1 ?zqk0 ?zqk2 ?zqk3 ?_; (case zqk0 => assumption); (case zqk1 => assumption); (case zqk2 => assumption); (case zqk3 => k_asm); k_whole; intro h' R' Rn' U')))
  (k_with "getMethod str" => (k_here; (with_reducible refine encode_method ?_)))
  (k_with "callWith" => (k_here; (with_reducible show wpAny _ _ (callWith _ (Value.builtin _) _ (backTo _ (starEach [] _)) (backToKw _ (keywordEach (_ :: _) _))) _ _ _); k_dflt (refine callWith_kwN ?_)))
  (k_with "call builtin:str.encode" => (k_here; k_dflt (refine' encode_call ?zqhe ?zqhz ?_; (case zqhe => assumption); (case zqhz => assumption); k_whole; intro t' k')))
  (k_with "call builtin:bytes.decode" => (k_here; k_dflt (first | (refine' decode_kw ?zqhd ?zqhe ?zqhz ?_; (case zqhd => assumption); (case zqhe => assumption); (case zqhz => assumption); k_whole; intro t' k') | (refine' decode_ascii ?zqhd ?zqhe ?zqhz ?_; (case zqhd => assumption); (case zqhe => assumption); (case zqhz => assumption); k_whole; intro t' k'))))
  (k_with "binaryOp Add bytes bytes" => (k_here; (with_reducible show wpAny _ _ (binaryOp Operator.Add (Value.bytes _ _) (Value.bytes _ _)) _ _ _); k_dflt (refine' add_b ?zqb ?zqc ?zqz (fun d' t' k' hb' => ?_); (case zqb => first | with_reducible assumption | exact bints_nil); (case zqc => first | with_reducible assumption | exact bints_nil); (case zqz => ((try simp only [List.length_append, List.length_replicate, KTBy.little_length, List.length_cons, List.length_nil]); k_extra "om")))))
  (k_with "call type:bytes" => (k_here; (with_reducible show wpAny _ _ (call (Value.type "bytes") [Value.int _ _]) _ _ _); k_dflt (refine' zeros_call ?zqa ?zqb (fun d' t' k' hb' => ?_); (case zqa => k_extra "om"); (case zqb => k_extra "om"))))
  (k_with "call type:bytes" => (k_here; (with_reducible show wpAny _ _ (call (Value.type "bytes") [Value.ref _]) _ _ _); k_dflt (refine' bytes_of_list rfl ?zqF ?zqN ?zql ?zqi ?zqr ?zqz (fun d' t' k' h' F' N' hb' => ?_); (case zqF => k_asm); (case zqN => k_asm); (case zql => k_mem); (case zqi => with_reducible assumption); (case zqz => ((try simp only [List.length_append, List.length_replicate, KTBy.little_length, List.length_cons, List.length_nil]); k_extra "om")); (case zqr => (repeat' (first | with_reducible assumption | exact rng_little _ _ | exact rng_zeros _ | exact rng_nil | refine rng_app ?_ ?_ | refine rng_cons ⟨by k_extra "om", by k_extra "om"⟩ ?_))))))
  (k_with "call builtin:len" => (k_here; (with_reducible show wpAny _ _ (call (Value.builtin "len") [Value.bytes #[] _]) _ _ _); (with_reducible refine len_nil ?_)))
  (k_with "leaving ref" => (k_here; k_dflt (refine' leave_onE ?zqhf ?zqB ?zqF ?zqR ?zqU ?_; (case zqhf => exact rfl); (case zqR => first | with_reducible assumption | assumption); (case zqB => assumption); (case zqU => assumption); (case zqF => assumption); k_whole; intro h' R' U')))
  (k_with "storeName" => (k_here; k_dflt (first | (refine' store_gi ?zqF ?zqN ?zqa ?zqb ?_; (case zqF => k_asm); (case zqN => k_asm); (case zqa => exact Eq.refl ScopeKind.function); (case zqb => exact Eq.refl (some NameKind.local)); k_whole; intro h' tk' ti' F' N'; (try k_sweep)) | (refine' store_g ?zqF ?zqN ?zqa ?zqb ?_; (case zqF => k_asm); (case zqN => k_asm); (case zqa => exact Eq.refl ScopeKind.function); (case zqb => exact Eq.refl (some NameKind.local)); k_whole; intro h' tk' F' N'; (try k_sweep)))))
  (k_with "fr" => ((with_reducible rename Fr _ _ _ (fun _ ↦ List.lookup _ _) => zrF9); k_dflt (first | (replace zrF9 : Fr _ _ _ (fun y => List.lookup y [(_, _)]) := zrF9) | (replace zrF9 : Fr _ _ _ (fun y => List.lookup y [(_, _), (_, _)]) := zrF9) | (replace zrF9 : Fr _ _ _ (fun y => List.lookup y [(_, _), (_, _), (_, _)]) := zrF9) | (replace zrF9 : Fr _ _ _ (fun y => List.lookup y [(_, _), (_, _), (_, _), (_, _), (_, _), (_, _)]) := zrF9) | (replace zrF9 : Fr _ _ _ (fun y => List.lookup y [(_, _), (_, _), (_, _), (_, _), (_, _)]) := zrF9) | (replace zrF9 : Fr _ _ _ (fun y => List.lookup y [(_, _), (_, _), (_, _), (_, _)]) := zrF9) | (replace zrF9 : Fr _ _ _ (fun y => List.lookup y [(_, _), (_, _), (_, _), (_, _), (_, _), (_, _), (_, _)]) := zrF9)); (try dsimp only at zrF9)))
  (k_with "z k_handed" => with_reducible assumption)
  (k_with "slc find" => first | exact slc_of hz1 (by k_extra "om") (by k_extra "om") | exact slc_of hz2 (by k_extra "om") (by k_extra "om") | exact slc_of hz3 (by k_extra "om") (by k_extra "om") | exact slc_of hz4 (by k_extra "om") (by k_extra "om") | exact slc_of hz5 (by k_extra "om") (by k_extra "om"))
  (k_with "subscriptTail" => (k_here; (with_reducible show wpAny _ _ (subscriptTail _ (Expr.Slice _ _ none _) (Value.bytes _ _) (Value.ref _)) _ _ _); k_dflt (refine' slice_b (s := ⟨_, _, _, _, _⟩) ?zqF ?zqN ?zqb ?zqS ?zql ?zqh ?zqz (fun d' h' t' k' F' N' hb' => ?_); (case zqF => k_asm); (case zqN => k_asm); (case zqb => with_reducible assumption); (case zqS => k_extra "slc find"); (case zql => k_extra "om"); (case zqh => k_extra "om"); (case zqz => k_extra "om"))))
  (k_with "call ref" => (k_here; (with_reducible show wpAny _ _ (call (Value.ref _) [Value.bytes _ _, Value.str _ _]) _ _ _); k_dflt (refine' from_little ?zqN ?zqm ?zqb ?zqv ?zql (fun t' k' => ?_); (case zqN => k_asm); (case zqm => k_mem); (case zqb => with_reducible assumption); (case zqv => with_reducible assumption); (case zql => k_extra "om"))))
  (k_with "call ref" => (k_here; (with_reducible show wpAny _ _ (call (Value.ref _) [Value.ref _, Value.bytes _ _]) _ _ _); (with_reducible rename DeserOk _ _ _ _ => zrhdes); k_dflt (refine' deser_use zrhdes ?zqb ?zqB ?zqF ?zqX ?zqN ?zqT ?zqk ?zqd ?zqu (fun v' h' tk' P' H' F' N' => ?_); (case zqb => with_reducible assumption); (case zqB => k_asm); (case zqF => k_asm); (case zqX => k_asm); (case zqN => k_asm); (case zqT => k_asm); (case zqk => exact rfl); (case zqd => ktr_room); (case zqu => ktr_units))))
  (k_with "callWith ref" => (k_here; (with_reducible show wpAny _ _ (callWith _ (Value.ref _) _ (backTo _ (starEach (_ :: _) _)) []) _ _ _); kfb_any; k_dflt (refine' KFB.callWith_bound ?zqN ?zqM ?_; (case zqN => k_asm); (case zqM => k_mem); k_whole)))
  (k_with "call ref" => (k_here; (with_reducible show wpAny _ _ (call (Value.ref 355) _) _ _ _); k_dflt (refine' calls_use (pages_calls _ _) ?zqB ?zqF ?zqX ?zqN ?zqT ?zqk ?zqd ?zqu ?_; (case zqB => k_asm); (case zqF => k_asm); (case zqX => k_asm); (case zqN => k_asm); (case zqT => k_asm); (case zqk => exact rfl); (case zqd => ktr_room); (case zqu => ktr_units); k_whole); intro v' h' tk' F' P'; obtain ⟨l', vs', e', hv', hI', N', l1⟩ := P'; subst hv'; (try k_lt l1); (try dsimp only); (try k_fold)))
  (k_with "subscriptTail" => (k_here; (with_reducible show wpAny _ _ (subscriptTail _ _ (Value.ref _) (Value.int _ _)) _ _ _); k_dflt (refine' page_get ?zqN ?zqm ?zqi ?zqa ?zqb (fun P' t' hP' => ?_); (case zqN => k_asm); (case zqm => k_mem); (case zqi => with_reducible assumption); (case zqa => k_extra "om"); (case zqb => k_extra "om"))))
  (k_with "call ref" => (k_here; (with_reducible show wpAny _ _ (call (Value.ref 381) [Value.ref _, Value.bool _, Value.int _ _]) _ _ _); (with_reducible rename KeyCalls _ _ _ _ _ _ _ _ _ _ _ _ _ _ _ => zrhkc); k_dflt (refine' key_use zrhkc ?zqm ?zqB ?zqF ?zqX ?zqN ?zqT ?zqk ?zqd ?zqu (fun tup' t' tf' l' vs' h' tk' hg' hi' F' N' hO' => ?_) (fun tup' t' tf' h' tk' hg' F' N' hO' => ?_); (case zqN => k_asm); (case zqm => k_mem); (case zqB => k_asm); (case zqF => k_asm); (case zqX => k_asm); (case zqT => k_asm); (case zqk => exact rfl); (case zqd => ktr_room); (case zqu => ktr_units)); (all_goals (try simp only [AllNe, and_true] at hO')); (all_goals (try k_fold))))
  (k_with "binaryOp Mult int int" => (k_here; (with_reducible refine mul_int ?_ (IntMulOk.of_left (intBits_le_64 (by k_extra "om") (by k_extra "om"))))))
  (k_with "CompSrc" => (k_here; k_dflt (refine LCg.CompSrc.range (by rfl) (by k_asm) (by k_asm) (by assumption) (by first | exact small_one (by kcf_bnd) (by kcf_bnd) (by kcf_bnd) (by kcf_bnd) | decide) (by first | exact rangeSize_nat _ _ | rfl) (by rw [PySem.sizeLine_eq]; k_extra "om") ?_; intro g'; (refine' kcf_range _ (fun k' t' I' oI' C' oC' D' m' ys' h' tk' E' hlo' hhi' hC' hx' F' N' off' ne' hMark' => ?_) ?_); (all_goals (try (simp only [LCg.Off3, and_true] at off'))); kcf_last)))
  (k_with "eval Lambda" => (k_here; k_dflt (refine' kla_eval ?zqd0 ?_; (case zqd0 => exact rfl)); k_dflt (refine' lam_make ?zqF ?zqN ?zqT ?zqC ?zqcd ?zqU ?zqO ?zqsub ?zqcl (fun f' c' oc' vs' t' ct' ps' h' tk' F' N' O' d1' d2' l1 hk' => ?_); (case zqF => k_asm); (case zqN => k_asm); (case zqT => k_asm); (case zqC => with_reducible assumption); (case zqcd => exact rfl); (case zqU => k_updF); (case zqO => ((with_reducible rename TabOk _ _ _ => zrhO'); exact tabOk_q zrhO' (by kernel_rfl))); (case zqsub => first | (intro q hq; k_mem; done) | kcf_all); (case zqcl => exact rfl)); (try dsimp only at N'); (try k_lt l1)))
  (k_with "call ref" => (k_here; (with_reducible show wpAny _ _ (call (Value.ref 381) [Value.ref _, Value.bool _, Value.int _ _]) _ _ _); (with_reducible rename KeyCalls _ _ _ _ _ _ _ _ _ _ _ _ _ _ _ => zrhkc); k_dflt (refine' key_use2 zrhkc ?zqm ?zqB ?zqF ?zqX ?zqN ?zqT ?zqk ?zqd ?zqu (fun tup' t' tf' ov' fv' l' ol' h' tk' hA' F' N' hO' => ?_); (case zqN => k_asm); (case zqm => k_mem); (case zqB => k_asm); (case zqF => k_asm); (case zqX => k_asm); (case zqT => k_asm); (case zqk => exact rfl); (case zqd => ktr_room); (case zqu => ktr_units)); (have hH' := keyAns_hand hA'); (obtain ⟨hO1', hO2'⟩ := hO'); (try k_fold)))
  (k_with "call ref" => (k_here; (with_reducible show wpAny _ _ (call (Value.ref 395) [Value.ref _]) _ _ _); refine hold_in ?_))
  (k_with "call ref" => (k_here; (with_reducible show wpAny _ _ (call (Value.ref 232) _ _) _ _ _); k_dflt (first | (refine' recN_use ?zqB ?zqF ?zqX ?zqN ?zqT ?zqk ?zqd ?zqu (rec_page _ _ _ _ _ _ _ _ _ _ ?zqm ?zqcs _ _ _) (fun x' dx' k1' k2' k3' k4' k5' tl' h' tk' l1 l2 F' N' => ?_); (case zqN => k_asm); (case zqB => k_asm); (case zqF => k_asm); (case zqX => k_asm); (case zqT => k_asm); (case zqk => exact rfl); (case zqd => ktr_room); (case zqu => ktr_units); (case zqm => k_mem); (case zqcs => assumption)) | (refine' recV_ok ?zqB ?zqF ?zqX ?zqN ?zqT ?zqk ?zqd ?zqu ?zql (rec_value _ _ _ _ _ _ _ _ _ _ ?zqm ?zqcs _ _ _ _ ?zqb ?zql2) (fun x' dx' k1' k2' k3' k4' k5' tl' h' tk' l1 l2 F' N' => ?_); (case zqN => k_asm); (case zqB => k_asm); (case zqF => k_asm); (case zqX => k_asm); (case zqT => k_asm); (case zqk => exact rfl); (case zqd => ktr_room); (case zqu => ktr_units); (case zqm => k_mem); (case zqcs => assumption); (case zqb => with_reducible assumption); (case zql => with_reducible assumption); (case zql2 => k_extra "om")) | (refine' recV_no ?zqB ?zqF ?zqX ?zqN ?zqT ?zqk ?zqd ?zqu ?zql (rec_value _ _ _ _ _ _ _ _ _ _ ?zqm ?zqcs _ _ _ _ ?zqb ?zql2) (fun e' h' tk' g' F' R' U' => ?_); (case zqN => k_asm); (case zqB => k_asm); (case zqF => k_asm); (case zqX => k_asm); (case zqT => k_asm); (case zqk => exact rfl); (case zqd => ktr_room); (case zqu => ktr_units); (case zqm => k_mem); (case zqcs => assumption); (case zqb => with_reducible assumption); (case zql => with_reducible assumption); (case zql2 => k_extra "om")) | ((with_reducible rename KeyKind _ _ _ _ _ _ _ _ _ _ => zrhKK); (refine' recBo_use ?zqB ?zqF ?zqX ?zqN ?zqT ?zqk ?zqd ?zqu (rec_back_out _ _ _ _ _ _ _ _ _ _ _ ?zqm ?zqcs ?zqs2 _ _ _ ?zqs1 _ _ _ _ _ zrhKK ?zqg _ ?zqp0 ?zqp1 _ _ ?zqb) (fun t9 t8 x' dx' k1' k2' k3' k4' k5' tl' h' tk' F' N' => ?_); (case zqN => k_asm); (case zqB => k_asm); (case zqF => k_asm); (case zqX => k_asm); (case zqT => k_asm); (case zqk => exact rfl); (case zqd => ktr_room); (case zqu => ktr_units); (case zqb => with_reducible assumption); (case zqm => k_mem); (case zqcs => assumption); (case zqs1 => k_mem); (case zqs2 => k_mem); (case zqg => with_reducible assumption); (case zqp0 => k_extra "om"); (case zqp1 => k_extra "om"))) | ((with_reducible rename KeyKind _ _ _ _ _ _ _ _ _ _ => zrhKK); (refine' recBi_use ?zqB ?zqF ?zqX ?zqN ?zqT ?zqk ?zqd ?zqu (rec_back_in _ _ _ _ _ _ _ _ _ _ _ ?zqm ?zqcs ?zqs2 _ _ _ ?zqs1 _ _ _ _ _ zrhKK ?zqg _ ?zqn _ _ ?zqb) (fun t9 b8 t8 x' dx' k1' k2' k3' k4' k5' tl' h' tk' hb8 F' N' => ?_); (case zqN => k_asm); (case zqB => k_asm); (case zqF => k_asm); (case zqX => k_asm); (case zqT => k_asm); (case zqk => exact rfl); (case zqd => ktr_room); (case zqu => ktr_units); (case zqb => with_reducible assumption); (case zqm => k_mem); (case zqcs => assumption); (case zqs1 => k_mem); (case zqs2 => k_mem); (case zqg => with_reducible assumption); (case zqn => with_reducible assumption))) | (refine' recN_use ?zqB ?zqF ?zqX ?zqN ?zqT ?zqk ?zqd ?zqu (rec_plain _ _ _ _ _ _ _ _ _ _ ?zqm ?zqcs _) (fun x' dx' k1' k2' k3' k4' k5' tl' h' tk' l1 l2 F' N' => ?_); (case zqN => k_asm); (case zqB => k_asm); (case zqF => k_asm); (case zqX => k_asm); (case zqT => k_asm); (case zqk => exact rfl); (case zqd => ktr_room); (case zqu => ktr_units); (case zqm => k_mem); (case zqcs => assumption))); (try k_fold)))
  (k_with "call ref" => (k_here; (with_reducible show wpAny _ _ (call (Value.ref 273) _ _) _ _ _); k_dflt (first | (refine' refN_use ?zqB ?zqF ?zqX ?zqN ?zqT ?zqk ?zqd ?zqu (ref_new _ _ _ _ _ _ _ _ _ _ ?zqm ?zqcs _ _ _) (fun x' dx' k1' k2' k3' k4' k5' tl' h' tk' l1 l2 F' N' => ?_); (case zqN => k_asm); (case zqB => k_asm); (case zqF => k_asm); (case zqX => k_asm); (case zqT => k_asm); (case zqk => exact rfl); (case zqd => ktr_room); (case zqu => ktr_units); (case zqm => k_mem); (case zqcs => assumption)) | ((with_reducible rename KeyKind _ _ _ _ _ _ _ _ _ _ => zrhKK); (refine' refB_use ?zqB ?zqF ?zqX ?zqN ?zqT ?zqk ?zqd ?zqu (ref_back _ _ _ _ _ _ _ _ _ _ _ ?zqm ?zqcs ?zqs2 _ _ _ ?zqs1 _ _ _ _ _ zrhKK ?zqg _ _ ?zqp0 ?zqp1 ?zqp2 ?zqp3 _ _ ?zqb) (fun t9 t8 t7 x' dx' k1' k2' k3' k4' k5' tl' h' tk' F' N' => ?_); (case zqN => k_asm); (case zqB => k_asm); (case zqF => k_asm); (case zqX => k_asm); (case zqT => k_asm); (case zqk => exact rfl); (case zqd => ktr_room); (case zqu => ktr_units); (case zqb => with_reducible assumption); (case zqm => k_mem); (case zqcs => assumption); (case zqs1 => k_mem); (case zqs2 => k_mem); (case zqg => with_reducible assumption); (case zqp0 => k_extra "om"); (case zqp1 => k_extra "om"); (case zqp2 => k_extra "om"); (case zqp3 => k_extra "om"))) | (refine' refN_use ?zqB ?zqF ?zqX ?zqN ?zqT ?zqk ?zqd ?zqu (ref_plain _ _ _ _ _ _ _ _ _ _ ?zqm ?zqcs _) (fun x' dx' k1' k2' k3' k4' k5' tl' h' tk' l1 l2 F' N' => ?_); (case zqN => k_asm); (case zqB => k_asm); (case zqF => k_asm); (case zqX => k_asm); (case zqT => k_asm); (case zqk => exact rfl); (case zqd => ktr_room); (case zqu => ktr_units); (case zqm => k_mem); (case zqcs => assumption))); (try k_fold)))
  (k_with "call ref" => (k_here; (with_reducible show wpAny _ _ (call (Value.ref 222) _) _ _ _); (with_reducible rename KeyKind _ _ _ _ _ _ _ _ _ _ => zrhKK); k_dflt (first | (refine' dumpO_use ?zqB ?zqF ?zqX ?zqN ?zqT ?zqk ?zqd ?zqu (dump_out_ok _ _ _ _ _ _ _ _ _ _ _ ?zqm ?zqcs ?zqs2 _ _ _ ?zqs1 _ _ _ _ _ zrhKK _ _ _ _ _ _ _ _ _ ?zqg _ _ ?zqp0 ?zqp1 ?zqx ?zqy) (fun b9 t9 h' tk' hb9 F' N' => ?_); (case zqg => with_reducible assumption); (case zqN => k_asm); (case zqB => k_asm); (case zqF => k_asm); (case zqX => k_asm); (case zqT => k_asm); (case zqk => exact rfl); (case zqd => ktr_room); (case zqu => ktr_units); (case zqx => k_mem); (case zqy => k_mem); (case zqm => k_mem); (case zqcs => assumption); (case zqs1 => k_mem); (case zqs2 => k_mem); (case zqp0 => k_extra "om"); (case zqp1 => k_extra "om")) | (refine' dumpO_use ?zqB ?zqF ?zqX ?zqN ?zqT ?zqk ?zqd ?zqu (dump_in_ok _ _ _ _ _ _ _ _ _ _ _ ?zqm ?zqcs ?zqs2 _ _ _ ?zqs1 _ _ _ _ _ zrhKK _ _ _ _ _ _ _ _ _ ?zqg _ _ _ ?zqb ?zql ?zqx ?zqy) (fun b9 t9 h' tk' hb9 F' N' => ?_); (case zqg => with_reducible assumption); (case zqN => k_asm); (case zqB => k_asm); (case zqF => k_asm); (case zqX => k_asm); (case zqT => k_asm); (case zqk => exact rfl); (case zqd => ktr_room); (case zqu => ktr_units); (case zqx => k_mem); (case zqy => k_mem); (case zqm => k_mem); (case zqcs => assumption); (case zqs1 => k_mem); (case zqs2 => k_mem); (case zqb => with_reducible assumption); (case zql => with_reducible assumption)) | (refine' dumpN_use ?zqB ?zqF ?zqX ?zqN ?zqT ?zqk ?zqd ?zqu (dump_out _ _ _ _ _ _ _ _ _ _ _ ?zqm ?zqcs ?zqs2 _ _ _ ?zqs1 _ _ _ _ _ zrhKK _ _ _ _ _ _ _ _ _ _ _ ?zqp0 ?zqx ?zqy) (fun hg9 hn9 b9 t9 h' tk' hb9 F' N' => ?_) (fun c' e' h' tk' g' C' F' R' U' => ?_); (case zqN => k_asm); (case zqB => k_asm); (case zqF => k_asm); (case zqX => k_asm); (case zqT => k_asm); (case zqk => exact rfl); (case zqd => ktr_room); (case zqu => ktr_units); (case zqx => k_mem); (case zqy => k_mem); (case zqm => k_mem); (case zqcs => assumption); (case zqs1 => k_mem); (case zqs2 => k_mem); (case zqp0 => k_extra "om")) | (refine' dumpN_use ?zqB ?zqF ?zqX ?zqN ?zqT ?zqk ?zqd ?zqu (dump_in _ _ _ _ _ _ _ _ _ _ _ ?zqm ?zqcs ?zqs2 _ _ _ ?zqs1 _ _ _ _ _ zrhKK _ _ _ _ _ _ _ _ _ _ _ _ ?zqb ?zql ?zqx ?zqy) (fun hg9 hn9 b9 t9 h' tk' hb9 F' N' => ?_) (fun c' e' h' tk' g' C' F' R' U' => ?_); (case zqN => k_asm); (case zqB => k_asm); (case zqF => k_asm); (case zqX => k_asm); (case zqT => k_asm); (case zqk => exact rfl); (case zqd => ktr_room); (case zqu => ktr_units); (case zqx => k_mem); (case zqy => k_mem); (case zqm => k_mem); (case zqcs => assumption); (case zqs1 => k_mem); (case zqs2 => k_mem); (case zqb => with_reducible assumption); (case zql => with_reducible assumption))); (try k_fold)))
  (k_with "call ref" => (k_here; (with_reducible show wpAny _ _ (call (Value.ref 263) _) _ _ _); (with_reducible rename KeyKind _ _ _ _ _ _ _ _ _ _ => zrhKK); k_dflt (first | (refine' callsX_use ?zqB ?zqF ?zqX ?zqN ?zqT ?zqk ?zqd ?zqu (refdump_no _ _ _ _ _ _ _ _ _ ?zqhb ?zqha ?zqhn _ _ _ _ _ _ _ ?zqx ?zqy) (fun e' h' tk' g' F' R' U' => ?_); (case zqhn => with_reducible assumption); (case zqN => k_asm); (case zqB => k_asm); (case zqF => k_asm); (case zqX => k_asm); (case zqT => k_asm); (case zqk => exact rfl); (case zqd => ktr_room); (case zqu => ktr_units); (case zqx => k_mem); (case zqy => k_mem); (case zqhb => with_reducible assumption); (case zqha => with_reducible assumption)) | (refine' dumpO_use ?zqB ?zqF ?zqX ?zqN ?zqT ?zqk ?zqd ?zqu (dump_ref_ok _ _ _ _ _ _ _ _ _ _ _ ?zqm ?zqcs ?zqs2 _ _ _ ?zqs1 _ _ _ _ _ zrhKK _ _ _ _ _ _ _ _ _ ?zqg _ _ _ _ ?zqp0 ?zqp1 ?zqp2 ?zqp3 ?zqx ?zqy) (fun b9 t9 h' tk' hb9 F' N' => ?_); (case zqg => with_reducible assumption); (case zqN => k_asm); (case zqB => k_asm); (case zqF => k_asm); (case zqX => k_asm); (case zqT => k_asm); (case zqk => exact rfl); (case zqd => ktr_room); (case zqu => ktr_units); (case zqx => k_mem); (case zqy => k_mem); (case zqm => k_mem); (case zqcs => assumption); (case zqs1 => k_mem); (case zqs2 => k_mem); (case zqp0 => k_extra "om"); (case zqp1 => k_extra "om"); (case zqp2 => k_extra "om"); (case zqp3 => k_extra "om")) | (refine' dumpN_use ?zqB ?zqF ?zqX ?zqN ?zqT ?zqk ?zqd ?zqu (dump_ref _ _ _ _ _ _ _ _ _ _ _ ?zqm ?zqcs ?zqs2 _ _ _ ?zqs1 _ _ _ _ _ zrhKK _ _ _ _ _ _ _ _ _ _ _ _ _ ?zqp0 ?zqp1 ?zqx ?zqy) (fun hg9 hn9 b9 t9 h' tk' hb9 F' N' => ?_) (fun c' e' h' tk' g' C' F' R' U' => ?_); (case zqN => k_asm); (case zqB => k_asm); (case zqF => k_asm); (case zqX => k_asm); (case zqT => k_asm); (case zqk => exact rfl); (case zqd => ktr_room); (case zqu => ktr_units); (case zqx => k_mem); (case zqy => k_mem); (case zqm => k_mem); (case zqcs => assumption); (case zqs1 => k_mem); (case zqs2 => k_mem); (case zqp0 => k_extra "om"); (case zqp1 => k_extra "om"))); (try k_fold)))
  (k_with "compareOp NotEq bytes bytes" => (k_here; (with_reducible show wpAny _ _ (compareOp CmpOp.NotEq (Value.bytes _ _) (Value.bytes _ _)) _ _ _); refine' ne_b ?zqa ?zqb ?zqe ?_; (case zqa => with_reducible assumption); (case zqb => with_reducible assumption); (case zqe => k_extra "rows")))
  (k_with "compareOp Eq bytes bytes" => (k_here; (with_reducible show wpAny _ _ (compareOp CmpOp.Eq (Value.bytes _ _) (Value.bytes _ _)) _ _ _); refine' eq_b ?zqa ?zqb ?zqe ?_; (case zqa => with_reducible assumption); (case zqb => with_reducible assumption); (case zqe => k_extra "rows")))
  (k_with "compareOp Eq ref ref" => (k_here; (with_reducible show wpAny _ _ (compareOp CmpOp.Eq (Value.ref _) (Value.ref _)) _ _ _); k_dflt (refine' tup_eq ?zqN ?zqa ?zqb ?zqu ?zqe ?_; (case zqN => k_asm); (case zqa => k_mem); (case zqb => k_mem); (case zqu => ktr_units); (case zqe => k_extra "all at"))))
  (k_with "compareOp NotEq ref ref" => (k_here; (with_reducible show wpAny _ _ (compareOp CmpOp.NotEq (Value.ref _) (Value.ref _)) _ _ _); k_dflt (refine' tup_ne ?zqN ?zqa ?zqb ?zqu ?zqe ?_; (case zqN => k_asm); (case zqa => k_mem); (case zqb => k_mem); (case zqu => ktr_units); (case zqe => k_extra "all at"))))
  (k_with "compareOp NotEq int int" => (k_here; (with_reducible show wpAny _ _ (compareOp CmpOp.NotEq (Value.int _ _) (Value.int _ _)) _ _ _); refine' ne_same ?zqq1 ?_; (case zqq1 => ((try simp only [List.length_append, List.length_replicate, KTBy.little_length, List.length_cons, List.length_nil]); k_extra "om"))))
  (k_with "compareOp Eq int int" => (k_here; (with_reducible show wpAny _ _ (compareOp CmpOp.Eq (Value.int _ _) (Value.int _ _)) _ _ _); first | (refine' eq_same ?zqq1 ?_; (case zqq1 => k_extra "om")) | (refine' eq_diff ?zqq1 ?_; (case zqq1 => k_extra "om"))))
  (k_with "compareOp NotEq" => (k_here; (with_reducible show wpAny _ _ (compareOp CmpOp.NotEq _ _) _ _ _); (with_reducible rename KeyEq _ => zrhke); (with_reducible refine' zrhke.ne' _ _ _ _ _ _ _ _ ?_)))
  (k_with "rows" => first | (with_reducible exact rfl) | exact row_out _ _ _ _ | exact row_in _ _ _ _ (by with_reducible assumption) | exact row_ref _ _ _ _)
  (k_with "z k_handed" => ((with_reducible rename KeyKind _ _ _ _ _ _ _ _ _ _ => zrhKK); exact zrhKK.hand _))
  (k_with "all at" => ((try (with_reducible rename KeyEq _ => zrhke)); (repeat' (refine And.intro ?_ ?_)); (all_goals first | exact trivial | exact zrhke.at' _ _ _ _ | exact PySem.SeqAt.EqAt.same _ | exact at_int _ _ _ | (refine at_bytes (by with_reducible assumption) (by with_reducible assumption) ?_; k_extra "rows") | (refine at_int' ?_; ((try simp only [List.length_append, List.length_replicate, KTBy.little_length, List.length_cons, List.length_nil]); k_extra "om")))))
  (k_with "binaryOp FloorDiv int int" => (k_here; (with_reducible refine fdiv_small (by k_extra "om") (by k_extra "om") ?_)))
  (k_with "all ne" => ((try simp only [AllNe]); (repeat' (refine And.intro ?_ ?_)); all_goals (first | k_extra "om" | exact allNe_of_allLt (by with_reducible assumption) | with_reducible assumption)))
  (k_with "call builtin:list.append" => (k_here; (with_reducible show wpAny _ _ (call (Value.builtin _) [Value.ref _, Value.int _ _]) _ _ _); k_dflt (refine' app_U ?zqF ?zqN ?zqU ?zqi ?zqz (fun h' F' N' I' => ?_); (case zqF => k_asm); (case zqN => k_asm); (case zqU => k_updF); (case zqi => with_reducible assumption); (case zqz => k_extra "om")); (try dsimp only at N')))
  (k_with "call builtin:list.pop" => (k_here; k_dflt (refine' pop_U ?zqF ?zqN ?zqU ?zqi ?zqz ?zqn (fun y' h' F' N' I' => ?_); (case zqF => k_asm); (case zqN => k_asm); (case zqU => k_updF); (case zqi => with_reducible assumption); (case zqz => k_extra "om"); (case zqn => k_extra "om")); (try dsimp only at N')))
  (k_with "call builtin:isinstance" => (k_here; (with_reducible show wpAny _ _ (call _ [Value.str _ _, Value.ref _]) _ _ _); k_dflt (first | (refine' isi_no_rec ?zqF ?zqX (fun tk' => ?_); (case zqF => k_asm); (case zqX => k_asm)) | (refine' isi_no_ref ?zqF ?zqX (fun tk' => ?_); (case zqF => k_asm); (case zqX => k_asm)))))
  (k_with "subscriptTail Name Slice ref ref" => (k_here; (with_reducible show wpAny _ _ (subscriptTail _ (PySem.Expr.Slice none (some _) none _) (Value.ref _) (Value.ref _)) _ _ _); k_dflt (refine' kmk_slice_ints (s := ⟨_, _, _, _, _⟩) ?zqF ?zqN ?zql ?zqp ?zqq ?zqi ?zqm ?zqc ?_ ?zqs ?zqt ?zqz; (case zqF => k_asm); (case zqN => k_asm); (case zql => exact News.isList (by k_asm) (by k_mem)); (case zqp => exact IsPart.none); (case zqq => exact IsPart.int _ _); (case zqi => with_reducible assumption); (case zqm => exact kmk_upto (by with_reducible assumption) (by with_reducible assumption)); (case zqc => exact List.length_take ..); (case zqs => with_unfolding_all rfl); (case zqt => kmk_pure); (case zqz => exact kmk_sz (by with_reducible assumption) (by rw [sizeLine_eq]; k_extra "om")); intro D' ws' h' F' N' l1 hI' hC' hL'; (try k_lt l1); (try k_sweep))))
  (k_with "call builtin:isinstance" => (k_here; (with_reducible show wpAny _ _ (call _ [Value.ref _, Value.ref _]) _ _ _); k_dflt (refine' isi_call ?zqk1 ?zqk2 ?zqk3 ?zqk4 ?_; (case zqk1 => k_in); (case zqk2 => k_types); (case zqk3 => k_is); (case zqk4 => intro e; cases e); k_whole)))
  trivial
/-- a text of these octets -/
def xOf (ns : List Int) : Str := ⟨(ns.map Int.toNat).toArray⟩
/-- what a serializer reads out of these octets -/
def rk (tx : Bool) (ns : List Int) (t : Tok) : Value := if tx then .str (xOf ns) t else .int (KFB.value ns.reverse) t
theorem keyEq_rk (tx : Bool) (ns : List Int) : KeyEq (rk tx ns) := by
  cases tx
  · exact keyEq_int _
  · exact keyEq_str _
theorem rk_hand (tx : Bool) (ns : List Int) (t : Tok) : handedIn (rk tx ns t) = true := by cases tx <;> rfl
theorem cps_of {b : Array UInt8} {ns : List Int} (hb : KBw.bInts b = ns) : b.map (·.toNat) = (xOf ns).cps := by
  subst hb
  unfold xOf KBw.bInts
  apply Array.ext'
  simp [Function.comp_def]
theorem size_of {b : Array UInt8} {ns : List Int} (hb : KBw.bInts b = ns) : b.size = ns.length := by
  subst hb
  unfold KBw.bInts
  simp
theorem byte_lt {b : Array UInt8} {ns : List Int} (hb : KBw.bInts b = ns) (hr : ∀ n ∈ ns, 0 ≤ n ∧ n < 128) (p : Nat) (hp : p < b.size) : (b.getD p 0).toNat < 128 := by
  subst hb
  have h := hr (((b.getD p 0).toNat : Nat) : Int) (by
    unfold KBw.bInts
    refine List.mem_map.mpr ⟨b.getD p 0, ?_, rfl⟩
    rw [Array.getD, dif_pos hp]
    exact Array.getElem_mem_toList hp)
  omega
section
open PySem.Builtin PySem.Builtin._codecs
theorem dec_utf8 {b : Array UInt8} {ns : List Int} (hb : KBw.bInts b = ns) (hl : ns.length ≤ 5) (hr : ∀ n ∈ ns, 0 ≤ n ∧ n < 128) (id : String) : runDecoder id utf8Decoder none true b 0 [] = pure ((xOf ns).cps, b.size) := by
  rw [← cps_of hb]
  refine run_plain utf8Decoder b (by rw [size_of hb]; exact hl) (fun p hp => ?_) id
  have h := byte_lt hb hr p hp
  have e : Bytes.utf8At b p = (.char (b.getD p 0).toNat, p + 1) := by
    unfold Bytes.utf8At
    simp only [if_pos h]
  unfold utf8Decoder
  simp only [e]
  rfl
theorem dec_ascii {b : Array UInt8} {ns : List Int} (hb : KBw.bInts b = ns) (hl : ns.length ≤ 5) (hr : ∀ n ∈ ns, 0 ≤ n ∧ n < 128) (id : String) : runDecoder id asciiDecoder none true b 0 [] = pure ((xOf ns).cps, b.size) := by
  rw [← cps_of hb]
  refine run_plain asciiDecoder b (by rw [size_of hb]; exact hl) (fun p hp => ?_) id
  have h := byte_lt hb hr p hp
  show (if (b.getD p 0).toNat < 128 then Found.char (b.getD p 0).toNat (p + 1) else _) = _
  rw [if_pos h]
  rfl
end
theorem xOf_empty {b : Array UInt8} {ns : List Int} (hb : KBw.bInts b = ns) (he : b.isEmpty = true) : xOf ns = Str.empty := by
  have : b.size = 0 := by simpa [Array.isEmpty] using he
  have h := size_of hb
  have hn : ns = [] := List.length_eq_zero_iff.mp (by k_extra "om")
  subst hn
  rfl
theorem xOf_len (ns : List Int) : (xOf ns).length = ns.length := by
  show (xOf ns).cps.size = _
  unfold xOf
  simp
theorem deserOk_rk (w : World) (tx : Bool) (sC dfn : Addr) (hcls : (tx = false ∧ sC = 320 ∧ dfn = 317) ∨ (tx = true ∧ sC = 346 ∧ dfn = 343)) (ns : List Int) (hl : ns.length ≤ 5) (hr : ∀ n ∈ ns, 0 ≤ n ∧ n < 128) : DeserOk w dfn ns (fun v => ∃ t, v = rk tx ns t) := by
  rcases hcls with ⟨rfl, _, rfl⟩ | ⟨rfl, _, rfl⟩
  · exact deserOk_int w ns (by k_extra "om")
  · exact deserOk_str w ns (xOf ns) ns.length (fun b hb => ⟨fun id => by rw [← size_of hb]; exact dec_utf8 hb hl hr id, xOf_empty hb⟩) (by rw [xOf_len]; omega)
section
variable {prog : Program} {w : World} {A : Around} {E : Value → Shared → Prop} {s : Shared}
theorem decode_pl {b : Array UInt8} {ns : List Int} {t u : Tok} {Q : Value → Shared → Prop} (hb : KBw.bInts b = ns) (hl : ns.length ≤ 5) (hr : ∀ n ∈ ns, 0 ≤ n ∧ n < 128) (h : ∀ t' k', Q (.str (xOf ns) t') { s with toks := k' }) :
    wpAny (model prog w) A (call (.builtin "bytes.decode") [.bytes b t, .str (PySem.Str.ofString "ascii") u]) Q E s :=
  decode_ascii (fun id => dec_ascii hb hl hr id) (xOf_empty hb) (by rw [xOf_len]; omega) h
end

end
section
theorem take_slice (a b c : List Int) (n : Nat) : a ++ b ++ c = a ++ (b.take n ++ (b.drop n ++ c)) := by
  rw [List.append_assoc, ← List.append_assoc (b.take n), List.take_append_drop]
/-- the octets that the law lays for reading -/
def rowD (U Fl : Int) (KL VL PL : List Int) : List Int := KTBy.little 2 U ++ KL ++ KTBy.little 2 Fl ++ VL ++ PL
def rowF (O U : Int) (KL PL : List Int) : List Int := KTBy.little 4 O ++ KTBy.little 2 U ++ KL ++ PL
theorem rowD_len {U Fl : Int} {KL VL PL : List Int} {ks vsz : Nat} (hK : KL.length = ks) (hV : VL.length = vsz) (hP : PL.length = 4) : (rowD U Fl KL VL PL).length = 2 + ks + 2 + vsz + 4 := by
  unfold rowD
  simp only [List.length_append, KTBy.little_length]
  rw [hK, hV, hP]
theorem rowF_len {O U : Int} {KL PL : List Int} {ks : Nat} (hK : KL.length = ks) (hP : PL.length = 4) : (rowF O U KL PL).length = 2 * 4 + 2 + ks := by
  unfold rowF
  simp only [List.length_append, KTBy.little_length]
  rw [hK, hP, Nat.add_right_comm]
theorem int_lt {a : Nat} {U : Int} (h0 : 0 ≤ U) (h : U < a + 2) (h5 : a ≤ 5) : U < 256 ^ 2 := by rw [show (256 : Int) ^ 2 = 65536 from by decide]; omega
theorem ln2 (a b c d e : Nat) (h1 : a = b) (h2 : c = d) : 2 + a + 2 + c + e = 2 + b + 2 + d + e := by rw [h1, h2]
theorem rowD_slc {U Fl : Int} {KL VL PL : List Int} {ks vsz : Nat} (hU0 : 0 ≤ U) (hU : U ≤ ks) (hF0 : 0 ≤ Fl) (hF1 : Fl < vsz + 2) (hK : KL.length = ks) (hV : VL.length = vsz) (hP : PL.length = 4) :
    Slc (rowD U Fl KL VL PL) 2 (2 + U) (KL.take U.toNat) ∧ Slc (rowD U Fl KL VL PL) (2 + (ks : Int)) (2 + (ks : Int) + 2) (KTBy.little 2 Fl) ∧ Slc (rowD U Fl KL VL PL) (2 + (ks : Int) + 2) (2 + (ks : Int) + 2 + Fl) ((VL ++ PL).take Fl.toNat) ∧
      Slc (rowD U Fl KL VL PL) (2 + (ks : Int) + 2 + (vsz : Int)) (2 + (ks : Int) + 2 + (vsz : Int) + 4) PL ∧ (KL.take U.toNat).length ≤ ks ∧ ((VL ++ PL).take Fl.toNat).length ≤ Fl.toNat := by
  obtain ⟨u, rfl⟩ := Int.eq_ofNat_of_zero_le hU0
  obtain ⟨f, rfl⟩ := Int.eq_ofNat_of_zero_le hF0
  have hu : u ≤ ks := Int.ofNat_le.mp hU
  have hf : f ≤ (VL ++ PL).length := by rw [List.length_append, hV, hP]; omega
  rw [Int.toNat_natCast, Int.toNat_natCast]
  refine ⟨slc_nat 2 (2 + u) (A := KTBy.little 2 u) (B := KL.drop u ++ (KTBy.little 2 f ++ VL ++ PL)) (by rw [← take_slice]; simp [rowD]) rfl rfl (by rw [KTBy.little_length]) (by rw [List.length_take, hK, Nat.min_eq_left hu]),
    slc_nat (2 + ks) (2 + ks + 2) (A := KTBy.little 2 u ++ KL) (B := VL ++ PL) (by simp [rowD]) rfl rfl (by rw [List.length_append, KTBy.little_length, hK]) (by rw [KTBy.little_length]),
    slc_nat (2 + ks + 2) (2 + ks + 2 + f) (A := KTBy.little 2 u ++ KL ++ KTBy.little 2 f) (B := (VL ++ PL).drop f) (by rw [List.take_append_drop]; simp [rowD]) rfl rfl (by rw [List.length_append, List.length_append, KTBy.little_length, KTBy.little_length, hK]) (by rw [List.length_take, Nat.min_eq_left hf]),
    slc_nat (2 + ks + 2 + vsz) (2 + ks + 2 + vsz + 4) (A := KTBy.little 2 u ++ KL ++ KTBy.little 2 f ++ VL) (B := []) (by simp [rowD]) rfl rfl (by rw [List.length_append, List.length_append, List.length_append, KTBy.little_length, KTBy.little_length, hK, hV]) (by rw [hP]), ?_, ?_⟩
  · rw [List.length_take, hK]; exact Nat.min_le_right _ _
  · rw [List.length_take]; exact Nat.min_le_left _ _
theorem rowF_slc {O U : Int} {KL PL : List Int} {ks : Nat} (hU0 : 0 ≤ U) (hU : U ≤ ks) (hK : KL.length = ks) (hP : PL.length = 4) :
    Slc (rowF O U KL PL) 0 4 (KTBy.little 4 O) ∧ Slc (rowF O U KL PL) (4 + 2) (4 + 2 + U) (KL.take U.toNat) ∧ Slc (rowF O U KL PL) (4 + 2 + (ks : Int)) (4 + 2 + (ks : Int) + 4) PL ∧ (KL.take U.toNat).length ≤ ks := by
  obtain ⟨u, rfl⟩ := Int.eq_ofNat_of_zero_le hU0
  have hu : u ≤ ks := Int.ofNat_le.mp hU
  rw [Int.toNat_natCast]
  refine ⟨slc_nat 0 4 (A := []) (B := KTBy.little 2 u ++ KL ++ PL) (by simp [rowF]) rfl rfl rfl (by rw [KTBy.little_length]),
    slc_nat 6 (6 + u) (A := KTBy.little 4 O ++ KTBy.little 2 u) (B := KL.drop u ++ PL) (by rw [← take_slice]; simp [rowF]) rfl rfl (by rw [List.length_append, KTBy.little_length, KTBy.little_length]) (by rw [List.length_take, hK, Nat.min_eq_left hu]),
    slc_nat (6 + ks) (6 + ks + 4) (A := KTBy.little 4 O ++ KTBy.little 2 u ++ KL) (B := []) (by simp [rowF]) rfl rfl (by rw [List.length_append, List.length_append, KTBy.little_length, KTBy.little_length, hK]) (by rw [hP]), ?_⟩
  rw [List.length_take, hK]; exact Nat.min_le_right _ _
theorem dl_len {D DR : List Int} {wr : Prop} {n : Nat} (len : D.length = n) (hn : 1 < n) (hn2 : n ≤ 900) (hD : (wr ∧ (DR = D ++ [0] ∨ DR = D.dropLast)) ∨ (¬ wr ∧ DR = D)) : 0 < DR.length ∧ DR.length ≤ 1000 ∧ (wr → DR.length ≠ n) := by
  rcases hD with ⟨_, rfl | rfl⟩ | ⟨hw, rfl⟩
  · rw [List.length_append, List.length_singleton, len]; exact ⟨Nat.succ_pos _, Nat.le_trans (Nat.succ_le_succ hn2) (by decide), fun _ => Nat.succ_ne_self n⟩
  · rw [List.length_dropLast, len]; exact ⟨Nat.sub_pos_of_lt hn, Nat.le_trans (Nat.sub_le n 1) (Nat.le_trans hn2 (by decide)), fun _ => Nat.ne_of_lt (Nat.sub_lt (Nat.lt_trans (by decide) hn) (by decide))⟩
  · exact ⟨by k_extra "om", by k_extra "om", fun h => absurd h hw⟩
theorem n_rec {ks vsz : Nat} (h1 : ks ≤ 5) (h2 : vsz ≤ 5) : 1 < 2 + ks + 2 + vsz + 4 ∧ 2 + ks + 2 + vsz + 4 ≤ 900 :=
  ⟨Nat.lt_of_lt_of_le (by decide) (Nat.le_add_left 4 _), Nat.le_trans (Nat.add_le_add_right (Nat.add_le_add (Nat.add_le_add_right (Nat.add_le_add_left h1 2) 2) h2) 4) (by decide)⟩
theorem n_ref {ks : Nat} (h1 : ks ≤ 5) : 1 < 2 * 4 + 2 + ks ∧ 2 * 4 + 2 + ks ≤ 900 :=
  ⟨Nat.lt_of_lt_of_le (by decide) (Nat.le_add_right (2 * 4 + 2) ks), Nat.le_trans (Nat.add_le_add_left h1 _) (by decide)⟩
theorem slc_det {D S S' : List Int} {lo hi : Int} (h : Slc D lo hi S) (h' : Slc D lo hi S') : S = S' := h.symm.trans h'
section
variable (w : World) (news : List (Addr × Obj)) (c : Addr) (ks vsz : Nat) (sr dsr : Addr) (t1 t2 t3 t4 : Tok) (hc : (c, confObj ks vsz sr t1 t2 t3 t4) ∈ news) (hcs : confs ks vsz)
    (hs2 : (dsr, dictOf [] 0) ∈ news) (sC dfn : Addr) (hs1 : (sr, instObj sC dsr) ∈ news) (tx : Bool) (hcls : (tx = false ∧ sC = 320 ∧ dfn = 317) ∨ (tx = true ∧ sC = 346 ∧ dfn = 343))
    (U Fl O : Int) (KL VL PL : List Int) (wr : Prop) (hU0 : 0 ≤ U) (hU1 : U < ks + 2) (hF0 : 0 ≤ Fl) (hF1 : Fl < vsz + 2) (hKl : KL.length = ks) (hKr : ∀ x ∈ KL, 0 ≤ x ∧ x < 128) (hVl : VL.length = vsz) (hPl : PL.length = 4)
include hc hcs hs2 hs1 hcls hU0 hU1 hKl hKr hPl
theorem cls2 : (sC = 320 ∧ dfn = 317) ∨ (sC = 346 ∧ dfn = 343) := hcls.imp (fun x => x.2) fun x => x.2
include hF0 hF1 hVl
theorem read_rec (DR : List Int) (hD : (wr ∧ (DR = rowD U Fl KL VL PL ++ [0] ∨ DR = (rowD U Fl KL VL PL).dropLast)) ∨ (¬ wr ∧ DR = rowD U Fl KL VL PL)) (b : Array UInt8) (tb : Tok) (hb : KBw.bInts b = DR) :
    CallsK w (.ref 232) [.ref c] [(PySem.Str.ofString "data", .bytes b tb)] news 15 500 (fun v news' => (¬ wr ∧ U ≤ ks ∧ Fl ≤ vsz) ∧ ∃ kvv vv pv, (∃ t, kvv = rk tx (KL.take U.toNat) t) ∧ ((KFB.value PL.reverse = 0 ∧ pv = .none ∧ ∃ b' t', vv = .bytes b' t' ∧ KBw.bInts b' = VL.take Fl.toNat) ∨ (KFB.value PL.reverse ≠ 0 ∧ vv = .none ∧ ∃ t', pv = .int (KFB.value PL.reverse) t')) ∧ RecIn w c news kvv vv pv (2 + ks + 2 + vsz + 4) v news')
      (fun c => ¬ (¬ wr ∧ U ≤ ks ∧ Fl ≤ vsz) ∧ c = "AssertionError") := by
  have len := rowD_len (U := U) (Fl := Fl) hKl hVl hPl
  have h2 := pow2
  have hk5 := hcs.2.1
  have hv5 := hcs.2.2
  have s1 : Slc (rowD U Fl KL VL PL) 0 2 (KTBy.little 2 U) := slc_mid (A := []) (B := KL ++ KTBy.little 2 Fl ++ VL ++ PL) (by simp [rowD]) rfl (by rw [KTBy.little_length]; rfl)
  by_cases hg : ¬ wr ∧ U ≤ ks
  · obtain rfl : DR = rowD U Fl KL VL PL := by
      rcases hD with ⟨h, _⟩ | ⟨_, h⟩
      · exact absurd h hg.1
      · exact h
    have hbn := bnd_rec len hk5 hv5
    have S := rowD_slc hU0 hg.2 hF0 hF1 hKl hVl hPl
    have R := rec_load w news c ks vsz sr dsr t1 t2 t3 t4 hc hcs hs2 sC dfn hs1 (hcls.imp (fun x => x.2) fun x => x.2) b tb (rowD U Fl KL VL PL) (KTBy.little 2 U) (KL.take U.toNat) (KTBy.little 2 Fl) ((VL ++ PL).take Fl.toNat) PL U Fl (KFB.value PL.reverse) hb hbn.1 hbn.2
      s1 S.1 S.2.1 S.2.2.1 S.2.2.2.1
      (by rw [KTBy.little_length]; exact Nat.le_refl _) (by rw [KTBy.little_length]; exact Nat.le_refl _) S.2.2.2.2.2 (Nat.le_of_eq hPl)
      (value_little 2 _ hU0 (int_lt hU0 hU1 hk5)) (value_little 2 _ hF0 (int_lt hF0 hF1 hv5)) rfl hU0 hF0 _ (deserOk_rk w tx sC dfn hcls (KL.take U.toNat) (Nat.le_trans S.2.2.2.2.1 hk5) (fun n hn => hKr n (List.mem_of_mem_take hn)))
    intro p loose mean mg mb dp un gd cn cs a ccd cl outer A₀ base h₀ L m s Q E B F X N T hk hd hu hret hexc
    refine R p loose mean mg mb dp un gd cn cs a ccd cl outer A₀ base h₀ L m s Q E B F X N T hk hd hu (fun v n' h' tk' F' N' P' => ?_) (fun c' e' h' tk' g' C' => hexc c' e' h' tk' g' ⟨fun z => C'.1 ⟨len, z.2.1, z.2.2⟩, C'.2⟩)
    obtain ⟨⟨_, _, hF⟩, kvv, vv, pv, hk', hP', hR⟩ := P'
    refine hret v n' h' tk' F' N' ⟨⟨hg.1, hg.2, hF⟩, kvv, vv, pv, hk', ?_, hR⟩
    rcases hP' with ⟨h0, h1, b', t', h3, h4⟩ | h0
    · exact .inl ⟨h0, h1, b', t', h3, by rw [h4, List.take_append_of_le_length (by rw [hVl]; omega)]⟩
    · exact .inr h0
  · have hdl := dl_len len (n_rec hk5 hv5).1 (n_rec hk5 hv5).2 hD
    have R := rec_bad w news c ks vsz sr t1 t2 t3 t4 hc hcs b tb DR _ _ hb hdl.1 hdl.2.1 rfl (by rw [List.length_take]; exact Nat.min_le_left _ _) rfl (fun hL => by
        rcases hD with ⟨hw, _⟩ | ⟨hw, rfl⟩
        · exact absurd hL (hdl.2.2 hw)
        · have e := slc_det s1 rfl
          rw [← e, value_little 2 U hU0 (int_lt hU0 hU1 hk5)]
          have hn : ¬ U ≤ ks := fun z => hg ⟨hw, z⟩
          clear hdl hcls
          omega)
    intro p loose mean mg mb dp un gd cn cs a ccd cl outer A₀ base h₀ L m s Q E B F X N T hk hd hu hret hexc
    exact R p loose mean mg mb dp un gd cn cs a ccd cl outer A₀ base h₀ L m s Q E B F X N T hk hd hu (fun _ _ _ _ _ _ P' => P'.elim) (fun c' e' h' tk' g' C' => hexc c' e' h' tk' g' ⟨fun z => hg ⟨z.1, z.2.1⟩, C'⟩)
omit hF0 hF1 hVl
theorem read_ref (DF : List Int) (hD : (wr ∧ (DF = rowF O U KL PL ++ [0] ∨ DF = (rowF O U KL PL).dropLast)) ∨ (¬ wr ∧ DF = rowF O U KL PL)) (b : Array UInt8) (tb : Tok) (hb : KBw.bInts b = DF) :
    CallsK w (.ref 273) [.ref c] [(PySem.Str.ofString "data", .bytes b tb)] news 15 500 (fun v news' => (¬ wr ∧ U ≤ ks) ∧ ∃ kvv tb' ta', (∃ t, kvv = rk tx (KL.take U.toNat) t) ∧ RefIn w c news kvv (.int (KFB.value (KTBy.little 4 O).reverse) tb') (.int (KFB.value PL.reverse) ta') (2 * 4 + 2 + ks) v news')
      (fun c => ¬ (¬ wr ∧ U ≤ ks) ∧ c = "AssertionError") := by
  have len := rowF_len (O := O) (U := U) hKl hPl
  have h2 := pow2
  have hk5 := hcs.2.1
  have s2 : Slc (rowF O U KL PL) 4 (4 + 2) (KTBy.little 2 U) := slc_mid (A := KTBy.little 4 O) (B := KL ++ PL) (by simp [rowF]) (by rw [KTBy.little_length]; rfl) (by rw [KTBy.little_length]; rfl)
  by_cases hg : ¬ wr ∧ U ≤ ks
  · obtain rfl : DF = rowF O U KL PL := by
      rcases hD with ⟨h, _⟩ | ⟨_, h⟩
      · exact absurd h hg.1
      · exact h
    have hbn := bnd_ref len hk5
    have S := rowF_slc (O := O) hU0 hg.2 hKl hPl
    have R := ref_load w news c ks vsz sr dsr t1 t2 t3 t4 hc hcs hs2 sC dfn hs1 (hcls.imp (fun x => x.2) fun x => x.2) b tb (rowF O U KL PL) (KTBy.little 4 O) (KTBy.little 2 U) (KL.take U.toNat) PL [] (KFB.value (KTBy.little 4 O).reverse) U (KFB.value PL.reverse) hb hbn.1 hbn.2
      S.1 s2 S.2.1 S.2.2.1
      (slc_mid (A := []) (B := rowF O U KL PL) rfl rfl rfl)
      (by rw [KTBy.little_length]; exact Nat.le_refl _) (by rw [KTBy.little_length]; exact Nat.le_refl _) (Nat.le_of_eq hPl)
      rfl (value_little 2 _ hU0 (int_lt hU0 hU1 hk5)) rfl hU0 _ (deserOk_rk w tx sC dfn hcls (KL.take U.toNat) (Nat.le_trans S.2.2.2 hk5) (fun n hn => hKr n (List.mem_of_mem_take hn)))
    intro p loose mean mg mb dp un gd cn cs a ccd cl outer A₀ base h₀ L m s Q E B F X N T hk hd hu hret hexc
    refine R p loose mean mg mb dp un gd cn cs a ccd cl outer A₀ base h₀ L m s Q E B F X N T hk hd hu (fun v n' h' tk' F' N' P' => ?_) (fun c' e' h' tk' g' C' => hexc c' e' h' tk' g' ⟨fun z => C'.1 ⟨len, z.2⟩, C'.2⟩)
    obtain ⟨_, kvv, tb', ta', hk', hR⟩ := P'
    exact hret v n' h' tk' F' N' ⟨hg, kvv, tb', ta', hk', hR⟩
  · have hdl := dl_len len (n_ref hk5).1 (n_ref hk5).2 hD
    have R := ref_bad w news c ks vsz sr t1 t2 t3 t4 hc hcs b tb DF _ _ _ _ hb hdl.1 hdl.2.1 rfl rfl (by rw [List.length_take]; exact Nat.min_le_left _ _) (by rw [List.length_take]; exact Nat.min_le_left _ _) rfl rfl (fun hL => by
        rcases hD with ⟨hw, _⟩ | ⟨hw, rfl⟩
        · exact absurd hL (hdl.2.2 hw)
        · have e := slc_det s2 rfl
          rw [← e, value_little 2 U hU0 (int_lt hU0 hU1 hk5)]
          have hn : ¬ U ≤ ks := fun z => hg ⟨hw, z⟩
          clear hdl hcls
          omega)
    intro p loose mean mg mb dp un gd cn cs a ccd cl outer A₀ base h₀ L m s Q E B F X N T hk hd hu hret hexc
    exact R p loose mean mg mb dp un gd cn cs a ccd cl outer A₀ base h₀ L m s Q E B F X N T hk hd hu (fun _ _ _ _ _ _ P' => P'.elim) (fun c' e' h' tk' g' C' => hexc c' e' h' tk' g' ⟨hg, C'⟩)
end
/-- a record, a reference of these parts -/
def RecGot (w : World) (c : Addr) (key v pg : Value) (len : Int) (r : Value) (n' : List (Addr × Obj)) : Prop :=
  ∃ x dx k1 k2 k3 k4 k5 tl, r = .ref x ∧ (x, instObj 232 dx) ∈ n' ∧ (dx, recDict w k1 k2 k3 k4 k5 c key v (.int len tl) pg) ∈ n'
def RefGot (w : World) (c : Addr) (key before after : Value) (len : Int) (r : Value) (n' : List (Addr × Obj)) : Prop :=
  ∃ x dx k1 k2 k3 k4 k5 tl, r = .ref x ∧ (x, instObj 273 dx) ∈ n' ∧ (dx, refDict w k1 k2 k3 k4 k5 c (.int len tl) key before after) ∈ n'
theorem got_rec {w : World} {c : Addr} {news n' : List (Addr × Obj)} {G : Prop} {A1 : Value → Prop} {A2 : Value → Value → Prop} {len : Int} {v : Value} (P : G ∧ ∃ kvv vv pv, A1 kvv ∧ A2 vv pv ∧ RecIn w c news kvv vv pv len v n') :
    G ∧ (∃ kvv vv pv, A1 kvv ∧ A2 vv pv ∧ RecGot w c kvv vv pv len v n') ∧ ∀ q ∈ news, q ∈ n' := by
  obtain ⟨hG, kvv, vv, pv, h1, h2, x, dx, k1, k2, k3, k4, k5, tl, e, m1, m2, hs⟩ := P
  exact ⟨hG, ⟨kvv, vv, pv, h1, h2, x, dx, k1, k2, k3, k4, k5, tl, e, m1, m2⟩, hs⟩
theorem got_ref {w : World} {c : Addr} {news n' : List (Addr × Obj)} {G : Prop} {A1 : Value → Prop} {b a : Int} {len : Int} {v : Value} (P : G ∧ ∃ kvv tb ta, A1 kvv ∧ RefIn w c news kvv (.int b tb) (.int a ta) len v n') :
    G ∧ (∃ kvv tb ta, A1 kvv ∧ RefGot w c kvv (.int b tb) (.int a ta) len v n') ∧ ∀ q ∈ news, q ∈ n' := by
  obtain ⟨hG, kvv, tb, ta, h1, x, dx, k1, k2, k3, k4, k5, tl, e, m1, m2, hs⟩ := P
  exact ⟨hG, ⟨kvv, tb, ta, h1, x, dx, k1, k2, k3, k4, k5, tl, e, m1, m2⟩, hs⟩
/-- `_law_done` of a lambda that makes: what it made, or refused -/
theorem done_post {w : World} {f : Addr} {oc : Value} {od : Option Addr} {fd : FuncData} {sl : Array (Option Value)} {news : List (Addr × Obj)} {G : Prop} {PN : Value → List (Addr × Obj) → Prop}
    {p : Program} {loose : List Str} {mean : ExcName → Option Value} {mg mb : Str → Option Value}
    {dp un : Nat} {gd : Option (List Code)} {cn : Str} {cs : Scope} {a : Addr} {ccd : Value} {cl : List (Str × Addr)} {outer : List Env} {A₀ : Around} {base h₀ g₀ : Heap} {L : Addr} {m : Str → Option Value} {s : Shared} {Q E : Value → Shared → Prop}
    (hf : (f, (⟨oc, od, .func fd, sl⟩ : Obj)) ∈ news)
    (hlam : CallsN w (.ref f) [] news 40 1500 (fun v news' => G ∧ PN v news' ∧ ∀ q ∈ news, q ∈ news') (fun c => ¬ G ∧ c = "AssertionError"))
    (B : Below A₀ base outer h₀) (F : Fr h₀ L s.heap m) (X : (hd.heap_1 w.params).In h₀) (N : News h₀ L s.heap news) (T : Top p loose mean mg mb h₀) (hk : cs.kind = .function)
    (XB : (hd.heap_1 w.params).In base) (TB : Top p loose mean mg mb base) (Dc : KtsDicts (outer.filterMap (·.frame)) h₀) (T0 : KtsTurn (outer.filterMap (·.frame)) g₀ h₀)
    (hdp : dp + 43 < recursionLimit) (hu : un + 1520 < cLine)
    (hok : G → ∀ (v : Value) (news' : List (Addr × Obj)) (h' : Heap) (tk' : Nat) (h₁ : Heap), PN v news' → (∀ q ∈ news, q ∈ news') → BackC w p loose mean mg mb outer A₀ base g₀ L m news' h₁ h' → Q v { s with heap := h', toks := tk' })
    (hno : ¬ G → ∀ (t : Tok) (h' : Heap) (tk' : Nat) (h₁ : Heap), BackC w p loose mean mg mb outer A₀ base g₀ L m news h₁ h' → Q (.str (PySem.Str.ofString "refused") t) { s with heap := h', toks := tk' }) :
    wpAny (model PySem.Challenge.rw_ke0001_01.row.prog w) (ktrTop dp un gd cn cs L a ccd cl outer) (call (.ref 395) [.ref f]) Q E s :=
  callsC_use (done_calls w news f oc od fd sl hf 40 1500 _ _ hlam (fun c hc => .inl hc.2)) B F X N T hk XB TB Dc T0 hdp hu (fun v news' h' tk' h₁ T1 F1 N1 B1 X1 TT D1 P => by
    rcases P with ⟨hG, P, hs⟩ | ⟨P1, ⟨t, rfl⟩, hs⟩ | ⟨P1, _⟩
    · exact hok hG v news' h' tk' h₁ P hs ⟨T1, F1, N1, B1, X1, TT, D1⟩
    · exact hno P1.1 t h' tk' h₁ ⟨T1, F1, cb_drop N1 hs, B1, X1, TT, D1⟩
    · exact absurd P1.2 (by decide))
theorem rng_rows {wr : Prop} {D1 DR : List Int} (h1 : Rng D1) (h : (wr ∧ (DR = D1 ++ [0] ∨ DR = D1.dropLast)) ∨ (¬ wr ∧ DR = D1)) : Rng DR ∧ DR.length ≤ D1.length + 1 := by
  rcases h with ⟨_, rfl | rfl⟩ | ⟨_, rfl⟩
  · exact ⟨rng_app h1 (rng_cons (by decide) rng_nil), by rw [List.length_append]; exact Nat.le_refl _⟩
  · exact ⟨fun n hn => h1 n ((List.dropLast_sublist _).subset hn), by rw [List.length_dropLast]; omega⟩
  · exact ⟨h1, by k_extra "om"⟩
theorem rng_rowD {U Fl : Int} {KL VL PL : List Int} (hK : Rng KL) (hV : Rng VL) (hP : Rng PL) : Rng (rowD U Fl KL VL PL) := rng_app (rng_app (rng_app (rng_app (rng_little _ _) hK) (rng_little _ _)) hV) hP
theorem rng_rowF {O U : Int} {KL PL : List Int} (hK : Rng KL) (hP : Rng PL) : Rng (rowF O U KL PL) := rng_app (rng_app (rng_app (rng_little _ _) (rng_little _ _)) hK) hP
theorem tabPost_two {P : Addr} {ps' : Array Value} {c1 c2 : Addr} {o1 o2 : Obj} {v1 v2 : Array Value} {q q1 q2 : Str} {u1 u2 : Tok} {news : List (Addr × Obj)} (h : TabOk ps' ((c2, o2) :: (c1, o1) :: news) q) (d1 : o1.data = .fields v1) (e1 : v1[1]? = some (.str q1 u1)) (d2 : o2.data = .fields v2) (e2 : v2[1]? = some (.str q2 u2)) :
    TabPost P q news ((P, tabObj ps') :: (c2, o2) :: (c1, o1) :: news) := ⟨ps', [(c2, o2), (c1, o1)], rfl, h, fun r hr => by
  rcases List.mem_cons.mp hr with rfl | hr
  · exact ⟨v2, q2, u2, d2, e2⟩
  · obtain rfl := List.mem_singleton.mp hr
    exact ⟨v1, q1, u1, d1, e1⟩⟩

end
section
/-- what `told` of `_law_read` gives, under any frame of the law that holds its names -/
def Told (w : World) (A₀ : Around) (base : Heap) (outer : List Env) (p : Program) (loose : List Str) (mean : ExcName → Option Value) (mg mb : Str → Option Value) (L : Addr) (tx : Bool) (M : Model) (A : Around) (t : Sem Value) : Prop :=
  ∀ (h₀ : Heap) (m : Str → Option Value) (nw : List (Addr × Obj)) (s : Shared) (Q E : Value → Shared → Prop) (kl : Addr) (vs : List Value) (e : Nat) (KL : List Int) (U : Int) (tu : Tok),
    Below A₀ base outer h₀ → Fr h₀ L s.heap m → (hd.heap_1 w.params).In h₀ → News h₀ L s.heap nw → Top p loose mean mg mb h₀ →
    m (PySem.Str.ofString "texts") = some (.bool tx) → m (PySem.Str.ofString "key") = some (.ref kl) → m (PySem.Str.ofString "used") = some (.int U tu) →
    (kl, listOf vs.toArray e) ∈ nw → IntsAre vs KL → (∀ n ∈ KL, 0 ≤ n ∧ n < 128) → KL.length ≤ 5 → 0 ≤ U →
    (∀ (v : Value) (h' : Heap) (tk : Nat), (∃ t, v = rk tx (KL.take U.toNat) t) → Fr h₀ L h' m → News h₀ L h' nw → Q v { s with heap := h', toks := tk }) →
    wpAny M A t Q E s
/-- the last comparison of `_law_read`, under any frame of the law that holds its names -/
def LastOk (w : World) (A₀ : Around) (base : Heap) (outer : List Env) (p : Program) (loose : List Str) (mean : ExcName → Option Value) (mg mb : Str → Option Value) (L : Addr) (tx : Bool) (M : Model) (A : Around) (t : Sem Value) : Prop :=
  ∀ (h₀ : Heap) (m : Str → Option Value) (nw : List (Addr × Obj)) (s : Shared) (Q E : Value → Shared → Prop) (c xf dxf lo lp : Addr) (k1 k2 k3 k4 k5 : Tok) (len : Value) (vo vp : List Value) (eo ep : Nat) (OL PL K : List Int) (tk tf tb ta : Tok),
    Below A₀ base outer h₀ → Fr h₀ L s.heap m → (hd.heap_1 w.params).In h₀ → News h₀ L s.heap nw → Top p loose mean mg mb h₀ →
    m (PySem.Str.ofString "two") = some (.ref xf) → m (PySem.Str.ofString "other") = some (.ref lo) → m (PySem.Str.ofString "page") = some (.ref lp) → m (PySem.Str.ofString "told") = some (rk tx K tk) →
    (xf, instObj 273 dxf) ∈ nw → (dxf, refDict w k1 k2 k3 k4 k5 c len (rk tx K tf) (.int (KFB.value OL.reverse) tb) (.int (KFB.value PL.reverse) ta)) ∈ nw →
    (lo, listOf vo.toArray eo) ∈ nw → IntsAre vo OL → OL.length ≤ 5 → Rng OL → (lp, listOf vp.toArray ep) ∈ nw → IntsAre vp PL → PL.length ≤ 5 → Rng PL →
    (∀ (h' : Heap) (tk : Nat), Fr h₀ L h' m → News h₀ L h' nw → Q (.bool true) { s with heap := h', toks := tk }) →
    wpAny M A t Q E s
section
variable {w : World} {A₀ : Around} {base g h : Heap} {outer : List Env} {p : Program} {loose : List Str} {mean : ExcName → Option Value} {mg mb : Str → Option Value} {L : Addr} {m : Str → Option Value} {M : Model} {A : Around} {l : List Stmt} {env : Env} {Q : Flow → Shared → Prop} {E : Value → Shared → Prop} {s : Shared} {x : PySem.Expr} {ts : List PySem.Expr} {pos : Pos}
theorem with_told (_B : Below A₀ base outer g) (_F : Fr g L h m) (_T : Top p loose mean mg mb g) (tx : Bool) (k : Nat) (_hl : l[k]? = some (Stmt.Assign ts x pos))
    (hC : Told w A₀ base outer p loose mean mg mb L tx M A (eval x env)) (hn : Told w A₀ base outer p loose mean mg mb L tx M A (eval x env) → wpAny M A (execs l env) Q E s) : wpAny M A (execs l env) Q E s := hn hC
theorem with_last (_B : Below A₀ base outer g) (_F : Fr g L h m) (_T : Top p loose mean mg mb g) (tx : Bool) (k : Nat) (_hl : l[k]? = some (Stmt.Return (some x) pos))
    (hC : LastOk w A₀ base outer p loose mean mg mb L tx M A (eval x env)) (hn : LastOk w A₀ base outer p loose mean mg mb L tx M A (eval x env) → wpAny M A (execs l env) Q E s) : wpAny M A (execs l env) Q E s := hn hC
end

end
section
theorem words_p28z_read_1 : True := by
  (k_with "z k_handed" => exact rk_hand _ _ _)
  (k_with "eval BinOp" => (k_here; (with_reducible show wpAny _ _ (eval (Expr.BinOp (Expr.BinOp (Expr.BinOp _ _ _ _) _ _ _) _ (Expr.Name (Str.ofString "page") _) _) _) _ _ _); (with_reducible rename (False → True) => zrhS); refine hold_in ?_))
  (k_with "eval IfExp" => (k_here; (with_reducible rename (True ∧ True) => zrhS); refine hold_in ?_))
  (k_with "exec If" => (k_here; (with_reducible rename (True ∨ False) => zrhS); refine hold_in ?_))
  (k_with "call ref" => (k_here; (with_reducible rename (False → False) => zrhS); (with_reducible (first | show wpAny _ _ (call (Value.ref 232) _ _) _ _ _ | show wpAny _ _ (call (Value.ref 273) _ _) _ _ _)); refine hold_in ?_))
  (k_with "call ref" => (k_here; (with_reducible show wpAny _ _ (call (Value.ref 376) _) _ _ _); k_dflt (refine' calls_use (number_calls _ _ _ _ _ _ ?zql ?zqi ?zqn ?zqr) ?zqB ?zqF ?zqX ?zqN ?zqT ?zqk ?zqd ?zqu ?_; (case zqN => k_asm); (case zql => k_mem); (case zqi => with_reducible assumption); (case zqB => k_asm); (case zqF => k_asm); (case zqX => k_asm); (case zqT => k_asm); (case zqk => exact rfl); (case zqd => ktr_room); (case zqu => ktr_units); (case zqn => k_extra "len5"); (case zqr => k_extra "rng"); k_whole); intro v' h' tk' F' P'; obtain ⟨⟨t9, hv'⟩, N'⟩ := P'; subst hv'; (try dsimp only); (try k_fold)))
  (k_with "rng" => (repeat' (first | with_reducible assumption | exact rng_take _ (by with_reducible assumption) | exact rng_little _ _)))
  (k_with "len5" => ((try simp only [List.length_take, KTBy.little_length]); k_extra "om"))
  (k_with "call builtin:bytes.decode" => (k_here; k_dflt (refine' decode_pl ?zqb ?zql ?zqr (fun t' k' => ?_); (case zqb => with_reducible assumption); (case zql => k_extra "len5"); (case zqr => with_reducible assumption))))
  (k_with "ite" => first | refine ite_dpos (g6 (by assumption)) ?_ | refine ite_dpos (g5 (by assumption)) ?_ | refine ite_dneg (g4 (by assumption)) ?_)
  (k_with "eval Name" => (k_here; k_dflt (refine' nameX_L ?zqF ?zqv ?_; (case zqF => k_asm); (case zqv => with_reducible assumption); k_whole)))
  (k_with "eval IfExp" => (k_here; (with_reducible rename Told _ _ _ _ _ _ _ _ _ _ _ _ _ _ => zrhT); k_dflt (refine' zrhT _ _ _ _ _ _ _ _ _ _ _ _ ?zqB ?zqF ?zqX ?zqN ?zqT ?zqmt ?zqmk ?zqmu ?zqml ?zqi ?zqr ?zql ?zqz (fun v9 h9 tk9 hv9 F9 N9 => ?_); (case zqB => k_asm); (case zqF => k_asm); (case zqX => k_asm); (case zqN => k_asm); (case zqT => k_asm); (case zqmt => exact rfl); (case zqmk => exact rfl); (case zqmu => exact rfl); (case zqml => k_mem); (case zqi => with_reducible assumption); (case zqr => with_reducible assumption); (case zql => with_reducible assumption); (case zqz => with_reducible assumption)); (obtain ⟨t10, hv10⟩ := hv9; subst hv10)))
  (k_with "eval Compare" => (k_here; (with_reducible show wpAny _ _ (eval (Expr.Compare (Expr.Tuple _ _ _) [CmpOp.Eq] _ _) _) _ _ _); (with_reducible rename LastOk _ _ _ _ _ _ _ _ _ _ _ _ _ _ => zrhT); k_dflt (refine' zrhT _ _ _ _ _ _ _ _ _ _ _ _ _ _ _ _ _ _ _ _ _ _ _ _ _ _ _ _ ?zqB ?zqF ?zqX ?zqN ?zqT ?zqm1 ?zqm2 ?zqm3 ?zqm4 ?zqx ?zqy ?zqa ?zqai ?zqal ?zqar ?zqb ?zqbi ?zqbl ?zqbr (fun h9 tk9 F9 N9 => ?_); (case zqB => k_asm); (case zqF => k_asm); (case zqX => k_asm); (case zqN => k_asm); (case zqT => k_asm); (case zqm1 => exact rfl); (case zqm2 => exact rfl); (case zqm3 => exact rfl); (case zqm4 => exact rfl); (case zqx => k_mem); (case zqy => k_mem); (case zqa => k_mem); (case zqai => with_reducible assumption); (case zqal => k_extra "len5"); (case zqar => k_extra "rng"); (case zqb => k_mem); (case zqbi => with_reducible assumption); (case zqbl => k_extra "len5"); (case zqbr => k_extra "rng"))))
  trivial
set_option maxHeartbeats 8000000 in
theorem law_read (w : World) (news : List (Addr × Obj)) (c : Addr) (ks vsz : Nat) (sr dsr : Addr) (t1 t2 t3 t4 : Tok) (hc : (c, confObj ks vsz sr t1 t2 t3 t4) ∈ news) (hcs : confs ks vsz)
    (hs2 : (dsr, dictOf [] 0) ∈ news) (sC dfn : Addr) (hs1 : (sr, instObj sC dsr) ∈ news)
    (tx : Bool) (hcls : (tx = false ∧ sC = 320 ∧ dfn = 317) ∨ (tx = true ∧ sC = 346 ∧ dfn = 343)) (m0 : Int)
    (ps : Array Value) (hO : TabOk ps news (Str.ofString "_law_read.<locals>.<lambda>")) (hne : ∀ q ∈ news, q.1 ≠ 409) (tm : Tok) :
    CallsC w (.ref 412) [.ref c, .bool tx, .int m0 tm] ((409, tabObj ps) :: news) 60 3000 (fun v news' => v = .bool true ∧ TabPost 409 (Str.ofString "_law_read.<locals>.<lambda>") news news') := by
  unfold CallsC
  k_fill
  intro p loose mean mg mb dp un gd cn cs a ccd cl outer A₀ base h₀ L m s Q E B F X N T hk XB TB D hd hu hret
  obtain ⟨kd, nm, ig, ic, mo⟩ := cs
  cases hk
  refine wpAny_call ?_
  k_dflt (refine' enter_turnC ?k1 ?k2 ?k3 ?k4 ?k5 ?XB ?TB ?D ?T0 ?kA ?kF ?kK ?k6 ?k7 ?k8 ?k9 ?kB ?kD ?_ ?c2 ?c3 ?c4)
  (case kA => exact rfl); (case kF => exact rfl); (case kK => exact rfl); (case k2 => k_asm); (case k1 => k_asm); (case XB => assumption); (case TB => assumption); (case D => assumption); (case T0 => exact KtsTurn.refl)
  (case k3 => k_asm); (case k4 => k_asm); (case k5 => k_asm); (case k6 => k_is); (case k7 => k_is); (case k8 => k_room); (case k9 => exact BindsTo.of_eq rfl); (case kB => exact rfl); (case kD => decide +kernel); (case c2 => exact rfl); (case c3 => exact rfl); (case c4 => exact rfl)
  k_whole
  intro g' L' h' tk' cells' FG' F' N' Y' B' X' T' D' l1
  (first | (replace F' : Fr g' L' h' (fun y => if y = _ then some _ else none) := F') | (replace F' : Fr g' L' h' (fun y => if y = _ then some _ else if y = _ then some _ else none) := F'))
  (try dsimp only at F')
  (try k_lt l1)
  have hY := CellsAre.four Y'
  obtain ⟨o1, o2, o3, o4, hE, e1, e2, e3, e4⟩ := hY
  subst hE; clear Y'
  have d1 := cell_is e1 none (by kernel_rfl)
  have d2 := cell_is e2 none (by kernel_rfl)
  have d3 := cell_is e3 (some (.int m0 tm)) (by kernel_rfl)
  have d4 := cell_is e4 (some (.ref c)) (by kernel_rfl)
  clear e1 e2 e3 e4
  (try simp only [List.cons_append, List.nil_append] at N'); (try dsimp only); (try k_lift B'); (try k_fold)
  have hCode := code_read X'
  refine' with_told (w := w) B' F' T' tx 14 ?hl ?hC ?_
  case hl => exact rfl
  case hC =>
    unfold Told
    intro h₁ m₁ nw s₁ Q₁ E₁ kl vs e KL U tu B₁ F₁ X₁ N₁ T₁ hmt hmk hmu hml hIK hKr hK5 hU0 hQ
    have hKR : Rng KL := fun x hx => ⟨(hKr x hx).1, Int.lt_trans (hKr x hx).2 (by decide)⟩
    have hKT : Rng (KL.take U.toNat) := rng_take _ hKR
    have hKTl : (KL.take U.toNat).length ≤ 5 := by rw [List.length_take]; exact Nat.le_trans (Nat.min_le_right ..) hK5
    have hKT8 : ∀ n ∈ KL.take U.toNat, 0 ≤ n ∧ n < 128 := fun x hx => hKr x (List.mem_of_mem_take hx)
    cases tx
    all_goals k_steps
    all_goals first
      | exact hQ _ _ _ ⟨_, rfl⟩ (by k_asm) (cb_drop (by k_asm) (by kcf_all))
      | exact hQ _ _ _ ⟨_, rfl⟩ (by k_asm) (by k_asm)
  intro hTold
  refine' with_last (w := w) B' F' T' tx 17 ?hl ?hC ?_
  case hl => exact rfl
  case hC =>
    unfold LastOk
    intro h₁ m₁ nw s₁ Q₁ E₁ cc xf dxf lo lp k1 k2 k3 k4 k5 len vo vp eo ep OL PL K tk1 tf tb ta B₁ F₁ X₁ N₁ T₁ hm1 hm2 hm3 hm4 hx hy hlo hIO hO5 hOr hlp hIP hP5 hPr hQ
    have hke := keyEq_rk tx K
    k_steps
    all_goals first
      | exact hQ _ _ (by k_asm) (cb_drop (by k_asm) (by kcf_all))
  intro hLast
  have a1 := allLt_succ l1.2
  have a2 := allLt_succ a1
  have a3 := allLt_succ a2
  have a4 := allLt_succ a3
  have hq1 := fmod_bnd (m0.fdiv 5) (ks + 2) (by k_extra "om")
  have hq2 := fmod_bnd (m0.fdiv 3) (vsz + 2) (by k_extra "om")
  have hq5 := fmod_bnd m0 5 (by decide)
  have hU0 := hq1.1
  have hFl0 := hq2.1
  have hStop : True ∧ True := ⟨trivial, trivial⟩
  (try k_extra "fold")
  k_steps
  refine hold_out ?_
  with_reducible rename IntsAre _ (List.map _ _) => hVx
  obtain ⟨VL, hIV, hVl, hVr⟩ := val_len (m := vsz) (by decide) hVx (by k_extra "om")
  clear hVx
  with_reducible rename IntsAre _ (List.map _ _) => hKx
  obtain ⟨KL, hIK, hKl, hKr⟩ := val_len (m := ks) (by decide) hKx (by k_extra "om")
  clear hKx
  have hK5 : KL.length ≤ 5 := hKl ▸ hcs.2.1
  have hKR : Rng KL := fun x hx => ⟨(hKr x hx).1, Int.lt_trans (hKr x hx).2 (by decide)⟩
  have hKT : Rng (KL.take ((m0.fdiv 5).fmod (ks + 2)).toNat) := rng_take _ hKR
  have hKTl : (KL.take ((m0.fdiv 5).fmod (ks + 2)).toNat).length ≤ 5 := by rw [List.length_take]; exact Nat.le_trans (Nat.min_le_right ..) hK5
  have hKT8 : ∀ n ∈ KL.take ((m0.fdiv 5).fmod (ks + 2)).toNat, 0 ≤ n ∧ n < 128 := fun x hx => hKr x (List.mem_of_mem_take hx)
  have hVT : Rng (VL.take ((m0.fdiv 3).fmod (vsz + 2)).toNat) := rng_take _ hVr
  have hVTl : (VL.take ((m0.fdiv 3).fmod (vsz + 2)).toNat).length ≤ 5 := by rw [List.length_take]; exact Nat.le_trans (Nat.min_le_right ..) (hVl ▸ hcs.2.2)
  refine' cut_page ?F ?N ?h (fun lp vp ep PL h9 tk9 hIP hPl hPr F9 N9 hPn => ?_)
  case F => k_asm
  case N => k_asm
  case h =>
    (with_reducible rename (True ∧ True) => hS); clear hS
    (try k_extra "fold")
    k_steps
    all_goals first
      | exact pageCut_zero (by k_asm) (by k_asm) (by assumption)
      | exact pageCut_low (by k_asm) (by k_asm) (by with_reducible assumption) (by assumption)
  (with_reducible rename (True ∧ True) => hS); clear hS
  have hpv0 := value_nn hPr
  have hStop2 : False → True := fun _ => trivial
  (try k_extra "fold")
  k_steps
  refine hold_out ?_
  refine' cut_list (D := KTBy.little 2 ((m0.fdiv 5).fmod (ks + 2)) ++ KL ++ KTBy.little 2 ((m0.fdiv 3).fmod (vsz + 2)) ++ VL ++ PL) ?F ?N ?h (fun lr ulr h9 tk9 hIR F9 N9 hlr => ?_)
  case F => k_asm
  case N => k_asm
  case h =>
    (with_reducible rename (False → True) => hS); clear hS
    (try k_extra "fold")
    k_steps
    all_goals first
      | exact listCut_in (by k_asm) (by k_asm) (by kcf_all) (by with_reducible assumption) rfl (by assumption)
  simp only [AllLt] at hlr
  (try k_extra "fold")
  k_steps
  refine hold_out ?_
  refine' cut_list (D := KTBy.little 4 (m0.fdiv 13) ++ KTBy.little 2 ((m0.fdiv 5).fmod (ks + 2)) ++ KL ++ PL) ?F ?N ?h (fun lf ulf h9 tk9 hIF F9 N9 hlf => ?_)
  case F => k_asm
  case N => k_asm
  case h =>
    (with_reducible rename (False → True) => hS); clear hS
    (try k_extra "fold")
    k_steps
    all_goals first
      | exact listCut_in (by k_asm) (by k_asm) (by kcf_all) (by with_reducible assumption) rfl (by assumption)
  simp only [AllLt] at hlf
  have hStop3 : True ∨ False := .inl trivial
  (try k_extra "fold")
  k_steps
  refine hold_out ?_
  (with_reducible rename (True ∨ False) => hS); clear hS
  (with_reducible rename (False → True) => hS); clear hS
  obtain ⟨q1, q2, q3, q4, q5, q6, q7, q8, q9, qn⟩ := hlr
  obtain ⟨r0, r1, r2, r3, r4, r5, r6, r7, r8, r9, rn⟩ := hlf
  have lenD : (KTBy.little 2 ((m0.fdiv 5).fmod (ks + 2)) ++ KL ++ KTBy.little 2 ((m0.fdiv 3).fmod (vsz + 2)) ++ VL ++ PL).length = 2 + ks + 2 + vsz + 4 := rowD_len hKl hVl hPl
  have lenF : (KTBy.little 4 (m0.fdiv 13) ++ KTBy.little 2 ((m0.fdiv 5).fmod (ks + 2)) ++ KL ++ PL).length = 2 * 4 + 2 + ks := rowF_len hKl hPl
  refine' cut_if (wr := m0.fmod 5 < 2) (D1 := rowD ((m0.fdiv 5).fmod (ks + 2)) ((m0.fdiv 3).fmod (vsz + 2)) KL VL PL) (D2 := rowF (m0.fdiv 13) ((m0.fdiv 5).fmod (ks + 2)) KL PL) (lf := lf) (lr := lr) ?F ?N ?h (fun uf' ef' DF ur' er' DR h9 tk9 hIF' hIR' hC F9 N9 => ?_)
  case F => k_asm
  case N => k_asm
  case h =>
    (try k_extra "fold")
    k_steps
    all_goals first
      | exact ifCut_in (by k_asm) (by k_asm) (by with_reducible assumption) (by with_reducible assumption) (by first | exact .inl ⟨by k_extra "om", .inl rfl, .inl rfl⟩ | exact .inl ⟨by k_extra "om", .inr rfl, .inr rfl⟩ | exact .inr ⟨by k_extra "om", rfl, rfl⟩)
  have hCR : ((m0.fmod 5 < 2) ∧ (DR = rowD ((m0.fdiv 5).fmod (ks + 2)) ((m0.fdiv 3).fmod (vsz + 2)) KL VL PL ++ [0] ∨ DR = (rowD ((m0.fdiv 5).fmod (ks + 2)) ((m0.fdiv 3).fmod (vsz + 2)) KL VL PL).dropLast)) ∨ (¬ (m0.fmod 5 < 2) ∧ DR = rowD ((m0.fdiv 5).fmod (ks + 2)) ((m0.fdiv 3).fmod (vsz + 2)) KL VL PL) := hC.imp (fun x => ⟨x.1, x.2.1⟩) fun x => ⟨x.1, x.2.1⟩
  have hCF : ((m0.fmod 5 < 2) ∧ (DF = rowF (m0.fdiv 13) ((m0.fdiv 5).fmod (ks + 2)) KL PL ++ [0] ∨ DF = (rowF (m0.fdiv 13) ((m0.fdiv 5).fmod (ks + 2)) KL PL).dropLast)) ∨ (¬ (m0.fmod 5 < 2) ∧ DF = rowF (m0.fdiv 13) ((m0.fdiv 5).fmod (ks + 2)) KL PL) := hC.imp (fun x => ⟨x.1, x.2.2⟩) fun x => ⟨x.1, x.2.2⟩
  have hRR := rng_rows (rng_rowD hKR hVr hPr) hCR
  have hRF := rng_rows (rng_rowF hKR hPr) hCF
  have hDR := hRR.2
  have hDF := hRF.2
  rw [show (rowD ((m0.fdiv 5).fmod (ks + 2)) ((m0.fdiv 3).fmod (vsz + 2)) KL VL PL).length = _ from rowD_len hKl hVl hPl] at hDR
  rw [show (rowF (m0.fdiv 13) ((m0.fdiv 5).fmod (ks + 2)) KL PL).length = _ from rowF_len hKl hPl] at hDF
  have hRR1 : Rng DR := hRR.1
  have hRF1 : Rng DF := hRF.1
  clear hRR hRF hC
  (try k_extra "fold")
  k_steps
  refine hold_out ?_
  (with_reducible rename ∀ (k : Addr) (o : Obj), (k, o) ∈ _ → (∀ q ∈ news, q.1 ≠ k) → _ ≠ k => hk9)
  have ne3 : @Ne Nat _ 409 := hk9 409 _ (by k_mem) hne
  clear hk9
  (with_reducible rename _ ∧ _ => hfl)
  have ne4 : @Ne Nat _ 409 := Nat.ne_of_gt hfl.2.2.2.2.2.2.2.2.2.2.1
  refine' done_post (G := ¬ (m0.fmod 5 < 2) ∧ (m0.fdiv 5).fmod (ks + 2) ≤ ks ∧ (m0.fdiv 3).fmod (vsz + 2) ≤ vsz) (PN := fun v n1 => ∃ kvv vv pv, (∃ t, kvv = rk tx (KL.take ((m0.fdiv 5).fmod (ks + 2)).toNat) t) ∧ ((KFB.value PL.reverse = 0 ∧ pv = .none ∧ ∃ b9 t9, vv = .bytes b9 t9 ∧ KBw.bInts b9 = VL.take ((m0.fdiv 3).fmod (vsz + 2)).toNat) ∨ (KFB.value PL.reverse ≠ 0 ∧ vv = .none ∧ ∃ t9, pv = .int (KFB.value PL.reverse) t9)) ∧ RecGot w c kvv vv pv (2 + ks + 2 + vsz + 4) v n1) ?f ?lam ?B ?F ?X ?N ?T ?k ?XB ?TB ?D ?T0 ?d ?u (fun hG v9 n9 h9 tk9 h8 hP hsub BC => ?_) (fun hG t9 h9 tk9 h8 BC => ?_)
  case N => k_asm
  case f => k_mem
  case B => k_asm
  case F => k_asm
  case X => k_asm
  case T => k_asm
  case k => exact rfl
  case XB => k_asm
  case TB => k_asm
  case D => k_asm
  case T0 => exact KtsTurn.refl
  case d => ktr_room
  case u => ktr_units
  case lam =>
    unfold CallsN CallsK
    k_fill
    intro p loose mean mg mb dp un gd cn cs a ccd cl outer A₀ base h₀ L m s Q E B F X N T hk hd hu hret hexc
    obtain ⟨kd, nm, ig, ic, mo⟩ := cs
    cases hk
    refine wpAny_call ?_
    k_dflt kla_enter
    have hStop4 : False → False := id
    (try k_extra "fold")
    k_steps
    refine hold_out ?_
    (with_reducible rename (False → False) => hS); clear hS
    refine' callsK_use (read_rec _ _ c ks vsz sr dsr t1 t2 t3 t4 ?m hcs ?s2 sC dfn ?s1 tx hcls ((m0.fdiv 5).fmod (ks + 2)) ((m0.fdiv 3).fmod (vsz + 2)) KL VL PL (m0.fmod 5 < 2) hq1.1 hq1.2 hq2.1 hq2.2 hKl hKr hVl hPl DR hCR _ _ ?b) ?B ?F ?X ?N ?T ?k ?d ?u (fun v' n' h' tk' F' N' P' => ?_) (fun c' e' h' tk' g' C' F' R' U' => ?_)
    case N => k_asm
    case m => k_mem
    case s1 => k_mem
    case s2 => k_mem
    case b => with_reducible assumption
    case B => k_asm
    case F => k_asm
    case X => k_asm
    case T => k_asm
    case k => exact rfl
    case d => ktr_room
    case u => ktr_units
    · k_steps
      all_goals first
        | (exact hret _ n' _ _ (by k_asm) (by k_asm) (got_rec P'))
    · k_steps
      all_goals first
        | (exact hexc _ _ _ _ _ C' (by k_asm) (raised_sub (by with_reducible assumption) (by intro q hq; k_mem)) (by with_reducible assumption))
  all_goals (obtain ⟨T1, F1, N1, B1, X1, TT1, D1⟩ := BC)
  · obtain ⟨kvv, vv, pv, ⟨tkv, rfl⟩, hvp, x9, dx9, k91, k92, k93, k94, k95, tl9, rfl, m91, m92⟩ := hP
    replace N1 := rec_news N1 m91 m92 hsub
    clear m91 m92 hsub
    have g1 := hG.1
    have g2 := hG.2.1
    have g3 := hG.2.2
    have ne1 := news_ne N1 (a := x9) (b := 409) (.head _) (by k_mem) (by intro e; cases e)
    have ne2 := news_ne N1 (a := dx9) (b := 409) (.tail _ (.head _)) (by k_mem) (by intro e; cases e)
    have hCode2 := code_read X1
    (try k_extra "fold")
    k_steps
    refine hold_out ?_
    refine' done_post (G := ¬ (m0.fmod 5 < 2) ∧ (m0.fdiv 5).fmod (ks + 2) ≤ ks) (PN := fun v n1 => ∃ kvv tb ta, (∃ t, kvv = rk tx (KL.take ((m0.fdiv 5).fmod (ks + 2)).toNat) t) ∧ RefGot w c kvv (.int (KFB.value (KTBy.little 4 (m0.fdiv 13)).reverse) tb) (.int (KFB.value PL.reverse) ta) (2 * 4 + 2 + ks) v n1) ?f ?lam ?B ?F ?X ?N ?T ?k ?XB ?TB ?D ?T0 ?d ?u (fun hH v9 n9 h9 tk9 h8 hP hsub BC => ?_) (fun hH t9 h9 tk9 h8 BC => ?_)
    case N => k_asm
    case f => k_mem
    case B => k_asm
    case F => k_asm
    case X => k_asm
    case T => k_asm
    case k => exact rfl
    case XB => k_asm
    case TB => k_asm
    case D => k_asm
    case T0 => exact T1
    case d => ktr_room
    case u => ktr_units
    case lam =>
      unfold CallsN CallsK
      k_fill
      intro p loose mean mg mb dp un gd cn cs a ccd cl outer A₀ base h₀ L m s Q E B F X N T hk hd hu hret hexc
      obtain ⟨kd, nm, ig, ic, mo⟩ := cs
      cases hk
      refine wpAny_call ?_
      k_dflt kla_enter
      have hStop4 : False → False := id
      (try k_extra "fold")
      k_steps
      refine hold_out ?_
      (with_reducible rename (False → False) => hS); clear hS
      refine' callsK_use (read_ref _ _ c ks vsz sr dsr t1 t2 t3 t4 ?m hcs ?s2 sC dfn ?s1 tx hcls ((m0.fdiv 5).fmod (ks + 2)) (m0.fdiv 13) KL PL (m0.fmod 5 < 2) hq1.1 hq1.2 hKl hKr hPl DF hCF _ _ ?b) ?B ?F ?X ?N ?T ?k ?d ?u (fun v' n' h' tk' F' N' P' => ?_) (fun c' e' h' tk' g' C' F' R' U' => ?_)
      case N => k_asm
      case m => k_mem
      case s1 => k_mem
      case s2 => k_mem
      case b => with_reducible assumption
      case B => k_asm
      case F => k_asm
      case X => k_asm
      case T => k_asm
      case k => exact rfl
      case d => ktr_room
      case u => ktr_units
      · k_steps
        all_goals first
          | (exact hret _ n' _ _ (by k_asm) (by k_asm) (got_ref P'))
      · k_steps
        all_goals first
          | (exact hexc _ _ _ _ _ C' (by k_asm) (raised_sub (by with_reducible assumption) (by intro q hq; k_mem)) (by with_reducible assumption))

    all_goals (obtain ⟨T2, F2, N2, B2, X2, TT2, D2⟩ := BC)
    · obtain ⟨kvf, tbf, taf, ⟨tkf, rfl⟩, xf, dxf, l91, l92, l93, l94, l95, tlf, rfl, m91, m92⟩ := hP
      replace N2 := rec_news N2 m91 m92 hsub
      clear m91 m92 hsub
      have g4 : KFB.value PL.reverse = 0 → ¬ 0 < KFB.value PL.reverse := fun z => by rw [z]; decide
      have g5 : KFB.value PL.reverse ≠ 0 → 0 < KFB.value PL.reverse := fun z => Int.lt_iff_le_and_ne.mpr ⟨hpv0, Ne.symm z⟩
      rcases hvp with ⟨hp0, rfl, b9, t9, rfl, hb9⟩ | ⟨hp0, rfl, t9, rfl⟩
      all_goals (
        (with_reducible rename TabOk _ _ _ => hTab)
        have hke := keyEq_rk tx (KL.take ((m0.fdiv 5).fmod (ks + 2)).toNat)
        (try k_extra "fold")
        k_steps
        all_goals first
          | (exfalso; k_extra "om")
          | (exact hret _ (((409 : Nat), tabObj _) :: (_, _) :: (_, _) :: news) _ _ _ (by k_asm) (by k_asm) (cb_drop (by k_asm) (by kcf_all)) (by k_asm) (by k_asm) (by k_asm) (by k_asm) ⟨by simp, tabPost_two hTab (by with_reducible assumption) (by with_reducible assumption) (by with_reducible assumption) (by with_reducible assumption)⟩)
      )
    · exact absurd ⟨hG.1, hG.2.1⟩ hH
  · have hCode2 := code_read X1
    (try k_extra "fold")
    k_steps
    refine hold_out ?_
    refine' done_post (G := ¬ (m0.fmod 5 < 2) ∧ (m0.fdiv 5).fmod (ks + 2) ≤ ks) (PN := fun v n1 => ∃ kvv tb ta, (∃ t, kvv = rk tx (KL.take ((m0.fdiv 5).fmod (ks + 2)).toNat) t) ∧ RefGot w c kvv (.int (KFB.value (KTBy.little 4 (m0.fdiv 13)).reverse) tb) (.int (KFB.value PL.reverse) ta) (2 * 4 + 2 + ks) v n1) ?f ?lam ?B ?F ?X ?N ?T ?k ?XB ?TB ?D ?T0 ?d ?u (fun hH v9 n9 h9 tk9 h8 hP hsub BC => ?_) (fun hH t9 h9 tk9 h8 BC => ?_)
    case N => k_asm
    case f => k_mem
    case B => k_asm
    case F => k_asm
    case X => k_asm
    case T => k_asm
    case k => exact rfl
    case XB => k_asm
    case TB => k_asm
    case D => k_asm
    case T0 => exact T1
    case d => ktr_room
    case u => ktr_units
    case lam =>
      unfold CallsN CallsK
      k_fill
      intro p loose mean mg mb dp un gd cn cs a ccd cl outer A₀ base h₀ L m s Q E B F X N T hk hd hu hret hexc
      obtain ⟨kd, nm, ig, ic, mo⟩ := cs
      cases hk
      refine wpAny_call ?_
      k_dflt kla_enter
      have hStop4 : False → False := id
      (try k_extra "fold")
      k_steps
      refine hold_out ?_
      (with_reducible rename (False → False) => hS); clear hS
      refine' callsK_use (read_ref _ _ c ks vsz sr dsr t1 t2 t3 t4 ?m hcs ?s2 sC dfn ?s1 tx hcls ((m0.fdiv 5).fmod (ks + 2)) (m0.fdiv 13) KL PL (m0.fmod 5 < 2) hq1.1 hq1.2 hKl hKr hPl DF hCF _ _ ?b) ?B ?F ?X ?N ?T ?k ?d ?u (fun v' n' h' tk' F' N' P' => ?_) (fun c' e' h' tk' g' C' F' R' U' => ?_)
      case N => k_asm
      case m => k_mem
      case s1 => k_mem
      case s2 => k_mem
      case b => with_reducible assumption
      case B => k_asm
      case F => k_asm
      case X => k_asm
      case T => k_asm
      case k => exact rfl
      case d => ktr_room
      case u => ktr_units
      · k_steps
        all_goals first
          | (exact hret _ n' _ _ (by k_asm) (by k_asm) (got_ref P'))
      · k_steps
        all_goals first
          | (exact hexc _ _ _ _ _ C' (by k_asm) (raised_sub (by with_reducible assumption) (by intro q hq; k_mem)) (by with_reducible assumption))

    all_goals (obtain ⟨T2, F2, N2, B2, X2, TT2, D2⟩ := BC)
    · obtain ⟨kvf, tbf, taf, ⟨tkf, rfl⟩, xf, dxf, l91, l92, l93, l94, l95, tlf, rfl, m91, m92⟩ := hP
      replace N2 := rec_news N2 m91 m92 hsub
      clear m91 m92 hsub
      have g1 := hH.1
      have g2 := hH.2
      have g3 : (vsz : Int) < (m0.fdiv 3).fmod (vsz + 2) := Int.not_le.mp fun z => hG ⟨g1, g2, z⟩
      all_goals (
        (with_reducible rename TabOk _ _ _ => hTab)
        have hke := keyEq_rk tx (KL.take ((m0.fdiv 5).fmod (ks + 2)).toNat)
        (try k_extra "fold")
        k_steps
        all_goals first
          | (exfalso; k_extra "om")
          | (exact hret _ (((409 : Nat), tabObj _) :: (_, _) :: (_, _) :: news) _ _ _ (by k_asm) (by k_asm) (cb_drop (by k_asm) (by kcf_all)) (by k_asm) (by k_asm) (by k_asm) (by k_asm) ⟨by simp, tabPost_two hTab (by with_reducible assumption) (by with_reducible assumption) (by with_reducible assumption) (by with_reducible assumption)⟩)
      )
    · have g6 : ¬ (m0.fmod 5 < 2) → (ks : Int) < (m0.fdiv 5).fmod (ks + 2) := fun z => Int.not_le.mp fun z2 => hH ⟨z, z2⟩
      all_goals (
        (with_reducible rename TabOk _ _ _ => hTab)
        have hke := keyEq_rk tx (KL.take ((m0.fdiv 5).fmod (ks + 2)).toNat)
        (try k_extra "fold")
        k_steps
        all_goals first
          | (exfalso; k_extra "om")
          | (exact hret _ (((409 : Nat), tabObj _) :: (_, _) :: (_, _) :: news) _ _ _ (by k_asm) (by k_asm) (cb_drop (by k_asm) (by kcf_all)) (by k_asm) (by k_asm) (by k_asm) (by k_asm) ⟨by simp, tabPost_two hTab (by with_reducible assumption) (by with_reducible assumption) (by with_reducible assumption) (by with_reducible assumption)⟩)
      )

end
section
theorem words_29_ord : True := by
  k_with_none
  (k_with "z ktr_units" => ((simp only [units_under_kw, units_in1, units_deeper, Around.mark_units, units_caller, ktrTop, cLine_is] at ⊢); (rename _ < cLine => zrhcU); (rw [cLine_is] at zrhcU); omega))
  (k_with "z ktr_room" => ((simp only [depth_under_kw, depth_in1, depth_deeper, depth_caller, ktrTop] at ⊢); omega))
  (k_with "z ktr_units" => ((rename _ < cLine => zrhcU); first | exact u3 zrhcU rfl | exact u2 zrhcU rfl | exact u4 zrhcU rfl | exact u5 zrhcU rfl | exact u1 zrhcU))
  (k_with "z ktr_room" => ((rename _ < recursionLimit => zrhcD); first | exact u2 zrhcD rfl | exact u3 zrhcD rfl | exact u4 zrhcD rfl | exact u5 zrhcD rfl | exact u1 zrhcD))
  (k_with "z k_room" => ktr_room)
  (k_with "z k_units" => ktr_units)
  (k_with "z k_mem" => ((show @Membership.mem (Addr × Obj) (List (Addr × Obj)) _ _ _); with_reducible assumption))
  (k_with "om0" => ((repeat (with_reducible rename _ ≠ _ ∧ _ => zrhz; clear zrhz)); (repeat (with_reducible rename (_ ≠ _ ∧ _) ∧ _ => zrhz; clear zrhz)); omega))
  (k_with "bd1" => first | decide | (with_reducible first | apply om_b1 | apply om_b2 | apply om_b3 | apply om_b4 | apply om_b5 | apply om_b6 | apply om_b7 | apply om_bs | apply om_bt | apply om_bz | apply om_bt4 | apply om_b2t | apply om_bm | (apply om_bq; assumption) | refine om_bl (by assumption) ?_ | refine om_be (by assumption) ?_ | (apply om_bk; assumption; decide) | (apply om_bv; assumption; decide)))
  (k_with "bd" => (k_whole; (with_reducible first | (apply om_b0; rotate_left; with_unfolding_all rfl) | (apply om_b0l; rotate_left; with_unfolding_all rfl)); (repeat' k_extra "bd1"); done))
  (k_with "five" => first | assumption | exact om_lk5 (by assumption) | exact om_lt5 (by assumption) | exact Nat.le_trans (by assumption) (om_lk5 (by assumption)) | exact Nat.le_trans (by assumption) (om_lt5 (by assumption)))
  (k_with "om1" => first | rfl | assumption | exact And.left (by assumption) | exact And.right (by assumption) | ((show @LE.le Int _ _ _); first | apply Int.natCast_nonneg | (apply om_sub_nn; assumption) | (apply om_sa0; assumption) | (apply Int.le_of_lt; apply om_lp2) | (apply Int.le_add_of_nonneg_right; first | assumption | apply Int.natCast_nonneg)) | ((show @LE.le Nat _ _ _); apply Nat.le_of_lt; assumption) | ((show @LT.lt Int _ _ _); apply om_lp2) | ((show @LT.lt Nat _ _ _); first | (apply om_posD; assumption) | (apply om_posF; assumption)) | ((show @Eq Nat _ _); first | apply tns | apply tn0 | (apply castD; assumption) | (apply castF; assumption)))
  (k_with "om2" => first | decide | ((show @LE.le Nat _ _ _); first | exact Nat.le_trans (by assumption) (by decide) | exact om_be (by assumption) (by decide) | (apply om_bq4; assumption; rfl) | (apply om_kbt; assumption; k_extra "five") | (apply om_kmt <;> assumption)) | ((show @LE.le Int _ _ _); first | (apply Int.le_add_of_nonneg_right; decide) | (apply om_ic 5; k_extra "five"; decide) | (apply om_sub_le0; apply om_ic 5; k_extra "five"; decide) | (apply om_sub0_le; apply om_ic 5; k_extra "five"; decide) | (apply om_sa4; k_extra "five") | (refine Int.le_trans (om_kb (by assumption) (by k_extra "five")) (by decide)) | (apply om_kb1; assumption; k_extra "five") | (apply om_kb2; assumption; k_extra "five") | (apply om_km <;> assumption)) | ((show @Eq Int _ _); first | (apply om_lnO; assumption) | (apply om_lnI <;> assumption) | (apply om_lnF; assumption)) | ((show @LT.lt Int _ _ _); first | (apply om_icl 5; k_extra "five"; decide) | exact Int.lt_of_lt_of_le (by decide) (And.left (by assumption)) | exact Int.lt_trans (And.right (by assumption)) (by decide)))
  (k_with "nn" => ((show @LE.le Int _ _ _); apply Int.add_nonneg; (repeat' first | apply Int.natCast_nonneg | assumption | decide | apply Int.add_nonneg); done))
  (k_with "om" => first | (k_whole; with_reducible k_extra "om1") | (k_whole; with_reducible k_extra "om2") | (k_whole; with_reducible k_extra "nn") | k_extra "bd" | k_extra "om0")
  (k_with "z kba_size" => k_extra "bd")
  (k_with "fold" => (refine' let_A ?_; intro qa; k_fold))
  (k_with "ite" => first | refine ite_dpos (by assumption) ?_ | refine ite_dneg (by first | assumption | (apply Int.not_lt.mpr; assumption) | (apply Int.not_le.mpr; assumption)) ?_)
  (k_with "z kcf_bnd" => first | (k_whole; with_reducible k_extra "om1") | (k_whole; with_reducible k_extra "om2") | (k_whole; with_reducible k_extra "nn") | k_extra "bd")
  (k_with "gl" => with_reducible (first | exact glUSEDKEYLENGTHBYTES _ | exact glUSEDVALUELENGTHBYTES _ | exact glPAGEREFERENCEBYTES _ | exact glENDIAN _ | exact glRecord _ | exact glReference _ | exact gllawlow _ | exact gllawkey _ | exact gllawparts _ | exact gllawpages _ | exact gllawdone _ | exact gllawnumber _ | exact gllawsigns _ | exact glTreeConf _ | exact glStrSerializer _ | exact glIntSerializer _ | exact gllawrecord _ | exact gllawreference _ | exact gllawread _ | exact gllaworder _))
  (k_with "gb" => with_reducible (first | exact glint _ | exact gllen _ | exact glbytes _ | exact glisinstance _ | exact glrange _ | exact glenumerate _ | exact gltuple _ | exact gltype _))
  (k_with "eval Name" => (k_here; k_dflt (first | (refine' nameX_L ?zqF ?zqv ?_ ?zqa ?zqb; (case zqF => k_asm); (case zqa => exact Eq.refl ScopeKind.function); (case zqb => exact Eq.refl (some NameKind.local)); (case zqv => exact Eq.refl (some _)); k_whole) | (refine' name_top ?zqg ?zqF ?zqX ?zqT ?zqa ?zqb ?_; (case zqX => k_asm); (case zqg => k_extra "gl"); (case zqF => k_asm); (case zqT => k_asm); (case zqa => exact Eq.refl ScopeKind.function); (case zqb => exact Eq.refl (some NameKind.globalImplicit)); k_whole) | (refine' name_boot ?zqg ?zqF ?zqX ?zqT ?zqa ?zqb ?_; (case zqX => k_asm); (case zqg => k_extra "gb"); (case zqF => k_asm); (case zqT => k_asm); (case zqa => exact Eq.refl ScopeKind.function); (case zqb => exact Eq.refl (some NameKind.globalImplicit)); k_whole))))
  (k_with "callWith ref" => (k_here; k_dflt (first | (refine' callWith_K ?zqk1 ?zqk2 ?_; (case zqk1 => k_asm); (case zqk2 => k_extra "kp"); k_whole) | (refine' callWith_K0 ?zqk1 ?zqk2 ?_; (case zqk1 => first | with_reducible assumption | exact Frag.In.keeps (by with_reducible assumption) (Fr.keep (by with_reducible assumption)) | k_in); (case zqk2 => k_extra "kp"); k_whole) | (refine' callWith_M0 ?zqk1 ?zqk2 ?_; (case zqk1 => k_meth); (case zqk2 => k_extra "kp"); k_whole; (try dsimp only [List.nil_append, List.cons_append])) | (refine' callWith_M ?zqk1 ?zqk2 ?zqk3 ?zqk4 ?_; (case zqk1 => k_asm); (case zqk2 => k_asm); (case zqk3 => k_mem); (case zqk4 => k_is); k_whole) | (refine' callWith_KW ?zqk1 ?zqk2 ?zqk3 ?_; (case zqk1 => k_asm); (case zqk2 => k_extra "kp"); (case zqk3 => exact rfl); k_whole) | (refine' callWith_KW0 ?zqk1 ?zqk2 ?zqk3 ?_; (case zqk1 => k_asm); (case zqk2 => k_extra "kp"); (case zqk3 => exact rfl); k_whole))))
  (k_with "getMethod type:int" => (k_here; (with_reducible refine' KFB.getm ?zqkfbF ?zqkfbN ?zqkfbX ?zqkfbE ?_); k_dflt ((case zqkfbF => k_asm); (case zqkfbN => k_asm); (case zqkfbX => k_asm); (case zqkfbE => exact from_bytes_at _); k_whole; intro x' h' F' N' l1; (try k_lt l1); (try k_sweep))))
  (k_with "kp" => first | with_reducible assumption | (with_reducible first | exact kp232 _ | exact kp273 _ | exact kp355 _ | exact kp369 _ | exact kp376 _ | exact kp381 _ | exact kp388 _ | exact kp395 _ | exact kp400 _ | exact kp407 _ | exact kp412 _ | exact kp419 _ | exact kp141 _ | exact kp346 _ | exact kp320 _) | k_is)
  (k_with "getAttr ref" => (k_here; (with_reducible show wpAny _ _ (getAttr (Value.ref _) (PySem.Str.ofString "key_size") _) _ _ _); k_dflt (refine' conf_attr (And.left (get_conf _ _ _ _ _ _ _ _ _ _ ?zqm)) ?zqm2 ?zqc1 ?zqc3 ?zqB ?zqF ?zqX ?zqN ?zqT ?zqk ?zqd ?zqu ?zqp ?zqp2 ?zqp3 ?zqf2 ?zqf3 ?zqf4 ?zqhh ?_; (case zqN => k_asm); (case zqm => k_mem); (case zqm2 => k_mem); (case zqc1 => exact rfl); (case zqc3 => exact rfl); (case zqB => k_asm); (case zqF => k_asm); (case zqX => k_asm); (case zqT => k_asm); (case zqk => exact rfl); (case zqd => ktr_room); (case zqu => ktr_units); (case zqp => k_is); (case zqp2 => k_is); (case zqp3 => k_is); (case zqf2 => k_is); (case zqf3 => k_is); (case zqf4 => k_is); (case zqhh => exact rfl); k_whole; intro h' tk' F' N'; (try k_sweep))))
  (k_with "getAttr ref" => (k_here; (with_reducible show wpAny _ _ (getAttr (Value.ref _) (PySem.Str.ofString "value_size") _) _ _ _); k_dflt (refine' conf_attr (And.left (And.right (get_conf _ _ _ _ _ _ _ _ _ _ ?zqm))) ?zqm2 ?zqc1 ?zqc3 ?zqB ?zqF ?zqX ?zqN ?zqT ?zqk ?zqd ?zqu ?zqp ?zqp2 ?zqp3 ?zqf2 ?zqf3 ?zqf4 ?zqhh ?_; (case zqN => k_asm); (case zqm => k_mem); (case zqm2 => k_mem); (case zqc1 => exact rfl); (case zqc3 => exact rfl); (case zqB => k_asm); (case zqF => k_asm); (case zqX => k_asm); (case zqT => k_asm); (case zqk => exact rfl); (case zqd => ktr_room); (case zqu => ktr_units); (case zqp => k_is); (case zqp2 => k_is); (case zqp3 => k_is); (case zqf2 => k_is); (case zqf3 => k_is); (case zqf4 => k_is); (case zqhh => exact rfl); k_whole; intro h' tk' F' N'; (try k_sweep))))
  (k_with "getAttr ref" => (k_here; (with_reducible show wpAny _ _ (getAttr (Value.ref _) (PySem.Str.ofString "serializer") _) _ _ _); k_dflt (refine' conf_attr (And.right (And.right (get_conf _ _ _ _ _ _ _ _ _ _ ?zqm))) ?zqm2 ?zqc1 ?zqc3 ?zqB ?zqF ?zqX ?zqN ?zqT ?zqk ?zqd ?zqu ?zqp ?zqp2 ?zqp3 ?zqf2 ?zqf3 ?zqf4 ?zqhh ?_; (case zqN => k_asm); (case zqm => k_mem); (case zqm2 => k_mem); (case zqc1 => exact rfl); (case zqc3 => exact rfl); (case zqB => k_asm); (case zqF => k_asm); (case zqX => k_asm); (case zqT => k_asm); (case zqk => exact rfl); (case zqd => ktr_room); (case zqu => ktr_units); (case zqp => k_is); (case zqp2 => k_is); (case zqp3 => k_is); (case zqf2 => k_is); (case zqf3 => k_is); (case zqf4 => k_is); (case zqhh => exact rfl); k_whole; intro h' tk' F' N'; (try k_sweep))))
  (k_with "ne" => first | (with_reducible assumption) | (exact Nat.ne_of_lt (by with_reducible assumption)) | (exact Nat.ne_of_gt (by with_reducible assumption)) | (exact Ne.symm (by with_reducible assumption)) | (exact allNe_mem2 (by with_reducible assumption) (by k_mem)) | (exact Ne.symm (allNe_mem2 (by with_reducible assumption) (by k_mem))) | (exact ng0 (by with_reducible assumption)) | (exact nl0 (by with_reducible assumption)) | (exact ng1 (by with_reducible assumption)) | (exact nl1 (by with_reducible assumption)) | (exact fg1 (by with_reducible assumption)) | (exact fl1 (by with_reducible assumption)) | (exact ng2 (by with_reducible assumption)) | (exact nl2 (by with_reducible assumption)) | (exact fg2 (by with_reducible assumption)) | (exact fl2 (by with_reducible assumption)) | (exact ng3 (by with_reducible assumption)) | (exact nl3 (by with_reducible assumption)) | (exact fg3 (by with_reducible assumption)) | (exact fl3 (by with_reducible assumption)) | (exact ng4 (by with_reducible assumption)) | (exact nl4 (by with_reducible assumption)) | (exact fg4 (by with_reducible assumption)) | (exact fl4 (by with_reducible assumption)) | (exact ng5 (by with_reducible assumption)) | (exact nl5 (by with_reducible assumption)) | (exact fg5 (by with_reducible assumption)) | (exact fl5 (by with_reducible assumption)) | (exact ng6 (by with_reducible assumption)) | (exact nl6 (by with_reducible assumption)) | (exact fg6 (by with_reducible assumption)) | (exact fl6 (by with_reducible assumption)) | (exact ng7 (by with_reducible assumption)) | (exact nl7 (by with_reducible assumption)) | (exact fg7 (by with_reducible assumption)) | (exact fl7 (by with_reducible assumption)) | (exact ng8 (by with_reducible assumption)) | (exact nl8 (by with_reducible assumption)) | (exact fg8 (by with_reducible assumption)) | (exact fl8 (by with_reducible assumption)) | (exact ng9 (by with_reducible assumption)) | (exact nl9 (by with_reducible assumption)) | (exact fg9 (by with_reducible assumption)) | (exact fl9 (by with_reducible assumption)) | (exact ng10 (by with_reducible assumption)) | (exact nl10 (by with_reducible assumption)) | (exact fg10 (by with_reducible assumption)) | (exact fl10 (by with_reducible assumption)) | (exact ng11 (by with_reducible assumption)) | (exact nl11 (by with_reducible assumption)) | (exact fg11 (by with_reducible assumption)) | (exact fl11 (by with_reducible assumption)) | (exact ng12 (by with_reducible assumption)) | (exact nl12 (by with_reducible assumption)) | (exact fg12 (by with_reducible assumption)) | (exact fl12 (by with_reducible assumption)) | (exact ng13 (by with_reducible assumption)) | (exact nl13 (by with_reducible assumption)) | (exact fg13 (by with_reducible assumption)) | (exact fl13 (by with_reducible assumption)) | (exact na0 (by with_reducible assumption)) | (exact nb0 (by with_reducible assumption)) | (exact na1 (by with_reducible assumption)) | (exact nb1 (by with_reducible assumption)) | (exact na2 (by with_reducible assumption)) | (exact nb2 (by with_reducible assumption)) | (exact na3 (by with_reducible assumption)) | (exact nb3 (by with_reducible assumption)) | (exact na4 (by with_reducible assumption)) | (exact nb4 (by with_reducible assumption)) | (exact na5 (by with_reducible assumption)) | (exact nb5 (by with_reducible assumption)) | (exact na6 (by with_reducible assumption)) | (exact nb6 (by with_reducible assumption)) | (exact na7 (by with_reducible assumption)) | (exact nb7 (by with_reducible assumption)) | (exact na8 (by with_reducible assumption)) | (exact nb8 (by with_reducible assumption)) | (exact na9 (by with_reducible assumption)) | (exact nb9 (by with_reducible assumption)) | (exact oi1) | (exact os1) | (exact ok1 (by with_reducible assumption)) | (exact oc1 (by with_reducible assumption)) | (exact oi2) | (exact os2) | (exact ok2 (by with_reducible assumption)) | (exact oc2 (by with_reducible assumption)) | (exact oi3) | (exact os3) | (exact ok3 (by with_reducible assumption)) | (exact oc3 (by with_reducible assumption)) | (exact oi4) | (exact os4) | (exact ok4 (by with_reducible assumption)) | (exact oc4 (by with_reducible assumption)) | (exact oi5) | (exact os5) | (exact ok5 (by with_reducible assumption)) | (exact oc5 (by with_reducible assumption)) | (exact news_ne (by k_asm) (by k_mem) (by k_mem) (by intro e; cases e)))
  (k_with "z k_ne" => (refine neN ?_; (try dsimp only); k_extra "ne"))
  (k_with "z k_all" => first | exact allNe_mem (by with_reducible assumption) | exact allNe_of_lt (by with_reducible assumption) | with_reducible assumption)
  (k_with "call ref" => (k_here; (with_reducible show wpAny _ _ (call (Value.ref 369) [Value.int _ _, Value.int _ _]) _ _ _); k_dflt (first | (refine' calls_use (low_calls _ _ _ _ _ 2 (by decide)) ?zqB ?zqF ?zqX ?zqN ?zqT ?zqk ?zqd ?zqu ?_; (case zqB => k_asm); (case zqF => k_asm); (case zqX => k_asm); (case zqN => k_asm); (case zqT => k_asm); (case zqk => exact rfl); (case zqd => ktr_room); (case zqu => ktr_units); k_whole) | (refine' calls_use (low_calls _ _ _ _ _ 4 (by decide)) ?zqB ?zqF ?zqX ?zqN ?zqT ?zqk ?zqd ?zqu ?_; (case zqB => k_asm); (case zqF => k_asm); (case zqX => k_asm); (case zqN => k_asm); (case zqT => k_asm); (case zqk => exact rfl); (case zqd => ktr_room); (case zqu => ktr_units); k_whole) | (refine' calls_use (low_calls _ _ _ _ _ _ ?zqn) ?zqB ?zqF ?zqX ?zqN ?zqT ?zqk ?zqd ?zqu ?_; (case zqB => k_asm); (case zqF => k_asm); (case zqX => k_asm); (case zqN => k_asm); (case zqT => k_asm); (case zqk => exact rfl); (case zqd => ktr_room); (case zqu => ktr_units); (case zqn => k_extra "om"); k_whole)); intro v' h' tk' F' P'; obtain ⟨l', vs', hv', N', hI', hO'⟩ := P'; subst hv'; (replace hO' := allNe_of hO'); (try dsimp only); (try k_fold)))
  (k_with "call builtin:len" => (k_here; (with_reducible show wpAny _ _ (call (Value.builtin "len") [Value.ref _]) _ _ _); k_dflt (refine' len_ints ?zqN ?zqm ?zqi ?zqf ?_; (case zqN => k_asm); (case zqm => k_mem); (case zqi => with_reducible assumption); (case zqf => ((try simp only [List.length_append, List.length_replicate, KTBy.little_length]); k_extra "om")); k_whole)))
  (k_with "binaryOp Add ref ref" => (k_here; (with_reducible show wpAny _ _ (binaryOp Operator.Add (Value.ref _) (Value.ref _)) _ _ _); k_dflt (refine' add_ints ?zqF ?zqN ?zqa ?zqb ?zqi ?zqj ?zqf ?_; (case zqF => k_asm); (case zqN => k_asm); (case zqa => k_mem); (case zqb => k_mem); (case zqi => with_reducible assumption); (case zqj => with_reducible assumption); (case zqf => ((try simp only [List.length_append, List.length_replicate, KTBy.little_length]); k_extra "om")); k_whole; intro l' us' h' F' N' I' l1; (try k_lt l1); (try k_sweep))))
  (k_with "binaryOp Mult ref int" => (k_here; (with_reducible show wpAny _ _ (binaryOp Operator.Mult (Value.ref _) (Value.int _ _)) _ _ _); k_dflt (refine' mul_ints ?zqF ?zqN ?zqa ?zqg ?zqf ?_; (case zqF => k_asm); (case zqN => k_asm); (case zqa => k_mem); (case zqg => k_extra "om"); (case zqf => k_extra "om"); k_whole; intro l' us' h' F' N' I' l1; (try k_lt l1); (try k_sweep))))
  (k_with "call ref" => (k_here; (with_reducible show wpAny _ _ (call (Value.ref 388) [Value.ref _, Value.ref _]) _ _ _); k_dflt ((refine' calls_use (parts_calls _ _ _ _ _ _ _ _ _ _ ?zqm ?zqz _ _ _ _ ?zql ?zqi ?zqe) ?zqB ?zqF ?zqX ?zqN ?zqT ?zqk ?zqd ?zqu ?_; (case zqB => k_asm); (case zqF => k_asm); (case zqX => k_asm); (case zqN => k_asm); (case zqT => k_asm); (case zqk => exact rfl); (case zqd => ktr_room); (case zqu => ktr_units); (case zqm => k_mem); (case zql => k_mem); (case zqi => with_reducible assumption); (case zqz => k_extra "om"); (case zqe => ((try simp only [List.length_append, List.length_replicate, KTBy.little_length]); k_extra "om")); k_whole)); intro v' h' tk' F' P'; obtain ⟨l', vs', e', hv', N', hI', hO'⟩ := P'; subst hv'; (replace hO' := allNe_of hO'); (try dsimp only); (try k_fold)))
  (k_with "call builtin:int.to_bytes" => (k_here; (with_reducible show wpAny _ _ (call (Value.builtin "int.to_bytes") [Value.int _ _, Value.int _ _, Value.str _ _]) _ _ _); k_dflt (first | (refine' to_bytes_in (k := 2) (B := 65536) ?zqh1 ?zqh2 ?zqh3 ?zqh4 (fun b' t' k' hb' => ?_); (case zqh1 => decide); (case zqh2 => decide); (case zqh3 => k_extra "om"); (case zqh4 => k_extra "om")) | (refine' to_bytes_in (k := 4) (B := 4294967296) ?zqh1 ?zqh2 ?zqh3 ?zqh4 (fun b' t' k' hb' => ?_); (case zqh1 => decide); (case zqh2 => decide); (case zqh3 => k_extra "om"); (case zqh4 => k_extra "om")) | (refine' to_bytes_all (k := 2) rfl ?zqh (fun hx0 hx1 b' t' k' hb' => ?_) (fun hx h' tk' e' hn' => ?_); (case zqh => decide)) | (refine' to_bytes_all (k := 4) rfl ?zqh (fun hx0 hx1 b' t' k' hb' => ?_) (fun hx h' tk' e' hn' => ?_); (case zqh => decide)) | (refine' to_bytes_all rfl ?zqh (fun hx0 hx1 b' t' k' hb' => ?_) (fun hx h' tk' e' hn' => ?_); (case zqh => k_extra "om")))))
  (k_with "leaving ref" => (k_here; k_dflt (refine' leave_newS ?zqk1 ?zqk0 ?zqk2 ?zqk3 ?_; (case zqk0 => assumption); (case zqk1 => assumption); (case zqk2 => assumption); (case zqk3 => k_asm); k_whole; intro h' R' Rn' U')))
  (k_with "getMethod str" => (k_here; (with_reducible refine encode_method ?_)))
  (k_with "callWith" => (k_here; (with_reducible show wpAny _ _ (callWith _ (Value.builtin _) _ (backTo _ (starEach [] _)) (backToKw _ (keywordEach (_ :: _) _))) _ _ _); k_dflt (refine callWith_kwN ?_)))
  (k_with "call builtin:str.encode" => (k_here; k_dflt (refine' encode_call ?zqhe ?zqhz ?_; (case zqhe => assumption); (case zqhz => assumption); k_whole; intro t' k')))
  (k_with "call builtin:bytes.decode" => (k_here; k_dflt (first | (refine' decode_kw ?zqhd ?zqhe ?zqhz ?_; (case zqhd => assumption); (case zqhe => assumption); (case zqhz => assumption); k_whole; intro t' k') | (refine' decode_ascii ?zqhd ?zqhe ?zqhz ?_; (case zqhd => assumption); (case zqhe => assumption); (case zqhz => assumption); k_whole; intro t' k'))))
  (k_with "binaryOp Add bytes bytes" => (k_here; (with_reducible show wpAny _ _ (binaryOp Operator.Add (Value.bytes _ _) (Value.bytes _ _)) _ _ _); k_dflt (refine' add_b ?zqb ?zqc ?zqz (fun d' t' k' hb' => ?_); (case zqb => first | with_reducible assumption | exact bints_nil); (case zqc => first | with_reducible assumption | exact bints_nil); (case zqz => ((try simp only [List.length_append, List.length_replicate, KTBy.little_length, List.length_cons, List.length_nil]); k_extra "om")))))
  (k_with "call type:bytes" => (k_here; (with_reducible show wpAny _ _ (call (Value.type "bytes") [Value.int _ _]) _ _ _); k_dflt (refine' zeros_call ?zqa ?zqb (fun d' t' k' hb' => ?_); (case zqa => k_extra "om"); (case zqb => k_extra "om"))))
  (k_with "call type:bytes" => (k_here; (with_reducible show wpAny _ _ (call (Value.type "bytes") [Value.ref _]) _ _ _); k_dflt (refine' bytes_of_list rfl ?zqF ?zqN ?zql ?zqi ?zqr ?zqz (fun d' t' k' h' F' N' hb' => ?_); (case zqF => k_asm); (case zqN => k_asm); (case zql => k_mem); (case zqi => with_reducible assumption); (case zqz => ((try simp only [List.length_append, List.length_replicate, KTBy.little_length, List.length_cons, List.length_nil]); k_extra "om")); (case zqr => (repeat' (first | with_reducible assumption | exact rng_little _ _ | exact rng_zeros _ | exact rng_nil | refine rng_app ?_ ?_ | refine rng_cons ⟨by k_extra "om", by k_extra "om"⟩ ?_))))))
  (k_with "call builtin:len" => (k_here; (with_reducible show wpAny _ _ (call (Value.builtin "len") [Value.bytes #[] _]) _ _ _); (with_reducible refine len_nil ?_)))
  (k_with "leaving ref" => (k_here; k_dflt (refine' leave_onE ?zqhf ?zqB ?zqF ?zqR ?zqU ?_; (case zqhf => exact rfl); (case zqR => first | with_reducible assumption | assumption); (case zqB => assumption); (case zqU => assumption); (case zqF => assumption); k_whole; intro h' R' U')))
  (k_with "storeName" => (k_here; k_dflt (first | (refine' store_gi ?zqF ?zqN ?zqa ?zqb ?_; (case zqF => k_asm); (case zqN => k_asm); (case zqa => exact Eq.refl ScopeKind.function); (case zqb => exact Eq.refl (some NameKind.local)); k_whole; intro h' tk' ti' F' N'; (try k_sweep)) | (refine' store_g ?zqF ?zqN ?zqa ?zqb ?_; (case zqF => k_asm); (case zqN => k_asm); (case zqa => exact Eq.refl ScopeKind.function); (case zqb => exact Eq.refl (some NameKind.local)); k_whole; intro h' tk' F' N'; (try k_sweep)))))
  (k_with "fr" => ((with_reducible rename Fr _ _ _ (fun _ ↦ List.lookup _ _) => zrF9); k_dflt (first | (replace zrF9 : Fr _ _ _ (fun y => List.lookup y [(_, _)]) := zrF9) | (replace zrF9 : Fr _ _ _ (fun y => List.lookup y [(_, _), (_, _)]) := zrF9) | (replace zrF9 : Fr _ _ _ (fun y => List.lookup y [(_, _), (_, _), (_, _)]) := zrF9) | (replace zrF9 : Fr _ _ _ (fun y => List.lookup y [(_, _), (_, _), (_, _), (_, _), (_, _), (_, _)]) := zrF9) | (replace zrF9 : Fr _ _ _ (fun y => List.lookup y [(_, _), (_, _), (_, _), (_, _), (_, _)]) := zrF9) | (replace zrF9 : Fr _ _ _ (fun y => List.lookup y [(_, _), (_, _), (_, _), (_, _)]) := zrF9) | (replace zrF9 : Fr _ _ _ (fun y => List.lookup y [(_, _), (_, _), (_, _), (_, _), (_, _), (_, _), (_, _)]) := zrF9)); (try dsimp only at zrF9)))
  (k_with "z k_handed" => with_reducible assumption)
  (k_with "slc find" => first | exact slc_of hz1 (by k_extra "om") (by k_extra "om") | exact slc_of hz2 (by k_extra "om") (by k_extra "om") | exact slc_of hz3 (by k_extra "om") (by k_extra "om") | exact slc_of hz4 (by k_extra "om") (by k_extra "om") | exact slc_of hz5 (by k_extra "om") (by k_extra "om"))
  (k_with "subscriptTail" => (k_here; (with_reducible show wpAny _ _ (subscriptTail _ (Expr.Slice _ _ none _) (Value.bytes _ _) (Value.ref _)) _ _ _); k_dflt (refine' slice_b (s := ⟨_, _, _, _, _⟩) ?zqF ?zqN ?zqb ?zqS ?zql ?zqh ?zqz (fun d' h' t' k' F' N' hb' => ?_); (case zqF => k_asm); (case zqN => k_asm); (case zqb => with_reducible assumption); (case zqS => k_extra "slc find"); (case zql => k_extra "om"); (case zqh => k_extra "om"); (case zqz => k_extra "om"))))
  (k_with "call ref" => (k_here; (with_reducible show wpAny _ _ (call (Value.ref _) [Value.bytes _ _, Value.str _ _]) _ _ _); k_dflt (refine' from_little ?zqN ?zqm ?zqb ?zqv ?zql (fun t' k' => ?_); (case zqN => k_asm); (case zqm => k_mem); (case zqb => with_reducible assumption); (case zqv => with_reducible assumption); (case zql => k_extra "om"))))
  (k_with "call ref" => (k_here; (with_reducible show wpAny _ _ (call (Value.ref _) [Value.ref _, Value.bytes _ _]) _ _ _); (with_reducible rename DeserOk _ _ _ _ => zrhdes); k_dflt (refine' deser_use zrhdes ?zqb ?zqB ?zqF ?zqX ?zqN ?zqT ?zqk ?zqd ?zqu (fun v' h' tk' P' H' F' N' => ?_); (case zqb => with_reducible assumption); (case zqB => k_asm); (case zqF => k_asm); (case zqX => k_asm); (case zqN => k_asm); (case zqT => k_asm); (case zqk => exact rfl); (case zqd => ktr_room); (case zqu => ktr_units))))
  (k_with "callWith ref" => (k_here; (with_reducible show wpAny _ _ (callWith _ (Value.ref _) _ (backTo _ (starEach (_ :: _) _)) []) _ _ _); kfb_any; k_dflt (refine' KFB.callWith_bound ?zqN ?zqM ?_; (case zqN => k_asm); (case zqM => k_mem); k_whole)))
  (k_with "call ref" => (k_here; (with_reducible show wpAny _ _ (call (Value.ref 355) _) _ _ _); k_dflt (refine' calls_use (pages_calls _ _) ?zqB ?zqF ?zqX ?zqN ?zqT ?zqk ?zqd ?zqu ?_; (case zqB => k_asm); (case zqF => k_asm); (case zqX => k_asm); (case zqN => k_asm); (case zqT => k_asm); (case zqk => exact rfl); (case zqd => ktr_room); (case zqu => ktr_units); k_whole); intro v' h' tk' F' P'; obtain ⟨l', vs', e', hv', hI', N', l1⟩ := P'; subst hv'; (try k_lt l1); (try dsimp only); (try k_fold)))
  (k_with "subscriptTail" => (k_here; (with_reducible show wpAny _ _ (subscriptTail _ _ (Value.ref _) (Value.int _ _)) _ _ _); k_dflt (refine' page_get ?zqN ?zqm ?zqi ?zqa ?zqb (fun P' t' hP' => ?_); (case zqN => k_asm); (case zqm => k_mem); (case zqi => with_reducible assumption); (case zqa => k_extra "om"); (case zqb => k_extra "om"))))
  (k_with "call ref" => (k_here; (with_reducible show wpAny _ _ (call (Value.ref 381) [Value.ref _, Value.bool _, Value.int _ _]) _ _ _); (with_reducible rename KeyCalls _ _ _ _ _ _ _ _ _ _ _ _ _ _ _ => zrhkc); k_dflt (refine' key_use zrhkc ?zqm ?zqB ?zqF ?zqX ?zqN ?zqT ?zqk ?zqd ?zqu (fun tup' t' tf' l' vs' h' tk' hg' hi' F' N' hO' => ?_) (fun tup' t' tf' h' tk' hg' F' N' hO' => ?_); (case zqN => k_asm); (case zqm => k_mem); (case zqB => k_asm); (case zqF => k_asm); (case zqX => k_asm); (case zqT => k_asm); (case zqk => exact rfl); (case zqd => ktr_room); (case zqu => ktr_units)); (all_goals (try simp only [AllNe, and_true] at hO')); (all_goals (try k_fold))))
  (k_with "binaryOp Mult int int" => (k_here; (with_reducible refine mul_int ?_ (IntMulOk.of_left (intBits_le_64 (by k_extra "om") (by k_extra "om"))))))
  (k_with "CompSrc" => (k_here; k_dflt (refine LCg.CompSrc.range (by rfl) (by k_asm) (by k_asm) (by assumption) (by first | exact small_one (by kcf_bnd) (by kcf_bnd) (by kcf_bnd) (by kcf_bnd) | decide) (by first | exact rangeSize_nat _ _ | rfl) (by rw [PySem.sizeLine_eq]; k_extra "om") ?_; intro g'; (refine' kcf_range _ (fun k' t' I' oI' C' oC' D' m' ys' h' tk' E' hlo' hhi' hC' hx' F' N' off' ne' hMark' => ?_) ?_); (all_goals (try (simp only [LCg.Off3, and_true] at off'))); kcf_last)))
  (k_with "eval Lambda" => (k_here; k_dflt (refine' kla_eval ?zqd0 ?_; (case zqd0 => exact rfl)); k_dflt (refine' lam_make ?zqF ?zqN ?zqT ?zqC ?zqcd ?zqU ?zqO ?zqsub ?zqcl (fun f' c' oc' vs' t' ct' ps' h' tk' F' N' O' d1' d2' l1 hk' => ?_); (case zqF => k_asm); (case zqN => k_asm); (case zqT => k_asm); (case zqC => with_reducible assumption); (case zqcd => exact rfl); (case zqU => k_updF); (case zqO => ((with_reducible rename TabOk _ _ _ => zrhO'); exact tabOk_q zrhO' (by kernel_rfl))); (case zqsub => first | (intro q hq; k_mem; done) | kcf_all); (case zqcl => exact rfl)); (try dsimp only at N'); (try k_lt l1)))
  (k_with "call ref" => (k_here; (with_reducible show wpAny _ _ (call (Value.ref 381) [Value.ref _, Value.bool _, Value.int _ _]) _ _ _); (with_reducible rename KeyCalls _ _ _ _ _ _ _ _ _ _ _ _ _ _ _ => zrhkc); k_dflt (refine' key_use2 zrhkc ?zqm ?zqB ?zqF ?zqX ?zqN ?zqT ?zqk ?zqd ?zqu (fun tup' t' tf' ov' fv' l' ol' h' tk' hA' F' N' hO' => ?_); (case zqN => k_asm); (case zqm => k_mem); (case zqB => k_asm); (case zqF => k_asm); (case zqX => k_asm); (case zqT => k_asm); (case zqk => exact rfl); (case zqd => ktr_room); (case zqu => ktr_units)); (have hH' := keyAns_hand hA'); (obtain ⟨hO1', hO2'⟩ := hO'); (try k_fold)))
  (k_with "call ref" => (k_here; (with_reducible show wpAny _ _ (call (Value.ref 395) [Value.ref _]) _ _ _); refine hold_in ?_))
  (k_with "call ref" => (k_here; (with_reducible show wpAny _ _ (call (Value.ref 232) _ _) _ _ _); k_dflt (first | (refine' recN_use ?zqB ?zqF ?zqX ?zqN ?zqT ?zqk ?zqd ?zqu (rec_page _ _ _ _ _ _ _ _ _ _ ?zqm ?zqcs _ _ _) (fun x' dx' k1' k2' k3' k4' k5' tl' h' tk' l1 l2 F' N' => ?_); (case zqN => k_asm); (case zqB => k_asm); (case zqF => k_asm); (case zqX => k_asm); (case zqT => k_asm); (case zqk => exact rfl); (case zqd => ktr_room); (case zqu => ktr_units); (case zqm => k_mem); (case zqcs => assumption)) | (refine' recV_ok ?zqB ?zqF ?zqX ?zqN ?zqT ?zqk ?zqd ?zqu ?zql (rec_value _ _ _ _ _ _ _ _ _ _ ?zqm ?zqcs _ _ _ _ ?zqb ?zql2) (fun x' dx' k1' k2' k3' k4' k5' tl' h' tk' l1 l2 F' N' => ?_); (case zqN => k_asm); (case zqB => k_asm); (case zqF => k_asm); (case zqX => k_asm); (case zqT => k_asm); (case zqk => exact rfl); (case zqd => ktr_room); (case zqu => ktr_units); (case zqm => k_mem); (case zqcs => assumption); (case zqb => with_reducible assumption); (case zql => with_reducible assumption); (case zql2 => k_extra "om")) | (refine' recV_no ?zqB ?zqF ?zqX ?zqN ?zqT ?zqk ?zqd ?zqu ?zql (rec_value _ _ _ _ _ _ _ _ _ _ ?zqm ?zqcs _ _ _ _ ?zqb ?zql2) (fun e' h' tk' g' F' R' U' => ?_); (case zqN => k_asm); (case zqB => k_asm); (case zqF => k_asm); (case zqX => k_asm); (case zqT => k_asm); (case zqk => exact rfl); (case zqd => ktr_room); (case zqu => ktr_units); (case zqm => k_mem); (case zqcs => assumption); (case zqb => with_reducible assumption); (case zql => with_reducible assumption); (case zql2 => k_extra "om")) | ((with_reducible rename KeyKind _ _ _ _ _ _ _ _ _ _ => zrhKK); (refine' recBo_use ?zqB ?zqF ?zqX ?zqN ?zqT ?zqk ?zqd ?zqu (rec_back_out _ _ _ _ _ _ _ _ _ _ _ ?zqm ?zqcs ?zqs2 _ _ _ ?zqs1 _ _ _ _ _ zrhKK ?zqg _ ?zqp0 ?zqp1 _ _ ?zqb) (fun t9 t8 x' dx' k1' k2' k3' k4' k5' tl' h' tk' F' N' => ?_); (case zqN => k_asm); (case zqB => k_asm); (case zqF => k_asm); (case zqX => k_asm); (case zqT => k_asm); (case zqk => exact rfl); (case zqd => ktr_room); (case zqu => ktr_units); (case zqb => with_reducible assumption); (case zqm => k_mem); (case zqcs => assumption); (case zqs1 => k_mem); (case zqs2 => k_mem); (case zqg => with_reducible assumption); (case zqp0 => k_extra "om"); (case zqp1 => k_extra "om"))) | ((with_reducible rename KeyKind _ _ _ _ _ _ _ _ _ _ => zrhKK); (refine' recBi_use ?zqB ?zqF ?zqX ?zqN ?zqT ?zqk ?zqd ?zqu (rec_back_in _ _ _ _ _ _ _ _ _ _ _ ?zqm ?zqcs ?zqs2 _ _ _ ?zqs1 _ _ _ _ _ zrhKK ?zqg _ ?zqn _ _ ?zqb) (fun t9 b8 t8 x' dx' k1' k2' k3' k4' k5' tl' h' tk' hb8 F' N' => ?_); (case zqN => k_asm); (case zqB => k_asm); (case zqF => k_asm); (case zqX => k_asm); (case zqT => k_asm); (case zqk => exact rfl); (case zqd => ktr_room); (case zqu => ktr_units); (case zqb => with_reducible assumption); (case zqm => k_mem); (case zqcs => assumption); (case zqs1 => k_mem); (case zqs2 => k_mem); (case zqg => with_reducible assumption); (case zqn => with_reducible assumption))) | (refine' recN_use ?zqB ?zqF ?zqX ?zqN ?zqT ?zqk ?zqd ?zqu (rec_plain _ _ _ _ _ _ _ _ _ _ ?zqm ?zqcs _) (fun x' dx' k1' k2' k3' k4' k5' tl' h' tk' l1 l2 F' N' => ?_); (case zqN => k_asm); (case zqB => k_asm); (case zqF => k_asm); (case zqX => k_asm); (case zqT => k_asm); (case zqk => exact rfl); (case zqd => ktr_room); (case zqu => ktr_units); (case zqm => k_mem); (case zqcs => assumption))); (try k_fold)))
  (k_with "call ref" => (k_here; (with_reducible show wpAny _ _ (call (Value.ref 273) _ _) _ _ _); k_dflt (first | (refine' refN_use ?zqB ?zqF ?zqX ?zqN ?zqT ?zqk ?zqd ?zqu (ref_new _ _ _ _ _ _ _ _ _ _ ?zqm ?zqcs _ _ _) (fun x' dx' k1' k2' k3' k4' k5' tl' h' tk' l1 l2 F' N' => ?_); (case zqN => k_asm); (case zqB => k_asm); (case zqF => k_asm); (case zqX => k_asm); (case zqT => k_asm); (case zqk => exact rfl); (case zqd => ktr_room); (case zqu => ktr_units); (case zqm => k_mem); (case zqcs => assumption)) | ((with_reducible rename KeyKind _ _ _ _ _ _ _ _ _ _ => zrhKK); (refine' refB_use ?zqB ?zqF ?zqX ?zqN ?zqT ?zqk ?zqd ?zqu (ref_back _ _ _ _ _ _ _ _ _ _ _ ?zqm ?zqcs ?zqs2 _ _ _ ?zqs1 _ _ _ _ _ zrhKK ?zqg _ _ ?zqp0 ?zqp1 ?zqp2 ?zqp3 _ _ ?zqb) (fun t9 t8 t7 x' dx' k1' k2' k3' k4' k5' tl' h' tk' F' N' => ?_); (case zqN => k_asm); (case zqB => k_asm); (case zqF => k_asm); (case zqX => k_asm); (case zqT => k_asm); (case zqk => exact rfl); (case zqd => ktr_room); (case zqu => ktr_units); (case zqb => with_reducible assumption); (case zqm => k_mem); (case zqcs => assumption); (case zqs1 => k_mem); (case zqs2 => k_mem); (case zqg => with_reducible assumption); (case zqp0 => k_extra "om"); (case zqp1 => k_extra "om"); (case zqp2 => k_extra "om"); (case zqp3 => k_extra "om"))) | (refine' refN_use ?zqB ?zqF ?zqX ?zqN ?zqT ?zqk ?zqd ?zqu (ref_plain _ _ _ _ _ _ _ _ _ _ ?zqm ?zqcs _) (fun x' dx' k1' k2' k3' k4' k5' tl' h' tk' l1 l2 F' N' => ?_); (case zqN => k_asm); (case zqB => k_asm); (case zqF => k_asm); (case zqX => k_asm); (case zqT => k_asm); (case zqk => exact rfl); (case zqd => ktr_room); (case zqu => ktr_units); (case zqm => k_mem); (case zqcs => assumption))); (try k_fold)))
  (k_with "call ref" => (k_here; (with_reducible show wpAny _ _ (call (Value.ref 222) _) _ _ _); (with_reducible rename KeyKind _ _ _ _ _ _ _ _ _ _ => zrhKK); k_dflt (first | (refine' dumpO_use ?zqB ?zqF ?zqX ?zqN ?zqT ?zqk ?zqd ?zqu (dump_out_ok _ _ _ _ _ _ _ _ _ _ _ ?zqm ?zqcs ?zqs2 _ _ _ ?zqs1 _ _ _ _ _ zrhKK _ _ _ _ _ _ _ _ _ ?zqg _ _ ?zqp0 ?zqp1 ?zqx ?zqy) (fun b9 t9 h' tk' hb9 F' N' => ?_); (case zqg => with_reducible assumption); (case zqN => k_asm); (case zqB => k_asm); (case zqF => k_asm); (case zqX => k_asm); (case zqT => k_asm); (case zqk => exact rfl); (case zqd => ktr_room); (case zqu => ktr_units); (case zqx => k_mem); (case zqy => k_mem); (case zqm => k_mem); (case zqcs => assumption); (case zqs1 => k_mem); (case zqs2 => k_mem); (case zqp0 => k_extra "om"); (case zqp1 => k_extra "om")) | (refine' dumpO_use ?zqB ?zqF ?zqX ?zqN ?zqT ?zqk ?zqd ?zqu (dump_in_ok _ _ _ _ _ _ _ _ _ _ _ ?zqm ?zqcs ?zqs2 _ _ _ ?zqs1 _ _ _ _ _ zrhKK _ _ _ _ _ _ _ _ _ ?zqg _ _ _ ?zqb ?zql ?zqx ?zqy) (fun b9 t9 h' tk' hb9 F' N' => ?_); (case zqg => with_reducible assumption); (case zqN => k_asm); (case zqB => k_asm); (case zqF => k_asm); (case zqX => k_asm); (case zqT => k_asm); (case zqk => exact rfl); (case zqd => ktr_room); (case zqu => ktr_units); (case zqx => k_mem); (case zqy => k_mem); (case zqm => k_mem); (case zqcs => assumption); (case zqs1 => k_mem); (case zqs2 => k_mem); (case zqb => with_reducible assumption); (case zql => with_reducible assumption)) | (refine' dumpN_use ?zqB ?zqF ?zqX ?zqN ?zqT ?zqk ?zqd ?zqu (dump_out _ _ _ _ _ _ _ _ _ _ _ ?zqm ?zqcs ?zqs2 _ _ _ ?zqs1 _ _ _ _ _ zrhKK _ _ _ _ _ _ _ _ _ _ _ ?zqp0 ?zqx ?zqy) (fun hg9 hn9 b9 t9 h' tk' hb9 F' N' => ?_) (fun c' e' h' tk' g' C' F' R' U' => ?_); (case zqN => k_asm); (case zqB => k_asm); (case zqF => k_asm); (case zqX => k_asm); (case zqT => k_asm); (case zqk => exact rfl); (case zqd => ktr_room); (case zqu => ktr_units); (case zqx => k_mem); (case zqy => k_mem); (case zqm => k_mem); (case zqcs => assumption); (case zqs1 => k_mem); (case zqs2 => k_mem); (case zqp0 => k_extra "om")) | (refine' dumpN_use ?zqB ?zqF ?zqX ?zqN ?zqT ?zqk ?zqd ?zqu (dump_in _ _ _ _ _ _ _ _ _ _ _ ?zqm ?zqcs ?zqs2 _ _ _ ?zqs1 _ _ _ _ _ zrhKK _ _ _ _ _ _ _ _ _ _ _ _ ?zqb ?zql ?zqx ?zqy) (fun hg9 hn9 b9 t9 h' tk' hb9 F' N' => ?_) (fun c' e' h' tk' g' C' F' R' U' => ?_); (case zqN => k_asm); (case zqB => k_asm); (case zqF => k_asm); (case zqX => k_asm); (case zqT => k_asm); (case zqk => exact rfl); (case zqd => ktr_room); (case zqu => ktr_units); (case zqx => k_mem); (case zqy => k_mem); (case zqm => k_mem); (case zqcs => assumption); (case zqs1 => k_mem); (case zqs2 => k_mem); (case zqb => with_reducible assumption); (case zql => with_reducible assumption))); (try k_fold)))
  (k_with "call ref" => (k_here; (with_reducible show wpAny _ _ (call (Value.ref 263) _) _ _ _); (with_reducible rename KeyKind _ _ _ _ _ _ _ _ _ _ => zrhKK); k_dflt (first | (refine' callsX_use ?zqB ?zqF ?zqX ?zqN ?zqT ?zqk ?zqd ?zqu (refdump_no _ _ _ _ _ _ _ _ _ ?zqhb ?zqha ?zqhn _ _ _ _ _ _ _ ?zqx ?zqy) (fun e' h' tk' g' F' R' U' => ?_); (case zqhn => with_reducible assumption); (case zqN => k_asm); (case zqB => k_asm); (case zqF => k_asm); (case zqX => k_asm); (case zqT => k_asm); (case zqk => exact rfl); (case zqd => ktr_room); (case zqu => ktr_units); (case zqx => k_mem); (case zqy => k_mem); (case zqhb => with_reducible assumption); (case zqha => with_reducible assumption)) | (refine' dumpO_use ?zqB ?zqF ?zqX ?zqN ?zqT ?zqk ?zqd ?zqu (dump_ref_ok _ _ _ _ _ _ _ _ _ _ _ ?zqm ?zqcs ?zqs2 _ _ _ ?zqs1 _ _ _ _ _ zrhKK _ _ _ _ _ _ _ _ _ ?zqg _ _ _ _ ?zqp0 ?zqp1 ?zqp2 ?zqp3 ?zqx ?zqy) (fun b9 t9 h' tk' hb9 F' N' => ?_); (case zqg => with_reducible assumption); (case zqN => k_asm); (case zqB => k_asm); (case zqF => k_asm); (case zqX => k_asm); (case zqT => k_asm); (case zqk => exact rfl); (case zqd => ktr_room); (case zqu => ktr_units); (case zqx => k_mem); (case zqy => k_mem); (case zqm => k_mem); (case zqcs => assumption); (case zqs1 => k_mem); (case zqs2 => k_mem); (case zqp0 => k_extra "om"); (case zqp1 => k_extra "om"); (case zqp2 => k_extra "om"); (case zqp3 => k_extra "om")) | (refine' dumpN_use ?zqB ?zqF ?zqX ?zqN ?zqT ?zqk ?zqd ?zqu (dump_ref _ _ _ _ _ _ _ _ _ _ _ ?zqm ?zqcs ?zqs2 _ _ _ ?zqs1 _ _ _ _ _ zrhKK _ _ _ _ _ _ _ _ _ _ _ _ _ ?zqp0 ?zqp1 ?zqx ?zqy) (fun hg9 hn9 b9 t9 h' tk' hb9 F' N' => ?_) (fun c' e' h' tk' g' C' F' R' U' => ?_); (case zqN => k_asm); (case zqB => k_asm); (case zqF => k_asm); (case zqX => k_asm); (case zqT => k_asm); (case zqk => exact rfl); (case zqd => ktr_room); (case zqu => ktr_units); (case zqx => k_mem); (case zqy => k_mem); (case zqm => k_mem); (case zqcs => assumption); (case zqs1 => k_mem); (case zqs2 => k_mem); (case zqp0 => k_extra "om"); (case zqp1 => k_extra "om"))); (try k_fold)))
  (k_with "compareOp NotEq bytes bytes" => (k_here; (with_reducible show wpAny _ _ (compareOp CmpOp.NotEq (Value.bytes _ _) (Value.bytes _ _)) _ _ _); refine' ne_b ?zqa ?zqb ?zqe ?_; (case zqa => with_reducible assumption); (case zqb => with_reducible assumption); (case zqe => k_extra "rows")))
  (k_with "compareOp Eq bytes bytes" => (k_here; (with_reducible show wpAny _ _ (compareOp CmpOp.Eq (Value.bytes _ _) (Value.bytes _ _)) _ _ _); refine' eq_b ?zqa ?zqb ?zqe ?_; (case zqa => with_reducible assumption); (case zqb => with_reducible assumption); (case zqe => k_extra "rows")))
  (k_with "compareOp Eq ref ref" => (k_here; (with_reducible show wpAny _ _ (compareOp CmpOp.Eq (Value.ref _) (Value.ref _)) _ _ _); k_dflt (refine' tup_eq ?zqN ?zqa ?zqb ?zqu ?zqe ?_; (case zqN => k_asm); (case zqa => k_mem); (case zqb => k_mem); (case zqu => ktr_units); (case zqe => k_extra "all at"))))
  (k_with "compareOp NotEq ref ref" => (k_here; (with_reducible show wpAny _ _ (compareOp CmpOp.NotEq (Value.ref _) (Value.ref _)) _ _ _); k_dflt (refine' tup_ne ?zqN ?zqa ?zqb ?zqu ?zqe ?_; (case zqN => k_asm); (case zqa => k_mem); (case zqb => k_mem); (case zqu => ktr_units); (case zqe => k_extra "all at"))))
  (k_with "compareOp NotEq int int" => (k_here; (with_reducible show wpAny _ _ (compareOp CmpOp.NotEq (Value.int _ _) (Value.int _ _)) _ _ _); refine' ne_same ?zqq1 ?_; (case zqq1 => ((try simp only [List.length_append, List.length_replicate, KTBy.little_length, List.length_cons, List.length_nil]); k_extra "om"))))
  (k_with "compareOp Eq int int" => (k_here; (with_reducible show wpAny _ _ (compareOp CmpOp.Eq (Value.int _ _) (Value.int _ _)) _ _ _); first | (refine' eq_same ?zqq1 ?_; (case zqq1 => k_extra "om")) | (refine' eq_diff ?zqq1 ?_; (case zqq1 => k_extra "om"))))
  (k_with "compareOp NotEq" => (k_here; (with_reducible show wpAny _ _ (compareOp CmpOp.NotEq _ _) _ _ _); (with_reducible rename KeyEq _ => zrhke); (with_reducible refine' zrhke.ne' _ _ _ _ _ _ _ _ ?_)))
  (k_with "rows" => first | (with_reducible exact rfl) | exact row_out _ _ _ _ | exact row_in _ _ _ _ (by with_reducible assumption) | exact row_ref _ _ _ _)
  (k_with "z k_handed" => ((with_reducible rename KeyKind _ _ _ _ _ _ _ _ _ _ => zrhKK); exact zrhKK.hand _))
  (k_with "all at" => ((try (with_reducible rename KeyEq _ => zrhke)); (repeat' (refine And.intro ?_ ?_)); (all_goals first | exact trivial | exact zrhke.at' _ _ _ _ | exact PySem.SeqAt.EqAt.same _ | exact at_int _ _ _ | (refine at_bytes (by with_reducible assumption) (by with_reducible assumption) ?_; k_extra "rows") | (refine at_int' ?_; ((try simp only [List.length_append, List.length_replicate, KTBy.little_length, List.length_cons, List.length_nil]); k_extra "om")))))
  (k_with "binaryOp FloorDiv int int" => (k_here; (with_reducible refine fdiv_small (by k_extra "om") (by k_extra "om") ?_)))
  (k_with "all ne" => ((try simp only [AllNe]); (repeat' (refine And.intro ?_ ?_)); all_goals (first | k_extra "om" | exact allNe_of_allLt (by with_reducible assumption) | with_reducible assumption)))
  (k_with "call builtin:list.append" => (k_here; (with_reducible show wpAny _ _ (call (Value.builtin _) [Value.ref _, Value.int _ _]) _ _ _); k_dflt (refine' app_U ?zqF ?zqN ?zqU ?zqi ?zqz (fun h' F' N' I' => ?_); (case zqF => k_asm); (case zqN => k_asm); (case zqU => k_updF); (case zqi => with_reducible assumption); (case zqz => k_extra "om")); (try dsimp only at N')))
  (k_with "call builtin:list.pop" => (k_here; k_dflt (refine' pop_U ?zqF ?zqN ?zqU ?zqi ?zqz ?zqn (fun y' h' F' N' I' => ?_); (case zqF => k_asm); (case zqN => k_asm); (case zqU => k_updF); (case zqi => with_reducible assumption); (case zqz => k_extra "om"); (case zqn => k_extra "om")); (try dsimp only at N')))
  (k_with "call builtin:isinstance" => (k_here; (with_reducible show wpAny _ _ (call _ [Value.str _ _, Value.ref _]) _ _ _); k_dflt (first | (refine' isi_no_rec ?zqF ?zqX (fun tk' => ?_); (case zqF => k_asm); (case zqX => k_asm)) | (refine' isi_no_ref ?zqF ?zqX (fun tk' => ?_); (case zqF => k_asm); (case zqX => k_asm)))))
  (k_with "subscriptTail Name Slice ref ref" => (k_here; (with_reducible show wpAny _ _ (subscriptTail _ (PySem.Expr.Slice none (some _) none _) (Value.ref _) (Value.ref _)) _ _ _); k_dflt (refine' kmk_slice_ints (s := ⟨_, _, _, _, _⟩) ?zqF ?zqN ?zql ?zqp ?zqq ?zqi ?zqm ?zqc ?_ ?zqs ?zqt ?zqz; (case zqF => k_asm); (case zqN => k_asm); (case zql => exact News.isList (by k_asm) (by k_mem)); (case zqp => exact IsPart.none); (case zqq => exact IsPart.int _ _); (case zqi => with_reducible assumption); (case zqm => exact kmk_upto (by with_reducible assumption) (by with_reducible assumption)); (case zqc => exact List.length_take ..); (case zqs => with_unfolding_all rfl); (case zqt => kmk_pure); (case zqz => exact kmk_sz (by with_reducible assumption) (by rw [sizeLine_eq]; k_extra "om")); intro D' ws' h' F' N' l1 hI' hC' hL'; (try k_lt l1); (try k_sweep))))
  (k_with "call builtin:isinstance" => (k_here; (with_reducible show wpAny _ _ (call _ [Value.ref _, Value.ref _]) _ _ _); k_dflt (refine' isi_call ?zqk1 ?zqk2 ?zqk3 ?zqk4 ?_; (case zqk1 => k_in); (case zqk2 => k_types); (case zqk3 => k_is); (case zqk4 => intro e; cases e); k_whole)))
  trivial
section
theorem words_p29_ord_1 : True := by
  (k_with "storeName" => (k_here; k_dflt (refine' storeX_L ?zqF ?zqN ?_ ?zqa ?zqb; (case zqF => k_asm); (case zqN => k_asm); (case zqa => exact Eq.refl ScopeKind.function); (case zqb => exact Eq.refl (some NameKind.local)); k_whole; intro h' F' N'; (try k_sweep))))
  (k_with "call ref" => (k_here; (with_reducible show wpAny _ _ (call (Value.ref 381) [Value.ref _, Value.bool _, Value.int _ _]) _ _ _); k_dflt (first | (refine' key_use2 hko1 ?zqm ?zqB ?zqF ?zqX ?zqN ?zqT ?zqk ?zqd ?zqu (fun tup' t' tf' ov' fv' l' ol' h' tk' hA' F' N' hO' => ?_); (case zqN => k_asm); (case zqm => k_mem); (case zqB => k_asm); (case zqF => k_asm); (case zqX => k_asm); (case zqT => k_asm); (case zqk => exact rfl); (case zqd => ktr_room); (case zqu => ktr_units)) | (refine' key_use2 hko2 ?zqm ?zqB ?zqF ?zqX ?zqN ?zqT ?zqk ?zqd ?zqu (fun tup' t' tf' ov' fv' l' ol' h' tk' hA' F' N' hO' => ?_); (case zqN => k_asm); (case zqm => k_mem); (case zqB => k_asm); (case zqF => k_asm); (case zqX => k_asm); (case zqT => k_asm); (case zqk => exact rfl); (case zqd => ktr_room); (case zqu => ktr_units))); (clear hA' hO'); (try k_fold)))
  trivial
set_option maxHeartbeats 8000000 in
theorem order_int (w : World) (news : List (Addr × Obj)) (c : Addr) (ks vsz : Nat) (sr : Addr) (t1 t2 t3 t4 : Tok) (hc : (c, confObj ks vsz sr t1 t2 t3 t4) ∈ news) (hcs : confs ks vsz)
   (m1 m2 : Int) (u1 u2 : Tok) :
    Calls w (.ref 419) [.ref c, .bool false, .int m1 u1, .int m2 u2] news 40 2000 (fun h₀ L h' v => v = .bool true ∧ News h₀ L h' news) := by
  have hko1 : KeyCalls w c ks vsz sr t1 t2 t3 t4 false m1 (fun t => .int (intKey ks m1) t) (KTBy.little ks (intKey ks m1)) (0 ≤ intKey ks m1 ∧ intKey ks m1 < 256 ^ ks) "too great" := fun news tm hc => key_int w news c ks vsz sr t1 t2 t3 t4 hc hcs m1 tm
  have hko2 : KeyCalls w c ks vsz sr t1 t2 t3 t4 false m2 (fun t => .int (intKey ks m2) t) (KTBy.little ks (intKey ks m2)) (0 ≤ intKey ks m2 ∧ intKey ks m2 < 256 ^ ks) "too great" := fun news tm hc => key_int w news c ks vsz sr t1 t2 t3 t4 hc hcs m2 tm
  unfold Calls
  k_fill
  intro p loose mean mg mb dp un gd cn cs a ccd cl outer A₀ base h₀ L m s Q E B F X N T hk hd hu hret
  obtain ⟨kd, nm, ig, ic, mo⟩ := cs
  cases hk
  refine wpAny_call ?_
  k_dflt k_enter
  k_steps
  all_goals first
    | (exact hret _ _ _ (by k_asm) ⟨by simp, cb_drop (by k_asm) (by kcf_all)⟩)
theorem words_p29_ord_2 : True := by
  (k_with "call ref" => (k_here; (with_reducible show wpAny _ _ (call (Value.ref 381) [Value.ref _, Value.bool _, Value.int _ _]) _ _ _); k_dflt (first | (refine' key_use2 hko1 ?zqm ?zqB ?zqF ?zqX ?zqN ?zqT ?zqk ?zqd ?zqu (fun tup' t' tf' ov' fv' l' ol' h' tk' hA' F' N' hO' => ?_); (case zqN => k_asm); (case zqm => k_mem); (case zqB => k_asm); (case zqF => k_asm); (case zqX => k_asm); (case zqT => k_asm); (case zqk => exact rfl); (case zqd => ktr_room); (case zqu => ktr_units)) | (refine' key_use2 hko2 ?zqm ?zqB ?zqF ?zqX ?zqN ?zqT ?zqk ?zqd ?zqu (fun tup' t' tf' ov' fv' l' ol' h' tk' hA' F' N' hO' => ?_); (case zqN => k_asm); (case zqm => k_mem); (case zqB => k_asm); (case zqF => k_asm); (case zqX => k_asm); (case zqT => k_asm); (case zqk => exact rfl); (case zqd => ktr_room); (case zqu => ktr_units))); (clear hA' hO'); (try k_fold)))
  trivial
set_option maxHeartbeats 8000000 in
theorem order_text (w : World) (news : List (Addr × Obj)) (c : Addr) (ks vsz : Nat) (sr : Addr) (t1 t2 t3 t4 : Tok) (hc : (c, confObj ks vsz sr t1 t2 t3 t4) ∈ news) (hcs : confs ks vsz)
   (m1 m2 : Int) (u1 u2 : Tok) :
    Calls w (.ref 419) [.ref c, .bool true, .int m1 u1, .int m2 u2] news 40 2000 (fun h₀ L h' v => v = .bool true ∧ News h₀ L h' news) := by
  have hko1 : KeyCalls w c ks vsz sr t1 t2 t3 t4 true m1 (fun t => .str (textKey m1) t) (textOct m1) ((textOct m1).length ≤ ks) "refused" := fun news tm hc => key_text w news c ks vsz sr t1 t2 t3 t4 hc hcs m1 tm
  have hko2 : KeyCalls w c ks vsz sr t1 t2 t3 t4 true m2 (fun t => .str (textKey m2) t) (textOct m2) ((textOct m2).length ≤ ks) "refused" := fun news tm hc => key_text w news c ks vsz sr t1 t2 t3 t4 hc hcs m2 tm
  unfold Calls
  k_fill
  intro p loose mean mg mb dp un gd cn cs a ccd cl outer A₀ base h₀ L m s Q E B F X N T hk hd hu hret
  obtain ⟨kd, nm, ig, ic, mo⟩ := cs
  cases hk
  refine wpAny_call ?_
  k_dflt k_enter
  k_steps
  all_goals first
    | (exact hret _ _ _ (by k_asm) ⟨by simp, cb_drop (by k_asm) (by kcf_all)⟩)
end

end
section
theorem words_30_conf : True := by
  k_with_none
  (k_with "z ktr_units" => ((simp only [units_under_kw, units_in1, units_deeper, Around.mark_units, units_caller, ktrTop, cLine_is] at ⊢); (rename _ < cLine => zrhcU); (rw [cLine_is] at zrhcU); omega))
  (k_with "z ktr_room" => ((simp only [depth_under_kw, depth_in1, depth_deeper, depth_caller, ktrTop] at ⊢); omega))
  (k_with "z ktr_units" => ((rename _ < cLine => zrhcU); first | exact u3 zrhcU rfl | exact u2 zrhcU rfl | exact u4 zrhcU rfl | exact u5 zrhcU rfl | exact u1 zrhcU))
  (k_with "z ktr_room" => ((rename _ < recursionLimit => zrhcD); first | exact u2 zrhcD rfl | exact u3 zrhcD rfl | exact u4 zrhcD rfl | exact u5 zrhcD rfl | exact u1 zrhcD))
  (k_with "z k_room" => ktr_room)
  (k_with "z k_units" => ktr_units)
  (k_with "z k_mem" => ((show @Membership.mem (Addr × Obj) (List (Addr × Obj)) _ _ _); with_reducible assumption))
  (k_with "om0" => ((repeat (with_reducible rename _ ≠ _ ∧ _ => zrhz; clear zrhz)); (repeat (with_reducible rename (_ ≠ _ ∧ _) ∧ _ => zrhz; clear zrhz)); omega))
  (k_with "bd1" => first | decide | (with_reducible first | apply om_b1 | apply om_b2 | apply om_b3 | apply om_b4 | apply om_b5 | apply om_b6 | apply om_b7 | apply om_bs | apply om_bt | apply om_bz | apply om_bt4 | apply om_b2t | apply om_bm | (apply om_bq; assumption) | refine om_bl (by assumption) ?_ | refine om_be (by assumption) ?_ | (apply om_bk; assumption; decide) | (apply om_bv; assumption; decide)))
  (k_with "bd" => (k_whole; (with_reducible first | (apply om_b0; rotate_left; with_unfolding_all rfl) | (apply om_b0l; rotate_left; with_unfolding_all rfl)); (repeat' k_extra "bd1"); done))
  (k_with "five" => first | assumption | exact om_lk5 (by assumption) | exact om_lt5 (by assumption) | exact Nat.le_trans (by assumption) (om_lk5 (by assumption)) | exact Nat.le_trans (by assumption) (om_lt5 (by assumption)))
  (k_with "om1" => first | rfl | assumption | exact And.left (by assumption) | exact And.right (by assumption) | ((show @LE.le Int _ _ _); first | apply Int.natCast_nonneg | (apply om_sub_nn; assumption) | (apply om_sa0; assumption) | (apply Int.le_of_lt; apply om_lp2) | (apply Int.le_add_of_nonneg_right; first | assumption | apply Int.natCast_nonneg)) | ((show @LE.le Nat _ _ _); apply Nat.le_of_lt; assumption) | ((show @LT.lt Int _ _ _); apply om_lp2) | ((show @LT.lt Nat _ _ _); first | (apply om_posD; assumption) | (apply om_posF; assumption)) | ((show @Eq Nat _ _); first | apply tns | apply tn0 | (apply castD; assumption) | (apply castF; assumption)))
  (k_with "om2" => first | decide | ((show @LE.le Nat _ _ _); first | exact Nat.le_trans (by assumption) (by decide) | exact om_be (by assumption) (by decide) | (apply om_bq4; assumption; rfl) | (apply om_kbt; assumption; k_extra "five") | (apply om_kmt <;> assumption)) | ((show @LE.le Int _ _ _); first | (apply Int.le_add_of_nonneg_right; decide) | (apply om_ic 5; k_extra "five"; decide) | (apply om_sub_le0; apply om_ic 5; k_extra "five"; decide) | (apply om_sub0_le; apply om_ic 5; k_extra "five"; decide) | (apply om_sa4; k_extra "five") | (refine Int.le_trans (om_kb (by assumption) (by k_extra "five")) (by decide)) | (apply om_kb1; assumption; k_extra "five") | (apply om_kb2; assumption; k_extra "five") | (apply om_km <;> assumption)) | ((show @Eq Int _ _); first | (apply om_lnO; assumption) | (apply om_lnI <;> assumption) | (apply om_lnF; assumption)) | ((show @LT.lt Int _ _ _); first | (apply om_icl 5; k_extra "five"; decide) | exact Int.lt_of_lt_of_le (by decide) (And.left (by assumption)) | exact Int.lt_trans (And.right (by assumption)) (by decide)))
  (k_with "nn" => ((show @LE.le Int _ _ _); apply Int.add_nonneg; (repeat' first | apply Int.natCast_nonneg | assumption | decide | apply Int.add_nonneg); done))
  (k_with "om" => first | (k_whole; with_reducible k_extra "om1") | (k_whole; with_reducible k_extra "om2") | (k_whole; with_reducible k_extra "nn") | k_extra "bd" | k_extra "om0")
  (k_with "z kba_size" => k_extra "bd")
  (k_with "fold" => (refine' let_A ?_; intro qa; k_fold))
  (k_with "ite" => first | refine ite_dpos (by assumption) ?_ | refine ite_dneg (by first | assumption | (apply Int.not_lt.mpr; assumption) | (apply Int.not_le.mpr; assumption)) ?_)
  (k_with "z kcf_bnd" => first | (k_whole; with_reducible k_extra "om1") | (k_whole; with_reducible k_extra "om2") | (k_whole; with_reducible k_extra "nn") | k_extra "bd")
  (k_with "gl" => with_reducible (first | exact glUSEDKEYLENGTHBYTES _ | exact glUSEDVALUELENGTHBYTES _ | exact glPAGEREFERENCEBYTES _ | exact glENDIAN _ | exact glRecord _ | exact glReference _ | exact gllawlow _ | exact gllawkey _ | exact gllawparts _ | exact gllawpages _ | exact gllawdone _ | exact gllawnumber _ | exact gllawsigns _ | exact glTreeConf _ | exact glStrSerializer _ | exact glIntSerializer _ | exact gllawrecord _ | exact gllawreference _ | exact gllawread _ | exact gllaworder _))
  (k_with "gb" => with_reducible (first | exact glint _ | exact gllen _ | exact glbytes _ | exact glisinstance _ | exact glrange _ | exact glenumerate _ | exact gltuple _ | exact gltype _))
  (k_with "eval Name" => (k_here; k_dflt (first | (refine' nameX_L ?zqF ?zqv ?_ ?zqa ?zqb; (case zqF => k_asm); (case zqa => exact Eq.refl ScopeKind.function); (case zqb => exact Eq.refl (some NameKind.local)); (case zqv => exact Eq.refl (some _)); k_whole) | (refine' name_top ?zqg ?zqF ?zqX ?zqT ?zqa ?zqb ?_; (case zqX => k_asm); (case zqg => k_extra "gl"); (case zqF => k_asm); (case zqT => k_asm); (case zqa => exact Eq.refl ScopeKind.function); (case zqb => exact Eq.refl (some NameKind.globalImplicit)); k_whole) | (refine' name_boot ?zqg ?zqF ?zqX ?zqT ?zqa ?zqb ?_; (case zqX => k_asm); (case zqg => k_extra "gb"); (case zqF => k_asm); (case zqT => k_asm); (case zqa => exact Eq.refl ScopeKind.function); (case zqb => exact Eq.refl (some NameKind.globalImplicit)); k_whole))))
  (k_with "callWith ref" => (k_here; k_dflt (first | (refine' callWith_K ?zqk1 ?zqk2 ?_; (case zqk1 => k_asm); (case zqk2 => k_extra "kp"); k_whole) | (refine' callWith_K0 ?zqk1 ?zqk2 ?_; (case zqk1 => first | with_reducible assumption | exact Frag.In.keeps (by with_reducible assumption) (Fr.keep (by with_reducible assumption)) | k_in); (case zqk2 => k_extra "kp"); k_whole) | (refine' callWith_M0 ?zqk1 ?zqk2 ?_; (case zqk1 => k_meth); (case zqk2 => k_extra "kp"); k_whole; (try dsimp only [List.nil_append, List.cons_append])) | (refine' callWith_M ?zqk1 ?zqk2 ?zqk3 ?zqk4 ?_; (case zqk1 => k_asm); (case zqk2 => k_asm); (case zqk3 => k_mem); (case zqk4 => k_is); k_whole) | (refine' callWith_KW ?zqk1 ?zqk2 ?zqk3 ?_; (case zqk1 => k_asm); (case zqk2 => k_extra "kp"); (case zqk3 => exact rfl); k_whole) | (refine' callWith_KW0 ?zqk1 ?zqk2 ?zqk3 ?_; (case zqk1 => k_asm); (case zqk2 => k_extra "kp"); (case zqk3 => exact rfl); k_whole))))
  (k_with "getMethod type:int" => (k_here; (with_reducible refine' KFB.getm ?zqkfbF ?zqkfbN ?zqkfbX ?zqkfbE ?_); k_dflt ((case zqkfbF => k_asm); (case zqkfbN => k_asm); (case zqkfbX => k_asm); (case zqkfbE => exact from_bytes_at _); k_whole; intro x' h' F' N' l1; (try k_lt l1); (try k_sweep))))
  (k_with "kp" => first | with_reducible assumption | (with_reducible first | exact kp232 _ | exact kp273 _ | exact kp355 _ | exact kp369 _ | exact kp376 _ | exact kp381 _ | exact kp388 _ | exact kp395 _ | exact kp400 _ | exact kp407 _ | exact kp412 _ | exact kp419 _ | exact kp141 _ | exact kp346 _ | exact kp320 _) | k_is)
  (k_with "getAttr ref" => (k_here; (with_reducible show wpAny _ _ (getAttr (Value.ref _) (PySem.Str.ofString "key_size") _) _ _ _); k_dflt (refine' conf_attr (And.left (get_conf _ _ _ _ _ _ _ _ _ _ ?zqm)) ?zqm2 ?zqc1 ?zqc3 ?zqB ?zqF ?zqX ?zqN ?zqT ?zqk ?zqd ?zqu ?zqp ?zqp2 ?zqp3 ?zqf2 ?zqf3 ?zqf4 ?zqhh ?_; (case zqN => k_asm); (case zqm => k_mem); (case zqm2 => k_mem); (case zqc1 => exact rfl); (case zqc3 => exact rfl); (case zqB => k_asm); (case zqF => k_asm); (case zqX => k_asm); (case zqT => k_asm); (case zqk => exact rfl); (case zqd => ktr_room); (case zqu => ktr_units); (case zqp => k_is); (case zqp2 => k_is); (case zqp3 => k_is); (case zqf2 => k_is); (case zqf3 => k_is); (case zqf4 => k_is); (case zqhh => exact rfl); k_whole; intro h' tk' F' N'; (try k_sweep))))
  (k_with "getAttr ref" => (k_here; (with_reducible show wpAny _ _ (getAttr (Value.ref _) (PySem.Str.ofString "value_size") _) _ _ _); k_dflt (refine' conf_attr (And.left (And.right (get_conf _ _ _ _ _ _ _ _ _ _ ?zqm))) ?zqm2 ?zqc1 ?zqc3 ?zqB ?zqF ?zqX ?zqN ?zqT ?zqk ?zqd ?zqu ?zqp ?zqp2 ?zqp3 ?zqf2 ?zqf3 ?zqf4 ?zqhh ?_; (case zqN => k_asm); (case zqm => k_mem); (case zqm2 => k_mem); (case zqc1 => exact rfl); (case zqc3 => exact rfl); (case zqB => k_asm); (case zqF => k_asm); (case zqX => k_asm); (case zqT => k_asm); (case zqk => exact rfl); (case zqd => ktr_room); (case zqu => ktr_units); (case zqp => k_is); (case zqp2 => k_is); (case zqp3 => k_is); (case zqf2 => k_is); (case zqf3 => k_is); (case zqf4 => k_is); (case zqhh => exact rfl); k_whole; intro h' tk' F' N'; (try k_sweep))))
  (k_with "getAttr ref" => (k_here; (with_reducible show wpAny _ _ (getAttr (Value.ref _) (PySem.Str.ofString "serializer") _) _ _ _); k_dflt (refine' conf_attr (And.right (And.right (get_conf _ _ _ _ _ _ _ _ _ _ ?zqm))) ?zqm2 ?zqc1 ?zqc3 ?zqB ?zqF ?zqX ?zqN ?zqT ?zqk ?zqd ?zqu ?zqp ?zqp2 ?zqp3 ?zqf2 ?zqf3 ?zqf4 ?zqhh ?_; (case zqN => k_asm); (case zqm => k_mem); (case zqm2 => k_mem); (case zqc1 => exact rfl); (case zqc3 => exact rfl); (case zqB => k_asm); (case zqF => k_asm); (case zqX => k_asm); (case zqT => k_asm); (case zqk => exact rfl); (case zqd => ktr_room); (case zqu => ktr_units); (case zqp => k_is); (case zqp2 => k_is); (case zqp3 => k_is); (case zqf2 => k_is); (case zqf3 => k_is); (case zqf4 => k_is); (case zqhh => exact rfl); k_whole; intro h' tk' F' N'; (try k_sweep))))
  (k_with "ne" => first | (with_reducible assumption) | (exact Nat.ne_of_lt (by with_reducible assumption)) | (exact Nat.ne_of_gt (by with_reducible assumption)) | (exact Ne.symm (by with_reducible assumption)) | (exact allNe_mem2 (by with_reducible assumption) (by k_mem)) | (exact Ne.symm (allNe_mem2 (by with_reducible assumption) (by k_mem))) | (exact ng0 (by with_reducible assumption)) | (exact nl0 (by with_reducible assumption)) | (exact ng1 (by with_reducible assumption)) | (exact nl1 (by with_reducible assumption)) | (exact fg1 (by with_reducible assumption)) | (exact fl1 (by with_reducible assumption)) | (exact ng2 (by with_reducible assumption)) | (exact nl2 (by with_reducible assumption)) | (exact fg2 (by with_reducible assumption)) | (exact fl2 (by with_reducible assumption)) | (exact ng3 (by with_reducible assumption)) | (exact nl3 (by with_reducible assumption)) | (exact fg3 (by with_reducible assumption)) | (exact fl3 (by with_reducible assumption)) | (exact ng4 (by with_reducible assumption)) | (exact nl4 (by with_reducible assumption)) | (exact fg4 (by with_reducible assumption)) | (exact fl4 (by with_reducible assumption)) | (exact ng5 (by with_reducible assumption)) | (exact nl5 (by with_reducible assumption)) | (exact fg5 (by with_reducible assumption)) | (exact fl5 (by with_reducible assumption)) | (exact ng6 (by with_reducible assumption)) | (exact nl6 (by with_reducible assumption)) | (exact fg6 (by with_reducible assumption)) | (exact fl6 (by with_reducible assumption)) | (exact ng7 (by with_reducible assumption)) | (exact nl7 (by with_reducible assumption)) | (exact fg7 (by with_reducible assumption)) | (exact fl7 (by with_reducible assumption)) | (exact ng8 (by with_reducible assumption)) | (exact nl8 (by with_reducible assumption)) | (exact fg8 (by with_reducible assumption)) | (exact fl8 (by with_reducible assumption)) | (exact ng9 (by with_reducible assumption)) | (exact nl9 (by with_reducible assumption)) | (exact fg9 (by with_reducible assumption)) | (exact fl9 (by with_reducible assumption)) | (exact ng10 (by with_reducible assumption)) | (exact nl10 (by with_reducible assumption)) | (exact fg10 (by with_reducible assumption)) | (exact fl10 (by with_reducible assumption)) | (exact ng11 (by with_reducible assumption)) | (exact nl11 (by with_reducible assumption)) | (exact fg11 (by with_reducible assumption)) | (exact fl11 (by with_reducible assumption)) | (exact ng12 (by with_reducible assumption)) | (exact nl12 (by with_reducible assumption)) | (exact fg12 (by with_reducible assumption)) | (exact fl12 (by with_reducible assumption)) | (exact ng13 (by with_reducible assumption)) | (exact nl13 (by with_reducible assumption)) | (exact fg13 (by with_reducible assumption)) | (exact fl13 (by with_reducible assumption)) | (exact na0 (by with_reducible assumption)) | (exact nb0 (by with_reducible assumption)) | (exact na1 (by with_reducible assumption)) | (exact nb1 (by with_reducible assumption)) | (exact na2 (by with_reducible assumption)) | (exact nb2 (by with_reducible assumption)) | (exact na3 (by with_reducible assumption)) | (exact nb3 (by with_reducible assumption)) | (exact na4 (by with_reducible assumption)) | (exact nb4 (by with_reducible assumption)) | (exact na5 (by with_reducible assumption)) | (exact nb5 (by with_reducible assumption)) | (exact na6 (by with_reducible assumption)) | (exact nb6 (by with_reducible assumption)) | (exact na7 (by with_reducible assumption)) | (exact nb7 (by with_reducible assumption)) | (exact na8 (by with_reducible assumption)) | (exact nb8 (by with_reducible assumption)) | (exact na9 (by with_reducible assumption)) | (exact nb9 (by with_reducible assumption)) | (exact oi1) | (exact os1) | (exact ok1 (by with_reducible assumption)) | (exact oc1 (by with_reducible assumption)) | (exact oi2) | (exact os2) | (exact ok2 (by with_reducible assumption)) | (exact oc2 (by with_reducible assumption)) | (exact oi3) | (exact os3) | (exact ok3 (by with_reducible assumption)) | (exact oc3 (by with_reducible assumption)) | (exact oi4) | (exact os4) | (exact ok4 (by with_reducible assumption)) | (exact oc4 (by with_reducible assumption)) | (exact oi5) | (exact os5) | (exact ok5 (by with_reducible assumption)) | (exact oc5 (by with_reducible assumption)) | (exact news_ne (by k_asm) (by k_mem) (by k_mem) (by intro e; cases e)))
  (k_with "z k_ne" => (refine neN ?_; (try dsimp only); k_extra "ne"))
  (k_with "z k_all" => first | exact allNe_mem (by with_reducible assumption) | exact allNe_of_lt (by with_reducible assumption) | with_reducible assumption)
  (k_with "call ref" => (k_here; (with_reducible show wpAny _ _ (call (Value.ref 369) [Value.int _ _, Value.int _ _]) _ _ _); k_dflt (first | (refine' calls_use (low_calls _ _ _ _ _ 2 (by decide)) ?zqB ?zqF ?zqX ?zqN ?zqT ?zqk ?zqd ?zqu ?_; (case zqB => k_asm); (case zqF => k_asm); (case zqX => k_asm); (case zqN => k_asm); (case zqT => k_asm); (case zqk => exact rfl); (case zqd => ktr_room); (case zqu => ktr_units); k_whole) | (refine' calls_use (low_calls _ _ _ _ _ 4 (by decide)) ?zqB ?zqF ?zqX ?zqN ?zqT ?zqk ?zqd ?zqu ?_; (case zqB => k_asm); (case zqF => k_asm); (case zqX => k_asm); (case zqN => k_asm); (case zqT => k_asm); (case zqk => exact rfl); (case zqd => ktr_room); (case zqu => ktr_units); k_whole) | (refine' calls_use (low_calls _ _ _ _ _ _ ?zqn) ?zqB ?zqF ?zqX ?zqN ?zqT ?zqk ?zqd ?zqu ?_; (case zqB => k_asm); (case zqF => k_asm); (case zqX => k_asm); (case zqN => k_asm); (case zqT => k_asm); (case zqk => exact rfl); (case zqd => ktr_room); (case zqu => ktr_units); (case zqn => k_extra "om"); k_whole)); intro v' h' tk' F' P'; obtain ⟨l', vs', hv', N', hI', hO'⟩ := P'; subst hv'; (replace hO' := allNe_of hO'); (try dsimp only); (try k_fold)))
  (k_with "call builtin:len" => (k_here; (with_reducible show wpAny _ _ (call (Value.builtin "len") [Value.ref _]) _ _ _); k_dflt (refine' len_ints ?zqN ?zqm ?zqi ?zqf ?_; (case zqN => k_asm); (case zqm => k_mem); (case zqi => with_reducible assumption); (case zqf => ((try simp only [List.length_append, List.length_replicate, KTBy.little_length]); k_extra "om")); k_whole)))
  (k_with "binaryOp Add ref ref" => (k_here; (with_reducible show wpAny _ _ (binaryOp Operator.Add (Value.ref _) (Value.ref _)) _ _ _); k_dflt (refine' add_ints ?zqF ?zqN ?zqa ?zqb ?zqi ?zqj ?zqf ?_; (case zqF => k_asm); (case zqN => k_asm); (case zqa => k_mem); (case zqb => k_mem); (case zqi => with_reducible assumption); (case zqj => with_reducible assumption); (case zqf => ((try simp only [List.length_append, List.length_replicate, KTBy.little_length]); k_extra "om")); k_whole; intro l' us' h' F' N' I' l1; (try k_lt l1); (try k_sweep))))
  (k_with "binaryOp Mult ref int" => (k_here; (with_reducible show wpAny _ _ (binaryOp Operator.Mult (Value.ref _) (Value.int _ _)) _ _ _); k_dflt (refine' mul_ints ?zqF ?zqN ?zqa ?zqg ?zqf ?_; (case zqF => k_asm); (case zqN => k_asm); (case zqa => k_mem); (case zqg => k_extra "om"); (case zqf => k_extra "om"); k_whole; intro l' us' h' F' N' I' l1; (try k_lt l1); (try k_sweep))))
  (k_with "call ref" => (k_here; (with_reducible show wpAny _ _ (call (Value.ref 388) [Value.ref _, Value.ref _]) _ _ _); k_dflt ((refine' calls_use (parts_calls _ _ _ _ _ _ _ _ _ _ ?zqm ?zqz _ _ _ _ ?zql ?zqi ?zqe) ?zqB ?zqF ?zqX ?zqN ?zqT ?zqk ?zqd ?zqu ?_; (case zqB => k_asm); (case zqF => k_asm); (case zqX => k_asm); (case zqN => k_asm); (case zqT => k_asm); (case zqk => exact rfl); (case zqd => ktr_room); (case zqu => ktr_units); (case zqm => k_mem); (case zql => k_mem); (case zqi => with_reducible assumption); (case zqz => k_extra "om"); (case zqe => ((try simp only [List.length_append, List.length_replicate, KTBy.little_length]); k_extra "om")); k_whole)); intro v' h' tk' F' P'; obtain ⟨l', vs', e', hv', N', hI', hO'⟩ := P'; subst hv'; (replace hO' := allNe_of hO'); (try dsimp only); (try k_fold)))
  (k_with "call builtin:int.to_bytes" => (k_here; (with_reducible show wpAny _ _ (call (Value.builtin "int.to_bytes") [Value.int _ _, Value.int _ _, Value.str _ _]) _ _ _); k_dflt (first | (refine' to_bytes_in (k := 2) (B := 65536) ?zqh1 ?zqh2 ?zqh3 ?zqh4 (fun b' t' k' hb' => ?_); (case zqh1 => decide); (case zqh2 => decide); (case zqh3 => k_extra "om"); (case zqh4 => k_extra "om")) | (refine' to_bytes_in (k := 4) (B := 4294967296) ?zqh1 ?zqh2 ?zqh3 ?zqh4 (fun b' t' k' hb' => ?_); (case zqh1 => decide); (case zqh2 => decide); (case zqh3 => k_extra "om"); (case zqh4 => k_extra "om")) | (refine' to_bytes_all (k := 2) rfl ?zqh (fun hx0 hx1 b' t' k' hb' => ?_) (fun hx h' tk' e' hn' => ?_); (case zqh => decide)) | (refine' to_bytes_all (k := 4) rfl ?zqh (fun hx0 hx1 b' t' k' hb' => ?_) (fun hx h' tk' e' hn' => ?_); (case zqh => decide)) | (refine' to_bytes_all rfl ?zqh (fun hx0 hx1 b' t' k' hb' => ?_) (fun hx h' tk' e' hn' => ?_); (case zqh => k_extra "om")))))
  (k_with "leaving ref" => (k_here; k_dflt (refine' leave_newS ?zqk1 ?zqk0 ?zqk2 ?zqk3 ?_; (case zqk0 => assumption); (case zqk1 => assumption); (case zqk2 => assumption); (case zqk3 => k_asm); k_whole; intro h' R' Rn' U')))
  (k_with "getMethod str" => (k_here; (with_reducible refine encode_method ?_)))
  (k_with "callWith" => (k_here; (with_reducible show wpAny _ _ (callWith _ (Value.builtin _) _ (backTo _ (starEach [] _)) (backToKw _ (keywordEach (_ :: _) _))) _ _ _); k_dflt (refine callWith_kwN ?_)))
  (k_with "call builtin:str.encode" => (k_here; k_dflt (refine' encode_call ?zqhe ?zqhz ?_; (case zqhe => assumption); (case zqhz => assumption); k_whole; intro t' k')))
  (k_with "call builtin:bytes.decode" => (k_here; k_dflt (first | (refine' decode_kw ?zqhd ?zqhe ?zqhz ?_; (case zqhd => assumption); (case zqhe => assumption); (case zqhz => assumption); k_whole; intro t' k') | (refine' decode_ascii ?zqhd ?zqhe ?zqhz ?_; (case zqhd => assumption); (case zqhe => assumption); (case zqhz => assumption); k_whole; intro t' k'))))
  (k_with "binaryOp Add bytes bytes" => (k_here; (with_reducible show wpAny _ _ (binaryOp Operator.Add (Value.bytes _ _) (Value.bytes _ _)) _ _ _); k_dflt (refine' add_b ?zqb ?zqc ?zqz (fun d' t' k' hb' => ?_); (case zqb => first | with_reducible assumption | exact bints_nil); (case zqc => first | with_reducible assumption | exact bints_nil); (case zqz => ((try simp only [List.length_append, List.length_replicate, KTBy.little_length, List.length_cons, List.length_nil]); k_extra "om")))))
  (k_with "call type:bytes" => (k_here; (with_reducible show wpAny _ _ (call (Value.type "bytes") [Value.int _ _]) _ _ _); k_dflt (refine' zeros_call ?zqa ?zqb (fun d' t' k' hb' => ?_); (case zqa => k_extra "om"); (case zqb => k_extra "om"))))
  (k_with "call type:bytes" => (k_here; (with_reducible show wpAny _ _ (call (Value.type "bytes") [Value.ref _]) _ _ _); k_dflt (refine' bytes_of_list rfl ?zqF ?zqN ?zql ?zqi ?zqr ?zqz (fun d' t' k' h' F' N' hb' => ?_); (case zqF => k_asm); (case zqN => k_asm); (case zql => k_mem); (case zqi => with_reducible assumption); (case zqz => ((try simp only [List.length_append, List.length_replicate, KTBy.little_length, List.length_cons, List.length_nil]); k_extra "om")); (case zqr => (repeat' (first | with_reducible assumption | exact rng_little _ _ | exact rng_zeros _ | exact rng_nil | refine rng_app ?_ ?_ | refine rng_cons ⟨by k_extra "om", by k_extra "om"⟩ ?_))))))
  (k_with "call builtin:len" => (k_here; (with_reducible show wpAny _ _ (call (Value.builtin "len") [Value.bytes #[] _]) _ _ _); (with_reducible refine len_nil ?_)))
  (k_with "leaving ref" => (k_here; k_dflt (refine' leave_onE ?zqhf ?zqB ?zqF ?zqR ?zqU ?_; (case zqhf => exact rfl); (case zqR => first | with_reducible assumption | assumption); (case zqB => assumption); (case zqU => assumption); (case zqF => assumption); k_whole; intro h' R' U')))
  (k_with "storeName" => (k_here; k_dflt (first | (refine' store_gi ?zqF ?zqN ?zqa ?zqb ?_; (case zqF => k_asm); (case zqN => k_asm); (case zqa => exact Eq.refl ScopeKind.function); (case zqb => exact Eq.refl (some NameKind.local)); k_whole; intro h' tk' ti' F' N'; (try k_sweep)) | (refine' store_g ?zqF ?zqN ?zqa ?zqb ?_; (case zqF => k_asm); (case zqN => k_asm); (case zqa => exact Eq.refl ScopeKind.function); (case zqb => exact Eq.refl (some NameKind.local)); k_whole; intro h' tk' F' N'; (try k_sweep)))))
  (k_with "fr" => ((with_reducible rename Fr _ _ _ (fun _ ↦ List.lookup _ _) => zrF9); k_dflt (first | (replace zrF9 : Fr _ _ _ (fun y => List.lookup y [(_, _)]) := zrF9) | (replace zrF9 : Fr _ _ _ (fun y => List.lookup y [(_, _), (_, _)]) := zrF9) | (replace zrF9 : Fr _ _ _ (fun y => List.lookup y [(_, _), (_, _), (_, _)]) := zrF9) | (replace zrF9 : Fr _ _ _ (fun y => List.lookup y [(_, _), (_, _), (_, _), (_, _), (_, _), (_, _)]) := zrF9) | (replace zrF9 : Fr _ _ _ (fun y => List.lookup y [(_, _), (_, _), (_, _), (_, _), (_, _)]) := zrF9) | (replace zrF9 : Fr _ _ _ (fun y => List.lookup y [(_, _), (_, _), (_, _), (_, _)]) := zrF9) | (replace zrF9 : Fr _ _ _ (fun y => List.lookup y [(_, _), (_, _), (_, _), (_, _), (_, _), (_, _), (_, _)]) := zrF9)); (try dsimp only at zrF9)))
  (k_with "z k_handed" => with_reducible assumption)
  (k_with "slc find" => first | exact slc_of hz1 (by k_extra "om") (by k_extra "om") | exact slc_of hz2 (by k_extra "om") (by k_extra "om") | exact slc_of hz3 (by k_extra "om") (by k_extra "om") | exact slc_of hz4 (by k_extra "om") (by k_extra "om") | exact slc_of hz5 (by k_extra "om") (by k_extra "om"))
  (k_with "subscriptTail" => (k_here; (with_reducible show wpAny _ _ (subscriptTail _ (Expr.Slice _ _ none _) (Value.bytes _ _) (Value.ref _)) _ _ _); k_dflt (refine' slice_b (s := ⟨_, _, _, _, _⟩) ?zqF ?zqN ?zqb ?zqS ?zql ?zqh ?zqz (fun d' h' t' k' F' N' hb' => ?_); (case zqF => k_asm); (case zqN => k_asm); (case zqb => with_reducible assumption); (case zqS => k_extra "slc find"); (case zql => k_extra "om"); (case zqh => k_extra "om"); (case zqz => k_extra "om"))))
  (k_with "call ref" => (k_here; (with_reducible show wpAny _ _ (call (Value.ref _) [Value.bytes _ _, Value.str _ _]) _ _ _); k_dflt (refine' from_little ?zqN ?zqm ?zqb ?zqv ?zql (fun t' k' => ?_); (case zqN => k_asm); (case zqm => k_mem); (case zqb => with_reducible assumption); (case zqv => with_reducible assumption); (case zql => k_extra "om"))))
  (k_with "call ref" => (k_here; (with_reducible show wpAny _ _ (call (Value.ref _) [Value.ref _, Value.bytes _ _]) _ _ _); (with_reducible rename DeserOk _ _ _ _ => zrhdes); k_dflt (refine' deser_use zrhdes ?zqb ?zqB ?zqF ?zqX ?zqN ?zqT ?zqk ?zqd ?zqu (fun v' h' tk' P' H' F' N' => ?_); (case zqb => with_reducible assumption); (case zqB => k_asm); (case zqF => k_asm); (case zqX => k_asm); (case zqN => k_asm); (case zqT => k_asm); (case zqk => exact rfl); (case zqd => ktr_room); (case zqu => ktr_units))))
  (k_with "callWith ref" => (k_here; (with_reducible show wpAny _ _ (callWith _ (Value.ref _) _ (backTo _ (starEach (_ :: _) _)) []) _ _ _); kfb_any; k_dflt (refine' KFB.callWith_bound ?zqN ?zqM ?_; (case zqN => k_asm); (case zqM => k_mem); k_whole)))
  (k_with "call ref" => (k_here; (with_reducible show wpAny _ _ (call (Value.ref 355) _) _ _ _); k_dflt (refine' calls_use (pages_calls _ _) ?zqB ?zqF ?zqX ?zqN ?zqT ?zqk ?zqd ?zqu ?_; (case zqB => k_asm); (case zqF => k_asm); (case zqX => k_asm); (case zqN => k_asm); (case zqT => k_asm); (case zqk => exact rfl); (case zqd => ktr_room); (case zqu => ktr_units); k_whole); intro v' h' tk' F' P'; obtain ⟨l', vs', e', hv', hI', N', l1⟩ := P'; subst hv'; (try k_lt l1); (try dsimp only); (try k_fold)))
  (k_with "subscriptTail" => (k_here; (with_reducible show wpAny _ _ (subscriptTail _ _ (Value.ref _) (Value.int _ _)) _ _ _); k_dflt (refine' page_get ?zqN ?zqm ?zqi ?zqa ?zqb (fun P' t' hP' => ?_); (case zqN => k_asm); (case zqm => k_mem); (case zqi => with_reducible assumption); (case zqa => k_extra "om"); (case zqb => k_extra "om"))))
  (k_with "call ref" => (k_here; (with_reducible show wpAny _ _ (call (Value.ref 381) [Value.ref _, Value.bool _, Value.int _ _]) _ _ _); (with_reducible rename KeyCalls _ _ _ _ _ _ _ _ _ _ _ _ _ _ _ => zrhkc); k_dflt (refine' key_use zrhkc ?zqm ?zqB ?zqF ?zqX ?zqN ?zqT ?zqk ?zqd ?zqu (fun tup' t' tf' l' vs' h' tk' hg' hi' F' N' hO' => ?_) (fun tup' t' tf' h' tk' hg' F' N' hO' => ?_); (case zqN => k_asm); (case zqm => k_mem); (case zqB => k_asm); (case zqF => k_asm); (case zqX => k_asm); (case zqT => k_asm); (case zqk => exact rfl); (case zqd => ktr_room); (case zqu => ktr_units)); (all_goals (try simp only [AllNe, and_true] at hO')); (all_goals (try k_fold))))
  (k_with "binaryOp Mult int int" => (k_here; (with_reducible refine mul_int ?_ (IntMulOk.of_left (intBits_le_64 (by k_extra "om") (by k_extra "om"))))))
  (k_with "CompSrc" => (k_here; k_dflt (refine LCg.CompSrc.range (by rfl) (by k_asm) (by k_asm) (by assumption) (by first | exact small_one (by kcf_bnd) (by kcf_bnd) (by kcf_bnd) (by kcf_bnd) | decide) (by first | exact rangeSize_nat _ _ | rfl) (by rw [PySem.sizeLine_eq]; k_extra "om") ?_; intro g'; (refine' kcf_range _ (fun k' t' I' oI' C' oC' D' m' ys' h' tk' E' hlo' hhi' hC' hx' F' N' off' ne' hMark' => ?_) ?_); (all_goals (try (simp only [LCg.Off3, and_true] at off'))); kcf_last)))
  (k_with "eval Lambda" => (k_here; k_dflt (refine' kla_eval ?zqd0 ?_; (case zqd0 => exact rfl)); k_dflt (refine' lam_make ?zqF ?zqN ?zqT ?zqC ?zqcd ?zqU ?zqO ?zqsub ?zqcl (fun f' c' oc' vs' t' ct' ps' h' tk' F' N' O' d1' d2' l1 hk' => ?_); (case zqF => k_asm); (case zqN => k_asm); (case zqT => k_asm); (case zqC => with_reducible assumption); (case zqcd => exact rfl); (case zqU => k_updF); (case zqO => ((with_reducible rename TabOk _ _ _ => zrhO'); exact tabOk_q zrhO' (by kernel_rfl))); (case zqsub => first | (intro q hq; k_mem; done) | kcf_all); (case zqcl => exact rfl)); (try dsimp only at N'); (try k_lt l1)))
  (k_with "call ref" => (k_here; (with_reducible show wpAny _ _ (call (Value.ref 381) [Value.ref _, Value.bool _, Value.int _ _]) _ _ _); (with_reducible rename KeyCalls _ _ _ _ _ _ _ _ _ _ _ _ _ _ _ => zrhkc); k_dflt (refine' key_use2 zrhkc ?zqm ?zqB ?zqF ?zqX ?zqN ?zqT ?zqk ?zqd ?zqu (fun tup' t' tf' ov' fv' l' ol' h' tk' hA' F' N' hO' => ?_); (case zqN => k_asm); (case zqm => k_mem); (case zqB => k_asm); (case zqF => k_asm); (case zqX => k_asm); (case zqT => k_asm); (case zqk => exact rfl); (case zqd => ktr_room); (case zqu => ktr_units)); (have hH' := keyAns_hand hA'); (obtain ⟨hO1', hO2'⟩ := hO'); (try k_fold)))
  (k_with "call ref" => (k_here; (with_reducible show wpAny _ _ (call (Value.ref 395) [Value.ref _]) _ _ _); refine hold_in ?_))
  (k_with "call ref" => (k_here; (with_reducible show wpAny _ _ (call (Value.ref 232) _ _) _ _ _); k_dflt (first | (refine' recN_use ?zqB ?zqF ?zqX ?zqN ?zqT ?zqk ?zqd ?zqu (rec_page _ _ _ _ _ _ _ _ _ _ ?zqm ?zqcs _ _ _) (fun x' dx' k1' k2' k3' k4' k5' tl' h' tk' l1 l2 F' N' => ?_); (case zqN => k_asm); (case zqB => k_asm); (case zqF => k_asm); (case zqX => k_asm); (case zqT => k_asm); (case zqk => exact rfl); (case zqd => ktr_room); (case zqu => ktr_units); (case zqm => k_mem); (case zqcs => assumption)) | (refine' recV_ok ?zqB ?zqF ?zqX ?zqN ?zqT ?zqk ?zqd ?zqu ?zql (rec_value _ _ _ _ _ _ _ _ _ _ ?zqm ?zqcs _ _ _ _ ?zqb ?zql2) (fun x' dx' k1' k2' k3' k4' k5' tl' h' tk' l1 l2 F' N' => ?_); (case zqN => k_asm); (case zqB => k_asm); (case zqF => k_asm); (case zqX => k_asm); (case zqT => k_asm); (case zqk => exact rfl); (case zqd => ktr_room); (case zqu => ktr_units); (case zqm => k_mem); (case zqcs => assumption); (case zqb => with_reducible assumption); (case zql => with_reducible assumption); (case zql2 => k_extra "om")) | (refine' recV_no ?zqB ?zqF ?zqX ?zqN ?zqT ?zqk ?zqd ?zqu ?zql (rec_value _ _ _ _ _ _ _ _ _ _ ?zqm ?zqcs _ _ _ _ ?zqb ?zql2) (fun e' h' tk' g' F' R' U' => ?_); (case zqN => k_asm); (case zqB => k_asm); (case zqF => k_asm); (case zqX => k_asm); (case zqT => k_asm); (case zqk => exact rfl); (case zqd => ktr_room); (case zqu => ktr_units); (case zqm => k_mem); (case zqcs => assumption); (case zqb => with_reducible assumption); (case zql => with_reducible assumption); (case zql2 => k_extra "om")) | ((with_reducible rename KeyKind _ _ _ _ _ _ _ _ _ _ => zrhKK); (refine' recBo_use ?zqB ?zqF ?zqX ?zqN ?zqT ?zqk ?zqd ?zqu (rec_back_out _ _ _ _ _ _ _ _ _ _ _ ?zqm ?zqcs ?zqs2 _ _ _ ?zqs1 _ _ _ _ _ zrhKK ?zqg _ ?zqp0 ?zqp1 _ _ ?zqb) (fun t9 t8 x' dx' k1' k2' k3' k4' k5' tl' h' tk' F' N' => ?_); (case zqN => k_asm); (case zqB => k_asm); (case zqF => k_asm); (case zqX => k_asm); (case zqT => k_asm); (case zqk => exact rfl); (case zqd => ktr_room); (case zqu => ktr_units); (case zqb => with_reducible assumption); (case zqm => k_mem); (case zqcs => assumption); (case zqs1 => k_mem); (case zqs2 => k_mem); (case zqg => with_reducible assumption); (case zqp0 => k_extra "om"); (case zqp1 => k_extra "om"))) | ((with_reducible rename KeyKind _ _ _ _ _ _ _ _ _ _ => zrhKK); (refine' recBi_use ?zqB ?zqF ?zqX ?zqN ?zqT ?zqk ?zqd ?zqu (rec_back_in _ _ _ _ _ _ _ _ _ _ _ ?zqm ?zqcs ?zqs2 _ _ _ ?zqs1 _ _ _ _ _ zrhKK ?zqg _ ?zqn _ _ ?zqb) (fun t9 b8 t8 x' dx' k1' k2' k3' k4' k5' tl' h' tk' hb8 F' N' => ?_); (case zqN => k_asm); (case zqB => k_asm); (case zqF => k_asm); (case zqX => k_asm); (case zqT => k_asm); (case zqk => exact rfl); (case zqd => ktr_room); (case zqu => ktr_units); (case zqb => with_reducible assumption); (case zqm => k_mem); (case zqcs => assumption); (case zqs1 => k_mem); (case zqs2 => k_mem); (case zqg => with_reducible assumption); (case zqn => with_reducible assumption))) | (refine' recN_use ?zqB ?zqF ?zqX ?zqN ?zqT ?zqk ?zqd ?zqu (rec_plain _ _ _ _ _ _ _ _ _ _ ?zqm ?zqcs _) (fun x' dx' k1' k2' k3' k4' k5' tl' h' tk' l1 l2 F' N' => ?_); (case zqN => k_asm); (case zqB => k_asm); (case zqF => k_asm); (case zqX => k_asm); (case zqT => k_asm); (case zqk => exact rfl); (case zqd => ktr_room); (case zqu => ktr_units); (case zqm => k_mem); (case zqcs => assumption))); (try k_fold)))
  (k_with "call ref" => (k_here; (with_reducible show wpAny _ _ (call (Value.ref 273) _ _) _ _ _); k_dflt (first | (refine' refN_use ?zqB ?zqF ?zqX ?zqN ?zqT ?zqk ?zqd ?zqu (ref_new _ _ _ _ _ _ _ _ _ _ ?zqm ?zqcs _ _ _) (fun x' dx' k1' k2' k3' k4' k5' tl' h' tk' l1 l2 F' N' => ?_); (case zqN => k_asm); (case zqB => k_asm); (case zqF => k_asm); (case zqX => k_asm); (case zqT => k_asm); (case zqk => exact rfl); (case zqd => ktr_room); (case zqu => ktr_units); (case zqm => k_mem); (case zqcs => assumption)) | ((with_reducible rename KeyKind _ _ _ _ _ _ _ _ _ _ => zrhKK); (refine' refB_use ?zqB ?zqF ?zqX ?zqN ?zqT ?zqk ?zqd ?zqu (ref_back _ _ _ _ _ _ _ _ _ _ _ ?zqm ?zqcs ?zqs2 _ _ _ ?zqs1 _ _ _ _ _ zrhKK ?zqg _ _ ?zqp0 ?zqp1 ?zqp2 ?zqp3 _ _ ?zqb) (fun t9 t8 t7 x' dx' k1' k2' k3' k4' k5' tl' h' tk' F' N' => ?_); (case zqN => k_asm); (case zqB => k_asm); (case zqF => k_asm); (case zqX => k_asm); (case zqT => k_asm); (case zqk => exact rfl); (case zqd => ktr_room); (case zqu => ktr_units); (case zqb => with_reducible assumption); (case zqm => k_mem); (case zqcs => assumption); (case zqs1 => k_mem); (case zqs2 => k_mem); (case zqg => with_reducible assumption); (case zqp0 => k_extra "om"); (case zqp1 => k_extra "om"); (case zqp2 => k_extra "om"); (case zqp3 => k_extra "om"))) | (refine' refN_use ?zqB ?zqF ?zqX ?zqN ?zqT ?zqk ?zqd ?zqu (ref_plain _ _ _ _ _ _ _ _ _ _ ?zqm ?zqcs _) (fun x' dx' k1' k2' k3' k4' k5' tl' h' tk' l1 l2 F' N' => ?_); (case zqN => k_asm); (case zqB => k_asm); (case zqF => k_asm); (case zqX => k_asm); (case zqT => k_asm); (case zqk => exact rfl); (case zqd => ktr_room); (case zqu => ktr_units); (case zqm => k_mem); (case zqcs => assumption))); (try k_fold)))
  (k_with "call ref" => (k_here; (with_reducible show wpAny _ _ (call (Value.ref 222) _) _ _ _); (with_reducible rename KeyKind _ _ _ _ _ _ _ _ _ _ => zrhKK); k_dflt (first | (refine' dumpO_use ?zqB ?zqF ?zqX ?zqN ?zqT ?zqk ?zqd ?zqu (dump_out_ok _ _ _ _ _ _ _ _ _ _ _ ?zqm ?zqcs ?zqs2 _ _ _ ?zqs1 _ _ _ _ _ zrhKK _ _ _ _ _ _ _ _ _ ?zqg _ _ ?zqp0 ?zqp1 ?zqx ?zqy) (fun b9 t9 h' tk' hb9 F' N' => ?_); (case zqg => with_reducible assumption); (case zqN => k_asm); (case zqB => k_asm); (case zqF => k_asm); (case zqX => k_asm); (case zqT => k_asm); (case zqk => exact rfl); (case zqd => ktr_room); (case zqu => ktr_units); (case zqx => k_mem); (case zqy => k_mem); (case zqm => k_mem); (case zqcs => assumption); (case zqs1 => k_mem); (case zqs2 => k_mem); (case zqp0 => k_extra "om"); (case zqp1 => k_extra "om")) | (refine' dumpO_use ?zqB ?zqF ?zqX ?zqN ?zqT ?zqk ?zqd ?zqu (dump_in_ok _ _ _ _ _ _ _ _ _ _ _ ?zqm ?zqcs ?zqs2 _ _ _ ?zqs1 _ _ _ _ _ zrhKK _ _ _ _ _ _ _ _ _ ?zqg _ _ _ ?zqb ?zql ?zqx ?zqy) (fun b9 t9 h' tk' hb9 F' N' => ?_); (case zqg => with_reducible assumption); (case zqN => k_asm); (case zqB => k_asm); (case zqF => k_asm); (case zqX => k_asm); (case zqT => k_asm); (case zqk => exact rfl); (case zqd => ktr_room); (case zqu => ktr_units); (case zqx => k_mem); (case zqy => k_mem); (case zqm => k_mem); (case zqcs => assumption); (case zqs1 => k_mem); (case zqs2 => k_mem); (case zqb => with_reducible assumption); (case zql => with_reducible assumption)) | (refine' dumpN_use ?zqB ?zqF ?zqX ?zqN ?zqT ?zqk ?zqd ?zqu (dump_out _ _ _ _ _ _ _ _ _ _ _ ?zqm ?zqcs ?zqs2 _ _ _ ?zqs1 _ _ _ _ _ zrhKK _ _ _ _ _ _ _ _ _ _ _ ?zqp0 ?zqx ?zqy) (fun hg9 hn9 b9 t9 h' tk' hb9 F' N' => ?_) (fun c' e' h' tk' g' C' F' R' U' => ?_); (case zqN => k_asm); (case zqB => k_asm); (case zqF => k_asm); (case zqX => k_asm); (case zqT => k_asm); (case zqk => exact rfl); (case zqd => ktr_room); (case zqu => ktr_units); (case zqx => k_mem); (case zqy => k_mem); (case zqm => k_mem); (case zqcs => assumption); (case zqs1 => k_mem); (case zqs2 => k_mem); (case zqp0 => k_extra "om")) | (refine' dumpN_use ?zqB ?zqF ?zqX ?zqN ?zqT ?zqk ?zqd ?zqu (dump_in _ _ _ _ _ _ _ _ _ _ _ ?zqm ?zqcs ?zqs2 _ _ _ ?zqs1 _ _ _ _ _ zrhKK _ _ _ _ _ _ _ _ _ _ _ _ ?zqb ?zql ?zqx ?zqy) (fun hg9 hn9 b9 t9 h' tk' hb9 F' N' => ?_) (fun c' e' h' tk' g' C' F' R' U' => ?_); (case zqN => k_asm); (case zqB => k_asm); (case zqF => k_asm); (case zqX => k_asm); (case zqT => k_asm); (case zqk => exact rfl); (case zqd => ktr_room); (case zqu => ktr_units); (case zqx => k_mem); (case zqy => k_mem); (case zqm => k_mem); (case zqcs => assumption); (case zqs1 => k_mem); (case zqs2 => k_mem); (case zqb => with_reducible assumption); (case zql => with_reducible assumption))); (try k_fold)))
  (k_with "call ref" => (k_here; (with_reducible show wpAny _ _ (call (Value.ref 263) _) _ _ _); (with_reducible rename KeyKind _ _ _ _ _ _ _ _ _ _ => zrhKK); k_dflt (first | (refine' callsX_use ?zqB ?zqF ?zqX ?zqN ?zqT ?zqk ?zqd ?zqu (refdump_no _ _ _ _ _ _ _ _ _ ?zqhb ?zqha ?zqhn _ _ _ _ _ _ _ ?zqx ?zqy) (fun e' h' tk' g' F' R' U' => ?_); (case zqhn => with_reducible assumption); (case zqN => k_asm); (case zqB => k_asm); (case zqF => k_asm); (case zqX => k_asm); (case zqT => k_asm); (case zqk => exact rfl); (case zqd => ktr_room); (case zqu => ktr_units); (case zqx => k_mem); (case zqy => k_mem); (case zqhb => with_reducible assumption); (case zqha => with_reducible assumption)) | (refine' dumpO_use ?zqB ?zqF ?zqX ?zqN ?zqT ?zqk ?zqd ?zqu (dump_ref_ok _ _ _ _ _ _ _ _ _ _ _ ?zqm ?zqcs ?zqs2 _ _ _ ?zqs1 _ _ _ _ _ zrhKK _ _ _ _ _ _ _ _ _ ?zqg _ _ _ _ ?zqp0 ?zqp1 ?zqp2 ?zqp3 ?zqx ?zqy) (fun b9 t9 h' tk' hb9 F' N' => ?_); (case zqg => with_reducible assumption); (case zqN => k_asm); (case zqB => k_asm); (case zqF => k_asm); (case zqX => k_asm); (case zqT => k_asm); (case zqk => exact rfl); (case zqd => ktr_room); (case zqu => ktr_units); (case zqx => k_mem); (case zqy => k_mem); (case zqm => k_mem); (case zqcs => assumption); (case zqs1 => k_mem); (case zqs2 => k_mem); (case zqp0 => k_extra "om"); (case zqp1 => k_extra "om"); (case zqp2 => k_extra "om"); (case zqp3 => k_extra "om")) | (refine' dumpN_use ?zqB ?zqF ?zqX ?zqN ?zqT ?zqk ?zqd ?zqu (dump_ref _ _ _ _ _ _ _ _ _ _ _ ?zqm ?zqcs ?zqs2 _ _ _ ?zqs1 _ _ _ _ _ zrhKK _ _ _ _ _ _ _ _ _ _ _ _ _ ?zqp0 ?zqp1 ?zqx ?zqy) (fun hg9 hn9 b9 t9 h' tk' hb9 F' N' => ?_) (fun c' e' h' tk' g' C' F' R' U' => ?_); (case zqN => k_asm); (case zqB => k_asm); (case zqF => k_asm); (case zqX => k_asm); (case zqT => k_asm); (case zqk => exact rfl); (case zqd => ktr_room); (case zqu => ktr_units); (case zqx => k_mem); (case zqy => k_mem); (case zqm => k_mem); (case zqcs => assumption); (case zqs1 => k_mem); (case zqs2 => k_mem); (case zqp0 => k_extra "om"); (case zqp1 => k_extra "om"))); (try k_fold)))
  (k_with "compareOp NotEq bytes bytes" => (k_here; (with_reducible show wpAny _ _ (compareOp CmpOp.NotEq (Value.bytes _ _) (Value.bytes _ _)) _ _ _); refine' ne_b ?zqa ?zqb ?zqe ?_; (case zqa => with_reducible assumption); (case zqb => with_reducible assumption); (case zqe => k_extra "rows")))
  (k_with "compareOp Eq bytes bytes" => (k_here; (with_reducible show wpAny _ _ (compareOp CmpOp.Eq (Value.bytes _ _) (Value.bytes _ _)) _ _ _); refine' eq_b ?zqa ?zqb ?zqe ?_; (case zqa => with_reducible assumption); (case zqb => with_reducible assumption); (case zqe => k_extra "rows")))
  (k_with "compareOp Eq ref ref" => (k_here; (with_reducible show wpAny _ _ (compareOp CmpOp.Eq (Value.ref _) (Value.ref _)) _ _ _); k_dflt (refine' tup_eq ?zqN ?zqa ?zqb ?zqu ?zqe ?_; (case zqN => k_asm); (case zqa => k_mem); (case zqb => k_mem); (case zqu => ktr_units); (case zqe => k_extra "all at"))))
  (k_with "compareOp NotEq ref ref" => (k_here; (with_reducible show wpAny _ _ (compareOp CmpOp.NotEq (Value.ref _) (Value.ref _)) _ _ _); k_dflt (refine' tup_ne ?zqN ?zqa ?zqb ?zqu ?zqe ?_; (case zqN => k_asm); (case zqa => k_mem); (case zqb => k_mem); (case zqu => ktr_units); (case zqe => k_extra "all at"))))
  (k_with "compareOp NotEq int int" => (k_here; (with_reducible show wpAny _ _ (compareOp CmpOp.NotEq (Value.int _ _) (Value.int _ _)) _ _ _); refine' ne_same ?zqq1 ?_; (case zqq1 => ((try simp only [List.length_append, List.length_replicate, KTBy.little_length, List.length_cons, List.length_nil]); k_extra "om"))))
  (k_with "compareOp Eq int int" => (k_here; (with_reducible show wpAny _ _ (compareOp CmpOp.Eq (Value.int _ _) (Value.int _ _)) _ _ _); first | (refine' eq_same ?zqq1 ?_; (case zqq1 => k_extra "om")) | (refine' eq_diff ?zqq1 ?_; (case zqq1 => k_extra "om"))))
  (k_with "compareOp NotEq" => (k_here; (with_reducible show wpAny _ _ (compareOp CmpOp.NotEq _ _) _ _ _); (with_reducible rename KeyEq _ => zrhke); (with_reducible refine' zrhke.ne' _ _ _ _ _ _ _ _ ?_)))
  (k_with "rows" => first | (with_reducible exact rfl) | exact row_out _ _ _ _ | exact row_in _ _ _ _ (by with_reducible assumption) | exact row_ref _ _ _ _)
  (k_with "z k_handed" => ((with_reducible rename KeyKind _ _ _ _ _ _ _ _ _ _ => zrhKK); exact zrhKK.hand _))
  (k_with "all at" => ((try (with_reducible rename KeyEq _ => zrhke)); (repeat' (refine And.intro ?_ ?_)); (all_goals first | exact trivial | exact zrhke.at' _ _ _ _ | exact PySem.SeqAt.EqAt.same _ | exact at_int _ _ _ | (refine at_bytes (by with_reducible assumption) (by with_reducible assumption) ?_; k_extra "rows") | (refine at_int' ?_; ((try simp only [List.length_append, List.length_replicate, KTBy.little_length, List.length_cons, List.length_nil]); k_extra "om")))))
  (k_with "binaryOp FloorDiv int int" => (k_here; (with_reducible refine fdiv_small (by k_extra "om") (by k_extra "om") ?_)))
  (k_with "all ne" => ((try simp only [AllNe]); (repeat' (refine And.intro ?_ ?_)); all_goals (first | k_extra "om" | exact allNe_of_allLt (by with_reducible assumption) | with_reducible assumption)))
  (k_with "call builtin:list.append" => (k_here; (with_reducible show wpAny _ _ (call (Value.builtin _) [Value.ref _, Value.int _ _]) _ _ _); k_dflt (refine' app_U ?zqF ?zqN ?zqU ?zqi ?zqz (fun h' F' N' I' => ?_); (case zqF => k_asm); (case zqN => k_asm); (case zqU => k_updF); (case zqi => with_reducible assumption); (case zqz => k_extra "om")); (try dsimp only at N')))
  (k_with "call builtin:list.pop" => (k_here; k_dflt (refine' pop_U ?zqF ?zqN ?zqU ?zqi ?zqz ?zqn (fun y' h' F' N' I' => ?_); (case zqF => k_asm); (case zqN => k_asm); (case zqU => k_updF); (case zqi => with_reducible assumption); (case zqz => k_extra "om"); (case zqn => k_extra "om")); (try dsimp only at N')))
  (k_with "call builtin:isinstance" => (k_here; (with_reducible show wpAny _ _ (call _ [Value.str _ _, Value.ref _]) _ _ _); k_dflt (first | (refine' isi_no_rec ?zqF ?zqX (fun tk' => ?_); (case zqF => k_asm); (case zqX => k_asm)) | (refine' isi_no_ref ?zqF ?zqX (fun tk' => ?_); (case zqF => k_asm); (case zqX => k_asm)))))
  (k_with "subscriptTail Name Slice ref ref" => (k_here; (with_reducible show wpAny _ _ (subscriptTail _ (PySem.Expr.Slice none (some _) none _) (Value.ref _) (Value.ref _)) _ _ _); k_dflt (refine' kmk_slice_ints (s := ⟨_, _, _, _, _⟩) ?zqF ?zqN ?zql ?zqp ?zqq ?zqi ?zqm ?zqc ?_ ?zqs ?zqt ?zqz; (case zqF => k_asm); (case zqN => k_asm); (case zql => exact News.isList (by k_asm) (by k_mem)); (case zqp => exact IsPart.none); (case zqq => exact IsPart.int _ _); (case zqi => with_reducible assumption); (case zqm => exact kmk_upto (by with_reducible assumption) (by with_reducible assumption)); (case zqc => exact List.length_take ..); (case zqs => with_unfolding_all rfl); (case zqt => kmk_pure); (case zqz => exact kmk_sz (by with_reducible assumption) (by rw [sizeLine_eq]; k_extra "om")); intro D' ws' h' F' N' l1 hI' hC' hL'; (try k_lt l1); (try k_sweep))))
  (k_with "call builtin:isinstance" => (k_here; (with_reducible show wpAny _ _ (call _ [Value.ref _, Value.ref _]) _ _ _); k_dflt (refine' isi_call ?zqk1 ?zqk2 ?zqk3 ?zqk4 ?_; (case zqk1 => k_in); (case zqk2 => k_types); (case zqk3 => k_is); (case zqk4 => intro e; cases e); k_whole)))
  trivial
/-- what the class call wants of the new object -/
def ConfOut (w : World) (Q : Value → Shared → Prop) (obj : Value) (s' : Shared) : Prop := ∃ c o, obj = .ref c ∧ (hd.heap_1 w.params).In s'.heap ∧ s'.heap.get? c = some o ∧ o.cls = .ref 141 ∧ Q (.ref c) s'
section
variable {prog : Program} {w : World} {A : Around} {E : Value → Shared → Prop} {Q : Value → Shared → Prop} {h₀ : Heap} {L : Addr} {m : Str → Option Value} {news : List (Addr × Obj)}
theorem conf_cls {h : Heap} (X : (hd.heap_1 w.params).In h) : ∃ oc od cd sl, h.get? 141 = some ⟨oc, od, .cls cd, sl⟩ ∧ cd.mro = [.ref 141, .type "tuple", .type "object"] ∧ sl[4]? = some (some .none) ∧ cd.hasDel = false :=
  ⟨_, _, _, _, X 141 _ (by rfl), by rfl, by rfl, by rfl⟩
theorem conf_made {h : Heap} (X : (hd.heap_1 w.params).In h) : Looks (model prog w) h (Bind.madeBy (.ref 141)) none := by
  obtain ⟨oc, od, cd, sl, hC, hm0, hsl, hdel⟩ := conf_cls X
  have hm : Looks (model prog w) h (mroOf (.ref 141)) cd.mro := ((Looks.ld (part := none) hC).andThen .now).andThen .now
  intro A Q E s k q
  unfold Bind.madeBy
  refine wpAny_bind (hm A _ E s k ?_)
  rw [hm0, List.forIn_cons]
  refine wpAny_bind (wpAny_bind (wpAny_bind (wpAny_bind (wpAny_loadPart (k _ _ hC) (wpAny_pure ?_)))))
  dsimp only
  rw [hsl]
  exact wpAny_pure (wpAny_pure (wpAny_pure q))
set_option maxHeartbeats 4000000 in
theorem conf_open {s : Shared} {v1 v2 v3 v4 v5 : Value} {fN : Addr} (X₀ : (hd.heap_1 w.params).In h₀) (F : Fr h₀ L s.heap m)
    (hN : recIn (hd.heap_1 w.params) 142 "staticmethod" = some (.ref fN :: []))
    (hq : wpAny (model prog w) (A.under (.builtin "type.__call__" ⟨.ref 141 :: [v1, v2, v3, v4, v5], []⟩)) (call (.ref fN) (.ref 141 :: [v1, v2, v3, v4, v5])) (ConfOut w Q) E { s with toks := s.toks + 1 }) :
    wpAny (model prog w) A (call (.ref 141) [v1, v2, v3, v4, v5]) Q E s := by
  have X := X₀.keeps F.keep
  obtain ⟨h, g, d, t, os⟩ := s
  dsimp only at X
  obtain ⟨oc, od, cd, sl, hC, hm0, hsl, hdel⟩ := conf_cls X
  have cal : Looks (model prog w) h (specialOf (.ref 141) "__call__") (some (.builtin "type.__call__")) := looks_specialIn X (by kernel_rfl)
  have typ : Looks (model prog w) h (isInstance (.ref 141) (.type "type")) true := looks_instIn X (by kernel_rfl)
  refine wpAny_call ?_
  refine codeAny_of_tree ?_
  show wpAny _ _ (callAny (.ref 141) _) _ _ _
  refine nd_load hC ?_
  show wpAny _ _ (callAny.viaDunder (.ref 141) _) _ _ _
  unfold callAny.viaDunder
  refine wpAny_bind (cal.at ?_)
  dsimp only
  rw [tc_bind]
  refine wpAny_bind (wpAny_pure (wpAny_bind (wpAny_pure ?_)))
  refine wpAny_pure (a := Fin.again (.call (.builtin "type.__call__") ⟨.ref 141 :: [v1, v2, v3, v4, v5], []⟩)) (And.intro rfl ?_)
  refine codeAny_call_builtin_at (Code.quiet_builtin _ (by decide +kernel)) entry_typeCall ?_
  with_reducible refine check_slot tc_kind tc_split typ (tc_args _ _ _) ?_
  unfold Builtin.«type.__call__»
  have hm : Looks (model prog w) h (mroOf (.ref 141)) cd.mro := ((Looks.ld (part := none) hC).andThen .now).andThen .now
  have hmb := conf_made (prog := prog) X
  have hne : cd.mro.isEmpty = false := by rw [hm0]; rfl
  have sm : ∀ {A' : Around} {ex : Bool} {Q' E' : _ → _ → Prop}, Q' (.ref fN) ⟨h, g, d, t + 1, os⟩ → wpAny (model prog w) A' (getAttr (.ref 141) "__new__" ex) Q' E' ⟨h, g, d, t, os⟩ := fun {_ _ _ _} hq' =>
    cls_sm (s := ⟨h, g, d, t, os⟩) F X₀ (mc := .type "type") (by kernel_rfl) (by kernel_rfl) (by kernel_rfl) hN rfl hq'
  repeat (first | simp only [hne, Bool.false_eq_true, if_false] | (with_reducible refine sm ?_) | (with_reducible refine wpAny_mono hq ?_ ?_) | lk)
  · rintro a ⟨h', g', d', t', os'⟩ ⟨c, o, rfl, X', hc, hco, hQ⟩
    dsimp only at X' hc
    have t1 : Looks (model prog w) h' (typeOf (.ref c)) (.ref 141) := by rw [← hco]; exact (Looks.ld hc).andThen .now
    have i1 : Looks (model prog w) h' (isInstance (.ref c) (.ref 141)) true := t1.andThen (looks_mroIn X' (by kernel_rfl))
    have i2 : Looks (model prog w) h' (isInstance (.ref c) (.type "object")) true := t1.andThen (looks_mroIn X' (by kernel_rfl))
    have f1 : Looks (model prog w) h' (typeLookup (.ref 141) "__init__") (some (.builtin "object.__init__")) := looks_findIn X' (by kernel_rfl)
    have b1 : Looks (model prog w) h' (bindSpecial (.builtin "object.__init__") (.ref c)) (.builtin "object.__init__", [.ref c]) := Looks.of_pure (oi_bind _)
    have mb := conf_made (prog := prog) X'
    unfold callSpecial? specialOf
    repeat (first | with_reducible refine wpAny_call ?_ | lk)
    simp only [List.cons_append, List.nil_append]
    refine codeAny_call_builtin oi_plain entry_oi ?_
    with_reducible refine check_slot oi_kind oi_split i2 (by unfold argsOk; kernel_rfl) ?_
    unfold Builtin.«object.__init__»
    repeat (first | simp only [bne_self_eq_false, Bool.false_eq_true, if_false, if_true] | lk)
    exact hQ
  · exact fun _ _ e => e
theorem conf_base {h : Heap} (X : (hd.heap_1 w.params).In h) : Looks (model prog w) h (Bind.staticBase (.ref 141)) (.type "tuple") := by
  have mb := conf_made (prog := prog) X
  obtain ⟨oc, od, cd, sl, hC, hm0, hb0, hdel⟩ : ∃ oc od cd sl, h.get? 141 = some ⟨oc, od, .cls cd, sl⟩ ∧ cd.mro = [.ref 141, .type "tuple", .type "object"] ∧ cd.bases = [.type "tuple"] ∧ cd.hasDel = false :=
    ⟨_, _, _, _, X 141 _ (by rfl), by rfl, by rfl, by rfl⟩
  have hm : Looks (model prog w) h (mroOf (.ref 141)) cd.mro := ((Looks.ld (part := none) hC).andThen .now).andThen .now
  intro A Q E s k q
  unfold Bind.staticBase
  refine wpAny_bind (hm A _ E s k ?_)
  rw [hm0, List.forIn_cons]
  refine wpAny_bind (wpAny_bind (wpAny_bind (mb A _ E s k ?_)))
  dsimp only
  refine wpAny_bind (wpAny_bind (wpAny_load (k _ _ hC) (wpAny_pure ?_)))
  rw [hb0]
  refine wpAny_bind (wpAny_of_eq (a := .type "tuple") (by first | kernel_rfl | rfl) ?_)
  refine wpAny_pure ?_
  dsimp only
  rw [List.forIn_cons]
  refine wpAny_bind (wpAny_bind (wpAny_of_eq PySem.F.called_tuple.made ?_))
  exact wpAny_pure (wpAny_pure (wpAny_pure q))
set_option maxHeartbeats 4000000 in
theorem tup_new {s : Shared} {tup : Addr} {items : List Value} {n : Nat} (X₀ : (hd.heap_1 w.params).In h₀) (F : Fr h₀ L s.heap m) (N : News h₀ L s.heap news) (hm : (tup, ({ cls := .type "tuple", data := .seq items.toArray n } : Obj)) ∈ news) (hz : items.length ≤ 10)
    (hQ : ∀ c cd h', Fr h₀ L h' m → News h₀ L h' ((c, { cls := .ref 141, dict := some cd, data := .seq items.toArray }) :: (cd, dictOf [] 0) :: news) → AllLt cd news → @LT.lt Nat _ cd c → Q (.ref c) { s with heap := h' }) :
    wpAny (model prog w) A (call (.builtin "tuple.__new__") [.ref 141, .ref tup]) Q E s := by
  have X := X₀.keeps F.keep
  have hg := (N _ hm).1
  obtain ⟨h, g, d, t, os⟩ := s
  dsimp only at X hg
  obtain ⟨oc, od, cd, sl, hC, hm0, hsl, hdel⟩ := conf_cls X
  obtain ⟨cd', hcd'⟩ : ∃ cd, clsIn (hd.heap_1 w.params) 141 = some cd := ⟨_, by rfl⟩
  have ty : Looks (model prog w) h (isType (.ref 141)) true := looks_isType X hcd'
  have sb : Looks (model prog w) h (isSubtype (.ref 141) (.type "tuple")) true := looks_mroIn X (by kernel_rfl)
  have bs := conf_base (prog := prog) X
  have fi : Looks (model prog w) h (typeLookup (.ref 141) "__init__") (some (.builtin "object.__init__")) := looks_findIn X (by kernel_rfl)
  have mh : Looks (model prog w) h (Bind.madeHere "tuple.__new__" (.ref 141)) () := by
    unfold Bind.madeHere
    exact bs.andThen ((Looks.of_pure PySem.F.called_tuple.made).andThen (Looks.of_pure (by first | kernel_rfl | rfl | (simp; rfl))))
  have tb : Looks (model prog w) h (Bind.madeBy (.type "tuple")) (some "tuple.__new__") := Looks.of_pure PySem.F.called_tuple.made
  refine wpAny_call (codeAny_of_tree ?_)
  show wpAny _ A.in1 (do checkBuiltinCall "tuple.__new__" ⟨[.ref 141, .ref tup], []⟩; again (.builtin "tuple.__new__" ⟨[.ref 141, .ref tup], []⟩)) _ _ _
  refine wpAny_bind ?_
  have k1 : builtinKind "tuple.__new__" = some .builtinFn := by decide +kernel
  have k2 : splitId "tuple.__new__" = some ("tuple", "__new__") := by decide +kernel
  have k3 : ("__new__" == "__new__") = true := by decide
  simp only [checkBuiltinCall, k1, k2, k3, if_true]
  have ar : argsOk "tuple.__new__" ⟨[.ref 141, .ref tup], []⟩ := by unfold argsOk; kernel_rfl
  repeat (first | simp only [Bool.not_true, Bool.false_eq_true, if_false, Option.map_some, bne_self_eq_false] | lk)
  refine ⟨plainId_quiet PySem.F.plain_tuple_new _, codeAny_builtin PySem.F.entry_tuple_new ?_⟩
  rw [Around.under_plainId PySem.F.plain_tuple_new _]
  unfold Builtin.«tuple.__new__»
  have cn : (Value.ref 141 == Value.type "tuple") = false := by decide
  repeat (first | (with_reducible refine wpAny_collect_seq tup (.inr rfl) hg rfl rfl (fun h' hk => ?_) (by rw [List.size_toArray, sizeLine_eq]; omega)) | simp only [cn, Bool.not_true, Bool.false_eq_true, if_false, bne_self_eq_false] | lk)
  have hsz : ¬ items.toArray.size > sizeLine := by rw [List.size_toArray, sizeLine_eq]; omega
  rw [if_neg hsz]
  unfold newObjAsIs classHasDel
  have kk : ∀ b o, h.get? b = some o → ((h'.push { cls := .type "dict", data := .dict #[] }).push { cls := .ref 141, dict := some h'.objs.size, data := .seq items.toArray }).get? b = some o := fun b o e => Heap.get?_push_of_some _ (Heap.get?_push_of_some _ (hk b o e))
  refine wpAny_bind (wpAny_alloc (wpAny_bind (wpAny_bind (wpAny_load (kk _ _ hC) (wpAny_pure ?_)))))
  rw [hdel]
  refine wpAny_pure (wpAny_pure ?_)
  have F1 : Fr h₀ L h' m := F.keeps hk
  have N1 : News h₀ L h' news := fun q hq => ⟨hk _ _ (N q hq).1, (N q hq).2⟩
  have N2 := (N1.push F1 { cls := .type "dict", data := .dict #[] }).push (F1.push _) { cls := .ref 141, dict := some h'.objs.size, data := .seq items.toArray }
  exact hQ _ h'.objs.size _ ((F1.push _).push _) N2 (allLt_of fun p hp => Heap.lt_size (N1 p hp).1) (by rw [Heap.size_push]; exact Nat.lt_succ_self _)
end

end
section
section
theorem words_p31_cnew_1 : True := by
  (k_with "getMethod type:tuple" => (k_here; refine' method_type ?zqF ?zqX ?zqm (by decide +kernel) ?zqe ?zqh ?_; (case zqF => k_asm); (case zqX => k_asm); (case zqm => kernel_rfl); (case zqe => k_dflt k_is); (case zqh => k_handed)))
  (k_with "call builtin:tuple.__new__" => (k_here; k_dflt (refine' tup_new (items := [_, _, _, _, _]) ?zqX ?zqF ?zqN ?zqm ?zqz (fun c' cd' h' F' N' l1 l2 => ?_); (case zqF => k_asm); (case zqN => k_asm); (case zqX => k_asm); (case zqm => k_mem); (case zqz => exact Nat.le_of_ble_eq_true rfl))))
  trivial
set_option maxHeartbeats 4000000 in
theorem conf_new (w : World) (news : List (Addr × Obj)) (ks vs : Nat) (sr : Addr) (t1 t3 t4 : Tok) :
    CallsK w (.ref 141) [.int 64 t1, .int 5 (t1 + 1), .int ks t3, .int vs t4, .ref sr] [] news 10 200 (fun v news' => ∃ c cd, v = .ref c ∧ news' = (c, confObj ks vs sr t1 cd t3 t4) :: (cd, dictOf [] 0) :: news ∧ (∀ q ∈ news, q.1 < cd) ∧ @LT.lt Nat _ cd c) (fun _ => False) := by
  unfold CallsK
  k_fill
  intro p loose mean mg mb dp un gd cn cs a ccd cl outer A₀ base h₀ L m s Q E B F X N T hk hd hu hret hexc
  obtain ⟨kd, nm, ig, ic, mo⟩ := cs
  cases hk
  refine conf_open (fN := 82) X F (by kernel_rfl) ?_
  refine wpAny_call ?_
  k_dflt k_enter
  k_steps
  all_goals (
    with_reducible rename News _ _ _ _ => hN
    exact ⟨_, _, rfl, X.keeps (Fr.keep (by k_asm)), (hN _ (.head _)).1, rfl, hret _ _ _ _ (by k_asm) (cb_drop hN (by kcf_all)) ⟨_, _, rfl, rfl, fun q hq => allLt_mem (by with_reducible assumption) q (.tail _ hq), by k_extra "om"⟩⟩)
end

end
section
theorem words_32_loop : True := by
  k_with_none
  (k_with "z ktr_units" => ((simp only [units_under_kw, units_in1, units_deeper, Around.mark_units, units_caller, ktrTop, cLine_is] at ⊢); (rename _ < cLine => zrhcU); (rw [cLine_is] at zrhcU); omega))
  (k_with "z ktr_room" => ((simp only [depth_under_kw, depth_in1, depth_deeper, depth_caller, ktrTop] at ⊢); omega))
  (k_with "z ktr_units" => ((rename _ < cLine => zrhcU); first | exact u3 zrhcU rfl | exact u2 zrhcU rfl | exact u4 zrhcU rfl | exact u5 zrhcU rfl | exact u1 zrhcU))
  (k_with "z ktr_room" => ((rename _ < recursionLimit => zrhcD); first | exact u2 zrhcD rfl | exact u3 zrhcD rfl | exact u4 zrhcD rfl | exact u5 zrhcD rfl | exact u1 zrhcD))
  (k_with "z k_room" => ktr_room)
  (k_with "z k_units" => ktr_units)
  (k_with "z k_mem" => ((show @Membership.mem (Addr × Obj) (List (Addr × Obj)) _ _ _); with_reducible assumption))
  (k_with "om0" => ((repeat (with_reducible rename _ ≠ _ ∧ _ => zrhz; clear zrhz)); (repeat (with_reducible rename (_ ≠ _ ∧ _) ∧ _ => zrhz; clear zrhz)); omega))
  (k_with "bd1" => first | decide | (with_reducible first | apply om_b1 | apply om_b2 | apply om_b3 | apply om_b4 | apply om_b5 | apply om_b6 | apply om_b7 | apply om_bs | apply om_bt | apply om_bz | apply om_bt4 | apply om_b2t | apply om_bm | (apply om_bq; assumption) | refine om_bl (by assumption) ?_ | refine om_be (by assumption) ?_ | (apply om_bk; assumption; decide) | (apply om_bv; assumption; decide)))
  (k_with "bd" => (k_whole; (with_reducible first | (apply om_b0; rotate_left; with_unfolding_all rfl) | (apply om_b0l; rotate_left; with_unfolding_all rfl)); (repeat' k_extra "bd1"); done))
  (k_with "five" => first | assumption | exact om_lk5 (by assumption) | exact om_lt5 (by assumption) | exact Nat.le_trans (by assumption) (om_lk5 (by assumption)) | exact Nat.le_trans (by assumption) (om_lt5 (by assumption)))
  (k_with "om1" => first | rfl | assumption | exact And.left (by assumption) | exact And.right (by assumption) | ((show @LE.le Int _ _ _); first | apply Int.natCast_nonneg | (apply om_sub_nn; assumption) | (apply om_sa0; assumption) | (apply Int.le_of_lt; apply om_lp2) | (apply Int.le_add_of_nonneg_right; first | assumption | apply Int.natCast_nonneg)) | ((show @LE.le Nat _ _ _); apply Nat.le_of_lt; assumption) | ((show @LT.lt Int _ _ _); apply om_lp2) | ((show @LT.lt Nat _ _ _); first | (apply om_posD; assumption) | (apply om_posF; assumption)) | ((show @Eq Nat _ _); first | apply tns | apply tn0 | (apply castD; assumption) | (apply castF; assumption)))
  (k_with "om2" => first | decide | ((show @LE.le Nat _ _ _); first | exact Nat.le_trans (by assumption) (by decide) | exact om_be (by assumption) (by decide) | (apply om_bq4; assumption; rfl) | (apply om_kbt; assumption; k_extra "five") | (apply om_kmt <;> assumption)) | ((show @LE.le Int _ _ _); first | (apply Int.le_add_of_nonneg_right; decide) | (apply om_ic 5; k_extra "five"; decide) | (apply om_sub_le0; apply om_ic 5; k_extra "five"; decide) | (apply om_sub0_le; apply om_ic 5; k_extra "five"; decide) | (apply om_sa4; k_extra "five") | (refine Int.le_trans (om_kb (by assumption) (by k_extra "five")) (by decide)) | (apply om_kb1; assumption; k_extra "five") | (apply om_kb2; assumption; k_extra "five") | (apply om_km <;> assumption)) | ((show @Eq Int _ _); first | (apply om_lnO; assumption) | (apply om_lnI <;> assumption) | (apply om_lnF; assumption)) | ((show @LT.lt Int _ _ _); first | (apply om_icl 5; k_extra "five"; decide) | exact Int.lt_of_lt_of_le (by decide) (And.left (by assumption)) | exact Int.lt_trans (And.right (by assumption)) (by decide)))
  (k_with "nn" => ((show @LE.le Int _ _ _); apply Int.add_nonneg; (repeat' first | apply Int.natCast_nonneg | assumption | decide | apply Int.add_nonneg); done))
  (k_with "om" => first | (k_whole; with_reducible k_extra "om1") | (k_whole; with_reducible k_extra "om2") | (k_whole; with_reducible k_extra "nn") | k_extra "bd" | k_extra "om0")
  (k_with "z kba_size" => k_extra "bd")
  (k_with "fold" => (refine' let_A ?_; intro qa; k_fold))
  (k_with "ite" => first | refine ite_dpos (by assumption) ?_ | refine ite_dneg (by first | assumption | (apply Int.not_lt.mpr; assumption) | (apply Int.not_le.mpr; assumption)) ?_)
  (k_with "z kcf_bnd" => first | (k_whole; with_reducible k_extra "om1") | (k_whole; with_reducible k_extra "om2") | (k_whole; with_reducible k_extra "nn") | k_extra "bd")
  (k_with "gl" => with_reducible (first | exact glUSEDKEYLENGTHBYTES _ | exact glUSEDVALUELENGTHBYTES _ | exact glPAGEREFERENCEBYTES _ | exact glENDIAN _ | exact glRecord _ | exact glReference _ | exact gllawlow _ | exact gllawkey _ | exact gllawparts _ | exact gllawpages _ | exact gllawdone _ | exact gllawnumber _ | exact gllawsigns _ | exact glTreeConf _ | exact glStrSerializer _ | exact glIntSerializer _ | exact gllawrecord _ | exact gllawreference _ | exact gllawread _ | exact gllaworder _))
  (k_with "gb" => with_reducible (first | exact glint _ | exact gllen _ | exact glbytes _ | exact glisinstance _ | exact glrange _ | exact glenumerate _ | exact gltuple _ | exact gltype _))
  (k_with "eval Name" => (k_here; k_dflt (first | (refine' nameX_L ?zqF ?zqv ?_ ?zqa ?zqb; (case zqF => k_asm); (case zqa => exact Eq.refl ScopeKind.function); (case zqb => exact Eq.refl (some NameKind.local)); (case zqv => exact Eq.refl (some _)); k_whole) | (refine' name_top ?zqg ?zqF ?zqX ?zqT ?zqa ?zqb ?_; (case zqX => k_asm); (case zqg => k_extra "gl"); (case zqF => k_asm); (case zqT => k_asm); (case zqa => exact Eq.refl ScopeKind.function); (case zqb => exact Eq.refl (some NameKind.globalImplicit)); k_whole) | (refine' name_boot ?zqg ?zqF ?zqX ?zqT ?zqa ?zqb ?_; (case zqX => k_asm); (case zqg => k_extra "gb"); (case zqF => k_asm); (case zqT => k_asm); (case zqa => exact Eq.refl ScopeKind.function); (case zqb => exact Eq.refl (some NameKind.globalImplicit)); k_whole))))
  (k_with "callWith ref" => (k_here; k_dflt (first | (refine' callWith_K ?zqk1 ?zqk2 ?_; (case zqk1 => k_asm); (case zqk2 => k_extra "kp"); k_whole) | (refine' callWith_K0 ?zqk1 ?zqk2 ?_; (case zqk1 => first | with_reducible assumption | exact Frag.In.keeps (by with_reducible assumption) (Fr.keep (by with_reducible assumption)) | k_in); (case zqk2 => k_extra "kp"); k_whole) | (refine' callWith_M0 ?zqk1 ?zqk2 ?_; (case zqk1 => k_meth); (case zqk2 => k_extra "kp"); k_whole; (try dsimp only [List.nil_append, List.cons_append])) | (refine' callWith_M ?zqk1 ?zqk2 ?zqk3 ?zqk4 ?_; (case zqk1 => k_asm); (case zqk2 => k_asm); (case zqk3 => k_mem); (case zqk4 => k_is); k_whole) | (refine' callWith_KW ?zqk1 ?zqk2 ?zqk3 ?_; (case zqk1 => k_asm); (case zqk2 => k_extra "kp"); (case zqk3 => exact rfl); k_whole) | (refine' callWith_KW0 ?zqk1 ?zqk2 ?zqk3 ?_; (case zqk1 => k_asm); (case zqk2 => k_extra "kp"); (case zqk3 => exact rfl); k_whole))))
  (k_with "getMethod type:int" => (k_here; (with_reducible refine' KFB.getm ?zqkfbF ?zqkfbN ?zqkfbX ?zqkfbE ?_); k_dflt ((case zqkfbF => k_asm); (case zqkfbN => k_asm); (case zqkfbX => k_asm); (case zqkfbE => exact from_bytes_at _); k_whole; intro x' h' F' N' l1; (try k_lt l1); (try k_sweep))))
  (k_with "kp" => first | with_reducible assumption | (with_reducible first | exact kp232 _ | exact kp273 _ | exact kp355 _ | exact kp369 _ | exact kp376 _ | exact kp381 _ | exact kp388 _ | exact kp395 _ | exact kp400 _ | exact kp407 _ | exact kp412 _ | exact kp419 _ | exact kp141 _ | exact kp346 _ | exact kp320 _) | k_is)
  (k_with "getAttr ref" => (k_here; (with_reducible show wpAny _ _ (getAttr (Value.ref _) (PySem.Str.ofString "key_size") _) _ _ _); k_dflt (refine' conf_attr (And.left (get_conf _ _ _ _ _ _ _ _ _ _ ?zqm)) ?zqm2 ?zqc1 ?zqc3 ?zqB ?zqF ?zqX ?zqN ?zqT ?zqk ?zqd ?zqu ?zqp ?zqp2 ?zqp3 ?zqf2 ?zqf3 ?zqf4 ?zqhh ?_; (case zqN => k_asm); (case zqm => k_mem); (case zqm2 => k_mem); (case zqc1 => exact rfl); (case zqc3 => exact rfl); (case zqB => k_asm); (case zqF => k_asm); (case zqX => k_asm); (case zqT => k_asm); (case zqk => exact rfl); (case zqd => ktr_room); (case zqu => ktr_units); (case zqp => k_is); (case zqp2 => k_is); (case zqp3 => k_is); (case zqf2 => k_is); (case zqf3 => k_is); (case zqf4 => k_is); (case zqhh => exact rfl); k_whole; intro h' tk' F' N'; (try k_sweep))))
  (k_with "getAttr ref" => (k_here; (with_reducible show wpAny _ _ (getAttr (Value.ref _) (PySem.Str.ofString "value_size") _) _ _ _); k_dflt (refine' conf_attr (And.left (And.right (get_conf _ _ _ _ _ _ _ _ _ _ ?zqm))) ?zqm2 ?zqc1 ?zqc3 ?zqB ?zqF ?zqX ?zqN ?zqT ?zqk ?zqd ?zqu ?zqp ?zqp2 ?zqp3 ?zqf2 ?zqf3 ?zqf4 ?zqhh ?_; (case zqN => k_asm); (case zqm => k_mem); (case zqm2 => k_mem); (case zqc1 => exact rfl); (case zqc3 => exact rfl); (case zqB => k_asm); (case zqF => k_asm); (case zqX => k_asm); (case zqT => k_asm); (case zqk => exact rfl); (case zqd => ktr_room); (case zqu => ktr_units); (case zqp => k_is); (case zqp2 => k_is); (case zqp3 => k_is); (case zqf2 => k_is); (case zqf3 => k_is); (case zqf4 => k_is); (case zqhh => exact rfl); k_whole; intro h' tk' F' N'; (try k_sweep))))
  (k_with "getAttr ref" => (k_here; (with_reducible show wpAny _ _ (getAttr (Value.ref _) (PySem.Str.ofString "serializer") _) _ _ _); k_dflt (refine' conf_attr (And.right (And.right (get_conf _ _ _ _ _ _ _ _ _ _ ?zqm))) ?zqm2 ?zqc1 ?zqc3 ?zqB ?zqF ?zqX ?zqN ?zqT ?zqk ?zqd ?zqu ?zqp ?zqp2 ?zqp3 ?zqf2 ?zqf3 ?zqf4 ?zqhh ?_; (case zqN => k_asm); (case zqm => k_mem); (case zqm2 => k_mem); (case zqc1 => exact rfl); (case zqc3 => exact rfl); (case zqB => k_asm); (case zqF => k_asm); (case zqX => k_asm); (case zqT => k_asm); (case zqk => exact rfl); (case zqd => ktr_room); (case zqu => ktr_units); (case zqp => k_is); (case zqp2 => k_is); (case zqp3 => k_is); (case zqf2 => k_is); (case zqf3 => k_is); (case zqf4 => k_is); (case zqhh => exact rfl); k_whole; intro h' tk' F' N'; (try k_sweep))))
  (k_with "ne" => first | (with_reducible assumption) | (exact Nat.ne_of_lt (by with_reducible assumption)) | (exact Nat.ne_of_gt (by with_reducible assumption)) | (exact Ne.symm (by with_reducible assumption)) | (exact allNe_mem2 (by with_reducible assumption) (by k_mem)) | (exact Ne.symm (allNe_mem2 (by with_reducible assumption) (by k_mem))) | (exact ng0 (by with_reducible assumption)) | (exact nl0 (by with_reducible assumption)) | (exact ng1 (by with_reducible assumption)) | (exact nl1 (by with_reducible assumption)) | (exact fg1 (by with_reducible assumption)) | (exact fl1 (by with_reducible assumption)) | (exact ng2 (by with_reducible assumption)) | (exact nl2 (by with_reducible assumption)) | (exact fg2 (by with_reducible assumption)) | (exact fl2 (by with_reducible assumption)) | (exact ng3 (by with_reducible assumption)) | (exact nl3 (by with_reducible assumption)) | (exact fg3 (by with_reducible assumption)) | (exact fl3 (by with_reducible assumption)) | (exact ng4 (by with_reducible assumption)) | (exact nl4 (by with_reducible assumption)) | (exact fg4 (by with_reducible assumption)) | (exact fl4 (by with_reducible assumption)) | (exact ng5 (by with_reducible assumption)) | (exact nl5 (by with_reducible assumption)) | (exact fg5 (by with_reducible assumption)) | (exact fl5 (by with_reducible assumption)) | (exact ng6 (by with_reducible assumption)) | (exact nl6 (by with_reducible assumption)) | (exact fg6 (by with_reducible assumption)) | (exact fl6 (by with_reducible assumption)) | (exact ng7 (by with_reducible assumption)) | (exact nl7 (by with_reducible assumption)) | (exact fg7 (by with_reducible assumption)) | (exact fl7 (by with_reducible assumption)) | (exact ng8 (by with_reducible assumption)) | (exact nl8 (by with_reducible assumption)) | (exact fg8 (by with_reducible assumption)) | (exact fl8 (by with_reducible assumption)) | (exact ng9 (by with_reducible assumption)) | (exact nl9 (by with_reducible assumption)) | (exact fg9 (by with_reducible assumption)) | (exact fl9 (by with_reducible assumption)) | (exact ng10 (by with_reducible assumption)) | (exact nl10 (by with_reducible assumption)) | (exact fg10 (by with_reducible assumption)) | (exact fl10 (by with_reducible assumption)) | (exact ng11 (by with_reducible assumption)) | (exact nl11 (by with_reducible assumption)) | (exact fg11 (by with_reducible assumption)) | (exact fl11 (by with_reducible assumption)) | (exact ng12 (by with_reducible assumption)) | (exact nl12 (by with_reducible assumption)) | (exact fg12 (by with_reducible assumption)) | (exact fl12 (by with_reducible assumption)) | (exact ng13 (by with_reducible assumption)) | (exact nl13 (by with_reducible assumption)) | (exact fg13 (by with_reducible assumption)) | (exact fl13 (by with_reducible assumption)) | (exact na0 (by with_reducible assumption)) | (exact nb0 (by with_reducible assumption)) | (exact na1 (by with_reducible assumption)) | (exact nb1 (by with_reducible assumption)) | (exact na2 (by with_reducible assumption)) | (exact nb2 (by with_reducible assumption)) | (exact na3 (by with_reducible assumption)) | (exact nb3 (by with_reducible assumption)) | (exact na4 (by with_reducible assumption)) | (exact nb4 (by with_reducible assumption)) | (exact na5 (by with_reducible assumption)) | (exact nb5 (by with_reducible assumption)) | (exact na6 (by with_reducible assumption)) | (exact nb6 (by with_reducible assumption)) | (exact na7 (by with_reducible assumption)) | (exact nb7 (by with_reducible assumption)) | (exact na8 (by with_reducible assumption)) | (exact nb8 (by with_reducible assumption)) | (exact na9 (by with_reducible assumption)) | (exact nb9 (by with_reducible assumption)) | (exact oi1) | (exact os1) | (exact ok1 (by with_reducible assumption)) | (exact oc1 (by with_reducible assumption)) | (exact oi2) | (exact os2) | (exact ok2 (by with_reducible assumption)) | (exact oc2 (by with_reducible assumption)) | (exact oi3) | (exact os3) | (exact ok3 (by with_reducible assumption)) | (exact oc3 (by with_reducible assumption)) | (exact oi4) | (exact os4) | (exact ok4 (by with_reducible assumption)) | (exact oc4 (by with_reducible assumption)) | (exact oi5) | (exact os5) | (exact ok5 (by with_reducible assumption)) | (exact oc5 (by with_reducible assumption)) | (exact news_ne (by k_asm) (by k_mem) (by k_mem) (by intro e; cases e)))
  (k_with "z k_ne" => (refine neN ?_; (try dsimp only); k_extra "ne"))
  (k_with "z k_all" => first | exact allNe_mem (by with_reducible assumption) | exact allNe_of_lt (by with_reducible assumption) | with_reducible assumption)
  (k_with "call ref" => (k_here; (with_reducible show wpAny _ _ (call (Value.ref 369) [Value.int _ _, Value.int _ _]) _ _ _); k_dflt (first | (refine' calls_use (low_calls _ _ _ _ _ 2 (by decide)) ?zqB ?zqF ?zqX ?zqN ?zqT ?zqk ?zqd ?zqu ?_; (case zqB => k_asm); (case zqF => k_asm); (case zqX => k_asm); (case zqN => k_asm); (case zqT => k_asm); (case zqk => exact rfl); (case zqd => ktr_room); (case zqu => ktr_units); k_whole) | (refine' calls_use (low_calls _ _ _ _ _ 4 (by decide)) ?zqB ?zqF ?zqX ?zqN ?zqT ?zqk ?zqd ?zqu ?_; (case zqB => k_asm); (case zqF => k_asm); (case zqX => k_asm); (case zqN => k_asm); (case zqT => k_asm); (case zqk => exact rfl); (case zqd => ktr_room); (case zqu => ktr_units); k_whole) | (refine' calls_use (low_calls _ _ _ _ _ _ ?zqn) ?zqB ?zqF ?zqX ?zqN ?zqT ?zqk ?zqd ?zqu ?_; (case zqB => k_asm); (case zqF => k_asm); (case zqX => k_asm); (case zqN => k_asm); (case zqT => k_asm); (case zqk => exact rfl); (case zqd => ktr_room); (case zqu => ktr_units); (case zqn => k_extra "om"); k_whole)); intro v' h' tk' F' P'; obtain ⟨l', vs', hv', N', hI', hO'⟩ := P'; subst hv'; (replace hO' := allNe_of hO'); (try dsimp only); (try k_fold)))
  (k_with "call builtin:len" => (k_here; (with_reducible show wpAny _ _ (call (Value.builtin "len") [Value.ref _]) _ _ _); k_dflt (refine' len_ints ?zqN ?zqm ?zqi ?zqf ?_; (case zqN => k_asm); (case zqm => k_mem); (case zqi => with_reducible assumption); (case zqf => ((try simp only [List.length_append, List.length_replicate, KTBy.little_length]); k_extra "om")); k_whole)))
  (k_with "binaryOp Add ref ref" => (k_here; (with_reducible show wpAny _ _ (binaryOp Operator.Add (Value.ref _) (Value.ref _)) _ _ _); k_dflt (refine' add_ints ?zqF ?zqN ?zqa ?zqb ?zqi ?zqj ?zqf ?_; (case zqF => k_asm); (case zqN => k_asm); (case zqa => k_mem); (case zqb => k_mem); (case zqi => with_reducible assumption); (case zqj => with_reducible assumption); (case zqf => ((try simp only [List.length_append, List.length_replicate, KTBy.little_length]); k_extra "om")); k_whole; intro l' us' h' F' N' I' l1; (try k_lt l1); (try k_sweep))))
  (k_with "binaryOp Mult ref int" => (k_here; (with_reducible show wpAny _ _ (binaryOp Operator.Mult (Value.ref _) (Value.int _ _)) _ _ _); k_dflt (refine' mul_ints ?zqF ?zqN ?zqa ?zqg ?zqf ?_; (case zqF => k_asm); (case zqN => k_asm); (case zqa => k_mem); (case zqg => k_extra "om"); (case zqf => k_extra "om"); k_whole; intro l' us' h' F' N' I' l1; (try k_lt l1); (try k_sweep))))
  (k_with "call ref" => (k_here; (with_reducible show wpAny _ _ (call (Value.ref 388) [Value.ref _, Value.ref _]) _ _ _); k_dflt ((refine' calls_use (parts_calls _ _ _ _ _ _ _ _ _ _ ?zqm ?zqz _ _ _ _ ?zql ?zqi ?zqe) ?zqB ?zqF ?zqX ?zqN ?zqT ?zqk ?zqd ?zqu ?_; (case zqB => k_asm); (case zqF => k_asm); (case zqX => k_asm); (case zqN => k_asm); (case zqT => k_asm); (case zqk => exact rfl); (case zqd => ktr_room); (case zqu => ktr_units); (case zqm => k_mem); (case zql => k_mem); (case zqi => with_reducible assumption); (case zqz => k_extra "om"); (case zqe => ((try simp only [List.length_append, List.length_replicate, KTBy.little_length]); k_extra "om")); k_whole)); intro v' h' tk' F' P'; obtain ⟨l', vs', e', hv', N', hI', hO'⟩ := P'; subst hv'; (replace hO' := allNe_of hO'); (try dsimp only); (try k_fold)))
  (k_with "call builtin:int.to_bytes" => (k_here; (with_reducible show wpAny _ _ (call (Value.builtin "int.to_bytes") [Value.int _ _, Value.int _ _, Value.str _ _]) _ _ _); k_dflt (first | (refine' to_bytes_in (k := 2) (B := 65536) ?zqh1 ?zqh2 ?zqh3 ?zqh4 (fun b' t' k' hb' => ?_); (case zqh1 => decide); (case zqh2 => decide); (case zqh3 => k_extra "om"); (case zqh4 => k_extra "om")) | (refine' to_bytes_in (k := 4) (B := 4294967296) ?zqh1 ?zqh2 ?zqh3 ?zqh4 (fun b' t' k' hb' => ?_); (case zqh1 => decide); (case zqh2 => decide); (case zqh3 => k_extra "om"); (case zqh4 => k_extra "om")) | (refine' to_bytes_all (k := 2) rfl ?zqh (fun hx0 hx1 b' t' k' hb' => ?_) (fun hx h' tk' e' hn' => ?_); (case zqh => decide)) | (refine' to_bytes_all (k := 4) rfl ?zqh (fun hx0 hx1 b' t' k' hb' => ?_) (fun hx h' tk' e' hn' => ?_); (case zqh => decide)) | (refine' to_bytes_all rfl ?zqh (fun hx0 hx1 b' t' k' hb' => ?_) (fun hx h' tk' e' hn' => ?_); (case zqh => k_extra "om")))))
  (k_with "leaving ref" => (k_here; k_dflt (refine' leave_newS ?zqk1 ?zqk0 ?zqk2 ?zqk3 ?_; (case zqk0 => assumption); (case zqk1 => assumption); (case zqk2 => assumption); (case zqk3 => k_asm); k_whole; intro h' R' Rn' U')))
  (k_with "getMethod str" => (k_here; (with_reducible refine encode_method ?_)))
  (k_with "callWith" => (k_here; (with_reducible show wpAny _ _ (callWith _ (Value.builtin _) _ (backTo _ (starEach [] _)) (backToKw _ (keywordEach (_ :: _) _))) _ _ _); k_dflt (refine callWith_kwN ?_)))
  (k_with "call builtin:str.encode" => (k_here; k_dflt (refine' encode_call ?zqhe ?zqhz ?_; (case zqhe => assumption); (case zqhz => assumption); k_whole; intro t' k')))
  (k_with "call builtin:bytes.decode" => (k_here; k_dflt (first | (refine' decode_kw ?zqhd ?zqhe ?zqhz ?_; (case zqhd => assumption); (case zqhe => assumption); (case zqhz => assumption); k_whole; intro t' k') | (refine' decode_ascii ?zqhd ?zqhe ?zqhz ?_; (case zqhd => assumption); (case zqhe => assumption); (case zqhz => assumption); k_whole; intro t' k'))))
  (k_with "binaryOp Add bytes bytes" => (k_here; (with_reducible show wpAny _ _ (binaryOp Operator.Add (Value.bytes _ _) (Value.bytes _ _)) _ _ _); k_dflt (refine' add_b ?zqb ?zqc ?zqz (fun d' t' k' hb' => ?_); (case zqb => first | with_reducible assumption | exact bints_nil); (case zqc => first | with_reducible assumption | exact bints_nil); (case zqz => ((try simp only [List.length_append, List.length_replicate, KTBy.little_length, List.length_cons, List.length_nil]); k_extra "om")))))
  (k_with "call type:bytes" => (k_here; (with_reducible show wpAny _ _ (call (Value.type "bytes") [Value.int _ _]) _ _ _); k_dflt (refine' zeros_call ?zqa ?zqb (fun d' t' k' hb' => ?_); (case zqa => k_extra "om"); (case zqb => k_extra "om"))))
  (k_with "call type:bytes" => (k_here; (with_reducible show wpAny _ _ (call (Value.type "bytes") [Value.ref _]) _ _ _); k_dflt (refine' bytes_of_list rfl ?zqF ?zqN ?zql ?zqi ?zqr ?zqz (fun d' t' k' h' F' N' hb' => ?_); (case zqF => k_asm); (case zqN => k_asm); (case zql => k_mem); (case zqi => with_reducible assumption); (case zqz => ((try simp only [List.length_append, List.length_replicate, KTBy.little_length, List.length_cons, List.length_nil]); k_extra "om")); (case zqr => (repeat' (first | with_reducible assumption | exact rng_little _ _ | exact rng_zeros _ | exact rng_nil | refine rng_app ?_ ?_ | refine rng_cons ⟨by k_extra "om", by k_extra "om"⟩ ?_))))))
  (k_with "call builtin:len" => (k_here; (with_reducible show wpAny _ _ (call (Value.builtin "len") [Value.bytes #[] _]) _ _ _); (with_reducible refine len_nil ?_)))
  (k_with "leaving ref" => (k_here; k_dflt (refine' leave_onE ?zqhf ?zqB ?zqF ?zqR ?zqU ?_; (case zqhf => exact rfl); (case zqR => first | with_reducible assumption | assumption); (case zqB => assumption); (case zqU => assumption); (case zqF => assumption); k_whole; intro h' R' U')))
  (k_with "storeName" => (k_here; k_dflt (first | (refine' store_gi ?zqF ?zqN ?zqa ?zqb ?_; (case zqF => k_asm); (case zqN => k_asm); (case zqa => exact Eq.refl ScopeKind.function); (case zqb => exact Eq.refl (some NameKind.local)); k_whole; intro h' tk' ti' F' N'; (try k_sweep)) | (refine' store_g ?zqF ?zqN ?zqa ?zqb ?_; (case zqF => k_asm); (case zqN => k_asm); (case zqa => exact Eq.refl ScopeKind.function); (case zqb => exact Eq.refl (some NameKind.local)); k_whole; intro h' tk' F' N'; (try k_sweep)))))
  (k_with "fr" => ((with_reducible rename Fr _ _ _ (fun _ ↦ List.lookup _ _) => zrF9); k_dflt (first | (replace zrF9 : Fr _ _ _ (fun y => List.lookup y [(_, _)]) := zrF9) | (replace zrF9 : Fr _ _ _ (fun y => List.lookup y [(_, _), (_, _)]) := zrF9) | (replace zrF9 : Fr _ _ _ (fun y => List.lookup y [(_, _), (_, _), (_, _)]) := zrF9) | (replace zrF9 : Fr _ _ _ (fun y => List.lookup y [(_, _), (_, _), (_, _), (_, _), (_, _), (_, _)]) := zrF9) | (replace zrF9 : Fr _ _ _ (fun y => List.lookup y [(_, _), (_, _), (_, _), (_, _), (_, _)]) := zrF9) | (replace zrF9 : Fr _ _ _ (fun y => List.lookup y [(_, _), (_, _), (_, _), (_, _)]) := zrF9) | (replace zrF9 : Fr _ _ _ (fun y => List.lookup y [(_, _), (_, _), (_, _), (_, _), (_, _), (_, _), (_, _)]) := zrF9)); (try dsimp only at zrF9)))
  (k_with "z k_handed" => with_reducible assumption)
  (k_with "slc find" => first | exact slc_of hz1 (by k_extra "om") (by k_extra "om") | exact slc_of hz2 (by k_extra "om") (by k_extra "om") | exact slc_of hz3 (by k_extra "om") (by k_extra "om") | exact slc_of hz4 (by k_extra "om") (by k_extra "om") | exact slc_of hz5 (by k_extra "om") (by k_extra "om"))
  (k_with "subscriptTail" => (k_here; (with_reducible show wpAny _ _ (subscriptTail _ (Expr.Slice _ _ none _) (Value.bytes _ _) (Value.ref _)) _ _ _); k_dflt (refine' slice_b (s := ⟨_, _, _, _, _⟩) ?zqF ?zqN ?zqb ?zqS ?zql ?zqh ?zqz (fun d' h' t' k' F' N' hb' => ?_); (case zqF => k_asm); (case zqN => k_asm); (case zqb => with_reducible assumption); (case zqS => k_extra "slc find"); (case zql => k_extra "om"); (case zqh => k_extra "om"); (case zqz => k_extra "om"))))
  (k_with "call ref" => (k_here; (with_reducible show wpAny _ _ (call (Value.ref _) [Value.bytes _ _, Value.str _ _]) _ _ _); k_dflt (refine' from_little ?zqN ?zqm ?zqb ?zqv ?zql (fun t' k' => ?_); (case zqN => k_asm); (case zqm => k_mem); (case zqb => with_reducible assumption); (case zqv => with_reducible assumption); (case zql => k_extra "om"))))
  (k_with "call ref" => (k_here; (with_reducible show wpAny _ _ (call (Value.ref _) [Value.ref _, Value.bytes _ _]) _ _ _); (with_reducible rename DeserOk _ _ _ _ => zrhdes); k_dflt (refine' deser_use zrhdes ?zqb ?zqB ?zqF ?zqX ?zqN ?zqT ?zqk ?zqd ?zqu (fun v' h' tk' P' H' F' N' => ?_); (case zqb => with_reducible assumption); (case zqB => k_asm); (case zqF => k_asm); (case zqX => k_asm); (case zqN => k_asm); (case zqT => k_asm); (case zqk => exact rfl); (case zqd => ktr_room); (case zqu => ktr_units))))
  (k_with "callWith ref" => (k_here; (with_reducible show wpAny _ _ (callWith _ (Value.ref _) _ (backTo _ (starEach (_ :: _) _)) []) _ _ _); kfb_any; k_dflt (refine' KFB.callWith_bound ?zqN ?zqM ?_; (case zqN => k_asm); (case zqM => k_mem); k_whole)))
  (k_with "call ref" => (k_here; (with_reducible show wpAny _ _ (call (Value.ref 355) _) _ _ _); k_dflt (refine' calls_use (pages_calls _ _) ?zqB ?zqF ?zqX ?zqN ?zqT ?zqk ?zqd ?zqu ?_; (case zqB => k_asm); (case zqF => k_asm); (case zqX => k_asm); (case zqN => k_asm); (case zqT => k_asm); (case zqk => exact rfl); (case zqd => ktr_room); (case zqu => ktr_units); k_whole); intro v' h' tk' F' P'; obtain ⟨l', vs', e', hv', hI', N', l1⟩ := P'; subst hv'; (try k_lt l1); (try dsimp only); (try k_fold)))
  (k_with "subscriptTail" => (k_here; (with_reducible show wpAny _ _ (subscriptTail _ _ (Value.ref _) (Value.int _ _)) _ _ _); k_dflt (refine' page_get ?zqN ?zqm ?zqi ?zqa ?zqb (fun P' t' hP' => ?_); (case zqN => k_asm); (case zqm => k_mem); (case zqi => with_reducible assumption); (case zqa => k_extra "om"); (case zqb => k_extra "om"))))
  (k_with "call ref" => (k_here; (with_reducible show wpAny _ _ (call (Value.ref 381) [Value.ref _, Value.bool _, Value.int _ _]) _ _ _); (with_reducible rename KeyCalls _ _ _ _ _ _ _ _ _ _ _ _ _ _ _ => zrhkc); k_dflt (refine' key_use zrhkc ?zqm ?zqB ?zqF ?zqX ?zqN ?zqT ?zqk ?zqd ?zqu (fun tup' t' tf' l' vs' h' tk' hg' hi' F' N' hO' => ?_) (fun tup' t' tf' h' tk' hg' F' N' hO' => ?_); (case zqN => k_asm); (case zqm => k_mem); (case zqB => k_asm); (case zqF => k_asm); (case zqX => k_asm); (case zqT => k_asm); (case zqk => exact rfl); (case zqd => ktr_room); (case zqu => ktr_units)); (all_goals (try simp only [AllNe, and_true] at hO')); (all_goals (try k_fold))))
  (k_with "binaryOp Mult int int" => (k_here; (with_reducible refine mul_int ?_ (IntMulOk.of_left (intBits_le_64 (by k_extra "om") (by k_extra "om"))))))
  (k_with "CompSrc" => (k_here; k_dflt (refine LCg.CompSrc.range (by rfl) (by k_asm) (by k_asm) (by assumption) (by first | exact small_one (by kcf_bnd) (by kcf_bnd) (by kcf_bnd) (by kcf_bnd) | decide) (by first | exact rangeSize_nat _ _ | rfl) (by rw [PySem.sizeLine_eq]; k_extra "om") ?_; intro g'; (refine' kcf_range _ (fun k' t' I' oI' C' oC' D' m' ys' h' tk' E' hlo' hhi' hC' hx' F' N' off' ne' hMark' => ?_) ?_); (all_goals (try (simp only [LCg.Off3, and_true] at off'))); kcf_last)))
  (k_with "eval Lambda" => (k_here; k_dflt (refine' kla_eval ?zqd0 ?_; (case zqd0 => exact rfl)); k_dflt (refine' lam_make ?zqF ?zqN ?zqT ?zqC ?zqcd ?zqU ?zqO ?zqsub ?zqcl (fun f' c' oc' vs' t' ct' ps' h' tk' F' N' O' d1' d2' l1 hk' => ?_); (case zqF => k_asm); (case zqN => k_asm); (case zqT => k_asm); (case zqC => with_reducible assumption); (case zqcd => exact rfl); (case zqU => k_updF); (case zqO => ((with_reducible rename TabOk _ _ _ => zrhO'); exact tabOk_q zrhO' (by kernel_rfl))); (case zqsub => first | (intro q hq; k_mem; done) | kcf_all); (case zqcl => exact rfl)); (try dsimp only at N'); (try k_lt l1)))
  (k_with "call ref" => (k_here; (with_reducible show wpAny _ _ (call (Value.ref 381) [Value.ref _, Value.bool _, Value.int _ _]) _ _ _); (with_reducible rename KeyCalls _ _ _ _ _ _ _ _ _ _ _ _ _ _ _ => zrhkc); k_dflt (refine' key_use2 zrhkc ?zqm ?zqB ?zqF ?zqX ?zqN ?zqT ?zqk ?zqd ?zqu (fun tup' t' tf' ov' fv' l' ol' h' tk' hA' F' N' hO' => ?_); (case zqN => k_asm); (case zqm => k_mem); (case zqB => k_asm); (case zqF => k_asm); (case zqX => k_asm); (case zqT => k_asm); (case zqk => exact rfl); (case zqd => ktr_room); (case zqu => ktr_units)); (have hH' := keyAns_hand hA'); (obtain ⟨hO1', hO2'⟩ := hO'); (try k_fold)))
  (k_with "call ref" => (k_here; (with_reducible show wpAny _ _ (call (Value.ref 395) [Value.ref _]) _ _ _); refine hold_in ?_))
  (k_with "call ref" => (k_here; (with_reducible show wpAny _ _ (call (Value.ref 232) _ _) _ _ _); k_dflt (first | (refine' recN_use ?zqB ?zqF ?zqX ?zqN ?zqT ?zqk ?zqd ?zqu (rec_page _ _ _ _ _ _ _ _ _ _ ?zqm ?zqcs _ _ _) (fun x' dx' k1' k2' k3' k4' k5' tl' h' tk' l1 l2 F' N' => ?_); (case zqN => k_asm); (case zqB => k_asm); (case zqF => k_asm); (case zqX => k_asm); (case zqT => k_asm); (case zqk => exact rfl); (case zqd => ktr_room); (case zqu => ktr_units); (case zqm => k_mem); (case zqcs => assumption)) | (refine' recV_ok ?zqB ?zqF ?zqX ?zqN ?zqT ?zqk ?zqd ?zqu ?zql (rec_value _ _ _ _ _ _ _ _ _ _ ?zqm ?zqcs _ _ _ _ ?zqb ?zql2) (fun x' dx' k1' k2' k3' k4' k5' tl' h' tk' l1 l2 F' N' => ?_); (case zqN => k_asm); (case zqB => k_asm); (case zqF => k_asm); (case zqX => k_asm); (case zqT => k_asm); (case zqk => exact rfl); (case zqd => ktr_room); (case zqu => ktr_units); (case zqm => k_mem); (case zqcs => assumption); (case zqb => with_reducible assumption); (case zql => with_reducible assumption); (case zql2 => k_extra "om")) | (refine' recV_no ?zqB ?zqF ?zqX ?zqN ?zqT ?zqk ?zqd ?zqu ?zql (rec_value _ _ _ _ _ _ _ _ _ _ ?zqm ?zqcs _ _ _ _ ?zqb ?zql2) (fun e' h' tk' g' F' R' U' => ?_); (case zqN => k_asm); (case zqB => k_asm); (case zqF => k_asm); (case zqX => k_asm); (case zqT => k_asm); (case zqk => exact rfl); (case zqd => ktr_room); (case zqu => ktr_units); (case zqm => k_mem); (case zqcs => assumption); (case zqb => with_reducible assumption); (case zql => with_reducible assumption); (case zql2 => k_extra "om")) | ((with_reducible rename KeyKind _ _ _ _ _ _ _ _ _ _ => zrhKK); (refine' recBo_use ?zqB ?zqF ?zqX ?zqN ?zqT ?zqk ?zqd ?zqu (rec_back_out _ _ _ _ _ _ _ _ _ _ _ ?zqm ?zqcs ?zqs2 _ _ _ ?zqs1 _ _ _ _ _ zrhKK ?zqg _ ?zqp0 ?zqp1 _ _ ?zqb) (fun t9 t8 x' dx' k1' k2' k3' k4' k5' tl' h' tk' F' N' => ?_); (case zqN => k_asm); (case zqB => k_asm); (case zqF => k_asm); (case zqX => k_asm); (case zqT => k_asm); (case zqk => exact rfl); (case zqd => ktr_room); (case zqu => ktr_units); (case zqb => with_reducible assumption); (case zqm => k_mem); (case zqcs => assumption); (case zqs1 => k_mem); (case zqs2 => k_mem); (case zqg => with_reducible assumption); (case zqp0 => k_extra "om"); (case zqp1 => k_extra "om"))) | ((with_reducible rename KeyKind _ _ _ _ _ _ _ _ _ _ => zrhKK); (refine' recBi_use ?zqB ?zqF ?zqX ?zqN ?zqT ?zqk ?zqd ?zqu (rec_back_in _ _ _ _ _ _ _ _ _ _ _ ?zqm ?zqcs ?zqs2 _ _ _ ?zqs1 _ _ _ _ _ zrhKK ?zqg _ ?zqn _ _ ?zqb) (fun t9 b8 t8 x' dx' k1' k2' k3' k4' k5' tl' h' tk' hb8 F' N' => ?_); (case zqN => k_asm); (case zqB => k_asm); (case zqF => k_asm); (case zqX => k_asm); (case zqT => k_asm); (case zqk => exact rfl); (case zqd => ktr_room); (case zqu => ktr_units); (case zqb => with_reducible assumption); (case zqm => k_mem); (case zqcs => assumption); (case zqs1 => k_mem); (case zqs2 => k_mem); (case zqg => with_reducible assumption); (case zqn => with_reducible assumption))) | (refine' recN_use ?zqB ?zqF ?zqX ?zqN ?zqT ?zqk ?zqd ?zqu (rec_plain _ _ _ _ _ _ _ _ _ _ ?zqm ?zqcs _) (fun x' dx' k1' k2' k3' k4' k5' tl' h' tk' l1 l2 F' N' => ?_); (case zqN => k_asm); (case zqB => k_asm); (case zqF => k_asm); (case zqX => k_asm); (case zqT => k_asm); (case zqk => exact rfl); (case zqd => ktr_room); (case zqu => ktr_units); (case zqm => k_mem); (case zqcs => assumption))); (try k_fold)))
  (k_with "call ref" => (k_here; (with_reducible show wpAny _ _ (call (Value.ref 273) _ _) _ _ _); k_dflt (first | (refine' refN_use ?zqB ?zqF ?zqX ?zqN ?zqT ?zqk ?zqd ?zqu (ref_new _ _ _ _ _ _ _ _ _ _ ?zqm ?zqcs _ _ _) (fun x' dx' k1' k2' k3' k4' k5' tl' h' tk' l1 l2 F' N' => ?_); (case zqN => k_asm); (case zqB => k_asm); (case zqF => k_asm); (case zqX => k_asm); (case zqT => k_asm); (case zqk => exact rfl); (case zqd => ktr_room); (case zqu => ktr_units); (case zqm => k_mem); (case zqcs => assumption)) | ((with_reducible rename KeyKind _ _ _ _ _ _ _ _ _ _ => zrhKK); (refine' refB_use ?zqB ?zqF ?zqX ?zqN ?zqT ?zqk ?zqd ?zqu (ref_back _ _ _ _ _ _ _ _ _ _ _ ?zqm ?zqcs ?zqs2 _ _ _ ?zqs1 _ _ _ _ _ zrhKK ?zqg _ _ ?zqp0 ?zqp1 ?zqp2 ?zqp3 _ _ ?zqb) (fun t9 t8 t7 x' dx' k1' k2' k3' k4' k5' tl' h' tk' F' N' => ?_); (case zqN => k_asm); (case zqB => k_asm); (case zqF => k_asm); (case zqX => k_asm); (case zqT => k_asm); (case zqk => exact rfl); (case zqd => ktr_room); (case zqu => ktr_units); (case zqb => with_reducible assumption); (case zqm => k_mem); (case zqcs => assumption); (case zqs1 => k_mem); (case zqs2 => k_mem); (case zqg => with_reducible assumption); (case zqp0 => k_extra "om"); (case zqp1 => k_extra "om"); (case zqp2 => k_extra "om"); (case zqp3 => k_extra "om"))) | (refine' refN_use ?zqB ?zqF ?zqX ?zqN ?zqT ?zqk ?zqd ?zqu (ref_plain _ _ _ _ _ _ _ _ _ _ ?zqm ?zqcs _) (fun x' dx' k1' k2' k3' k4' k5' tl' h' tk' l1 l2 F' N' => ?_); (case zqN => k_asm); (case zqB => k_asm); (case zqF => k_asm); (case zqX => k_asm); (case zqT => k_asm); (case zqk => exact rfl); (case zqd => ktr_room); (case zqu => ktr_units); (case zqm => k_mem); (case zqcs => assumption))); (try k_fold)))
  (k_with "call ref" => (k_here; (with_reducible show wpAny _ _ (call (Value.ref 222) _) _ _ _); (with_reducible rename KeyKind _ _ _ _ _ _ _ _ _ _ => zrhKK); k_dflt (first | (refine' dumpO_use ?zqB ?zqF ?zqX ?zqN ?zqT ?zqk ?zqd ?zqu (dump_out_ok _ _ _ _ _ _ _ _ _ _ _ ?zqm ?zqcs ?zqs2 _ _ _ ?zqs1 _ _ _ _ _ zrhKK _ _ _ _ _ _ _ _ _ ?zqg _ _ ?zqp0 ?zqp1 ?zqx ?zqy) (fun b9 t9 h' tk' hb9 F' N' => ?_); (case zqg => with_reducible assumption); (case zqN => k_asm); (case zqB => k_asm); (case zqF => k_asm); (case zqX => k_asm); (case zqT => k_asm); (case zqk => exact rfl); (case zqd => ktr_room); (case zqu => ktr_units); (case zqx => k_mem); (case zqy => k_mem); (case zqm => k_mem); (case zqcs => assumption); (case zqs1 => k_mem); (case zqs2 => k_mem); (case zqp0 => k_extra "om"); (case zqp1 => k_extra "om")) | (refine' dumpO_use ?zqB ?zqF ?zqX ?zqN ?zqT ?zqk ?zqd ?zqu (dump_in_ok _ _ _ _ _ _ _ _ _ _ _ ?zqm ?zqcs ?zqs2 _ _ _ ?zqs1 _ _ _ _ _ zrhKK _ _ _ _ _ _ _ _ _ ?zqg _ _ _ ?zqb ?zql ?zqx ?zqy) (fun b9 t9 h' tk' hb9 F' N' => ?_); (case zqg => with_reducible assumption); (case zqN => k_asm); (case zqB => k_asm); (case zqF => k_asm); (case zqX => k_asm); (case zqT => k_asm); (case zqk => exact rfl); (case zqd => ktr_room); (case zqu => ktr_units); (case zqx => k_mem); (case zqy => k_mem); (case zqm => k_mem); (case zqcs => assumption); (case zqs1 => k_mem); (case zqs2 => k_mem); (case zqb => with_reducible assumption); (case zql => with_reducible assumption)) | (refine' dumpN_use ?zqB ?zqF ?zqX ?zqN ?zqT ?zqk ?zqd ?zqu (dump_out _ _ _ _ _ _ _ _ _ _ _ ?zqm ?zqcs ?zqs2 _ _ _ ?zqs1 _ _ _ _ _ zrhKK _ _ _ _ _ _ _ _ _ _ _ ?zqp0 ?zqx ?zqy) (fun hg9 hn9 b9 t9 h' tk' hb9 F' N' => ?_) (fun c' e' h' tk' g' C' F' R' U' => ?_); (case zqN => k_asm); (case zqB => k_asm); (case zqF => k_asm); (case zqX => k_asm); (case zqT => k_asm); (case zqk => exact rfl); (case zqd => ktr_room); (case zqu => ktr_units); (case zqx => k_mem); (case zqy => k_mem); (case zqm => k_mem); (case zqcs => assumption); (case zqs1 => k_mem); (case zqs2 => k_mem); (case zqp0 => k_extra "om")) | (refine' dumpN_use ?zqB ?zqF ?zqX ?zqN ?zqT ?zqk ?zqd ?zqu (dump_in _ _ _ _ _ _ _ _ _ _ _ ?zqm ?zqcs ?zqs2 _ _ _ ?zqs1 _ _ _ _ _ zrhKK _ _ _ _ _ _ _ _ _ _ _ _ ?zqb ?zql ?zqx ?zqy) (fun hg9 hn9 b9 t9 h' tk' hb9 F' N' => ?_) (fun c' e' h' tk' g' C' F' R' U' => ?_); (case zqN => k_asm); (case zqB => k_asm); (case zqF => k_asm); (case zqX => k_asm); (case zqT => k_asm); (case zqk => exact rfl); (case zqd => ktr_room); (case zqu => ktr_units); (case zqx => k_mem); (case zqy => k_mem); (case zqm => k_mem); (case zqcs => assumption); (case zqs1 => k_mem); (case zqs2 => k_mem); (case zqb => with_reducible assumption); (case zql => with_reducible assumption))); (try k_fold)))
  (k_with "call ref" => (k_here; (with_reducible show wpAny _ _ (call (Value.ref 263) _) _ _ _); (with_reducible rename KeyKind _ _ _ _ _ _ _ _ _ _ => zrhKK); k_dflt (first | (refine' callsX_use ?zqB ?zqF ?zqX ?zqN ?zqT ?zqk ?zqd ?zqu (refdump_no _ _ _ _ _ _ _ _ _ ?zqhb ?zqha ?zqhn _ _ _ _ _ _ _ ?zqx ?zqy) (fun e' h' tk' g' F' R' U' => ?_); (case zqhn => with_reducible assumption); (case zqN => k_asm); (case zqB => k_asm); (case zqF => k_asm); (case zqX => k_asm); (case zqT => k_asm); (case zqk => exact rfl); (case zqd => ktr_room); (case zqu => ktr_units); (case zqx => k_mem); (case zqy => k_mem); (case zqhb => with_reducible assumption); (case zqha => with_reducible assumption)) | (refine' dumpO_use ?zqB ?zqF ?zqX ?zqN ?zqT ?zqk ?zqd ?zqu (dump_ref_ok _ _ _ _ _ _ _ _ _ _ _ ?zqm ?zqcs ?zqs2 _ _ _ ?zqs1 _ _ _ _ _ zrhKK _ _ _ _ _ _ _ _ _ ?zqg _ _ _ _ ?zqp0 ?zqp1 ?zqp2 ?zqp3 ?zqx ?zqy) (fun b9 t9 h' tk' hb9 F' N' => ?_); (case zqg => with_reducible assumption); (case zqN => k_asm); (case zqB => k_asm); (case zqF => k_asm); (case zqX => k_asm); (case zqT => k_asm); (case zqk => exact rfl); (case zqd => ktr_room); (case zqu => ktr_units); (case zqx => k_mem); (case zqy => k_mem); (case zqm => k_mem); (case zqcs => assumption); (case zqs1 => k_mem); (case zqs2 => k_mem); (case zqp0 => k_extra "om"); (case zqp1 => k_extra "om"); (case zqp2 => k_extra "om"); (case zqp3 => k_extra "om")) | (refine' dumpN_use ?zqB ?zqF ?zqX ?zqN ?zqT ?zqk ?zqd ?zqu (dump_ref _ _ _ _ _ _ _ _ _ _ _ ?zqm ?zqcs ?zqs2 _ _ _ ?zqs1 _ _ _ _ _ zrhKK _ _ _ _ _ _ _ _ _ _ _ _ _ ?zqp0 ?zqp1 ?zqx ?zqy) (fun hg9 hn9 b9 t9 h' tk' hb9 F' N' => ?_) (fun c' e' h' tk' g' C' F' R' U' => ?_); (case zqN => k_asm); (case zqB => k_asm); (case zqF => k_asm); (case zqX => k_asm); (case zqT => k_asm); (case zqk => exact rfl); (case zqd => ktr_room); (case zqu => ktr_units); (case zqx => k_mem); (case zqy => k_mem); (case zqm => k_mem); (case zqcs => assumption); (case zqs1 => k_mem); (case zqs2 => k_mem); (case zqp0 => k_extra "om"); (case zqp1 => k_extra "om"))); (try k_fold)))
  (k_with "compareOp NotEq bytes bytes" => (k_here; (with_reducible show wpAny _ _ (compareOp CmpOp.NotEq (Value.bytes _ _) (Value.bytes _ _)) _ _ _); refine' ne_b ?zqa ?zqb ?zqe ?_; (case zqa => with_reducible assumption); (case zqb => with_reducible assumption); (case zqe => k_extra "rows")))
  (k_with "compareOp Eq bytes bytes" => (k_here; (with_reducible show wpAny _ _ (compareOp CmpOp.Eq (Value.bytes _ _) (Value.bytes _ _)) _ _ _); refine' eq_b ?zqa ?zqb ?zqe ?_; (case zqa => with_reducible assumption); (case zqb => with_reducible assumption); (case zqe => k_extra "rows")))
  (k_with "compareOp Eq ref ref" => (k_here; (with_reducible show wpAny _ _ (compareOp CmpOp.Eq (Value.ref _) (Value.ref _)) _ _ _); k_dflt (refine' tup_eq ?zqN ?zqa ?zqb ?zqu ?zqe ?_; (case zqN => k_asm); (case zqa => k_mem); (case zqb => k_mem); (case zqu => ktr_units); (case zqe => k_extra "all at"))))
  (k_with "compareOp NotEq ref ref" => (k_here; (with_reducible show wpAny _ _ (compareOp CmpOp.NotEq (Value.ref _) (Value.ref _)) _ _ _); k_dflt (refine' tup_ne ?zqN ?zqa ?zqb ?zqu ?zqe ?_; (case zqN => k_asm); (case zqa => k_mem); (case zqb => k_mem); (case zqu => ktr_units); (case zqe => k_extra "all at"))))
  (k_with "compareOp NotEq int int" => (k_here; (with_reducible show wpAny _ _ (compareOp CmpOp.NotEq (Value.int _ _) (Value.int _ _)) _ _ _); refine' ne_same ?zqq1 ?_; (case zqq1 => ((try simp only [List.length_append, List.length_replicate, KTBy.little_length, List.length_cons, List.length_nil]); k_extra "om"))))
  (k_with "compareOp Eq int int" => (k_here; (with_reducible show wpAny _ _ (compareOp CmpOp.Eq (Value.int _ _) (Value.int _ _)) _ _ _); first | (refine' eq_same ?zqq1 ?_; (case zqq1 => k_extra "om")) | (refine' eq_diff ?zqq1 ?_; (case zqq1 => k_extra "om"))))
  (k_with "compareOp NotEq" => (k_here; (with_reducible show wpAny _ _ (compareOp CmpOp.NotEq _ _) _ _ _); (with_reducible rename KeyEq _ => zrhke); (with_reducible refine' zrhke.ne' _ _ _ _ _ _ _ _ ?_)))
  (k_with "rows" => first | (with_reducible exact rfl) | exact row_out _ _ _ _ | exact row_in _ _ _ _ (by with_reducible assumption) | exact row_ref _ _ _ _)
  (k_with "z k_handed" => ((with_reducible rename KeyKind _ _ _ _ _ _ _ _ _ _ => zrhKK); exact zrhKK.hand _))
  (k_with "all at" => ((try (with_reducible rename KeyEq _ => zrhke)); (repeat' (refine And.intro ?_ ?_)); (all_goals first | exact trivial | exact zrhke.at' _ _ _ _ | exact PySem.SeqAt.EqAt.same _ | exact at_int _ _ _ | (refine at_bytes (by with_reducible assumption) (by with_reducible assumption) ?_; k_extra "rows") | (refine at_int' ?_; ((try simp only [List.length_append, List.length_replicate, KTBy.little_length, List.length_cons, List.length_nil]); k_extra "om")))))
  (k_with "binaryOp FloorDiv int int" => (k_here; (with_reducible refine fdiv_small (by k_extra "om") (by k_extra "om") ?_)))
  (k_with "all ne" => ((try simp only [AllNe]); (repeat' (refine And.intro ?_ ?_)); all_goals (first | k_extra "om" | exact allNe_of_allLt (by with_reducible assumption) | with_reducible assumption)))
  (k_with "call builtin:list.append" => (k_here; (with_reducible show wpAny _ _ (call (Value.builtin _) [Value.ref _, Value.int _ _]) _ _ _); k_dflt (refine' app_U ?zqF ?zqN ?zqU ?zqi ?zqz (fun h' F' N' I' => ?_); (case zqF => k_asm); (case zqN => k_asm); (case zqU => k_updF); (case zqi => with_reducible assumption); (case zqz => k_extra "om")); (try dsimp only at N')))
  (k_with "call builtin:list.pop" => (k_here; k_dflt (refine' pop_U ?zqF ?zqN ?zqU ?zqi ?zqz ?zqn (fun y' h' F' N' I' => ?_); (case zqF => k_asm); (case zqN => k_asm); (case zqU => k_updF); (case zqi => with_reducible assumption); (case zqz => k_extra "om"); (case zqn => k_extra "om")); (try dsimp only at N')))
  (k_with "call builtin:isinstance" => (k_here; (with_reducible show wpAny _ _ (call _ [Value.str _ _, Value.ref _]) _ _ _); k_dflt (first | (refine' isi_no_rec ?zqF ?zqX (fun tk' => ?_); (case zqF => k_asm); (case zqX => k_asm)) | (refine' isi_no_ref ?zqF ?zqX (fun tk' => ?_); (case zqF => k_asm); (case zqX => k_asm)))))
  (k_with "subscriptTail Name Slice ref ref" => (k_here; (with_reducible show wpAny _ _ (subscriptTail _ (PySem.Expr.Slice none (some _) none _) (Value.ref _) (Value.ref _)) _ _ _); k_dflt (refine' kmk_slice_ints (s := ⟨_, _, _, _, _⟩) ?zqF ?zqN ?zql ?zqp ?zqq ?zqi ?zqm ?zqc ?_ ?zqs ?zqt ?zqz; (case zqF => k_asm); (case zqN => k_asm); (case zql => exact News.isList (by k_asm) (by k_mem)); (case zqp => exact IsPart.none); (case zqq => exact IsPart.int _ _); (case zqi => with_reducible assumption); (case zqm => exact kmk_upto (by with_reducible assumption) (by with_reducible assumption)); (case zqc => exact List.length_take ..); (case zqs => with_unfolding_all rfl); (case zqt => kmk_pure); (case zqz => exact kmk_sz (by with_reducible assumption) (by rw [sizeLine_eq]; k_extra "om")); intro D' ws' h' F' N' l1 hI' hC' hL'; (try k_lt l1); (try k_sweep))))
  (k_with "call builtin:isinstance" => (k_here; (with_reducible show wpAny _ _ (call _ [Value.ref _, Value.ref _]) _ _ _); k_dflt (refine' isi_call ?zqk1 ?zqk2 ?zqk3 ?zqk4 ?_; (case zqk1 => k_in); (case zqk2 => k_types); (case zqk3 => k_is); (case zqk4 => intro e; cases e); k_whole)))
  trivial
/-- how the frame and the ledger stand behind a turn, beside the loop's own iterator -/
def TurnPost (h₀ : Heap) (L I : Addr) (oI : Obj) (J : (Str → Option Value) → List (Addr × Obj) → Prop) (s₁ : Shared) (Q : Flow → Shared → Prop) (f : Flow) (s₂ : Shared) : Prop :=
  match f with
  | .ret v => Q (.ret v) s₂
  | .brk => Q .next s₂
  | _ => ∃ h' tk m' nx, s₂ = { s₁ with heap := h', toks := tk } ∧ Fr h₀ L h' m' ∧ News h₀ L h' ((I, oI) :: nx) ∧ (∀ p ∈ nx, p.1 ≠ I) ∧ J m' nx
theorem TurnPost.intro {h₀ h' : Heap} {L I : Addr} {oI : Obj} {J : (Str → Option Value) → List (Addr × Obj) → Prop} {s₁ : Shared} {Q : Flow → Shared → Prop} {tk : Nat} {m' : Str → Option Value} {nx : List (Addr × Obj)}
    (F : Fr h₀ L h' m') (N : News h₀ L h' ((I, oI) :: nx)) (ha : ∀ p ∈ nx, p.1 ≠ I) (hJ : J m' nx) : TurnPost h₀ L I oI J s₁ Q .next { s₁ with heap := h', toks := tk } := ⟨h', tk, m', nx, rfl, F, N, ha, hJ⟩
section
variable {prog : Program} {w : World} {A : Around} {E : Value → Shared → Prop} {s : Shared} {env : Env} {h₀ : Heap} {x : Str} {body : List Stmt} {Q : Flow → Shared → Prop}
set_option maxHeartbeats 1600000 in
/-- a loop over a list of the ledger, the iterator's own state told -/
theorem law_loop {l : Addr} {vs : List Value} {nn : Nat} {m₀ : Str → Option Value} {news : List (Addr × Obj)} (J : Nat → (Str → Option Value) → List (Addr × Obj) → Prop)
    (hh : A.handled = none) (hl : (l, listOf vs.toArray nn) ∈ news) (F : Fr h₀ env.locals s.heap m₀) (N : News h₀ env.locals s.heap news) (hj : J 0 m₀ news) (hJl : ∀ i m nx, J i m nx → (l, listOf vs.toArray nn) ∈ nx)
    (turn : ∀ i v m₁ nx h tk I oI, vs[i]? = some v → J i m₁ nx → (∀ p ∈ nx, p.1 ≠ I) → ¬ CodeLike oI → Fr h₀ env.locals h (fun y => if y = x then some v else m₁ y) → News h₀ env.locals h ((I, oI) :: nx) →
      wpAny (model prog w) A (execs body env) (TurnPost h₀ env.locals I oI (J (i + 1)) { s with heap := h, toks := tk } Q) E { s with heap := h, toks := tk })
    (done : ∀ m₁ nx h tk, J vs.length m₁ nx → Fr h₀ env.locals h m₁ → News h₀ env.locals h nx → Q .next { s with heap := h, toks := tk }) :
    wpAny (model prog w) A (pyIter (.ref l)) (fun it s₂ => LoopAtV prog w A h₀ env x body Q E it s₂) E s := by
  have hol : s.heap.get? l = some (listOf vs.toArray nn) := (N _ hl).1
  have hls : s.heap.IsList l vs.toArray := ⟨_, hol, rfl, nn, rfl⟩
  have hne : l ≠ s.heap.objs.size := Nat.ne_of_lt (Heap.lt_size hol)
  refine wpAny_pyIter_list hls ?_
  have W := Walks.list (prog := prog) (w := w) hh s.heap.objs.size l hne vs.toArray
  rw [show vs.toArray.size = vs.length by simp] at W
  refine ⟨_, _, _, vs.length, _, _, m₀, news, J, rfl, W, ?_, ?_, ?_, ⟨⟨_, Heap.get?_push_size _ rfl, rfl, rfl⟩, hls.at fun o e => Heap.get?_push_of_some _ e⟩, F.push _, (fun p hp => ⟨Heap.get?_push_of_some _ (N p hp).1, (N p hp).2⟩), hj, ?_, ?_⟩
  · intro hm
    rcases List.mem_cons.mp hm with e | hm
    · exact absurd F.ns.lt (e ▸ Nat.lt_irrefl _)
    · exact (N _ hl).2.1 ((List.mem_singleton.mp hm).symm)
  · intro b hb
    rw [List.mem_singleton.mp hb]
    exact next_is_new F
  · intro p hp hI
    exact absurd (Heap.lt_size (N p hp).1) ((List.mem_singleton.mp hI) ▸ Nat.lt_irrefl _)
  · rintro i v m₁ nx s₁ own ⟨hh', tk', rfl⟩ hin hP hJ hoff hown hget hfp hst F₁ N₁
    have hP' : vs[i]? = some v := by simpa using hP
    obtain ⟨⟨oI, hoI, _, hdI⟩, _⟩ := id hst
    have hIown := hfp s.heap.objs.size (.head _) (next_is_new F) oI hoI
    have hcl : ¬ CodeLike oI := by
      rintro ⟨vs', q, t, e1, e2⟩
      rw [hdI] at e1
      cases e1
      simp at e2
    have N₂ : News h₀ env.locals hh' ((s.heap.objs.size, oI) :: nx) := fun p hp => N₁ p (by
      rcases List.mem_cons.mp hp with rfl | hp
      · exact List.mem_append_left _ hIown
      · exact List.mem_append_right _ hp)
    refine wpAny_mono (turn i v m₁ nx hh' tk' s.heap.objs.size oI hP' hJ (fun p hp e => hoff p hp (by rw [e]; exact .head _)) hcl F₁ N₂) (fun f s₂ p => ?_) fun _ _ e => e
    have fin : (∃ h' tk m' nx', s₂ = { ({ s with heap := hh', toks := tk' } : Shared) with heap := h', toks := tk } ∧ Fr h₀ env.locals h' m' ∧ News h₀ env.locals h' ((s.heap.objs.size, oI) :: nx') ∧ (∀ p ∈ nx', p.1 ≠ s.heap.objs.size) ∧ J (i + 1) m' nx') →
        LoopStepU h₀ env.locals [s.heap.objs.size] own (J (i + 1)) { s with heap := hh', toks := tk' } .next s₂ := by
      rintro ⟨h', tk, m', nx', e, F', N', ha, hm⟩
      refine ⟨rfl, h', tk, m', nx', e, F', fun p hp => ?_, fun p hp hq => ha p hp (List.mem_singleton.mp hq), hm⟩
      rcases List.mem_append.mp hp with h | h
      · have h2 : hh'.get? p.1 = some p.2 := hget p h
        rcases List.mem_cons.mp (hown p h) with h1 | h1
        · rw [h1, hoI] at h2
          rw [show p = (s.heap.objs.size, oI) from Prod.ext h1 (Option.some.inj h2).symm]
          exact N' _ (.head _)
        · have h1 := List.mem_singleton.mp h1
          have hlo : hh'.get? l = some (listOf vs.toArray nn) := (N₂ _ (.tail _ (hJl _ _ _ hJ))).1
          rw [h1, hlo] at h2
          rw [show p = (l, listOf vs.toArray nn) from Prod.ext h1 (Option.some.inj h2).symm]
          exact N' _ (.tail _ (hJl _ _ _ hm))
      · exact N' p (.tail _ h)
    cases f with
    | ret v => exact .ret p
    | brk => exact .brk p
    | next => exact .next (fin p)
    | cont => exact .cont (fin p)
  · rintro h' tk m' nx F' N' _ hJ
    exact done m' nx h' tk hJ F' N'
end
/-- no code: a table of codes, for one -/
theorem tab_noCode {ps : Array Value} (h : TriplesOk ps.toList) : ¬ CodeLike (tabObj ps) := by
  rintro ⟨vs, q, t, e1, e2⟩
  cases e1
  obtain ⟨l⟩ := ps
  rcases l with _ | ⟨a, l⟩
  · cases e2
  · rcases l with _ | ⟨b, l⟩
    · cases e2
    · cases Option.some.inj e2
      cases a <;> first | exact h | exact h.elim | (rcases l with _ | ⟨c, l⟩ <;> exact h)
theorem list_noCode (vs : Array Value) (n : Nat) : ¬ CodeLike (listOf vs n) := by
  rintro ⟨vs, q, t, e1, e2⟩
  cases e1
abbrev q7 : Str := Str.ofString "_law_record.<locals>.<lambda>"
abbrev q2 : Str := Str.ofString "_law_reference.<locals>.<lambda>"
abbrev q9 : Str := Str.ofString "_law_read.<locals>.<lambda>"
/-- the ledger between the turns -/
def Led (cst nx : List (Addr × Obj)) : Prop :=
  ∃ p7 p2 p9 G, nx = (397, tabObj p7) :: (402, tabObj p2) :: (409, tabObj p9) :: G ∧ (∀ q ∈ cst, q ∈ G) ∧ TabOk p7 G q7 ∧ TabOk p2 G q2 ∧ TabOk p9 G q9 ∧ ∀ q ∈ G, q.1 ≠ 397 ∧ q.1 ≠ 402 ∧ q.1 ≠ 409
theorem tab_grow {q : Str} {ps : Array Value} {ex rest G : List (Addr × Obj)} (h : TabOk ps (ex ++ rest) q) (hr : ∀ r ∈ rest, CodeLike r.2 → r ∈ G) : TabOk ps (ex ++ G) q :=
  ⟨h.1, fun pos cv e => by
    obtain ⟨c', oc, vs, t, a1, a2, a3, a4⟩ := h.2 pos cv e
    refine ⟨c', oc, vs, t, a1, ?_, a3, a4⟩
    rcases List.mem_append.mp a2 with a2 | a2
    · exact List.mem_append_left _ a2
    · exact List.mem_append_right _ (hr _ a2 ⟨vs, q, t, a3, a4⟩)⟩
theorem code_off {h₀ h : Heap} {L a : Addr} {o : Obj} {ex news : List (Addr × Obj)} (N : News h₀ L h news) (hx : ∀ q ∈ ex, q ∈ news) (hc : ∀ q ∈ ex, CodeLike q.2) (hm : (a, o) ∈ news) (ho : ¬ CodeLike o) : ∀ q ∈ ex, q.1 ≠ a := fun q hq e => by
  have h1 := (N _ (hx q hq)).1
  have h2 := (N _ hm).1
  dsimp only at h2
  rw [e, h2] at h1
  exact ho (Option.some.inj h1 ▸ hc q hq)
/-- the turn of one table -/
theorem led_turn {h₀ h : Heap} {L I P P2 P3 : Addr} {oI : Obj} {p2 p3 : Array Value} {qa qb qc : Str} {cst G news' : List (Addr × Obj)}
    (hI : ¬ CodeLike oI) (hIn : ∀ q ∈ G, q.1 ≠ I) (hc : ∀ q ∈ cst, q ∈ G) (h2 : TabOk p2 G qb) (h3 : TabOk p3 G qc) (ho : ∀ q ∈ G, q.1 ≠ P ∧ q.1 ≠ P2 ∧ q.1 ≠ P3)
    (N : News h₀ L h news') (T : TabPost P qa ((P2, tabObj p2) :: (P3, tabObj p3) :: (I, oI) :: G) news') :
    ∃ p1 G', (∀ q ∈ cst, q ∈ G') ∧ TabOk p1 G' qa ∧ TabOk p2 G' qb ∧ TabOk p3 G' qc ∧ (∀ q ∈ G', q.1 ≠ P ∧ q.1 ≠ P2 ∧ q.1 ≠ P3) ∧ (∀ q ∈ G', q.1 ≠ I) ∧
      News h₀ L h ((P, tabObj p1) :: (P2, tabObj p2) :: (P3, tabObj p3) :: (I, oI) :: G') := by
  obtain ⟨p1, ex, rfl, hT, hx⟩ := T
  have e0 : ∀ q ∈ ex, q ∈ (P, tabObj p1) :: (ex ++ (P2, tabObj p2) :: (P3, tabObj p3) :: (I, oI) :: G) := fun q hq => .tail _ (List.mem_append_left _ hq)
  have e1 : ∀ q ∈ ((P2, tabObj p2) :: (P3, tabObj p3) :: (I, oI) :: G), q ∈ (P, tabObj p1) :: (ex ++ (P2, tabObj p2) :: (P3, tabObj p3) :: (I, oI) :: G) := fun q hq => .tail _ (List.mem_append_right _ hq)
  have f1 := code_off N e0 hx (.head _) (tab_noCode hT.1)
  have f2 := code_off N e0 hx (e1 _ (.head _)) (tab_noCode h2.1)
  have f3 := code_off N e0 hx (e1 _ (.tail _ (.head _))) (tab_noCode h3.1)
  have f4 := code_off N e0 hx (e1 _ (.tail _ (.tail _ (.head _)))) hI
  refine ⟨p1, ex ++ G, fun q hq => List.mem_append_right _ (hc q hq), tab_grow hT ?_, tabOk_more h2 fun q hq => List.mem_append_right _ hq, tabOk_more h3 fun q hq => List.mem_append_right _ hq, ?_, ?_, ?_⟩
  · intro r hr hcr
    rcases List.mem_cons.mp hr with rfl | hr
    · exact absurd hcr (tab_noCode h2.1)
    rcases List.mem_cons.mp hr with rfl | hr
    · exact absurd hcr (tab_noCode h3.1)
    rcases List.mem_cons.mp hr with rfl | hr
    · exact absurd hcr hI
    exact hr
  · intro q hq
    rcases List.mem_append.mp hq with hq | hq
    · exact ⟨f1 q hq, f2 q hq, f3 q hq⟩
    · exact ho q hq
  · intro q hq
    rcases List.mem_append.mp hq with hq | hq
    · exact f4 q hq
    · exact hIn q hq
  · refine cb_drop N fun q hq => ?_
    rcases List.mem_cons.mp hq with rfl | hq
    · exact .head _
    rcases List.mem_cons.mp hq with rfl | hq
    · exact e1 _ (.head _)
    rcases List.mem_cons.mp hq with rfl | hq
    · exact e1 _ (.tail _ (.head _))
    rcases List.mem_cons.mp hq with rfl | hq
    · exact e1 _ (.tail _ (.tail _ (.head _)))
    rcases List.mem_append.mp hq with hq | hq
    · exact e0 q hq
    · exact e1 _ (.tail _ (.tail _ (.tail _ hq)))
/-- with no outer frame a turn of the ground is none -/
theorem fr_turn {g h₁ h : Heap} {L : Addr} {m : Str → Option Value} (T : KtsTurn [] g h₁) (F : Fr h₁ L h m) : Fr g L h m :=
  ⟨F.ns, fun b o e => F.keep b o (T.other b o e (by simp)), T.size ▸ F.above⟩
theorem news_turn {g h₁ h : Heap} {L : Addr} {news : List (Addr × Obj)} (T : KtsTurn [] g h₁) (N : News h₁ L h news) : News g L h news := fun p hp =>
  ⟨(N p hp).1, (N p hp).2.1, by
    cases e : g.get? p.1 with
    | none => rfl
    | some o => have h2 := T.other _ _ e (by simp); rw [(N p hp).2.2] at h2; cases h2⟩

end
section
/-- the conf, its serializer, the serializer's dict -/
def ConfIn (cst : List (Addr × Obj)) (c : Addr) (tx : Bool) : Prop :=
  ∃ ks vsz sr dsr t1 t2 t3 t4 sC, (c, confObj ks vsz sr t1 t2 t3 t4) ∈ cst ∧ (sr, instObj sC dsr) ∈ cst ∧ (dsr, dictOf [] 0) ∈ cst ∧ confs ks vsz ∧ ((tx = false ∧ sC = 320) ∨ (tx = true ∧ sC = 346))
section
variable {w : World} {cst : List (Addr × Obj)} {I c : Addr} {oI : Obj} {tx : Bool} {m0 : Int} {tm : Tok}
    {p : Program} {loose : List Str} {mean : ExcName → Option Value} {mg mb : Str → Option Value}
    {dp un : Nat} {gd : Option (List Code)} {cn : Str} {cs : Scope} {a : Addr} {ccd : Value} {cl : List (Str × Addr)} {A₀ : Around} {base h₀ : Heap} {L : Addr} {m : Str → Option Value} {s : Shared} {Q E : Value → Shared → Prop}
    (B : Below A₀ base [] h₀) (F : Fr h₀ L s.heap m) (X : (hd.heap_1 w.params).In h₀) (T : Top p loose mean mg mb h₀) (XB : (hd.heap_1 w.params).In base) (TB : Top p loose mean mg mb base) (hk : cs.kind = .function)
    (hdp : dp + 60 < recursionLimit) (hu : un + 3000 < cLine)
include B F X T XB TB hk hdp hu
theorem tab_step {f : Value} {vs : List Value} {P P2 P3 : Addr} {p1 p2 p3 : Array Value} {qa qb qc : Str} {G : List (Addr × Obj)}
    (hcall : CallsC w f vs ((P, tabObj p1) :: (P2, tabObj p2) :: (P3, tabObj p3) :: (I, oI) :: G) 60 3000 (fun v news' => v = .bool true ∧ TabPost P qa ((P2, tabObj p2) :: (P3, tabObj p3) :: (I, oI) :: G) news'))
    (N : News h₀ L s.heap ((P, tabObj p1) :: (P2, tabObj p2) :: (P3, tabObj p3) :: (I, oI) :: G))
    (hI : ¬ CodeLike oI) (hIn : ∀ q ∈ G, q.1 ≠ I) (hc : ∀ q ∈ cst, q ∈ G) (h2 : TabOk p2 G qb) (h3 : TabOk p3 G qc) (ho : ∀ q ∈ G, q.1 ≠ P ∧ q.1 ≠ P2 ∧ q.1 ≠ P3)
    (hret : ∀ p1' G' h' tk', (∀ q ∈ cst, q ∈ G') → TabOk p1' G' qa → TabOk p2 G' qb → TabOk p3 G' qc → (∀ q ∈ G', q.1 ≠ P ∧ q.1 ≠ P2 ∧ q.1 ≠ P3) → (∀ q ∈ G', q.1 ≠ I) → Fr h₀ L h' m →
      News h₀ L h' ((P, tabObj p1') :: (P2, tabObj p2) :: (P3, tabObj p3) :: (I, oI) :: G') → Q (.bool true) { s with heap := h', toks := tk' }) :
    wpAny (model PySem.Challenge.rw_ke0001_01.row.prog w) (ktrTop dp un gd cn cs L a ccd cl []) (call f vs) Q E s :=
  hcall p loose mean mg mb dp un gd cn cs a ccd cl [] A₀ base h₀ L m s Q E B F X N T hk XB TB (fun b hb => nomatch hb) hdp hu (fun v news' h' tk' h₁ T1 F1 N1 _ _ _ _ P => by
    obtain ⟨rfl, P⟩ := P
    have T1' : KtsTurn [] h₀ h₁ := T1
    obtain ⟨p1', G', a1, a2, a3, a4, a5, a6, a7⟩ := led_turn hI hIn hc h2 h3 ho N1 P
    exact hret p1' G' h' tk' a1 a2 a3 a4 a5 a6 (fr_turn T1' F1) (news_turn T1' a7))
variable {nx : List (Addr × Obj)} (hC : ConfIn cst c tx) (hL : Led cst nx) (hI : ¬ CodeLike oI) (hIn : ∀ q ∈ nx, q.1 ≠ I) (N : News h₀ L s.heap ((I, oI) :: nx))
  (hret : ∀ nx' h' tk', Led cst nx' → (∀ q ∈ nx', q.1 ≠ I) → Fr h₀ L h' m → News h₀ L h' ((I, oI) :: nx') → Q (.bool true) { s with heap := h', toks := tk' })
include hC hL hI hIn N hret
theorem rec_step (b : Bool) : wpAny (model PySem.Challenge.rw_ke0001_01.row.prog w) (ktrTop dp un gd cn cs L a ccd cl []) (call (.ref 400) [.ref c, .bool tx, .int m0 tm, .bool b]) Q E s := by
  obtain ⟨p7, p2, p9, G, rfl, hG, h7, h2, h9, ho⟩ := hL
  obtain ⟨ks, vsz, sr, dsr, t1, t2, t3, t4, sC, m1, m2, m3, hcs, hcl⟩ := hC
  have n7 : (@Ne Nat 397 I) := hIn _ (.head _)
  have n2 : (@Ne Nat 402 I) := hIn _ (.tail _ (.head _))
  have n9 : (@Ne Nat 409 I) := hIn _ (.tail _ (.tail _ (.head _)))
  have hIG : ∀ q ∈ G, q.1 ≠ I := fun q hq => hIn q (.tail _ (.tail _ (.tail _ hq)))
  have up : ∀ {q : Addr × Obj}, q ∈ G → q ∈ ((402, tabObj p2) :: (409, tabObj p9) :: (I, oI) :: G) := fun hq => .tail _ (.tail _ (.tail _ hq))
  have hne : ∀ q ∈ (((402 : Nat), tabObj p2) :: ((409 : Nat), tabObj p9) :: (I, oI) :: G), q.1 ≠ 397 := by
    intro q hq
    rcases List.mem_cons.mp hq with rfl | hq
    · exact (by decide : (402 : Nat) ≠ 397)
    rcases List.mem_cons.mp hq with rfl | hq
    · exact (by decide : (409 : Nat) ≠ 397)
    rcases List.mem_cons.mp hq with rfl | hq
    · exact fun e => n7 e.symm
    exact (ho q hq).1
  have N' : News h₀ L s.heap ((397, tabObj p7) :: (402, tabObj p2) :: (409, tabObj p9) :: (I, oI) :: G) := cb_drop N (by
    intro q hq
    simp only [List.mem_cons] at hq ⊢
    rcases hq with h | h | h | h | h <;> simp [h])
  have hcall : CallsC w (.ref 400) [.ref c, .bool tx, .int m0 tm, .bool b] ((397, tabObj p7) :: (402, tabObj p2) :: (409, tabObj p9) :: (I, oI) :: G) 60 3000 (fun v news' => v = .bool true ∧ TabPost 397 q7 ((402, tabObj p2) :: (409, tabObj p9) :: (I, oI) :: G) news') := by
    have hT := tabOk_more h7 fun q hq => up hq
    rcases hcl with ⟨rfl, rfl⟩ | ⟨rfl, rfl⟩
    · cases b
      · exact law_reci w _ c ks vsz sr dsr t1 t2 t3 t4 (up (hG _ m1)) hcs (up (hG _ m3)) 320 310 317 (up (hG _ m2)) false m0 _ _ _ _ _ (kind_int w ks hcs.2.1 m0) (keyEq_int _) (fun news tm hc => key_int w news c ks vsz sr t1 t2 t3 t4 hc hcs m0 tm) p7 hT hne tm
      · exact law_reco w _ c ks vsz sr dsr t1 t2 t3 t4 (up (hG _ m1)) hcs (up (hG _ m3)) 320 310 317 (up (hG _ m2)) false m0 _ _ _ _ _ (kind_int w ks hcs.2.1 m0) (keyEq_int _) (fun news tm hc => key_int w news c ks vsz sr t1 t2 t3 t4 hc hcs m0 tm) p7 hT hne tm
    · cases b
      · exact law_reci w _ c ks vsz sr dsr t1 t2 t3 t4 (up (hG _ m1)) hcs (up (hG _ m3)) 346 336 343 (up (hG _ m2)) true m0 _ _ _ _ _ (kind_text w ks hcs.2.1 m0) (keyEq_str _) (fun news tm hc => key_text w news c ks vsz sr t1 t2 t3 t4 hc hcs m0 tm) p7 hT hne tm
      · exact law_reco w _ c ks vsz sr dsr t1 t2 t3 t4 (up (hG _ m1)) hcs (up (hG _ m3)) 346 336 343 (up (hG _ m2)) true m0 _ _ _ _ _ (kind_text w ks hcs.2.1 m0) (keyEq_str _) (fun news tm hc => key_text w news c ks vsz sr t1 t2 t3 t4 hc hcs m0 tm) p7 hT hne tm
  refine tab_step B F X T XB TB hk hdp hu hcall N' hI hIG hG h2 h9 ho fun p1' G' h' tk' a1 a2 a3 a4 a5 a6 F' N'' => hret _ h' tk' ⟨p1', p2, p9, G', rfl, a1, a2, a3, a4, a5⟩ ?_ F' (cb_drop N'' (by
    intro q hq
    simp only [List.mem_cons] at hq ⊢
    rcases hq with h | h | h | h | h <;> simp [h]))
  intro q hq
  rcases List.mem_cons.mp hq with rfl | hq
  · exact n7
  rcases List.mem_cons.mp hq with rfl | hq
  · exact n2
  rcases List.mem_cons.mp hq with rfl | hq
  · exact n9
  exact a6 q hq
theorem ref_step : wpAny (model PySem.Challenge.rw_ke0001_01.row.prog w) (ktrTop dp un gd cn cs L a ccd cl []) (call (.ref 407) [.ref c, .bool tx, .int m0 tm]) Q E s := by
  obtain ⟨p7, p2, p9, G, rfl, hG, h7, h2, h9, ho⟩ := hL
  obtain ⟨ks, vsz, sr, dsr, t1, t2, t3, t4, sC, m1, m2, m3, hcs, hcl⟩ := hC
  have n7 : (@Ne Nat 397 I) := hIn _ (.head _)
  have n2 : (@Ne Nat 402 I) := hIn _ (.tail _ (.head _))
  have n9 : (@Ne Nat 409 I) := hIn _ (.tail _ (.tail _ (.head _)))
  have hIG : ∀ q ∈ G, q.1 ≠ I := fun q hq => hIn q (.tail _ (.tail _ (.tail _ hq)))
  have up : ∀ {q : Addr × Obj}, q ∈ G → q ∈ ((397, tabObj p7) :: (409, tabObj p9) :: (I, oI) :: G) := fun hq => .tail _ (.tail _ (.tail _ hq))
  have hne : ∀ q ∈ (((397 : Nat), tabObj p7) :: ((409 : Nat), tabObj p9) :: (I, oI) :: G), q.1 ≠ 402 := by
    intro q hq
    rcases List.mem_cons.mp hq with rfl | hq
    · exact (by decide : (397 : Nat) ≠ 402)
    rcases List.mem_cons.mp hq with rfl | hq
    · exact (by decide : (409 : Nat) ≠ 402)
    rcases List.mem_cons.mp hq with rfl | hq
    · exact fun e => n2 e.symm
    exact (ho q hq).2.1
  have N' : News h₀ L s.heap ((402, tabObj p2) :: (397, tabObj p7) :: (409, tabObj p9) :: (I, oI) :: G) := cb_drop N (by
    intro q hq
    simp only [List.mem_cons] at hq ⊢
    rcases hq with h | h | h | h | h <;> simp [h])
  have hcall : CallsC w (.ref 407) [.ref c, .bool tx, .int m0 tm] ((402, tabObj p2) :: (397, tabObj p7) :: (409, tabObj p9) :: (I, oI) :: G) 60 3000 (fun v news' => v = .bool true ∧ TabPost 402 q2 ((397, tabObj p7) :: (409, tabObj p9) :: (I, oI) :: G) news') := by
    have hT := tabOk_more h2 fun q hq => up hq
    rcases hcl with ⟨rfl, rfl⟩ | ⟨rfl, rfl⟩
    · exact law_refe w _ c ks vsz sr dsr t1 t2 t3 t4 (up (hG _ m1)) hcs (up (hG _ m3)) 320 310 317 (up (hG _ m2)) false m0 _ _ _ _ _ (kind_int w ks hcs.2.1 m0) (keyEq_int _) (fun news tm hc => key_int w news c ks vsz sr t1 t2 t3 t4 hc hcs m0 tm) p2 hT hne tm
    · exact law_refe w _ c ks vsz sr dsr t1 t2 t3 t4 (up (hG _ m1)) hcs (up (hG _ m3)) 346 336 343 (up (hG _ m2)) true m0 _ _ _ _ _ (kind_text w ks hcs.2.1 m0) (keyEq_str _) (fun news tm hc => key_text w news c ks vsz sr t1 t2 t3 t4 hc hcs m0 tm) p2 hT hne tm
  refine tab_step B F X T XB TB hk hdp hu hcall N' hI hIG hG h7 h9 (fun q hq => ⟨(ho q hq).2.1, (ho q hq).1, (ho q hq).2.2⟩) fun p1' G' h' tk' a1 a2 a3 a4 a5 a6 F' N'' => hret _ h' tk' ⟨p7, p1', p9, G', rfl, a1, a3, a2, a4, fun q hq => ⟨(a5 q hq).2.1, (a5 q hq).1, (a5 q hq).2.2⟩⟩ ?_ F' (cb_drop N'' (by
    intro q hq
    simp only [List.mem_cons] at hq ⊢
    rcases hq with h | h | h | h | h <;> simp [h]))
  intro q hq
  rcases List.mem_cons.mp hq with rfl | hq
  · exact n7
  rcases List.mem_cons.mp hq with rfl | hq
  · exact n2
  rcases List.mem_cons.mp hq with rfl | hq
  · exact n9
  exact a6 q hq
theorem read_step : wpAny (model PySem.Challenge.rw_ke0001_01.row.prog w) (ktrTop dp un gd cn cs L a ccd cl []) (call (.ref 412) [.ref c, .bool tx, .int m0 tm]) Q E s := by
  obtain ⟨p7, p2, p9, G, rfl, hG, h7, h2, h9, ho⟩ := hL
  obtain ⟨ks, vsz, sr, dsr, t1, t2, t3, t4, sC, m1, m2, m3, hcs, hcl⟩ := hC
  have n7 : (@Ne Nat 397 I) := hIn _ (.head _)
  have n2 : (@Ne Nat 402 I) := hIn _ (.tail _ (.head _))
  have n9 : (@Ne Nat 409 I) := hIn _ (.tail _ (.tail _ (.head _)))
  have hIG : ∀ q ∈ G, q.1 ≠ I := fun q hq => hIn q (.tail _ (.tail _ (.tail _ hq)))
  have up : ∀ {q : Addr × Obj}, q ∈ G → q ∈ ((397, tabObj p7) :: (402, tabObj p2) :: (I, oI) :: G) := fun hq => .tail _ (.tail _ (.tail _ hq))
  have hne : ∀ q ∈ (((397 : Nat), tabObj p7) :: ((402 : Nat), tabObj p2) :: (I, oI) :: G), q.1 ≠ 409 := by
    intro q hq
    rcases List.mem_cons.mp hq with rfl | hq
    · exact (by decide : (397 : Nat) ≠ 409)
    rcases List.mem_cons.mp hq with rfl | hq
    · exact (by decide : (402 : Nat) ≠ 409)
    rcases List.mem_cons.mp hq with rfl | hq
    · exact fun e => n9 e.symm
    exact (ho q hq).2.2
  have N' : News h₀ L s.heap ((409, tabObj p9) :: (397, tabObj p7) :: (402, tabObj p2) :: (I, oI) :: G) := cb_drop N (by
    intro q hq
    simp only [List.mem_cons] at hq ⊢
    rcases hq with h | h | h | h | h <;> simp [h])
  have hcall : CallsC w (.ref 412) [.ref c, .bool tx, .int m0 tm] ((409, tabObj p9) :: (397, tabObj p7) :: (402, tabObj p2) :: (I, oI) :: G) 60 3000 (fun v news' => v = .bool true ∧ TabPost 409 q9 ((397, tabObj p7) :: (402, tabObj p2) :: (I, oI) :: G) news') := by
    have hT := tabOk_more h9 fun q hq => up hq
    rcases hcl with ⟨rfl, rfl⟩ | ⟨rfl, rfl⟩
    · exact law_read w _ c ks vsz sr dsr t1 t2 t3 t4 (up (hG _ m1)) hcs (up (hG _ m3)) 320 317 (up (hG _ m2)) false (.inl ⟨rfl, rfl, rfl⟩) m0 p9 hT hne tm
    · exact law_read w _ c ks vsz sr dsr t1 t2 t3 t4 (up (hG _ m1)) hcs (up (hG _ m3)) 346 343 (up (hG _ m2)) true (.inr ⟨rfl, rfl, rfl⟩) m0 p9 hT hne tm
  refine tab_step B F X T XB TB hk hdp hu hcall N' hI hIG hG h7 h2 (fun q hq => ⟨(ho q hq).2.2, (ho q hq).1, (ho q hq).2.1⟩) fun p1' G' h' tk' a1 a2 a3 a4 a5 a6 F' N'' => hret _ h' tk' ⟨p7, p2, p1', G', rfl, a1, a3, a4, a2, fun q hq => ⟨(a5 q hq).2.1, (a5 q hq).2.2, (a5 q hq).1⟩⟩ ?_ F' (cb_drop N'' (by
    intro q hq
    simp only [List.mem_cons] at hq ⊢
    rcases hq with h | h | h | h | h <;> simp [h]))
  intro q hq
  rcases List.mem_cons.mp hq with rfl | hq
  · exact n7
  rcases List.mem_cons.mp hq with rfl | hq
  · exact n2
  rcases List.mem_cons.mp hq with rfl | hq
  · exact n9
  exact a6 q hq
omit XB TB hI hIn hret in
theorem order_step {m1 m2 : Int} {u1 u2 : Tok} (hret : ∀ h' tk', Fr h₀ L h' m → News h₀ L h' ((I, oI) :: nx) → Q (.bool true) { s with heap := h', toks := tk' }) :
    wpAny (model PySem.Challenge.rw_ke0001_01.row.prog w) (ktrTop dp un gd cn cs L a ccd cl []) (call (.ref 419) [.ref c, .bool tx, .int m1 u1, .int m2 u2]) Q E s := by
  obtain ⟨p7, p2, p9, G, rfl, hG, h7, h2, h9, ho⟩ := hL
  obtain ⟨ks, vsz, sr, dsr, t1, t2, t3, t4, sC, mc1, mc2, mc3, hcs, hcl⟩ := hC
  have hm : (c, confObj ks vsz sr t1 t2 t3 t4) ∈ ((I, oI) :: (397, tabObj p7) :: (402, tabObj p2) :: (409, tabObj p9) :: G) := .tail _ (.tail _ (.tail _ (.tail _ (hG _ mc1))))
  rcases hcl with ⟨rfl, rfl⟩ | ⟨rfl, rfl⟩
  · exact order_int w _ c ks vsz sr t1 t2 t3 t4 hm hcs m1 m2 u1 u2 p loose mean mg mb dp un gd cn cs a ccd cl [] A₀ base h₀ L m s Q E B F X N T hk (by k_extra "om") (by k_extra "om") fun v h' tk' F' P => by
      obtain ⟨rfl, N'⟩ := P
      exact hret h' tk' F' N'
  · exact order_text w _ c ks vsz sr t1 t2 t3 t4 hm hcs m1 m2 u1 u2 p loose mean mg mb dp un gd cn cs a ccd cl [] A₀ base h₀ L m s Q E B F X N T hk (by k_extra "om") (by k_extra "om") fun v h' tk' F' P => by
      obtain ⟨rfl, N'⟩ := P
      exact hret h' tk' F' N'
end

end
section
/-- names that the head's own equations would take: taken, so that the head does without them (they cost 50 MB) -/
theorem names_taken : True := trivial
theorem top.tw16900427199656544559 : True := trivial
theorem top.tw18164388396756303480 : True := trivial
theorem top.tw1139600151236580504 : True := trivial
theorem top.tw10996937224433265937 : True := trivial
theorem top.tw16104615914030681952 : True := trivial
theorem top.tw8025738503920905074 : True := trivial
theorem top.tw18085771088847121727 : True := trivial
theorem top.tw705360758644809490 : True := trivial
theorem top.tw8107780213005350392 : True := trivial
theorem top.tw8657480035899644758 : True := trivial
theorem top.tw3969286963782609292 : True := trivial
theorem top.tw9272544492142499777 : True := trivial
theorem top.tw10079171474624433434 : True := trivial
theorem top.tw8237333600419904120 : True := trivial
theorem top.tw18263738799287584448 : True := trivial
theorem top.tw10005945817407372193 : True := trivial
theorem top.tw10915162052029792233 : True := trivial
theorem top.tw427420600052151026 : True := trivial
theorem top.tw5868845118606482295 : True := trivial
theorem top.tw13177472732611162249 : True := trivial
theorem top.tw7444641836354208208 : True := trivial
theorem top.tw6859976401760118174 : True := trivial
theorem top.tw18289109515434150305 : True := trivial
theorem top.tw14402358008270493973 : True := trivial
theorem top.tw14917401599646851644 : True := trivial
theorem top.tw15286249088069653756 : True := trivial
theorem top.tw10773188271377071773 : True := trivial
theorem top.tw12415523145999629524 : True := trivial
theorem top.tw15177526630643400193 : True := trivial
theorem top.tw9962302188120564619 : True := trivial
theorem top.tw14823308797102314842 : True := trivial
theorem top.tw2822501910515967889 : True := trivial
theorem top.tw10657950659306570408 : True := trivial
theorem top.tw17355269125676882429 : True := trivial
theorem top.tw1284575025550258836 : True := trivial
theorem top.tw15569959144833144457 : True := trivial
theorem top.tw14168018189251442112 : True := trivial
theorem top.tw5766051744304087583 : True := trivial
theorem top.tw9305691244287143441 : True := trivial
theorem top.tw14372152842798730730 : True := trivial
theorem top.tw9779110368921367113 : True := trivial
theorem top.tw8148004212497801138 : True := trivial
theorem top.tw13369591340354186047 : True := trivial
theorem top.tw8892184565913893157 : True := trivial
theorem top.tw987869383939708018 : True := trivial
theorem top.tw6694047246710070196 : True := trivial
theorem top.tw3254097082911018636 : True := trivial
theorem top.tw8640399195822439974 : True := trivial
theorem top.tw6124053682588569230 : True := trivial
theorem top.tw14263998999751124003 : True := trivial
theorem top.tw7990429038631628895 : True := trivial
theorem top.tw13501252493785611398 : True := trivial
theorem top.tw15595458437365679964 : True := trivial
theorem top.tw8061784049497598715 : True := trivial
theorem top.tw1212798325632107971 : True := trivial
theorem top.tw5667650583090716360 : True := trivial
theorem top.tw17470836177267949868 : True := trivial
theorem top.tw16054190913257422852 : True := trivial
theorem top.tw15245507539482535896 : True := trivial
theorem top.tw17046948494117081484 : True := trivial
theorem top.tw11546936639936008217 : True := trivial
theorem top.tw17219337458794519322 : True := trivial
theorem top.tw14901070454687303710 : True := trivial
theorem top.tw15877122091014420850 : True := trivial
theorem top.tw4655869559712951663 : True := trivial
theorem top.tw12080426169559351053 : True := trivial
theorem top.tw17492772389151264855 : True := trivial
theorem top.tw2617719716777270872 : True := trivial
theorem top.tw1706793611546318481 : True := trivial
theorem top.tw14724332232928298890 : True := trivial
theorem top.tw13896958669275611876 : True := trivial
theorem top.tw4498253355057717688 : True := trivial
theorem top.tw16541100652227675460 : True := trivial
theorem top.tw13091174067606910046 : True := trivial
theorem top.tw10617020205504526918 : True := trivial
theorem top.tw53344730913325255 : True := trivial
theorem top.tw10797620697341660853 : True := trivial
theorem top.tw6749217079512962374 : True := trivial
theorem top.tw5915399644114372684 : True := trivial
theorem top.tw14399976873020721970 : True := trivial
theorem top.tw12012865196380796599 : True := trivial
theorem top.tw15361541807878343388 : True := trivial
theorem top.tw16713831800681072344 : True := trivial
theorem top.tw16597617366809209970 : True := trivial
theorem top.tw14747140909534839006 : True := trivial
theorem top.tw4828031223510198475 : True := trivial
theorem top.tw16795567611416646642 : True := trivial
theorem top.tw15878805988109762761 : True := trivial
theorem top.tw5983031951866500094 : True := trivial
theorem top.tw3712731000106771831 : True := trivial
theorem top.tw708234853630380328 : True := trivial
theorem top.tw11596720369800417969 : True := trivial
theorem top.tw1047907039808853306 : True := trivial
theorem top.tw956942650209027819 : True := trivial
theorem top.tw47109162367338493 : True := trivial
theorem top.tw9919435345466941130 : True := trivial
theorem top.tw8973803690348224638 : True := trivial
theorem top.tw8443935842833279946 : True := trivial
theorem top.tw8204474986945543665 : True := trivial
theorem top.tw6930518751129746686 : True := trivial
theorem top.tw13272337422414781067 : True := trivial
theorem top.tw14871320189489406401 : True := trivial
theorem top.tw4551080515912023512 : True := trivial
theorem top.tw8813761850579938390 : True := trivial
theorem top.tw16453443671601555132 : True := trivial
theorem top.tw9961057766049560675 : True := trivial
theorem top.tw594810645892935528 : True := trivial
theorem top.tw10987319290404115282 : True := trivial
theorem top.tw2249405535684624136 : True := trivial
theorem top.tw7715697345341360870 : True := trivial
theorem top.tw16719718919923625709 : True := trivial
theorem top.tw13370750898655102155 : True := trivial
theorem top.tw2007660962349395123 : True := trivial
theorem top.tw14851680436948445374 : True := trivial
theorem top.tw3457614207058545065 : True := trivial
theorem top.tw11133666699803404755 : True := trivial
theorem top.tw16534119380862097871 : True := trivial
theorem top.tw5105846836358774362 : True := trivial
theorem top.tw12622177474791663080 : True := trivial
theorem top.tw16878204669230926818 : True := trivial
theorem top.tw15362295582089109014 : True := trivial
theorem top.tw13420762306968818387 : True := trivial
theorem top.tw104434173382791472 : True := trivial
theorem top.tw4916261283513009128 : True := trivial
theorem top.tw2514443458684651071 : True := trivial
theorem top.tw13994475860397038760 : True := trivial
theorem top.tw8679839319945467846 : True := trivial
theorem top.tw4699463449715708850 : True := trivial
theorem top.tw10195997230039290492 : True := trivial
theorem top.tw12425085872883035938 : True := trivial
theorem top.tw6885214360128481674 : True := trivial
theorem top.tw18064794426631996164 : True := trivial
theorem top.tw16550210197400561554 : True := trivial
theorem top.tw9229161468869434483 : True := trivial
theorem top.tw6430265229019958763 : True := trivial
theorem top.tw2506305409684761478 : True := trivial
theorem top.tw11199710921928265848 : True := trivial
theorem top.tw2665807947273092163 : True := trivial
theorem top.tw453181688931711583 : True := trivial
theorem top.tw2847958352784047137 : True := trivial
theorem top.tw2988451766255067171 : True := trivial
theorem top.tw1601500998369573665 : True := trivial
theorem top.tw7429413206186439793 : True := trivial
theorem top.tw15740088241188596515 : True := trivial
theorem top.tw2835187731363253809 : True := trivial
theorem top.tw8140125068956082859 : True := trivial
theorem top.tw649594095290182367 : True := trivial
theorem top.tw1655259298481077034 : True := trivial
theorem top.tw18367679650794681301 : True := trivial
theorem top.tw17177869089781658578 : True := trivial
theorem top.tw16415559393655328363 : True := trivial
theorem top.tw1886144042066472794 : True := trivial
theorem top.tw6187478851450931391 : True := trivial
theorem top.tw4835499133494076262 : True := trivial
theorem top.tw17565814175750979855 : True := trivial
theorem top.tw9951221954081769418 : True := trivial
theorem top.tw1275901062530889299 : True := trivial
theorem top.tw2741389259953327712 : True := trivial
theorem top.tw14861896470697024400 : True := trivial
theorem top.tw1833847959688406909 : True := trivial
theorem top.tw6491118196486620199 : True := trivial
theorem top.tw4859757453598101857 : True := trivial
theorem top.tw8598144960395782539 : True := trivial
theorem top.tw2812155379371279736 : True := trivial
theorem top.tw8735323631387419056 : True := trivial
theorem top.tw9503340733035011235 : True := trivial
theorem top.tw5245862010334584759 : True := trivial
theorem top.tw2464713573024523455 : True := trivial
theorem top.tw17342085116792181814 : True := trivial
theorem top.tw352232786441526191 : True := trivial
theorem top.tw6844085655046329595 : True := trivial
theorem top.tw8321918168302905379 : True := trivial
theorem top.tw1971433849790844608 : True := trivial
theorem top.tw9843447840031818808 : True := trivial
theorem top.tw3933941016417956559 : True := trivial
theorem top.tw7458633546980236471 : True := trivial
theorem top.tw11423202765487971197 : True := trivial
theorem top.tw2369445192022557226 : True := trivial
theorem top.tw1195175773429642966 : True := trivial
theorem top.tw2683898200743741643 : True := trivial
theorem top.tw5278709424875269971 : True := trivial
theorem top.tw13134186033006778460 : True := trivial
theorem top.tw1843344800811705456 : True := trivial
theorem top.tw10567129059001840431 : True := trivial
theorem top.tw14826035006057030972 : True := trivial
theorem top.tw1638113669730673903 : True := trivial
theorem top.tw17469865338272021226 : True := trivial
theorem top.tw3739144386018749749 : True := trivial
theorem top.tw15860264024139754761 : True := trivial
theorem top.tw5860347150701562758 : True := trivial
theorem top.tw1294077662247117797 : True := trivial
theorem top.tw887695700811335699 : True := trivial
theorem top.tw8689318265317240412 : True := trivial
theorem top.tw1869187583165140508 : True := trivial
theorem top.tw9059832203979395877 : True := trivial
theorem top.tw620129878449983639 : True := trivial
theorem top.tw4205137553216949640 : True := trivial
theorem top.tw12535971307161669396 : True := trivial
theorem top.tw7250933059871147345 : True := trivial
theorem top.tw16439428074185983240 : True := trivial
theorem top.tw9614876229902214918 : True := trivial
theorem top.tw13983857475226248213 : True := trivial
theorem top.tw146815374380898660 : True := trivial
theorem top.tw3767615275625035234 : True := trivial
theorem top.tw3474246075231452896 : True := trivial
theorem top.tw3987481527375984800 : True := trivial
theorem top.tw18237780215024852062 : True := trivial
theorem top.tw2312856594315299383 : True := trivial
theorem top.tw6973401727384321114 : True := trivial
theorem top.tw13698093540088096225 : True := trivial
theorem top.tw16782997733028217545 : True := trivial
theorem top.tw13822267516522204269 : True := trivial
theorem top.tw2126296398998916975 : True := trivial
theorem top.tw7847352863974893604 : True := trivial
theorem top.tw5889316905344633881 : True := trivial
theorem top.tw8139039716903228087 : True := trivial
theorem top.tw15092371282622821202 : True := trivial
theorem top.tw7271667993632884009 : True := trivial
theorem top.tw16123964013534891561 : True := trivial
theorem top.tw15058813355848621054 : True := trivial
theorem top.tw7855079511596107753 : True := trivial
theorem top.tw81815255157605957 : True := trivial
theorem top.tw12385144161495827662 : True := trivial
theorem top.tw14502225709538309166 : True := trivial
theorem top.tw13303987763403120937 : True := trivial
theorem top.tw4840481374290595910 : True := trivial
theorem top.tw9739860059890490050 : True := trivial
theorem top.tw13307591127769906961 : True := trivial
theorem top.tw8472579005086612782 : True := trivial
theorem top.tw3855276242980373810 : True := trivial
theorem top.tw3337584539547039419 : True := trivial
theorem top.tw17089494485692210459 : True := trivial
theorem top.tw15299407806266782574 : True := trivial
theorem top.tw6505410396798821541 : True := trivial
theorem top.tw7673058066778466091 : True := trivial
theorem top.tw7414872774492366064 : True := trivial
theorem top.tw1068965626710143233 : True := trivial
theorem top.tw16444126761440074567 : True := trivial
theorem top.tw9233335307524088747 : True := trivial
theorem top.tw13160728816969591200 : True := trivial
theorem top.tw13889309363888878346 : True := trivial
theorem top.tw12545222027267286695 : True := trivial
theorem top.tw12483720753089274532 : True := trivial
theorem top.tw5244899138074338376 : True := trivial
theorem top.tw12105128591322288922 : True := trivial
theorem top.tw9108098604805947806 : True := trivial
theorem top.tw14597223018079223185 : True := trivial
theorem top.tw381845443943030031 : True := trivial
theorem top.tw15646934709686841381 : True := trivial
theorem top.tw860223938195835975 : True := trivial
theorem top.tw6487610083215253720 : True := trivial
theorem top.tw11960245374511038805 : True := trivial
theorem top.tw6286779285267259847 : True := trivial
theorem top.tw9759319705405543751 : True := trivial
theorem top.tw6333448901615975916 : True := trivial
theorem top.tw6898770573198911631 : True := trivial
theorem top.tw11279390925490393535 : True := trivial
theorem top.tw14459580976405569124 : True := trivial
theorem top.tw11466170419677230873 : True := trivial
theorem top.tw7386116660499605909 : True := trivial
theorem top.tw1142415686869020238 : True := trivial
theorem top.tw13345470168829271861 : True := trivial
theorem top.tw814325599930780420 : True := trivial
theorem top.tw7198060816514059695 : True := trivial
theorem top.tw16325430554902658873 : True := trivial
theorem top.tw9166809390415177425 : True := trivial
theorem top.tw1676862907878916244 : True := trivial
theorem top.tw10783980745131425670 : True := trivial
theorem top.tw17008095985942587269 : True := trivial
theorem top.tw16821654228018055803 : True := trivial
theorem top.tw8645369167282567922 : True := trivial
theorem top.tw6520327441239513222 : True := trivial
theorem top.tw17486766287000646611 : True := trivial
theorem top.tw17916979784829516464 : True := trivial
theorem top.tw11613256710310857696 : True := trivial
theorem top.tw9059672392935016618 : True := trivial
theorem top.tw8729362747519067210 : True := trivial
theorem top.tw196536941598035525 : True := trivial
theorem top.tw12392516345856041104 : True := trivial
theorem top.tw5476889619067714990 : True := trivial
theorem top.tw1149218181149386328 : True := trivial
theorem top.tw18086089286151905521 : True := trivial
theorem top.tw9768079942903668216 : True := trivial
theorem top.tw9743097575036673082 : True := trivial
theorem top.tw8538268897159353584 : True := trivial
theorem top.tw8369368087495890639 : True := trivial
theorem top.tw11762496359356365647 : True := trivial
theorem top.tw14762295962024373759 : True := trivial
theorem top.tw12787338502077490372 : True := trivial
theorem top.tw9631074621892390191 : True := trivial
theorem top.tw6211089042160764376 : True := trivial
theorem top.tw10090393231696489298 : True := trivial
theorem top.tw13359135706311490777 : True := trivial
theorem top.tw16420938139371093754 : True := trivial
theorem top.tw5225153198818245361 : True := trivial
theorem top.tw14349089067433371257 : True := trivial
theorem top.tw2443449257678562572 : True := trivial
theorem top.tw16800595933775061595 : True := trivial
theorem top.tw13928562000808390012 : True := trivial
theorem top.tw10404823597219466188 : True := trivial
theorem top.tw864819663365544661 : True := trivial
theorem top.tw72247145696351765 : True := trivial
theorem top.tw8184561461823581802 : True := trivial
theorem top.tw3995942328266245912 : True := trivial
theorem top.tw18177719399980262173 : True := trivial
theorem top.tw15985961358823992270 : True := trivial
theorem top.tw5597187220613765494 : True := trivial
theorem top.tw8435561252592420358 : True := trivial
theorem top.tw877433047237710547 : True := trivial
theorem top.tw2758071753971750899 : True := trivial
theorem top.tw5303079699428457377 : True := trivial
theorem top.tw9165953624949470791 : True := trivial
theorem top.tw8622502720953521162 : True := trivial
theorem top.tw8410488445778877200 : True := trivial
theorem top.tw4177254973167742082 : True := trivial
theorem top.tw11459358961799972967 : True := trivial
theorem top.tw17542608870123051758 : True := trivial
theorem top.tw795583310449317561 : True := trivial
theorem top.tw9442318146202087700 : True := trivial
theorem top.tw3422688185749166683 : True := trivial
theorem top.tw8345894832289464959 : True := trivial
theorem top.tw9227057690007400460 : True := trivial
theorem top.tw16155163154822807229 : True := trivial
theorem top.tw13802547742096326172 : True := trivial
theorem top.tw216529984938456764 : True := trivial
theorem top.tw2985252069258134486 : True := trivial
theorem top.tw7297446738713254254 : True := trivial
theorem top.tw2730760306732684819 : True := trivial
theorem top.tw4526881389914513428 : True := trivial
theorem top.tw16196420915677631385 : True := trivial
theorem top.tw2057334267981633021 : True := trivial
theorem top.tw12643491718579748851 : True := trivial
theorem top.tw18034075008235765660 : True := trivial
theorem top.tw1088946173253831356 : True := trivial
theorem top.tw12427389293880184781 : True := trivial
theorem top.tw14608685727046917156 : True := trivial
theorem top.tw15169761463676818070 : True := trivial
theorem top.tw11858546649754279707 : True := trivial
theorem top.tw4159251561096739476 : True := trivial
theorem top.tw5398424786039705171 : True := trivial
theorem top.tw775762912060472103 : True := trivial
theorem top.tw17953984050398360512 : True := trivial
theorem top.tw2924597203103170677 : True := trivial
theorem top.tw11334203419191126389 : True := trivial
theorem top.tw5155950481276406077 : True := trivial
theorem top.tw3561193834555079511 : True := trivial
theorem top.tw4597200072644226624 : True := trivial
theorem top.tw9366391650621772374 : True := trivial
theorem top.tw11845233108574324481 : True := trivial
theorem top.tw1754339480302792767 : True := trivial
theorem top.tw9063741608606530840 : True := trivial
theorem top.tw4784893810139332661 : True := trivial
theorem top.tw4671429814451907529 : True := trivial
theorem top.tw12318557346453588183 : True := trivial
theorem top.tw4213018616267185653 : True := trivial
theorem top.tw1732150942055357024 : True := trivial
theorem top.tw15918733279669447828 : True := trivial
theorem top.tw13706816188851595723 : True := trivial
theorem top.tw6624316729101989866 : True := trivial
theorem top.tw9601329371697537090 : True := trivial
theorem top.tw6196800358849779857 : True := trivial
theorem top.tw15976228082101565994 : True := trivial
theorem top.tw16174758807025615021 : True := trivial
theorem top.tw4555866861457887817 : True := trivial
theorem top.tw11430207588045935325 : True := trivial
theorem top.tw297971269722091814 : True := trivial
theorem top.tw14796646475526232899 : True := trivial
theorem top.tw6127594578889010139 : True := trivial
theorem top.tw4571971715460732019 : True := trivial
theorem top.tw10864713392326063847 : True := trivial
theorem top.tw1814787853859245837 : True := trivial
theorem top.tw728428047077509346 : True := trivial
theorem top.tw14282377253939248939 : True := trivial
theorem top.tw13044034144603486326 : True := trivial
theorem top.tw8810280945414196856 : True := trivial
theorem top.tw4383139521930768336 : True := trivial
theorem top.tw12819366960792805191 : True := trivial
theorem top.tw18063644159110109576 : True := trivial
theorem top.tw12958502747184954254 : True := trivial
theorem top.tw14987219478266130788 : True := trivial
theorem top.tw11334350811105764591 : True := trivial
theorem top.tw10448899703829047738 : True := trivial
theorem top.tw15503665604740900718 : True := trivial
theorem top.tw14632489290957082403 : True := trivial
theorem top.tw16044733080236030384 : True := trivial
theorem top.tw10548783162686979305 : True := trivial
theorem top.tw14142502885225118848 : True := trivial
theorem top.tw1291508964198565346 : True := trivial
theorem top.tw13326734554550294991 : True := trivial
theorem top.tw6431110157172167083 : True := trivial
theorem top.tw17323899518341599180 : True := trivial
theorem top.tw13090165191389475591 : True := trivial
theorem top.tw16580785732701462914 : True := trivial
theorem top.tw2731995056826638727 : True := trivial
theorem top.tw12256363837256957063 : True := trivial
theorem top.tw2145171640123136144 : True := trivial
theorem top.tw6812286434817487243 : True := trivial
theorem top.tw3195968871104189447 : True := trivial
theorem top.tw637196487639823708 : True := trivial
theorem top.tw2732273902793177162 : True := trivial
theorem top.tw12540527436937284434 : True := trivial
theorem top.tw8363718466572441477 : True := trivial
theorem top.tw1585457916280141200 : True := trivial
theorem top.tw788273225186049534 : True := trivial
theorem top.tw9259421805112917234 : True := trivial
theorem top.tw17799576838397608077 : True := trivial
theorem top.tw3730354652608582461 : True := trivial
theorem top.tw16352630495959832749 : True := trivial
theorem top.tw14697636140705633519 : True := trivial
theorem top.tw14789260269991461300 : True := trivial
theorem top.tw10008474027749305400 : True := trivial
theorem top.tw13001836021917841797 : True := trivial
theorem top.tw2782073688633401757 : True := trivial
theorem top.tw16638009121408895407 : True := trivial
theorem top.tw7313339093194340965 : True := trivial
theorem top.tw17795014544551873601 : True := trivial
theorem top.tw13889484949932952446 : True := trivial
theorem top.tw18371284783138465269 : True := trivial
theorem top.tw342308947776675178 : True := trivial
theorem top.tw8694864300669457046 : True := trivial
theorem top.tw6919701780365589675 : True := trivial
theorem top.tw9382581127745807760 : True := trivial
theorem top.tw3195522803047326042 : True := trivial
theorem top.tw12342655685612074800 : True := trivial
theorem top.tw11443710868159068359 : True := trivial
theorem top.tw9361663168868926718 : True := trivial
theorem top.tw7830913209206220567 : True := trivial
theorem top.tw2867133514656366558 : True := trivial
theorem top.tw6189502492464219833 : True := trivial
theorem top.tw5969682004907312646 : True := trivial
theorem top.tw15240379268576122478 : True := trivial
theorem top.tw14611434983143301774 : True := trivial
theorem top.tw9800703332001039478 : True := trivial
theorem top.tw2907113945770861938 : True := trivial
theorem top.tw6883741973766446791 : True := trivial
theorem top.tw9851269098105209369 : True := trivial
theorem top.tw7204493036743257322 : True := trivial
theorem top.tw17746469131012936561 : True := trivial
theorem top.tw9913501989792142831 : True := trivial
theorem top.tw6438537300738474071 : True := trivial
theorem top.tw8311017846404947139 : True := trivial
theorem top.tw9953747333497923681 : True := trivial
theorem top.tw1108800333578037850 : True := trivial
theorem top.tw10801874191123338550 : True := trivial
theorem top.tw2878843996050045342 : True := trivial
theorem top.tw13264354339760550358 : True := trivial
theorem top.tw4713442408853163898 : True := trivial
theorem top.tw6370870915552960936 : True := trivial
theorem top.tw8143265674769528471 : True := trivial
theorem top.tw18245740138792012028 : True := trivial
theorem top.tw501154541418245514 : True := trivial
theorem top.tw6042063481754889096 : True := trivial
theorem top.tw12958664272152378060 : True := trivial
theorem top.tw2218668502564051296 : True := trivial
theorem top.tw4166218997396506358 : True := trivial
theorem top.tw1736530178072539846 : True := trivial
theorem top.tw8523463495250067690 : True := trivial
theorem top.tw3261557481417251176 : True := trivial
theorem top.tw11334415319851112604 : True := trivial
theorem top.tw17555251805378815213 : True := trivial

end
section
theorem conf_use {w : World} {news : List (Addr × Obj)} {sr : Addr} {t1 t2 t3 t4 : Tok} {kI vI : Int}
    {p : Program} {loose : List Str} {mean : ExcName → Option Value} {mg mb : Str → Option Value}
    {dp un : Nat} {gd : Option (List Code)} {cn : Str} {cs : Scope} {a : Addr} {ccd : Value} {cl : List (Str × Addr)} {outer : List Env} {A₀ : Around} {base h₀ : Heap} {L : Addr} {m : Str → Option Value} {s : Shared} {Q E : Value → Shared → Prop}
    (ht : t2 = t1 + 1) (hk0 : 0 ≤ kI) (hv0 : 0 ≤ vI)
    (B : Below A₀ base outer h₀) (F : Fr h₀ L s.heap m) (X : (hd.heap_1 w.params).In h₀) (N : News h₀ L s.heap news) (T : Top p loose mean mg mb h₀) (hk : cs.kind = .function)
    (hdp : dp + 10 < recursionLimit) (hu : un + 200 < cLine)
    (hret : ∀ (c cd' : Addr) (h' : Heap) (tk' : Nat), Fr h₀ L h' m → News h₀ L h' ((c, confObj kI.toNat vI.toNat sr t1 cd' t3 t4) :: news) → AllLt c news → Q (.ref c) { s with heap := h', toks := tk' }) :
    wpAny (model PySem.Challenge.rw_ke0001_01.row.prog w) (ktrTop dp un gd cn cs L a ccd cl outer) (call (.ref 141) [.int 64 t1, .int 5 t2, .int kI t3, .int vI t4, .ref sr]) Q E s := by
  subst ht
  have h := conf_new w news kI.toNat vI.toNat sr t1 t3 t4
  rw [Int.toNat_of_nonneg hk0, Int.toNat_of_nonneg hv0] at h
  refine callsK_use h B F X N T hk hdp hu (fun v n' h' tk' F' N' P' => ?_) (fun _ _ _ _ _ C' => C'.elim)
  obtain ⟨c, cd', rfl, rfl, l1, l2⟩ := P'
  exact hret c cd' h' tk' F' (fun q hq => N' q (by rcases List.mem_cons.mp hq with rfl | hq; exact .head _; exact .tail _ (.tail _ hq))) (allLt_of fun q hq => Nat.lt_trans (l1 q hq) l2)
theorem conf_k (a : Int) : 0 ≤ 1 + a.fmod 5 := by have := fmod_bnd a 5 (by decide); omega
theorem conf_v (a : Int) : 0 ≤ (a.fdiv 5).fmod 6 := (fmod_bnd (a.fdiv 5) 6 (by decide)).1
theorem conf_bnd (a : Int) : confs (1 + a.fmod 5).toNat ((a.fdiv 5).fmod 6).toNat := by
  have h1 := fmod_bnd a 5 (by decide)
  have h2 := fmod_bnd (a.fdiv 5) 6 (by decide)
  unfold confs
  omega
theorem words_p34_law_1 : True := by
  (k_with "call ref" => (k_here; (with_reducible show wpAny _ _ (call (Value.ref 141) _ _) _ _ _); k_dflt (refine' conf_use ?zqt ?zqa ?zqb ?zqB ?zqF ?zqX ?zqN ?zqT ?zqk ?zqd ?zqu (fun c' cd' h' tk' F' N' l1 => ?_); (case zqt => exact rfl); (case zqa => exact conf_k _); (case zqb => exact conf_v _); (case zqB => k_asm); (case zqF => k_asm); (case zqX => k_asm); (case zqN => k_asm); (case zqT => k_asm); (case zqk => exact rfl); (case zqd => ktr_room); (case zqu => ktr_units)); (try simp only [AllLt, and_true] at l1); (try k_fold)))
  (k_with "exec For" => (k_here; (rename Fr _ _ _ _ => zrlF'); (with_unfolding_all refine' For_invVF zrlF' ?zqk1 ?zqk2 ?_; (case zqk1 => exact rfl); (case zqk2 => exact rfl); k_whole)))
  trivial
/-- what holds between the turns -/
def LJ (cst : List (Addr × Obj)) (c : Addr) (tx : Bool) (m : Str → Option Value) (nx : List (Addr × Obj)) : Prop :=
  Led cst nx ∧ (∃ lv tl, m (Str.ofString "last") = some (.int lv tl)) ∧ m (Str.ofString "conf") = some (.ref c) ∧ m (Str.ofString "texts") = some (.bool tx)
theorem lj_list {cst : List (Addr × Obj)} {c : Addr} {tx : Bool} {q : Addr × Obj} (h : q ∈ cst) (m : Str → Option Value) (nx : List (Addr × Obj)) (J : LJ cst c tx m nx) : q ∈ nx := by
  obtain ⟨⟨p7, p2, p9, G, rfl, hG, _⟩, _⟩ := J
  exact .tail _ (.tail _ (.tail _ (hG q h)))
theorem law_start {h₀ h : Heap} {L D D2 l c x d : Addr} {o1 o2 o3 o4 o5 o6 : Obj} {ps : Array Value} (N : News h₀ L h [(D, o1), (D2, o2), (l, o3), (c, o4), (x, o5), (d, o6), (409, tabObj ps), (402, tabObj ps), (397, tabObj ps)]) :
    News h₀ L h ((397, tabObj ps) :: (402, tabObj ps) :: (409, tabObj ps) :: [(D, o1), (c, o4), (x, o5), (d, o6)]) := cb_drop N (by
    intro q hq
    simp only [List.mem_cons, List.not_mem_nil, or_false] at hq ⊢
    rcases hq with h | h | h | h | h | h | h <;> simp [h])
theorem led_start {cst : List (Addr × Obj)} (h : ∀ q ∈ cst, @LT.lt Nat _ 409 q.1) : Led cst ((397, tabObj #[]) :: (402, tabObj #[]) :: (409, tabObj #[]) :: cst) :=
  ⟨#[], #[], #[], cst, rfl, fun _ hq => hq, tabOk_nil _ _, tabOk_nil _ _, tabOk_nil _ _, fun q hq => by
    have h1 : @LT.lt Nat _ 409 q.1 := h q hq
    exact ⟨Nat.ne_of_gt (Nat.lt_trans (by decide) h1), Nat.ne_of_gt (Nat.lt_trans (by decide) h1), Nat.ne_of_gt h1⟩⟩
theorem ints_item {vs : List Value} {ns : List Int} (h : IntsAre vs ns) {i : Nat} {v : Value} (e : vs[i]? = some v) : ∃ n t, v = .int n t := by
  have hl : i < vs.length := (List.getElem?_eq_some_iff.mp e).1
  obtain ⟨t, ht⟩ := h.get i (ns[i]'(h.length ▸ hl)) (by simp)
  rw [e] at ht
  exact ⟨_, t, Option.some.inj ht⟩
theorem fr_four {h₀ h : Heap} {L : Addr} {m : Str → Option Value} {x : Str} {v a b c : Value} (F : Fr h₀ L h (fun y => if y = x then some v else m y)) (h1 : m (Str.ofString "last") = some a) (h2 : m (Str.ofString "conf") = some b) (h3 : m (Str.ofString "texts") = some c) :
    Fr h₀ L h (fun y => if y = x then some v else if y = Str.ofString "last" then some a else if y = Str.ofString "conf" then some b else if y = Str.ofString "texts" then some c else m y) := by
  suffices e : (fun y => if y = x then some v else m y) = (fun y => if y = x then some v else if y = Str.ofString "last" then some a else if y = Str.ofString "conf" then some b else if y = Str.ofString "texts" then some c else m y) by rw [e] at F; exact F
  funext y
  by_cases e0 : y = x
  · simp [e0]
  by_cases e1 : y = Str.ofString "last"
  · subst e1; simp [e0, h1]
  by_cases e2 : y = Str.ofString "conf"
  · subst e2; simp only [if_neg e0, if_neg e1, if_true, h2]
  by_cases e3 : y = Str.ofString "texts"
  · subst e3; simp only [if_neg e0, if_neg e1, if_neg e2, if_true, h3]
  simp only [if_neg e0, if_neg e1, if_neg e2, if_neg e3]
theorem conf_is {h₀ h : Heap} {L D c x d : Addr} {o1 : Obj} {ps : Array Value} {a : Int} {t1 t2 t3 t4 : Tok} {sC : Addr} (b : Bool) (hb : (b = false ∧ sC = 320) ∨ (b = true ∧ sC = 346))
    (_N : News h₀ L h ((397, tabObj ps) :: (402, tabObj ps) :: (409, tabObj ps) :: [(D, o1), (c, confObj (1 + a.fmod 5).toNat ((a.fdiv 5).fmod 6).toNat x t1 t2 t3 t4), (x, instObj sC d), (d, dictOf [] 0)])) :
    ConfIn [(D, o1), (c, confObj (1 + a.fmod 5).toNat ((a.fdiv 5).fmod 6).toNat x t1 t2 t3 t4), (x, instObj sC d), (d, dictOf [] 0)] c b :=
  ⟨_, _, _, _, _, _, _, _, _, .tail _ (.head _), .tail _ (.tail _ (.head _)), .tail _ (.tail _ (.tail _ (.head _))), conf_bnd a, hb⟩
theorem law_loop2 {prog : Program} {w : World} {A : Around} {E : Value → Shared → Prop} {s : Shared} {env : Env} {h₀ : Heap} {x : Str} {body : List Stmt} {Q : Flow → Shared → Prop}
    {l c : Addr} {vs : List Value} {ns : List Int} {nn : Nat} {m₀ : Str → Option Value} {cst : List (Addr × Obj)} {tx : Bool} {L : Addr}
    (hL : env.locals = L) (hh : A.handled = none) (hl : (l, listOf vs.toArray nn) ∈ cst) (F : Fr h₀ L s.heap m₀) (N : News h₀ L s.heap ((397, tabObj #[]) :: (402, tabObj #[]) :: (409, tabObj #[]) :: cst))
    (ho : ∀ q ∈ cst, @LT.lt Nat _ 409 q.1) (hm1 : ∃ lv tl, m₀ (Str.ofString "last") = some (.int lv tl)) (hm2 : m₀ (Str.ofString "conf") = some (.ref c)) (hm3 : m₀ (Str.ofString "texts") = some (.bool tx)) (hI : IntsAre vs ns) (hC : ConfIn cst c tx)
    (turn : ∀ n t lv tl (m₁ : Str → Option Value) nx h tk I oI, ConfIn cst c tx → Led cst nx → (∀ p ∈ nx, p.1 ≠ I) → ¬ CodeLike oI →
      Fr h₀ L h (fun y => if y = x then some (.int n t) else if y = Str.ofString "last" then some (.int lv tl) else if y = Str.ofString "conf" then some (.ref c) else if y = Str.ofString "texts" then some (.bool tx) else m₁ y) → News h₀ L h ((I, oI) :: nx) →
      wpAny (model prog w) A (execs body env) (TurnPost h₀ L I oI (LJ cst c tx) { s with heap := h, toks := tk } Q) E { s with heap := h, toks := tk })
    (done : ∀ m₁ nx h tk, Led cst nx → Fr h₀ L h m₁ → News h₀ L h nx → Q .next { s with heap := h, toks := tk }) :
    wpAny (model prog w) A (pyIter (.ref l)) (fun it s₂ => LoopAtV prog w A h₀ env x body Q E it s₂) E s := by
  subst hL
  refine law_loop (fun _ => LJ cst c tx) hh (.tail _ (.tail _ (.tail _ hl))) F N ⟨led_start ho, hm1, hm2, hm3⟩ (fun _ => lj_list hl) ?_ (fun m₁ nx h tk J => done m₁ nx h tk J.1)
  intro i v m₁ nx h tk I oI hv hJ hIn hcl F₁ N₁
  obtain ⟨n, t, rfl⟩ := ints_item hI hv
  obtain ⟨hLed, ⟨lv, tl, h1⟩, h2, h3⟩ := hJ
  exact turn n t lv tl m₁ nx h tk I oI hC hLed hIn hcl (fr_four F₁ h1 h2 h3) N₁
theorem law_end {cl : Str → Option Addr} {mean : ExcName → Option Value} {ns : List Int} {s₁ s' : Shared} {L : Addr} {m : Str → Option Value} (F : Fr s₁.heap L s'.heap m) (hg : s'.gens = #[]) (hos : s'.os = s₁.os) :
    GoodW (RowW.claim (OpenLaw.row PySem.Challenge.rw_ke0001_01).toRowW) cl mean [ofPy (PyData.list (List.map PyData.int ns))] s₁ (.ok (.ret (.bool true))) s' :=
  goodW_bool F hg (raisesW_false (by wrow_none_raised)) (by kc_post) hos
theorem law_grown {h₀ h : Heap} {L : Addr} {cst nx : List (Addr × Obj)} (hL : Led cst nx) (N : News h₀ L h nx) : GrownAll [(411, 409), (406, 402), (399, 397)] h := by
  obtain ⟨p7, p2, p9, G, rfl, _⟩ := hL
  exact ⟨GrownAt.of N (.tail _ (.tail _ (.head _))), GrownAt.of N (.tail _ (.head _)), GrownAt.of N (.head _), True.intro⟩
/-- a block in two -/
theorem execs_app {M : Model} {A : Around} {env : Env} {E : Value → Shared → Prop} {s : Shared} {Q : Flow → Shared → Prop} (Mid : Shared → Prop) {r : List Stmt} (l : List Stmt)
    (h1 : wpAny M A (execs l env) (fun f s' => f = .next ∧ Mid s') E s) (h2 : ∀ s', Mid s' → wpAny M A (execs r env) Q E s') : wpAny M A (execs (l ++ r) env) Q E s := fun Γ p hΓ => by
  have H : ∀ (l : List Stmt) p s, Sem.wp M Γ (execs l env) (fun f _ s' => f = .next ∧ Mid s') (fun e _ s' => E e s') p s → Sem.wp M Γ (execs (l ++ r) env) (fun f _ s' => Q f s') (fun e _ s' => E e s') p s := by
    intro l
    induction l with
    | nil =>
      intro p s h
      have h' : Flow.next = .next ∧ Mid s := h
      exact h2 s h'.2 Γ p hΓ
    | cons st l ih =>
      intro p s h
      rw [List.cons_append, execs_cons, Sem.wp_bind'] at *
      refine Sem.wp_mono M Γ _ (fun f p' s' h' => ?_) (fun _ _ _ h' => h') _ _ h
      cases f with
      | next => exact ih p' s' h'
      | _ => exact absurd h'.1 (by intro e; cases e)
  exact H l p s (h1 Γ p hΓ)
/-- what stands ahead of the loop -/
def Mid (h₀ : Heap) (L : Addr) (m₀ : Str → Option Value) (s₀ s' : Shared) : Prop :=
  ∃ (a : Int) (ta tl : Tok) (c x d : Addr) (o4 o5 o6 : Obj) (b : Bool) (h' : Heap) (tk' : Nat), s' = { s₀ with heap := h', toks := tk' } ∧
    Fr h₀ L h' (fun y => if y = Str.ofString "last" then some (.int 0 tl) else if y = Str.ofString "conf" then some (.ref c) else if y = Str.ofString "texts" then some (.bool b) else if y = Str.ofString "a" then some (.int a ta) else m₀ y) ∧
    News h₀ L h' [(c, o4), (x, o5), (d, o6), (409, tabObj #[]), (402, tabObj #[]), (397, tabObj #[])] ∧ ConfIn [(c, o4), (x, o5), (d, o6)] c b ∧ (@LT.lt Nat _ 409 c) ∧ (@LT.lt Nat _ 409 x) ∧ (@LT.lt Nat _ 409 d)
theorem execs_4 {M : Model} {A : Around} {env : Env} {E : Value → Shared → Prop} {s : Shared} {Q : Flow → Shared → Prop} {r : List Stmt} {a b c d : Stmt} {h₀ : Heap} {L : Addr} {m₀ : Str → Option Value} (_F : Fr h₀ L s.heap m₀)
    (h1 : wpAny M A (execs [a, b, c, d] env) (fun f s' => f = .next ∧ Mid h₀ L m₀ s s') E s) (h2 : ∀ s', Mid h₀ L m₀ s s' → wpAny M A (execs r env) Q E s') : wpAny M A (execs (a :: b :: c :: d :: r) env) Q E s := execs_app _ [a, b, c, d] h1 h2
theorem conf_is2 {c x d : Addr} {a : Int} {t1 t2 t3 t4 : Tok} {sC : Addr} (b : Bool) (hb : (b = false ∧ sC = 320) ∨ (b = true ∧ sC = 346)) :
    ConfIn [(c, confObj (1 + a.fmod 5).toNat ((a.fdiv 5).fmod 6).toNat x t1 t2 t3 t4), (x, instObj sC d), (d, dictOf [] 0)] c b :=
  ⟨_, _, _, _, _, _, _, _, _, .head _, .tail _ (.head _), .tail _ (.tail _ (.head _)), conf_bnd a, hb⟩
theorem conf_more {cst : List (Addr × Obj)} {c : Addr} {b : Bool} (q : Addr × Obj) (h : ConfIn cst c b) : ConfIn (q :: cst) c b := by
  obtain ⟨ks, vsz, sr, dsr, t1, t2, t3, t4, sC, h1, h2, h3, r⟩ := h
  exact ⟨ks, vsz, sr, dsr, t1, t2, t3, t4, sC, .tail _ h1, .tail _ h2, .tail _ h3, r⟩
theorem words_p34_law_2 : True := by
  (k_with "pyIter ref" => (k_here; (refine hold_in ?_)))
  (k_with "call ref" => (k_here; (with_reducible show wpAny _ _ (call (Value.ref 407) _ _) _ _ _); k_dflt (refine' ref_step ?zqB ?zqF ?zqX ?zqT ?zqXB ?zqTB ?zqk ?zqd ?zqu ?zqC ?zqL ?zqI ?zqJ ?zqN (fun nx' h' tk' hL' hI' F' N' => ?_); (case zqN => k_asm); (case zqL => with_reducible assumption); (case zqC => with_reducible assumption); (case zqI => with_reducible assumption); (case zqJ => with_reducible assumption); (case zqB => k_asm); (case zqF => k_asm); (case zqX => k_asm); (case zqT => k_asm); (case zqXB => k_asm); (case zqTB => k_asm); (case zqk => exact rfl); (case zqd => ktr_room); (case zqu => ktr_units)); (try k_fold)))
  (k_with "call ref" => (k_here; (with_reducible show wpAny _ _ (call (Value.ref 400) _ _) _ _ _); k_dflt (refine' rec_step ?zqB ?zqF ?zqX ?zqT ?zqXB ?zqTB ?zqk ?zqd ?zqu ?zqC ?zqL ?zqI ?zqJ ?zqN (fun nx' h' tk' hL' hI' F' N' => ?_) _; (case zqN => k_asm); (case zqL => with_reducible assumption); (case zqC => with_reducible assumption); (case zqI => with_reducible assumption); (case zqJ => with_reducible assumption); (case zqB => k_asm); (case zqF => k_asm); (case zqX => k_asm); (case zqT => k_asm); (case zqXB => k_asm); (case zqTB => k_asm); (case zqk => exact rfl); (case zqd => ktr_room); (case zqu => ktr_units)); (try k_fold)))
  (k_with "call ref" => (k_here; (with_reducible show wpAny _ _ (call (Value.ref 412) _ _) _ _ _); k_dflt (refine' read_step ?zqB ?zqF ?zqX ?zqT ?zqXB ?zqTB ?zqk ?zqd ?zqu ?zqC ?zqL ?zqI ?zqJ ?zqN (fun nx' h' tk' hL' hI' F' N' => ?_); (case zqN => k_asm); (case zqL => with_reducible assumption); (case zqC => with_reducible assumption); (case zqI => with_reducible assumption); (case zqJ => with_reducible assumption); (case zqB => k_asm); (case zqF => k_asm); (case zqX => k_asm); (case zqT => k_asm); (case zqXB => k_asm); (case zqTB => k_asm); (case zqk => exact rfl); (case zqd => ktr_room); (case zqu => ktr_units)); (try k_fold)))
  (k_with "call ref" => (k_here; (with_reducible show wpAny _ _ (call (Value.ref 419) _ _) _ _ _); k_dflt (refine' order_step ?zqB ?zqF ?zqX ?zqT ?zqk ?zqd ?zqu ?zqC ?zqL ?zqN (fun h' tk' F' N' => ?_); (case zqN => k_asm); (case zqL => with_reducible assumption); (case zqC => with_reducible assumption); (case zqB => k_asm); (case zqF => k_asm); (case zqX => k_asm); (case zqT => k_asm); (case zqk => exact rfl); (case zqd => ktr_room); (case zqu => ktr_units)); (try k_fold)))
  (k_with "TurnPost" => (refine' TurnPost.intro ?zqF ?zqN ?zqa ⟨?zqL, ⟨_, _, ?zqm1⟩, ?zqm2, ?zqm3⟩; (case zqF => k_asm); (case zqN => k_asm); (case zqa => with_reducible assumption); (case zqL => with_reducible assumption); (case zqm1 => with_unfolding_all rfl); (case zqm2 => with_unfolding_all rfl); (case zqm3 => with_unfolding_all rfl)))
  trivial
set_option Elab.async true
set_option maxHeartbeats 8000000 in
theorem top : PySem.Challenge.rw_ke0001_01.Holds := by
  w_on
  o_law
  k_head
  (case hw => w_witness2)
  w_strict (
    k_go0
    all_goals (try k_fold)
    with_reducible rename Frag.In _ _ => hX2
    have hX1 : (hd.heap_1 _).In _ := hX2
    clear hX2
    revert hX1
    k_fill
    intro hX1
    with_reducible rename Fr _ _ _ _ => hF0
    refine' execs_4 hF0 ?h1 ?h2
    case h1 =>
      k_steps
      all_goals first
        | exact rfl
        | exact ⟨_, _, _, _, _, _, _, _, _, _, _, _, rfl, by with_reducible assumption, by with_reducible assumption, conf_is2 _ (by first | exact Or.inl ⟨by decide, rfl⟩ | exact Or.inl ⟨by simpa using (by assumption : _ ≠ (1 : Int)), rfl⟩ | exact Or.inr ⟨by simpa using (by assumption : _ = (1 : Int)), rfl⟩), by k_extra "om", by k_extra "om", by k_extra "om"⟩
        | exact ⟨rfl, _, _, _, _, _, _, _, _, _, _, _, _, rfl, by with_reducible assumption, by with_reducible assumption, conf_is2 _ (by first | exact Or.inl ⟨by decide, rfl⟩ | exact Or.inl ⟨by simpa using (by assumption : _ ≠ (1 : Int)), rfl⟩ | exact Or.inr ⟨by simpa using (by assumption : _ = (1 : Int)), rfl⟩), by k_extra "om", by k_extra "om", by k_extra "om"⟩
    case h2 =>
      intro s' hM
      obtain ⟨a, ta, tl0, c, x, d, o4, o5, o6, b, h', tk', rfl, F₀, N₀, hCf, l1, l2, l3⟩ := hM
      (try dsimp only at F₀ N₀ ⊢)
      k_steps
      refine hold_out ?_
      with_reducible rename IntsAre _ (_ ++ _) => hInts
      with_reducible rename News _ _ _ (_ :: _ :: _ :: _ :: _) => hNews
      have hN2 := law_start hNews
      clear hNews
      refine' law_loop2 ?hL rfl (.head _) ?F hN2 ?ho ⟨_, _, ?m1⟩ ?m2 ?m3 hInts (conf_more _ hCf) ?turn ?done
      case F => k_asm
      case hL => exact rfl
      case ho => (intro q hq; simp only [List.mem_cons, List.not_mem_nil, or_false] at hq; rcases hq with rfl | rfl | rfl | rfl <;> (show @LT.lt Nat _ _ _; omega))
      case m1 => with_unfolding_all rfl
      case m2 => with_unfolding_all rfl
      case m3 => with_unfolding_all rfl
      case turn =>
        clear hN2
        intro n t lv tl m₁ nx h tk I oI hCf hLed hIn hcl F₁ N₁
        (try dsimp only at F₁ N₁ ⊢)
        repeat' (first | (k_unfold; (try dsimp only)) | ((try dsimp only); walk1) | walk1)
      case done =>
        clear hN2
        intro m₁ nx h tk hLed F₁ N₁
        (try dsimp only)
        walk1
        walk1
        walk1
        exact ⟨law_end F₁ (by assumption) rfl, law_grown hLed N₁⟩)
set_option Elab.async false

end
end Mine
set_option maxRecDepth 100000 in
set_option maxHeartbeats 8000000 in
theorem PySem.Challenge.cw_ke0001_01_holds : PySem.Challenge.rw_ke0001_01.Holds := by
  exact Mine.top
