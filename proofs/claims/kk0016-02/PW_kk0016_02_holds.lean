import PyProof.Rows.All
import Wide.All
import OpenK.AllK
import Wide.FinOn
import Lean
import PySem.Challenge.RW_kk0016_02
set_option Elab.async false
set_option maxRecDepth 100000
set_option maxHeartbeats 0
set_option linter.all false
set_option genInjectivity false
set_option genSizeOf false
namespace Kk
open PySem PySem.W PyProof.Rows PySem.Calls
local macro_rules | `(tactic| walk_at $s:str) => `(tactic| k_extra $s)
local macro_rules | `(tactic| k_ne) => `(tactic| k_extra "k_ne")
local macro_rules | `(tactic| k_inst) => `(tactic| k_extra "k_inst")
local macro_rules | `(tactic| k_room) => `(tactic| k_extra "k_room")
local macro_rules | `(tactic| omega) => `(tactic| k_extra "om")
theorem hk0 : True := by
 k_with "r8" => ((rename Fr _ _ _ _ => F8); rename News _ _ _ _ => N8)
 k_with "r9" => ((rename Fr _ _ _ _ => F9); rename News _ _ _ _ => N9)
 k_with "xn" => (refine x_noMore ⟨Frag.In.keeps (by assumption) (Fr.keep (by k_asm)), x_any ?_⟩)
 k_with "xm" => (refine x_noMore ⟨Frag.In.keeps (by assumption) (Fr.keep (by k_asm)), ?_⟩)
 k_with "xd" => (refine x_call0K (by k_is) (Frag.In.keeps (by assumption) (Fr.keep (by k_asm))) (x_any ?_))
 k_with "xc" => (refine x_call0K (by k_is) (Frag.In.keeps (by assumption) (Fr.keep (by k_asm))) ?_)
 k_with "ig" => (intro g L h₁ F N l1 lL X T stg sub)
 k_with "ir" => (intro dp un fr gd R hdp hu hQ)
 k_with "tc" => (refine use1 (d := a.d) (tx_clear (by assumption) (by walk_at "kk_st") (News.get N8 (by k_mem)) (News.get N8 (by k_mem)) (lf _ (.tail _ (.head _))) (lf _ (.head _))) F8 N8 (by k_mem) (by walk_at "kk_num") (by walk_at "kk_num") ?_)
 k_with "sx" => (refine x_callsK (by k_is) rfl (x_meth (x_any ?_)))
 k_with "sy" => (refine x_callsK (by k_is) rfl (x_any ?_))
 k_with "sz" => (refine x_callsK (by k_is) rfl (x_meth (x_meth (x_any ?_))))
 k_with "xa" => (((try k_steps); refine x_any ?_))
 k_with "xi" => (((try k_steps); refine x_execs fun K9 hK9 => (x_if (x_any ?_))))
 k_with "xj" => (((try k_steps); refine x_execs fun K9 hK9 => (x_expr (x_meth (x_any ?_)))))
 k_with "xk" => (((try k_steps); refine x_execs fun K9 hK9 => (x_assign (x_meth (x_any ?_)))))
 k_with "xl" => (((try k_steps); refine x_execs fun K9 hK9 => (x_aug ?_)))
 k_with "nd" => first | exact N9 | exact news_drop 1 N9 | exact news_drop 2 N9 | exact news_drop 3 N9 | exact news_drop 4 N9 | exact news_drop 5 N9 | exact news_drop 6 N9
 trivial
section
def om_key : Nat := 0
def om_zkey : Int := 0
theorem om_false (h : False) : False := h
theorem om_nid {a b : Nat} (h : a ≠ b) : a ≠ b := h
theorem om_zlt {a b : Int} (h : a < b) : a < b := h
theorem om_zle {a b : Int} (h : a ≤ b) : a ≤ b := h
theorem om_tlt {a b : Nat} (h : a < b) : a < b := h
theorem om_tle {a b : Nat} (h : a ≤ b) : a ≤ b := h
theorem om_nlt {a b : Nat} (h : b ≤ a) : ¬ a < b := Nat.not_lt.mpr h
theorem om_nle {a b : Nat} (h : b < a) : ¬ a ≤ b := Nat.not_le.mpr h
theorem om_ilt {a b : Nat} (h : a < b) : (a : Int) < (b : Int) := Int.ofNat_lt.mpr h
theorem om_ile {a b : Nat} (h : a ≤ b) : (a : Int) ≤ (b : Int) := Int.ofNat_le.mpr h
theorem om_cast {n m : Nat} {z : Int} (h : n < m) (hz : (m : Int) ≤ z) : (n : Int) < z := Int.lt_of_lt_of_le (Int.ofNat_lt.mpr h) hz
theorem om_icast {n m : Nat} {z : Int} (h : n ≤ m) (hz : (m : Int) < z) : (n : Int) < z := Int.lt_of_le_of_lt (Int.ofNat_le.mpr h) hz
theorem om_ofn {p N : Nat} {z : Int} (h : (p : Int) < z) (e : z ≤ (N : Int)) : p < N := Int.ofNat_lt.mp (Int.lt_of_lt_of_le h e)
theorem om_pos {n : Nat} (h : 1 ≤ n) : (0 : Int) < (n : Int) := Int.ofNat_lt.mpr h
theorem om_tn {x z : Int} {N : Nat} (h0 : 0 ≤ x) (h : x < z) (e : z ≤ (N : Int)) : x.toNat < N := (Int.toNat_lt h0).mpr (Int.lt_of_lt_of_le h e)
theorem om_sll {a b c : Nat} (h : a ≤ b) (e : b < c) : a ≤ c := Nat.le_trans h (Nat.le_of_lt e)
theorem om_room {u a k C : Nat} (h : u + a < C) (hk : k ≤ a) : u + k < C := Nat.lt_of_le_of_lt (Nat.add_le_add_left hk u) h
theorem om_room0 {u a C : Nat} (h : u + a < C) : u < C := Nat.lt_of_le_of_lt (Nat.le_add_right u a) h
theorem om_room2 {u a k l C : Nat} (h : u + a < C) (hk : k + l ≤ a) : u + k + l < C := by rw [Nat.add_assoc]; exact om_room h hk
theorem om_mul {n b c C : Nat} (h : n ≤ b) (hk : c * b ≤ C) : c * n ≤ C := Nat.le_trans (Nat.mul_le_mul_left c h) hk
theorem om_addle {n b c C : Nat} (h : n ≤ b) (hk : c + b ≤ C) : c + n ≤ C := Nat.le_trans (Nat.add_le_add_left h c) hk
theorem hk1 : True := by
 k_with "om_g" => fail_if_success refine om_false ?_; fail_if_success refine om_nid (a := om_key) ?_; fail_if_success refine om_nid (b := om_key) ?_; fail_if_success refine om_tlt (a := om_key) ?_; fail_if_success refine om_tlt (a := om_key + _) ?_; fail_if_success refine om_nid (b := OfNat.ofNat _) ?_; fail_if_success refine om_tlt (b := om_key) ?_; fail_if_success refine om_tle (a := om_key) ?_; fail_if_success refine om_tle (b := om_key) ?_; fail_if_success refine om_zlt (a := om_zkey) ?_; fail_if_success refine om_zlt (b := om_zkey) ?_; fail_if_success refine om_zle (a := om_zkey) ?_; fail_if_success refine om_zle (b := om_zkey) ?_
 k_with "om_at" => first | assumption | (apply And.left; assumption) | (apply And.left; apply And.right; assumption) | (apply And.right; assumption) | (apply And.left; apply And.right; apply And.right; assumption) | (apply And.right; apply And.right; assumption) | (apply And.left; apply And.right; apply And.right; apply And.right; assumption) | (apply And.right; apply And.right; apply And.right; assumption) | (apply And.left; apply And.right; apply And.right; apply And.right; apply And.right; assumption) | (apply And.right; apply And.right; apply And.right; apply And.right; assumption) | (apply And.left; apply And.right; apply And.right; apply And.right; apply And.right; apply And.right; assumption) | (apply And.right; apply And.right; apply And.right; apply And.right; apply And.right; assumption) | (apply And.left; apply And.right; apply And.right; apply And.right; apply And.right; apply And.right; apply And.right; assumption) | (apply And.right; apply And.right; apply And.right; apply And.right; apply And.right; apply And.right; assumption) | (apply And.left; apply And.right; apply And.right; apply And.right; apply And.right; apply And.right; apply And.right; apply And.right; assumption) | (apply And.right; apply And.right; apply And.right; apply And.right; apply And.right; apply And.right; apply And.right; assumption)
 k_with "om_le1" => (refine' Nat.le_trans ?p9 ?q9; (case p9 => first | assumption | (refine Nat.le_of_eq ?_; assumption) | (refine Nat.le_of_eq (Eq.symm ?_); assumption) | (refine Nat.le_of_lt ?_; assumption)); (case q9 => first | decide | assumption | (k_extra "om_mul")))
 k_with "om_mul" => (refine' om_mul ?p9 ?q9; (case p9 => first | assumption | (k_extra "om_le1")); (case q9 => decide))
 k_with "om_as" => first | assumption | (apply And.left; assumption) | (apply And.left; apply And.right; assumption) | (apply And.right; assumption) | (apply And.left; apply And.right; apply And.right; assumption) | (apply And.right; apply And.right; assumption)
 k_with "om" => (first | (with_reducible (k_extra "om_g"); first | exact Int.natCast_nonneg _ | decide | assumption | (refine om_pos ?_; (k_extra "om_as")) | (refine Nat.ne_of_lt ?_; first | (k_extra "om_at") | (refine' Nat.lt_trans ?p9 ?q9; (case q9 => assumption); (case p9 => first | (k_extra "om_as") | (refine' Nat.lt_of_lt_of_le ?r9 ?s9; (case s9 => assumption); (case r9 => (k_extra "om_as")))))) | (refine Nat.ne_of_gt ?_; first | (k_extra "om_at") | (refine' Nat.lt_trans ?p9 ?q9; (case q9 => assumption); (case p9 => first | (k_extra "om_as") | (refine' Nat.lt_of_lt_of_le ?r9 ?s9; (case s9 => assumption); (case r9 => (k_extra "om_as")))))) | (refine' om_cast ?p9 ?q9; (case p9 => assumption); (case q9 => decide)) | (refine' om_icast ?p9 ?q9; (case p9 => (k_extra "om_as")); (case q9 => decide)) | (refine om_ilt ?_; (k_extra "om_as")) | (refine om_ile ?_; (k_extra "om_as")) | (refine om_tlt ?_; first | (k_extra "om_at") | (refine' Nat.lt_trans ?p9 ?q9; (case q9 => assumption); (case p9 => first | (k_extra "om_as") | (refine' Nat.lt_of_lt_of_le ?r9 ?s9; (case s9 => assumption); (case r9 => (k_extra "om_as"))))) | (refine' Nat.lt_of_lt_of_le ?p9 ?q9; (case q9 => first | assumption | (refine Nat.le_of_eq ?_; assumption) | (refine Nat.le_of_eq (Eq.symm ?_); assumption)); (case p9 => (k_extra "om_as"))) | (refine' Nat.lt_of_le_of_lt ?p9 ?q9; (case p9 => first | assumption | (refine Nat.le_of_eq ?_; assumption) | (refine Nat.le_of_eq (Eq.symm ?_); assumption)); (case q9 => first | decide | (k_extra "om_as"))) | (refine' om_room ?p9 ?q9; (case p9 => assumption); (case q9 => decide)) | (refine' om_room0 ?p9; (case p9 => assumption)) | (refine' om_ofn ?p9 ?q9; (case p9 => (k_extra "om_as")); (case q9 => decide)) | (refine' om_tn ?p9 ?q9 ?r9; (case p9 => (k_extra "om_as")); (case q9 => (k_extra "om_as")); (case r9 => first | decide | exact Int.le_refl _))) | (refine om_tle ?_; first | (k_extra "om_at") | (refine Nat.le_of_lt ?_; (k_extra "om_at")) | (refine Nat.le_of_eq ?_; assumption) | (refine Nat.le_of_eq (Eq.symm ?_); assumption) | (refine' Nat.le_trans ?p9 ?q9; (case p9 => first | assumption | (refine Nat.le_of_eq ?_; assumption) | (refine Nat.le_of_eq (Eq.symm ?_); assumption)); (case q9 => first | decide | (k_extra "om_as") | (k_extra "om_mul"))) | (refine' om_sll ?p9 ?q9; (case q9 => assumption); (case p9 => (k_extra "om_as"))) | (refine' om_addle ?p9 ?q9; (case p9 => assumption); (case q9 => decide)) | (k_extra "om_mul")) | (refine om_nlt ?_; (k_extra "om_as")) | (refine om_nle ?_; (k_extra "om_as"))) | ((with_reducible refine And.intro ?_ ?_); all_goals omega) | lia)
 trivial
open PySem.Builtin.Int (intBits)
def le (n : Nat) (x : Int) : Array UInt8 := (KTBy.low x n).toArray
def be (n : Nat) (x : Int) : Array UInt8 := (KTBy.low x n).reverse.toArray
theorem le_size (n : Nat) (x : Int) : (le n x).size = n := by unfold le; rw [List.size_toArray, KTBy.low_length]
theorem be_size (n : Nat) (x : Int) : (be n x).size = n := by unfold be; rw [List.size_toArray, List.length_reverse, KTBy.low_length]
section
variable {prog : Program} {w : World} {M : Model} {A : Around} {E : Value → Shared → Prop} {s : Shared} {t u v : Tok} {b c : Array UInt8} {Q : Value → Shared → Prop}
theorem no_iadd : typeLookup (.type "bytes") (dunderI "add") = pure none := by rw [typeLookup_type, builtinLookup_eq_fast]; kernel_rfl
theorem iadd_bytes (hsz : b.size + c.size ≤ 16777216) (h : ∀ t' k, Q (.bytes (b ++ c) t') { s with toks := k }) : wpAny (model prog w) A (inplaceOp .Add (.bytes b t) (.bytes c u)) Q E s := by
 refine iconcat_gives (typeIs_bytes s b t) (typeIs_bytes s c u) no_iadd KBy.noFill_bytes_add KBy.seq_bytes_add FB.slot_bytes_add FB.entry_bytes_add (FB.args_bytes_add_2 _ _) (KBy.gives_bytes_add (KBy.tooLong_not hsz)) ?_
 split
 ·rename_i e
  have z := h u s.toks
  rw [Array.isEmpty_iff.1 e, Array.empty_append] at z; exact z
 ·split
  ·rename_i e
   have z := h t s.toks
   rw [Array.isEmpty_iff.1 e, Array.append_empty] at z; exact z
  ·exact ⟨by rw [Array.size_append, sizeLine_eq]; exact hsz, h _ _⟩
theorem to_any {x : Int} {n : Nat} {o : PySem.Str} {little : Bool} (hk : n ≤ 64) (h0 : 0 ≤ x) (h1 : x < 256 ^ n) (ho : o = PySem.Str.ofString "big" ∧ little = false ∨ o = PySem.Str.ofString "little" ∧ little = true)
  (h : ∀ t' k, Q (.bytes (if little then le n x else be n x) t') { s with toks := k }) :
  wpAny (model prog w) A (call (.builtin "int.to_bytes") [.int x t, .int (n : Int) u, .str o v]) Q E s := by
 have hb : intBits x ≤ 8 * n := KTBy.bits_le (B := 256 ^ n) rfl h0 h1
 refine wpAny_call_entry KTBy.slot (typeIs_int s x t) KTBy.entry ?_ (KTBy.args _ _ _)
 refine wpAny_bind (m := Builtin.Int.intOfSelf (.int x t)) (wpAny_of_eq (a := x) rfl ?_)
 refine wpAny_bind (m := Builtin.Int.intBindNamed "to_bytes" ["length", "byteorder", "signed"] 0 2 [.int (n : Int) u, .str o v] []) (wpAny_of_eq (a := [some (.int (n : Int) u), some (.str o v), none]) (by kernel_rfl) ?_)
 refine wpAny_bind (m := Builtin.Int.intIndex "int.to_bytes" (.int (n : Int) u)) (wpAny_of_eq (a := (n : Int)) rfl ?_)
 refine KTBy.if_not (by show (decide ((n : Int) < -(2 ^ 63 : Int)) || decide ((n : Int) ≥ 2 ^ 63)) = false; rw [decide_eq_false (show ¬ ((n : Int) < -(2 ^ 63 : Int)) by omega), decide_eq_false (show ¬ ((n : Int) ≥ 2 ^ 63) by omega)]; rfl) ?_
 refine wpAny_bind (wpAny_of_eq (a := o) (by rcases ho with ⟨rfl, _⟩ | ⟨rfl, _⟩ <;> kernel_rfl) ?_)
 refine wpAny_bind (wpAny_of_eq (a := false) rfl ?_)
 refine wpAny_bind (wpAny_of_eq (a := little) (by rcases ho with ⟨rfl, rfl⟩ | ⟨rfl, rfl⟩ <;> kernel_rfl) ?_)
 refine wpAny_ite_false (decide_eq_false (show ¬ ((n : Int) < 0) by omega)) ?_
 refine wpAny_ite_false (decide_eq_false (show ¬ ((n : Int) > 2 ^ 63 - 1 - 33) by omega)) ?_
 refine wpAny_ite_false (decide_eq_false (show ¬ ((n : Int) > (sizeLine : Int)) by rw [sizeLine_eq]; omega)) ?_
 refine KTBy.if_not (by show (decide (x < 0) && !false) = false; rw [decide_eq_false (show ¬ x < 0 by omega)]; rfl) ?_
 refine KTBy.if_not (by show (_ && decide ((intBits x : Int) > 8 * (n : Int))) = false; rw [decide_eq_false (show ¬ ((intBits x : Int) > 8 * (n : Int)) by omega), Bool.and_false]) ?_
 have e : (if little then KTBy.low x (n : Int).toNat else (KTBy.low x (n : Int).toNat).reverse).toArray = if little then le n x else be n x := by
  cases little <;> rfl
 refine wpAny_bind (m := mkBytes _) (wpAny_mkBytes (wpAny_pure ⟨_, rfl, ?_⟩) ?_)
 ·rw [← e] at h; cases little <;> exact h _ _
 ·show Array.size _ ≤ sizeLine
  cases little
  ·show (List.reverse (KTBy.low x (n : Int).toNat)).length ≤ sizeLine
   rw [List.length_reverse, KTBy.low_length, Int.toNat_natCast, sizeLine_eq]; omega
  ·show (KTBy.low x (n : Int).toNat).length ≤ sizeLine
   rw [KTBy.low_length, Int.toNat_natCast, sizeLine_eq]; omega
theorem to_le {x k : Int} (n : Nat) (hn : k = (n : Int)) (hk : n ≤ 64) (h0 : 0 ≤ x) (h1 : x < 256 ^ n) (h : ∀ t' k', Q (.bytes (le n x) t') { s with toks := k' }) :
  wpAny (model prog w) A (call (.builtin "int.to_bytes") [.int x t, .int k u, .str (PySem.Str.ofString "little") v]) Q E s := by
 subst hn; exact to_any (little := true) hk h0 h1 (.inr ⟨rfl, rfl⟩) h
theorem to_be {x k : Int} (n : Nat) (hn : k = (n : Int)) (hk : n ≤ 64) (h0 : 0 ≤ x) (h1 : x < 256 ^ n) (h : ∀ t' k', Q (.bytes (be n x) t') { s with toks := k' }) :
  wpAny (model prog w) A (call (.builtin "int.to_bytes") [.int x t, .int k u, .str (PySem.Str.ofString "big") v]) Q E s := by
 subst hn; exact to_any (little := false) hk h0 h1 (.inl ⟨rfl, rfl⟩) h
def num (b : Array UInt8) : Nat := b.toList.foldl (fun (acc : Nat) (x : UInt8) => acc * 256 + x.toNat) 0
theorem num_lt (b : Array UInt8) : num b < 256 ^ b.size := by
 have h := KFB.fold_lt b.toList 0
 rw [Nat.zero_add, Nat.one_mul, Array.length_toList] at h; exact h
theorem num_bits (b : Array UInt8) : intBits (num b : Int) ≤ 8 * b.size := by
 refine intBits_le_iff.mpr ?_
 rw [Int.natAbs_natCast, Nat.pow_mul]; exact num_lt b
theorem mk_num {b : Array UInt8} (hz : b.size ≤ 1000000) (h : Q (.int (num b : Int) s.toks) { s with toks := s.toks + 1 }) : wpAny M A (mkIntGrown (num b : Int)) Q E s := by
 unfold mkIntGrown
 rw [if_neg]
 ·exact wpAny_mkInt h
 ·have hb := num_bits b
  have hl : bitsLine = 134217728 := by decide
  unfold Builtin.Int.intBits at hb
  rw [hl]
  by_cases e : (num b : Int) == 0
  ·rw [beq_iff_eq.mp e]; decide
  ·rw [if_neg e] at hb; omega
theorem from_big {x : Addr} {Q : Value → Shared → Prop} (hx : KFB.StandsAt x s.heap) (hz : b.size ≤ 1000000) (h : ∀ t' k, Q (.int (num b : Int) t') { s with toks := k }) :
  wpAny (model prog w) A (call (.ref x) [.bytes b t, .str (PySem.Str.ofString "big") u]) Q E s := by
 refine KFB.call_of hx (z := (num b : Int)) (fun {P E' A'} hp => ?_) (h _ _)
 unfold Builtin.«int.from_bytes»
 refine wpAny_bind (wpAny_of_eq (a := true) KFB.type_int ?_)
 refine KFB.if_not rfl ?_
 refine wpAny_bind (wpAny_of_eq (a := true) F.conv_sub_int ?_)
 refine KFB.if_not rfl ?_
 refine wpAny_bind (wpAny_of_eq (a := [some (.bytes b t), some (.str (PySem.Str.ofString "big") u), none]) (by kernel_rfl) ?_)
 refine wpAny_bind (wpAny_of_eq (a := PySem.Str.ofString "big") (by kernel_rfl) ?_)
 refine wpAny_bind (wpAny_of_eq (a := false) rfl ?_)
 refine wpAny_bind (wpAny_of_eq (a := false) (by kernel_rfl) ?_)
 refine wpAny_bind (wpAny_of_eq (a := b) rfl ?_)
 refine wpAny_bind (m := mkIntGrown (b.toList.foldl (fun (acc : Int) (b : UInt8) => acc * 256 + (b.toNat : Int)) ((0 : Nat) : Int))) ?_
 rw [KFB.foldI_eq]
 refine mk_num hz ?_
 refine KFB.if_so (by decide +kernel) ?_
 exact wpAny_bind (wpAny_pure (wpAny_pure hp))
theorem mul_ok {a c : Int} {i j : Nat} (ha : intBits a ≤ i) (hc : intBits c ≤ j) (hz : i + j ≤ 134217728) : IntMulOk a c := by
 unfold IntMulOk Builtin.Int.intTooBig
 have hl : bitsLine = 134217728 := by decide
 rw [hl]
 simp only [Bool.and_eq_true, decide_eq_true_eq, not_and]
 intro _; omega
def dnum (b : Array UInt8) : Int := ((num (#[1] ++ b) : Int) * (num (#[1] ++ b) : Int) * 48181483302151357469556550866566148933).fmod (2 ^ Int.toNat 255 - 19)
def dig (b : Array UInt8) : Array UInt8 := be 32 (dnum b)
theorem dnum_lo (b : Array UInt8) : 0 ≤ dnum b := Int.fmod_nonneg_of_pos _ (by decide)
theorem dnum_hi (b : Array UInt8) : dnum b < 256 ^ 32 := Int.lt_trans (Int.fmod_lt_of_pos _ (by decide)) (by decide)
theorem dig_size (b : Array UInt8) : (dig b).size = 32 := be_size _ _
end
end
section
open Sem (wp)
def okIds : List String := ["type.__call__", "bytearray.__init__", "bytearray.__setitem__", "property.__get__", "proto.getattr_hooked", "claim.caller"]
def okC : Code → Bool
 | .builtin id _ => okIds.contains id
 | _ => true
def okB (l : List (Code × Pos)) : Prop := ∀ x ∈ l, okC x.1 = true
def wpX {α : Type} (M : Model) (A : Around) (t : Sem α) (Q : α → Shared → Prop) (E : Value → Shared → Prop) (s : Shared) : Prop :=
 ∀ Γ p, Γ.In A → okC Γ.code = true → okB Γ.below → wp M Γ t (fun a _ s' => Q a s') (fun e _ s' => E e s') p s
def codeX (M : Model) (A : Around) (c : Code) (R : Result → Shared → Prop) (s : Shared) : Prop :=
 ∀ Γ p, Γ.code = c → Γ.Below A → okB Γ.below → wpCode M Γ R p s
section
variable {α β : Type} {M : Model} {A : Around} {E : Value → Shared → Prop} {s : Shared}
theorem x_any {t : Sem α} {Q : α → Shared → Prop} (h : wpAny M A t Q E s) : wpX M A t Q E s := fun Γ p hΓ _ _ => h Γ p hΓ
theorem x_code {c : Code} {R : Result → Shared → Prop} (h : codeAny M A c R s) : codeX M A c R s := fun Γ p hc hΓ _ => h Γ p hc hΓ
theorem x_pure {a : α} {Q : α → Shared → Prop} (h : Q a s) : wpX M A (pure a) Q E s := fun _ _ _ _ _ => h
theorem x_mono {t : Sem α} {Q Q' : α → Shared → Prop} {E' : Value → Shared → Prop} (h : wpX M A t Q E s)
  (hQ : ∀ a s, Q a s → Q' a s) (hE : ∀ e s, E e s → E' e s) : wpX M A t Q' E' s :=
 fun Γ p hΓ ho hb => Sem.wp_mono M Γ t (fun a _ s => hQ a s) (fun e _ s => hE e s) p s (h Γ p hΓ ho hb)
theorem x_bind {m : Sem α} {f : α → Sem β} {Q : β → Shared → Prop} (h : wpX M A m (fun a s' => wpX M A (f a) Q E s') E s) : wpX M A (m >>= f) Q E s := fun Γ p hΓ ho hb => by
 rw [Sem.wp_bind']
 exact Sem.wp_mono M Γ m (fun a p' s' h' => h' Γ p' hΓ ho hb) (fun _ _ _ h' => h') p s (h Γ p hΓ ho hb)
theorem x_onRaise {m : Sem α} {k : Value → Sem Unit} {Q : α → Shared → Prop}
  (h : wpX M A m Q (fun e s' => wpX M A (k e) (fun _ s'' => E e s'') E s') s) : wpX M A (m.onRaise k) Q E s := fun Γ p hΓ ho hb => by
 rw [Sem.wp_onRaise]
 exact Sem.wp_mono M Γ m (fun _ _ _ h' => h') (fun e p' s' h' => h' Γ p' hΓ ho hb) p s (h Γ p hΓ ho hb)
theorem x_holding {vs : List Value} {m : Sem α} {Q : α → Shared → Prop} (h : wpX M A m Q E s) : wpX M A (holding vs m) Q E s := fun Γ p hΓ ho hb => by
 rw [Sem.wp_holding]; exact h Γ p hΓ ho hb
theorem x_stand {pos : Pos} {Q : Unit → Shared → Prop} (h : Q () s) : wpX M A (standAt pos) Q E s := fun _ _ _ _ _ => h
theorem x_operate {vs : List Value} {m : Sem Value} {Q : Value → Shared → Prop} (h : wpX M A m Q E s) : wpX M A (operate vs m) Q E s := fun Γ p hΓ ho hb => by
 rw [Sem.wp_operate]; exact h Γ p hΓ ho hb
theorem x_codeMono {c : Code} {R R' : Result → Shared → Prop} (h : codeX M A c R s) (hR : ∀ r s, R r s → R' r s) : codeX M A c R' s :=
 fun Γ p hc hΓ hb => wpCode_mono hR (h Γ p hc hΓ hb)
theorem okB_enter {Γ : Ctx} (ho : okC Γ.code = true) (hb : okB Γ.below) (c : Code) (h : Option Value) (p : Pos) : okB (Γ.enter c h p).below := by
 intro x hx
 rcases List.mem_cons.mp hx with rfl | hx
 ·exact ho
 ·exact hb x hx
theorem x_run {c : Code} {h : Option Value} {Q : Flow → Shared → Prop}
  (hc : codeX M (A.mark h) c (fun r s' => match r with | .ok f => Q f s' | .error e => E e s') s) (hnb : h ≠ some byPass := by intro x; cases x) :
  wpX M A (run c h) Q E s :=
 fun Γ p hΓ ho hb => by rw [Sem.wp_run]; exact hc _ p rfl (hΓ.enter c h p hnb) (okB_enter ho hb c h p)
theorem x_call {f : Value} {pos : List Value} {kw : List (Str × Value)} {Q : Value → Shared → Prop}
  (hc : codeX M A (.call f ⟨pos, kw⟩) (fun r s' => match r with | .ok (.ret v) => Q v s' | .ok _ => False | .error e => E e s') s) :
  wpX M A (call f pos kw) Q E s := fun Γ p hΓ ho hb => by
 show wp M Γ (runValue _) _ _ _ _
 rw [Sem.wp_runValue]; exact hc _ p rfl (hΓ.enter _ none p (by intro x; cases x)) (okB_enter ho hb _ none p)
theorem x_tree {c : Code} {R : Result → Shared → Prop} (hok : okC c = true)
  (h : wpX M (A.under c) (M.den c) (fun fin s' => match fin with | .done f => R (.ok f) s' | .again c' => c'.quiet = true ∧ codeX M A c' R s')
   (fun e s' => R (.error e) s') s) : codeX M A c R s := fun Γ p hc hΓ hb => by
 rw [wpCode_iff_wp, hc]
 refine Sem.wp_mono M Γ _ (fun fin p' s' h' => ?_) (fun _ _ _ h' => h') p s (h Γ p (hc ▸ hΓ.in) (hc ▸ hok) hb)
 cases fin with
 | done f => exact h'
 | again c' => exact ⟨h'.1, h'.2 (Γ.goto c') p' rfl (hΓ.goto c') hb⟩
theorem not_held {a : Addr} : ∀ (c : Code) (p' : Pos), okC c = true → (match ((c, p') : Code × Pos) with
  | (.builtin "bytearray.__contains__" ⟨v :: _, _⟩, _) | (.builtin "bytearray.__mod__" ⟨v :: _, _⟩, _)
  | (.builtin "bytearray.__rmod__" ⟨_ :: v :: _, _⟩, _) | (.builtin "_struct.pack_into.held" ⟨v :: _, _⟩, _) => Builtin.Bytes.sameRef v (.ref a)
  | (.builtin "bytearray.find.held" ⟨_ :: _ :: held, _⟩, _) => held.any (Builtin.Bytes.sameRef (.ref a))
  | (.builtin id ⟨v :: _, _⟩, _) => Builtin.Bytes.sameRef v (.ref a) && Builtin.Bytes.decodersThatHold.contains id
  | _ => false) = false := by
 intro c p' hc
 cases c with
 | builtin id args =>
  obtain ⟨pos, kw⟩ := args
  have q : id ∈ okIds := List.contains_iff_mem.mp hc
  clear hc
  have z : ∀ d ∈ okIds, Builtin.Bytes.decodersThatHold.contains d = false := by decide +kernel
  rcases List.mem_cons.mp q with rfl | q
  ·rcases pos with _ | ⟨v, _ | ⟨u, r⟩⟩ <;> first | rfl | exact Bool.and_false _
  rcases List.mem_cons.mp q with rfl | q
  ·rcases pos with _ | ⟨v, _ | ⟨u, r⟩⟩ <;> first | rfl | exact Bool.and_false _
  rcases List.mem_cons.mp q with rfl | q
  ·rcases pos with _ | ⟨v, _ | ⟨u, r⟩⟩ <;> first | rfl | exact Bool.and_false _
  rcases List.mem_cons.mp q with rfl | q
  ·rcases pos with _ | ⟨v, _ | ⟨u, r⟩⟩ <;> first | rfl | exact Bool.and_false _
  rcases List.mem_cons.mp q with rfl | q
  ·rcases pos with _ | ⟨v, _ | ⟨u, r⟩⟩ <;> first | rfl | exact Bool.and_false _
  rcases List.mem_cons.mp q with rfl | q
  ·rcases pos with _ | ⟨v, _ | ⟨u, r⟩⟩ <;> first | rfl | exact Bool.and_false _
  cases q
 | _ => rfl
theorem x_exported {a : Addr} {Q : Bool → Shared → Prop} (h : Q false s) : wpX M A (Builtin.Bytes.exported (.ref a)) Q E s := fun Γ p hΓ ho hb => by
 show Q (((Γ.code, p) :: Γ.below).any _) s
 rw [List.any_eq_false.mpr fun x hx => ?_]
 ·exact h
 ·obtain ⟨c, p'⟩ := x
  have hc : okC c = true := by
   rcases List.mem_cons.mp hx with q | q
   ·cases q; exact ho
   ·exact hb _ q
  rw [Bool.not_eq_true]
  exact not_held c p' hc
end
end
section
abbrev prog : Program := PySem.Challenge.pw_kk0016_02
def boot_life : Life := {}

/-! the head of this law: the top's objects and states, printed by a program of this proof's own (wip/Gen.lean) -/
noncomputable abbrev N : Value := .none
noncomputable abbrev tt : Value := .bool true
noncomputable abbrev ff : Value := .bool false
noncomputable abbrev I (i : Int) (t : Nat) : Value := .int i t
noncomputable abbrev S (x : String) (t : Nat) : Value := .str (Str.ofString x) t
noncomputable abbrev Y (b : List UInt8) (t : Nat) : Value := .bytes b.toArray t
noncomputable abbrev T (n : String) : Value := .type n
noncomputable abbrev B (n : String) : Value := .builtin n
noncomputable abbrev R (a : Nat) : Value := .ref a
noncomputable abbrev E (P : Params) (x : String) (t : Nat) (v : Value) : DictEntry := ⟨PyData.keyHash P (Str.ofString x), .str (Str.ofString x) t, v⟩
noncomputable def st (i : Nat) : Stmt := (prog.main.body[i]?).getD default
noncomputable def cb : Stmt → List Stmt
  | .ClassDef _ _ _ b _ _ _ _ _ _ _ => b
  | _ => []
noncomputable def mb (i j : Nat) : Stmt := ((cb (st i))[j]?).getD default
noncomputable def F (s : Stmt) (q : String) (g : Nat) (d k doc pm : Value) (an : Option Addr) (c ct : Value) (bi : Nat) : Data := match s with
  | .FunctionDef n a b _ _ _ sc _ _ _ => .func { name := n, qualname := Str.ofString q, params := a, body := .stmts b, scope := sc, globals := g, closure := [], defaults := d, kwdefaults := k, doc := doc, pyModule := pm, annotations := an, code := c, closureTuple := ct, builtins := bi }
  | _ => .plain
noncomputable abbrev ob (c : Value) (d : Data) (di : Option Addr) (sl : Array (Option Value)) : Obj := ⟨c, di, d, sl⟩
noncomputable abbrev tup (xs : List Value) : Obj := ⟨.type "tuple", none, .seq xs.toArray 0, #[]⟩
noncomputable abbrev dic (es : List DictEntry) (n : Nat) : Obj := ⟨.type "dict", none, .dict es.toArray n, #[]⟩
noncomputable def evens : List Obj → List Obj
  | [] => []
  | [a] => [a]
  | a :: _ :: r => a :: evens r
noncomputable def odds : List Obj → List Obj
  | [] => []
  | [_] => []
  | _ :: b :: r => b :: odds r
noncomputable def bt : Nat → List Obj → BT
  | 0, _ => .nil
  | _ + 1, [] => .nil
  | n + 1, o :: r => .node o (bt n (evens r)) (bt n (odds r))
noncomputable abbrev oE : Obj := ob N (Data.fields [].toArray) none #[]
noncomputable abbrev oF (s : Stmt) (q : String) : Obj := ob N (F s q 0 N N N N none N N 0) none #[]
noncomputable abbrev oG (s : Stmt) (q : String) (g : Nat) (d k doc pm : Value) (an : Option Addr) (c : Nat) : Obj := ob (T "function") (F s q g d k doc pm an (R c) N 0) none #[]
noncomputable abbrev oC (n q : String) (t1 t2 t3 l a b c f x : Nat) (v : Value) (u y : Nat) (x0 x1 x2 x3 : Value) (m t4 : Nat) : Obj := ob (T "code") (Data.fields [S n t1, S q t2, S "/claim/cut.py" t3, I l 0, I a 0, I b 0, I c 0, I f 0, R x, v, I u 0, R y, x0, x1, x2, x3, I m 0, I l 0, S "/claim/cut.py" t4].toArray) none #[]
noncomputable def sS : List String → Nat → List Value
  | [], _ => []
  | x :: r, t => S x t :: sS r (t + 1)
noncomputable abbrev tS (t : Nat) (l : List String) : Obj := tup (sS l t)
noncomputable abbrev oD (n q : String) (t l a b c f x : Nat) (v : Value) (u y : Nat) (x0 x1 x2 x3 : Value) (m : Nat) : Obj := oC n q t (t + 1) (t + 2) l a b c f x v u y x0 x1 x2 x3 m (m + 1)
noncomputable def Kc (P : Params) : Frag :=
 (nat_lit 0, dic [E P "__name__" 1 (S "builtins" 160), E P "__doc__" 2 (B "builtins.__doc__:str#opaque"), E P "__package__" 3 (B "builtins.__package__:str#opaque"), E P "__loader__" 4 (B "builtins.__loader__:shared#opaque"), E P "__spec__" 5 (B "builtins.__spec__#opaque"), E P "__build_class__" 6 (B "__build_class__"), E P "__import__" 7 (B "__import__"), E P "abs" 8 (B "abs"), E P "all" 9 (B "all"), E P "any" 10 (B "any"), E P "ascii" 11 (B "ascii"), E P "bin" 12 (B "bin"), E P "breakpoint" 13 (B "breakpoint"), E P "callable" 14 (B "callable"), E P "chr" 15 (B "chr"), E P "compile" 16 (B "compile"), E P "delattr" 17 (B "delattr"), E P "dir" 18 (B "dir"), E P "divmod" 19 (B "divmod"), E P "eval" 20 (B "eval"), E P "exec" 21 (B "exec"), E P "format" 22 (B "format"), E P "getattr" 23 (B "getattr"), E P "globals" 24 (B "globals"), E P "hasattr" 25 (B "hasattr"), E P "hash" 26 (B "hash"), E P "hex" 27 (B "hex"), E P "id" 28 (B "id"), E P "input" 29 (B "input"), E P "isinstance" 30 (B "isinstance"), E P "issubclass" 31 (B "issubclass"), E P "iter" 32 (B "iter"), E P "aiter" 33 (B "aiter"), E P "len" 34 (B "len"), E P "locals" 35 (B "locals"), E P "max" 36 (B "max"), E P "min" 37 (B "min"), E P "next" 38 (B "next"), E P "anext" 39 (B "anext"), E P "oct" 40 (B "oct"), E P "ord" 41 (B "ord"), E P "pow" 42 (B "pow"), E P "print" 43 (B "print"), E P "repr" 44 (B "repr"), E P "round" 45 (B "round"), E P "setattr" 46 (B "setattr"), E P "sorted" 47 (B "sorted"), E P "sum" 48 (B "sum"), E P "vars" 49 (B "vars"), E P "None" 50 N, E P "Ellipsis" 51 Value.ellipsis, E P "NotImplemented" 52 Value.notImplemented, E P "False" 53 ff, E P "True" 54 tt, E P "bool" 55 (T "bool"), E P "memoryview" 56 (T "memoryview"), E P "bytearray" 57 (T "bytearray"), E P "bytes" 58 (T "bytes"), E P "classmethod" 59 (T "classmethod"), E P "complex" 60 (T "complex"), E P "dict" 61 (T "dict"), E P "enumerate" 62 (T "enumerate"), E P "filter" 63 (T "filter"), E P "float" 64 (T "float"), E P "frozenset" 65 (T "frozenset"), E P "property" 66 (T "property"), E P "int" 67 (T "int"), E P "list" 68 (T "list"), E P "map" 69 (T "map"), E P "object" 70 (T "object"), E P "range" 71 (T "range"), E P "reversed" 72 (T "reversed"), E P "set" 73 (T "set"), E P "slice" 74 (T "slice"), E P "staticmethod" 75 (T "staticmethod"), E P "str" 76 (T "str"), E P "super" 77 (T "super"), E P "tuple" 78 (T "tuple"), E P "type" 79 (T "type"), E P "zip" 80 (T "zip"), E P "__debug__" 81 tt, E P "BaseException" 82 (T "BaseException"), E P "BaseExceptionGroup" 83 (T "BaseExceptionGroup"), E P "Exception" 84 (T "Exception"), E P "GeneratorExit" 85 (T "GeneratorExit"), E P "KeyboardInterrupt" 86 (T "KeyboardInterrupt"), E P "SystemExit" 87 (T "SystemExit"), E P "ArithmeticError" 88 (T "ArithmeticError"), E P "AssertionError" 89 (T "AssertionError"), E P "AttributeError" 90 (T "AttributeError"), E P "BufferError" 91 (T "BufferError"), E P "EOFError" 92 (T "EOFError"), E P "ImportError" 93 (T "ImportError"), E P "LookupError" 94 (T "LookupError"), E P "MemoryError" 95 (T "MemoryError"), E P "NameError" 96 (T "NameError"), E P "OSError" 97 (T "OSError"), E P "ReferenceError" 98 (T "ReferenceError"), E P "RuntimeError" 99 (T "RuntimeError"), E P "StopAsyncIteration" 100 (T "StopAsyncIteration"), E P "StopIteration" 101 (T "StopIteration"), E P "SyntaxError" 102 (T "SyntaxError"), E P "SystemError" 103 (T "SystemError"), E P "TypeError" 104 (T "TypeError"), E P "ValueError" 105 (T "ValueError"), E P "Warning" 106 (T "Warning"), E P "FloatingPointError" 107 (T "FloatingPointError"), E P "OverflowError" 108 (T "OverflowError"), E P "ZeroDivisionError" 109 (T "ZeroDivisionError"), E P "BytesWarning" 110 (T "BytesWarning"), E P "DeprecationWarning" 111 (T "DeprecationWarning"), E P "EncodingWarning" 112 (T "EncodingWarning"), E P "FutureWarning" 113 (T "FutureWarning"), E P "ImportWarning" 114 (T "ImportWarning"), E P "PendingDeprecationWarning" 115 (T "PendingDeprecationWarning"), E P "ResourceWarning" 116 (T "ResourceWarning"), E P "RuntimeWarning" 117 (T "RuntimeWarning"), E P "SyntaxWarning" 118 (T "SyntaxWarning"), E P "UnicodeWarning" 119 (T "UnicodeWarning"), E P "UserWarning" 120 (T "UserWarning"), E P "BlockingIOError" 121 (T "BlockingIOError"), E P "ChildProcessError" 122 (T "ChildProcessError"), E P "ConnectionError" 123 (T "ConnectionError"), E P "FileExistsError" 124 (T "FileExistsError"), E P "FileNotFoundError" 125 (T "FileNotFoundError"), E P "InterruptedError" 126 (T "InterruptedError"), E P "IsADirectoryError" 127 (T "IsADirectoryError"), E P "NotADirectoryError" 128 (T "NotADirectoryError"), E P "PermissionError" 129 (T "PermissionError"), E P "ProcessLookupError" 130 (T "ProcessLookupError"), E P "TimeoutError" 131 (T "TimeoutError"), E P "IndentationError" 132 (T "IndentationError"), E P "_IncompleteInputError" 133 (T "_IncompleteInputError"), E P "IndexError" 134 (T "IndexError"), E P "KeyError" 135 (T "KeyError"), E P "ModuleNotFoundError" 136 (T "ModuleNotFoundError"), E P "NotImplementedError" 137 (T "NotImplementedError"), E P "PythonFinalizationError" 138 (T "PythonFinalizationError"), E P "RecursionError" 139 (T "RecursionError"), E P "UnboundLocalError" 140 (T "UnboundLocalError"), E P "UnicodeError" 141 (T "UnicodeError"), E P "BrokenPipeError" 142 (T "BrokenPipeError"), E P "ConnectionAbortedError" 143 (T "ConnectionAbortedError"), E P "ConnectionRefusedError" 144 (T "ConnectionRefusedError"), E P "ConnectionResetError" 145 (T "ConnectionResetError"), E P "TabError" 146 (T "TabError"), E P "UnicodeDecodeError" 147 (T "UnicodeDecodeError"), E P "UnicodeEncodeError" 148 (T "UnicodeEncodeError"), E P "UnicodeTranslateError" 149 (T "UnicodeTranslateError"), E P "ExceptionGroup" 150 (T "ExceptionGroup"), E P "EnvironmentError" 151 (T "OSError"), E P "IOError" 152 (T "OSError"), E P "open" 153 (B "open"), E P "quit" 154 (B "builtins.quit#opaque"), E P "exit" 155 (B "builtins.exit#opaque"), E P "copyright" 156 (B "builtins.copyright#opaque"), E P "credits" 157 (B "builtins.credits#opaque"), E P "license" 158 (B "builtins.license#opaque"), E P "help" 159 (B "builtins.help#opaque")] 159) ::
 (nat_lit 1, dic [E P "builtins" 162 (R 4), E P "__main__" 163 (R 5)] 2) ::
 (nat_lit 2, ob N (Data.dict [E P "type.__subclasses__.OSError.0" 334 (I 118 0), E P "type.__subclasses__.OSError.n" 335 (I 1 0), E P "type.__subclasses__.Exception.0" 982 (I 661 0), E P "type.__subclasses__.Exception.n" 983 (I 1 0)].toArray 4) none #[]) ::
 (nat_lit 3, dic [E P "__name__" 165 (S "law_kk0016_02" 1926), E P "__doc__" 166 N, E P "__package__" 167 N, E P "__loader__" 168 (B "__main__.__loader__#opaque"), E P "__spec__" 169 N, E P "__annotations__" 170 (R 6), E P "__builtins__" 171 (R 4), E P "__file__" 173 (S "/claim/cut.py" 172), E P "__cached__" 174 N, E P "_wall" 193 (R 21), E P "hexlify" 201 (R 26), E P "Sha256" 247 (R 58), E P "hashlib" 287 (R 83), E P "to_bytes" 297 (R 94), E P "_whence" 307 (R 101), E P "_index" 315 (R 108), E P "UnsupportedOperation" 337 (R 118), E P "IOBase" 369 (R 138), E P "BufferedIOBase" 387 (R 153), E P "TextIOBase" 405 (R 165), E P "BytesIO" 667 (R 395), E P "StringIO" 954 (R 642), E P "sha256" 963 (R 651), E P "EmbitError" 985 (R 661), E P "EmbitBase" 1125 (R 746), E P "NETWORKS" 1314 (R 751), E P "Script" 1440 (R 843), E P "Witness" 1502 (R 888), E P "TransactionError" 1520 (R 900), E P "SIGHASH" 1571 (R 922), E P "Transaction" 1792 (R 1061), E P "TransactionInput" 1869 (R 1107), E P "TransactionOutput" 1925 (R 1143), E P "_law_types" 1933 (R 1152), E P "_law_digest" 1940 (R 1159), E P "_law_four" 1947 (R 1166), E P "_law_sized" 1955 (R 1173), E P "_law_filled" 1962 (R 1180), E P "_law_point" 1969 (R 1187), E P "_law_out" 1976 (R 1194), E P "_law_laid" 1982 (R 1199), E P "_law_old" 1997 (R 1206), E P "_law_new" 2003 (R 1211), E P "_law_made" 2009 (R 1216), E P "_law_asked" 2025 (R 1223), E P "_law_turned" 2036 (R 1230), E P "_law_start" 2042 (R 1235), E P "law" 2057 (R 1242)] 48) ::
 (nat_lit 4, ob (T "module") Data.plain (some 0) #[]) ::
 (nat_lit 5, ob (T "module") Data.plain (some 3) #[]) ::
 (nat_lit 6, dic [] 0) ::
 (nat_lit 7, tup []) ::
 (nat_lit 8, oE) ::
 (nat_lit 9, oD "<module>" "<module>" 176 1 0 0 0 0 7 ff 175 8 N N N N 179) ::
 (nat_lit 10, ob (T "frame") Data.plain none #[some (R 9), some (R 3), some (R 3), none, some (S "__main__" 164), none, some (R 0)]) ::
 (nat_lit 11, tup []) ::
 (nat_lit 12, ob N (Data.fields [I 1 0, I 0 0, R 20, I 5 0, I 0 0, R 25, I 8 0, I 0 0, R 32, I 19 0, I 0 0, R 68, I 25 0, I 0 0, R 93, I 39 0, I 0 0, R 100, I 44 0, I 0 0, R 107, I 51 0, I 0 0, R 114, I 53 0, I 0 0, R 127, I 60 0, I 0 0, R 149, I 62 0, I 0 0, R 161, I 64 0, I 0 0, R 173, I 235 0, I 0 0, R 403, I 442 0, I 0 0, R 650, I 445 0, I 0 0, R 657, I 447 0, I 0 0, R 670, I 489 0, I 0 0, R 761, I 524 0, I 0 0, R 851, I 543 0, I 0 0, R 896, I 545 0, I 0 0, R 908, I 561 0, I 0 0, R 932, I 728 0, I 0 0, R 1069, I 763 0, I 0 0, R 1115, I 778 0, I 0 0, R 1151, I 780 0, I 0 0, R 1158, I 782 0, I 0 0, R 1165, I 784 0, I 0 0, R 1172, I 787 0, I 0 0, R 1179, I 789 0, I 0 0, R 1186, I 791 0, I 0 0, R 1193, I 793 0, I 0 0, R 1198, I 799 0, I 0 0, R 1205, I 809 0, I 0 0, R 1210, I 816 0, I 0 0, R 1215, I 820 0, I 0 0, R 1222, I 838 0, I 0 0, R 1229, I 855 0, I 0 0, R 1234, I 863 0, I 0 0, R 1241].toArray) none #[]) ::
 (nat_lit 13, oD "<module>" "<module>" 182 1 0 0 0 0 11 ff 181 12 N N N N 185) ::
 (nat_lit 14, ob (T "frame") Data.plain none #[some (R 13), some (R 3), some (R 3), none, some (S "__main__" 164), none, some (R 0)]) ::
 (nat_lit 15, tup []) ::
 (nat_lit 16, oE) ::
 (nat_lit 17, tS 190 ["k"]) ::
 (nat_lit 18, tup []) ::
 (nat_lit 19, oF (st 0) "_wall") ::
 (nat_lit 20, oD "_wall" "_wall" 187 1 1 0 0 3 15 tt 181 16 N (R 17) (R 18) (R 19) 191) ::
 (nat_lit 21, oG (st 0) "_wall" 3 N N N (S "__main__" 164) none 20) ::
 (nat_lit 22, tup []) ::
 (nat_lit 23, oE) ::
 (nat_lit 24, oF (st 2) "hexlify") ::
 (nat_lit 25, oD "hexlify" "hexlify" 196 5 1 0 0 3 22 tt 181 23 N N N (R 24) 199) ::
 (nat_lit 26, oG (st 2) "hexlify" 3 N N N (S "embit.misc" 194) none 25) ::
 (nat_lit 27, tup []) ::
 (nat_lit 28, ob (T "builtin_function_or_method") (Data.fields [B "type.__prepare__", T "type"].toArray) none #[]) ::
 (nat_lit 29, dic [E P "__module__" 209 (S "embit.misc" 194), E P "__qualname__" 211 (S "Sha256" 210), E P "__firstlineno__" 213 (I 8 212), E P "__init__" 222 (R 41), E P "update" 230 (R 48), E P "digest" 238 (R 55), E P "__static_attributes__" 240 (R 56)] 7) ::
 (nat_lit 30, tup []) ::
 (nat_lit 31, ob N (Data.fields [I 10 0, I 4 0, R 40, I 13 0, I 4 0, R 47, I 16 0, I 4 0, R 54].toArray) none #[]) ::
 (nat_lit 32, oD "Sha256" "Sha256" 204 8 0 0 0 0 30 ff 181 31 N N N N 207) ::
 (nat_lit 33, ob (T "frame") Data.plain none #[some (R 32), some (R 3), some (R 29), none, some (S "embit.misc" 194), none, some (R 0)]) ::
 (nat_lit 34, tup [Y [] 214]) ::
 (nat_lit 35, tup []) ::
 (nat_lit 36, oE) ::
 (nat_lit 37, tS 218 ["self", "data"]) ::
 (nat_lit 38, tup []) ::
 (nat_lit 39, oF (mb 3 0) "Sha256.__init__") ::
 (nat_lit 40, oD "__init__" "Sha256.__init__" 215 10 2 0 0 3 35 tt 181 36 N (R 37) (R 38) (R 39) 220) ::
 (nat_lit 41, oG (mb 3 0) "Sha256.__init__" 3 (R 34) N N (S "embit.misc" 194) none 40) ::
 (nat_lit 42, tup []) ::
 (nat_lit 43, oE) ::
 (nat_lit 44, tS 226 ["self", "data"]) ::
 (nat_lit 45, tup []) ::
 (nat_lit 46, oF (mb 3 1) "Sha256.update") ::
 (nat_lit 47, oD "update" "Sha256.update" 223 13 2 0 0 3 42 tt 181 43 N (R 44) (R 45) (R 46) 228) ::
 (nat_lit 48, oG (mb 3 1) "Sha256.update" 3 N N N (S "embit.misc" 194) none 47) ::
 (nat_lit 49, tup []) ::
 (nat_lit 50, oE) ::
 (nat_lit 51, tS 234 ["self", "number"]) ::
 (nat_lit 52, tup []) ::
 (nat_lit 53, oF (mb 3 2) "Sha256.digest") ::
 (nat_lit 54, oD "digest" "Sha256.digest" 231 16 1 0 0 3 49 tt 181 50 N (R 51) (R 52) (R 53) 236) ::
 (nat_lit 55, oG (mb 3 2) "Sha256.digest" 3 N N N (S "embit.misc" 194) none 54) ::
 (nat_lit 56, tS 239 ["data"]) ::
 (nat_lit 57, dic [E P "__module__" 209 (S "embit.misc" 194), E P "__firstlineno__" 213 (I 8 212), E P "__init__" 222 (R 41), E P "update" 230 (R 48), E P "digest" 238 (R 55), E P "__static_attributes__" 240 (R 56), E P "__dict__" 242 (R 59), E P "__weakref__" 244 (R 60), E P "__doc__" 245 N] 4) ::
 (nat_lit 58, ob (T "type") (Data.cls { name := "Sha256", bases := [T "object"], mro := [R 58, T "object"], ns := 57, qualname := "Sha256", hasDict := true, slotNames := [], subclasses := [], abstract := false, collection := none, hasDel := false }) none #[none, none, some (S "Sha256" 202), some (S "Sha256" 210), some (B "object.__new__"), some tt]) ::
 (nat_lit 59, ob (T "getset_descriptor") (Data.fields [S "__dict__" 241, R 58, B "function.__dict__", B "function.__dict__#set"].toArray) none #[]) ::
 (nat_lit 60, ob (T "getset_descriptor") (Data.fields [S "__weakref__" 243, R 58, B "ExceptionGroup.__weakref__", N].toArray) none #[]) ::
 (nat_lit 61, ob (T "super") (Data.fields [R 58, R 58, R 58].toArray) none #[]) ::
 (nat_lit 62, ob (T "builtin_function_or_method") (Data.fields [B "object.__init_subclass__", R 58].toArray) none #[]) ::
 (nat_lit 63, tup []) ::
 (nat_lit 64, ob (T "builtin_function_or_method") (Data.fields [B "type.__prepare__", T "type"].toArray) none #[]) ::
 (nat_lit 65, dic [E P "__module__" 255 (S "embit.misc" 194), E P "__qualname__" 257 (S "hashlib" 256), E P "__firstlineno__" 259 (I 19 258), E P "sha256" 279 (R 79), E P "__static_attributes__" 280 (R 81)] 5) ::
 (nat_lit 66, tup []) ::
 (nat_lit 67, ob N (Data.fields [I 22 0, I 4 0, R 76].toArray) none #[]) ::
 (nat_lit 68, oD "hashlib" "hashlib" 250 19 0 0 0 0 66 ff 181 67 N N N N 253) ::
 (nat_lit 69, ob (T "frame") Data.plain none #[some (R 68), some (R 3), some (R 65), none, some (S "embit.misc" 194), none, some (R 0)]) ::
 (nat_lit 70, tup [Y [] 260]) ::
 (nat_lit 71, tup []) ::
 (nat_lit 72, oE) ::
 (nat_lit 73, tS 264 ["data"]) ::
 (nat_lit 74, tup []) ::
 (nat_lit 75, oF (mb 4 0) "hashlib.sha256") ::
 (nat_lit 76, oD "sha256" "hashlib.sha256" 261 21 1 0 0 3 71 tt 181 72 N (R 73) (R 74) (R 75) 265) ::
 (nat_lit 77, oG (mb 4 0) "hashlib.sha256" 3 (R 70) N N (S "embit.misc" 194) (some 80) 76) ::
 (nat_lit 78, dic [E P "__module__" 268 (S "embit.misc" 194), E P "__name__" 271 (S "sha256" 270), E P "__qualname__" 274 (S "hashlib.sha256" 273), E P "__doc__" 276 N, E P "__annotations__" 278 (R 80)] 5) ::
 (nat_lit 79, ob (T "staticmethod") (Data.fields [R 77, ff].toArray) (some 78) #[]) ::
 (nat_lit 80, dic [] 0) ::
 (nat_lit 81, tup []) ::
 (nat_lit 82, dic [E P "__module__" 255 (S "embit.misc" 194), E P "__firstlineno__" 259 (I 19 258), E P "sha256" 279 (R 79), E P "__static_attributes__" 280 (R 81), E P "__dict__" 282 (R 84), E P "__weakref__" 284 (R 85), E P "__doc__" 285 N] 4) ::
 (nat_lit 83, ob (T "type") (Data.cls { name := "hashlib", bases := [T "object"], mro := [R 83, T "object"], ns := 82, qualname := "hashlib", hasDict := true, slotNames := [], subclasses := [], abstract := false, collection := none, hasDel := false }) none #[none, none, some (S "hashlib" 248), some (S "hashlib" 256), some (B "object.__new__"), some tt]) ::
 (nat_lit 84, ob (T "getset_descriptor") (Data.fields [S "__dict__" 281, R 83, B "function.__dict__", B "function.__dict__#set"].toArray) none #[]) ::
 (nat_lit 85, ob (T "getset_descriptor") (Data.fields [S "__weakref__" 283, R 83, B "ExceptionGroup.__weakref__", N].toArray) none #[]) ::
 (nat_lit 86, ob (T "super") (Data.fields [R 83, R 83, R 83].toArray) none #[]) ::
 (nat_lit 87, ob (T "builtin_function_or_method") (Data.fields [B "object.__init_subclass__", R 83].toArray) none #[]) ::
 (nat_lit 88, tup []) ::
 (nat_lit 89, oE) ::
 (nat_lit 90, tS 293 ["i", "order"]) ::
 (nat_lit 91, tup []) ::
 (nat_lit 92, oF (st 6) "to_bytes") ::
 (nat_lit 93, oD "to_bytes" "to_bytes" 290 25 1 0 0 3 88 tt 181 89 N (R 90) (R 91) (R 92) 295) ::
 (nat_lit 94, oG (st 6) "to_bytes" 3 N N N (S "embit.compact" 288) none 93) ::
 (nat_lit 95, tup []) ::
 (nat_lit 96, oE) ::
 (nat_lit 97, tS 303 ["n", "what"]) ::
 (nat_lit 98, tup []) ::
 (nat_lit 99, oF (st 8) "_whence") ::
 (nat_lit 100, oD "_whence" "_whence" 300 39 2 0 0 3 95 tt 181 96 N (R 97) (R 98) (R 99) 305) ::
 (nat_lit 101, oG (st 8) "_whence" 3 N N N (S "io" 298) none 100) ::
 (nat_lit 102, tup []) ::
 (nat_lit 103, oE) ::
 (nat_lit 104, tS 311 ["n", "what"]) ::
 (nat_lit 105, tup []) ::
 (nat_lit 106, oF (st 9) "_index") ::
 (nat_lit 107, oD "_index" "_index" 308 44 2 0 0 3 102 tt 181 103 N (R 104) (R 105) (R 106) 313) ::
 (nat_lit 108, oG (st 9) "_index" 3 N N N (S "io" 298) none 107) ::
 (nat_lit 109, tup [T "OSError", T "ValueError"]) ::
 (nat_lit 110, ob (T "builtin_function_or_method") (Data.fields [B "type.__prepare__", T "type"].toArray) none #[]) ::
 (nat_lit 111, dic [E P "__module__" 323 (S "io" 328), E P "__qualname__" 325 (S "UnsupportedOperation" 324), E P "__firstlineno__" 327 (I 51 326), E P "__static_attributes__" 330 (R 116)] 4) ::
 (nat_lit 112, tup []) ::
 (nat_lit 113, oE) ::
 (nat_lit 114, oD "UnsupportedOperation" "UnsupportedOperation" 318 51 0 0 0 0 112 ff 181 113 N N N N 321) ::
 (nat_lit 115, ob (T "frame") Data.plain none #[some (R 114), some (R 3), some (R 111), none, some (S "io" 298), none, some (R 0)]) ::
 (nat_lit 116, tup []) ::
 (nat_lit 117, dic [E P "__module__" 323 (S "io" 328), E P "__firstlineno__" 327 (I 51 326), E P "__static_attributes__" 330 (R 116), E P "__weakref__" 332 (R 119), E P "__doc__" 333 N] 3) ::
 (nat_lit 118, ob (T "type") (Data.cls { name := "UnsupportedOperation", bases := [T "OSError", T "ValueError"], mro := [R 118, T "OSError", T "ValueError", T "Exception", T "BaseException", T "object"], ns := 117, qualname := "UnsupportedOperation", hasDict := true, slotNames := [], subclasses := [], abstract := false, collection := none, hasDel := false }) none #[some (R 109), none, some (S "UnsupportedOperation" 316), some (S "UnsupportedOperation" 324), some (B "OSError.__new__"), some tt]) ::
 (nat_lit 119, ob (T "getset_descriptor") (Data.fields [S "__weakref__" 331, R 118, B "ExceptionGroup.__weakref__", N].toArray) none #[]) ::
 (nat_lit 120, ob (T "super") (Data.fields [R 118, R 118, R 118].toArray) none #[]) ::
 (nat_lit 121, ob (T "builtin_function_or_method") (Data.fields [B "object.__init_subclass__", R 118].toArray) none #[]) ::
 (nat_lit 122, tup []) ::
 (nat_lit 123, ob (T "builtin_function_or_method") (Data.fields [B "type.__prepare__", T "type"].toArray) none #[]) ::
 (nat_lit 124, dic [E P "__module__" 345 (S "io" 350), E P "__qualname__" 347 (S "IOBase" 346), E P "__firstlineno__" 349 (I 53 348), E P "__new__" 360 (R 135), E P "__static_attributes__" 361 (R 136)] 5) ::
 (nat_lit 125, tup []) ::
 (nat_lit 126, ob N (Data.fields [I 56 0, I 4 0, R 134].toArray) none #[]) ::
 (nat_lit 127, oD "IOBase" "IOBase" 340 53 0 0 0 0 125 ff 181 126 N N N N 343) ::
 (nat_lit 128, ob (T "frame") Data.plain none #[some (R 127), some (R 3), some (R 124), none, some (S "io" 298), none, some (R 0)]) ::
 (nat_lit 129, tup []) ::
 (nat_lit 130, oE) ::
 (nat_lit 131, tS 355 ["cls", "args", "kwargs"]) ::
 (nat_lit 132, tup []) ::
 (nat_lit 133, oF (mb 11 1) "IOBase.__new__") ::
 (nat_lit 134, oD "__new__" "IOBase.__new__" 352 56 1 1 0 15 129 tt 181 130 N (R 131) (R 132) (R 133) 358) ::
 (nat_lit 135, oG (mb 11 1) "IOBase.__new__" 3 N N N (S "io" 298) none 134) ::
 (nat_lit 136, tup []) ::
 (nat_lit 137, dic [E P "__module__" 345 (S "io" 350), E P "__firstlineno__" 349 (I 53 348), E P "__new__" 360 (R 139), E P "__static_attributes__" 361 (R 136), E P "__dict__" 364 (R 140), E P "__weakref__" 366 (R 141), E P "__doc__" 367 N] 4) ::
 (nat_lit 138, ob (T "type") (Data.cls { name := "IOBase", bases := [T "object"], mro := [R 138, T "object"], ns := 137, qualname := "IOBase", hasDict := true, slotNames := [], subclasses := [R 153, R 165], abstract := false, collection := none, hasDel := false }) none #[none, none, some (S "IOBase" 338), some (S "IOBase" 346), some N, some tt]) ::
 (nat_lit 139, ob (T "staticmethod") (Data.fields [R 135].toArray) none #[]) ::
 (nat_lit 140, ob (T "getset_descriptor") (Data.fields [S "__dict__" 363, R 138, B "function.__dict__", B "function.__dict__#set"].toArray) none #[]) ::
 (nat_lit 141, ob (T "getset_descriptor") (Data.fields [S "__weakref__" 365, R 138, B "ExceptionGroup.__weakref__", N].toArray) none #[]) ::
 (nat_lit 142, ob (T "super") (Data.fields [R 138, R 138, R 138].toArray) none #[]) ::
 (nat_lit 143, ob (T "builtin_function_or_method") (Data.fields [B "object.__init_subclass__", R 138].toArray) none #[]) ::
 (nat_lit 144, tup [R 138]) ::
 (nat_lit 145, ob (T "builtin_function_or_method") (Data.fields [B "type.__prepare__", T "type"].toArray) none #[]) ::
 (nat_lit 146, dic [E P "__module__" 377 (S "io" 382), E P "__qualname__" 379 (S "BufferedIOBase" 378), E P "__firstlineno__" 381 (I 60 380), E P "__static_attributes__" 384 (R 151)] 4) ::
 (nat_lit 147, tup []) ::
 (nat_lit 148, oE) ::
 (nat_lit 149, oD "BufferedIOBase" "BufferedIOBase" 372 60 0 0 0 0 147 ff 181 148 N N N N 375) ::
 (nat_lit 150, ob (T "frame") Data.plain none #[some (R 149), some (R 3), some (R 146), none, some (S "io" 298), none, some (R 0)]) ::
 (nat_lit 151, tup []) ::
 (nat_lit 152, dic [E P "__module__" 377 (S "io" 382), E P "__firstlineno__" 381 (I 60 380), E P "__static_attributes__" 384 (R 151), E P "__doc__" 385 N] 2) ::
 (nat_lit 153, ob (T "type") (Data.cls { name := "BufferedIOBase", bases := [R 138], mro := [R 153, R 138, T "object"], ns := 152, qualname := "BufferedIOBase", hasDict := true, slotNames := [], subclasses := [R 395], abstract := false, collection := none, hasDel := false }) none #[some (R 144), none, some (S "BufferedIOBase" 370), some (S "BufferedIOBase" 378), some N, some tt]) ::
 (nat_lit 154, ob (T "super") (Data.fields [R 153, R 153, R 153].toArray) none #[]) ::
 (nat_lit 155, ob (T "builtin_function_or_method") (Data.fields [B "object.__init_subclass__", R 153].toArray) none #[]) ::
 (nat_lit 156, tup [R 138]) ::
 (nat_lit 157, ob (T "builtin_function_or_method") (Data.fields [B "type.__prepare__", T "type"].toArray) none #[]) ::
 (nat_lit 158, dic [E P "__module__" 395 (S "io" 400), E P "__qualname__" 397 (S "TextIOBase" 396), E P "__firstlineno__" 399 (I 62 398), E P "__static_attributes__" 402 (R 163)] 4) ::
 (nat_lit 159, tup []) ::
 (nat_lit 160, oE) ::
 (nat_lit 161, oD "TextIOBase" "TextIOBase" 390 62 0 0 0 0 159 ff 181 160 N N N N 393) ::
 (nat_lit 162, ob (T "frame") Data.plain none #[some (R 161), some (R 3), some (R 158), none, some (S "io" 298), none, some (R 0)]) ::
 (nat_lit 163, tup []) ::
 (nat_lit 164, dic [E P "__module__" 395 (S "io" 400), E P "__firstlineno__" 399 (I 62 398), E P "__static_attributes__" 402 (R 163), E P "__doc__" 403 N] 2) ::
 (nat_lit 165, ob (T "type") (Data.cls { name := "TextIOBase", bases := [R 138], mro := [R 165, R 138, T "object"], ns := 164, qualname := "TextIOBase", hasDict := true, slotNames := [], subclasses := [R 642], abstract := false, collection := none, hasDel := false }) none #[some (R 156), none, some (S "TextIOBase" 388), some (S "TextIOBase" 396), some N, some tt]) ::
 (nat_lit 166, ob (T "super") (Data.fields [R 165, R 165, R 165].toArray) none #[]) ::
 (nat_lit 167, ob (T "builtin_function_or_method") (Data.fields [B "object.__init_subclass__", R 165].toArray) none #[]) ::
 (nat_lit 168, tup [R 153]) ::
 (nat_lit 169, ob (T "builtin_function_or_method") (Data.fields [B "type.__prepare__", T "type"].toArray) none #[]) ::
 (nat_lit 170, dic [E P "__module__" 413 (S "_io" 418), E P "__qualname__" 415 (S "BytesIO" 414), E P "__firstlineno__" 417 (I 64 416), E P "__init__" 427 (R 182), E P "_BytesIO__check" 434 (R 189), E P "_BytesIO__line" 445 (R 196), E P "closed" 453 (R 204), E P "close" 460 (R 211), E P "__enter__" 467 (R 218), E P "__exit__" 475 (R 225), E P "readable" 482 (R 232), E P "writable" 489 (R 239), E P "seekable" 496 (R 246), E P "isatty" 503 (R 253), E P "flush" 510 (R 260), E P "fileno" 517 (R 267), E P "detach" 524 (R 274), E P "getvalue" 531 (R 281), E P "getbuffer" 538 (R 288), E P "tell" 545 (R 295), E P "seek" 555 (R 303), E P "truncate" 563 (R 311), E P "read" 575 (R 319), E P "read1" 585 (R 327), E P "readinto" 595 (R 334), E P "readinto1" 603 (R 341), E P "readline" 613 (R 349), E P "readlines" 621 (R 357), E P "__iter__" 628 (R 364), E P "__next__" 636 (R 371), E P "write" 646 (R 378), E P "writelines" 654 (R 385), E P "__repr__" 661 (R 392), E P "__static_attributes__" 664 (R 393)] 34) ::
 (nat_lit 171, tup []) ::
 (nat_lit 172, ob N (Data.fields [I 67 0, I 4 0, R 181, I 73 0, I 4 0, R 188, I 77 0, I 4 0, R 195, I 91 0, I 4 0, R 202, I 94 0, I 4 0, R 210, I 97 0, I 4 0, R 217, I 101 0, I 4 0, R 224, I 104 0, I 4 0, R 231, I 108 0, I 4 0, R 238, I 112 0, I 4 0, R 245, I 116 0, I 4 0, R 252, I 120 0, I 4 0, R 259, I 123 0, I 4 0, R 266, I 126 0, I 4 0, R 273, I 129 0, I 4 0, R 280, I 133 0, I 4 0, R 287, I 136 0, I 4 0, R 294, I 140 0, I 4 0, R 302, I 157 0, I 4 0, R 310, I 160 0, I 4 0, R 318, I 174 0, I 4 0, R 326, I 177 0, I 4 0, R 333, I 191 0, I 4 0, R 340, I 194 0, I 4 0, R 348, I 201 0, I 4 0, R 356, I 204 0, I 4 0, R 363, I 207 0, I 4 0, R 370, I 214 0, I 4 0, R 377, I 230 0, I 4 0, R 384, I 233 0, I 4 0, R 391].toArray) none #[]) ::
 (nat_lit 173, oD "BytesIO" "BytesIO" 408 64 0 0 0 0 171 ff 181 172 N N N N 411) ::
 (nat_lit 174, ob (T "frame") Data.plain none #[some (R 173), some (R 3), some (R 170), none, some (S "io" 298), none, some (R 0)]) ::
 (nat_lit 175, tup [N]) ::
 (nat_lit 176, tup []) ::
 (nat_lit 177, oE) ::
 (nat_lit 178, tS 423 ["self", "initial_bytes"]) ::
 (nat_lit 179, tup []) ::
 (nat_lit 180, oF (mb 14 1) "BytesIO.__init__") ::
 (nat_lit 181, oD "__init__" "BytesIO.__init__" 420 67 2 0 0 3 176 tt 181 177 N (R 178) (R 179) (R 180) 425) ::
 (nat_lit 182, oG (mb 14 1) "BytesIO.__init__" 3 (R 175) N N (S "io" 298) none 181) ::
 (nat_lit 183, tup []) ::
 (nat_lit 184, oE) ::
 (nat_lit 185, tS 431 ["self"]) ::
 (nat_lit 186, tup []) ::
 (nat_lit 187, oF (mb 14 2) "BytesIO.__check") ::
 (nat_lit 188, oD "__check" "BytesIO.__check" 428 73 1 0 0 3 183 tt 181 184 N (R 185) (R 186) (R 187) 432) ::
 (nat_lit 189, oG (mb 14 2) "BytesIO.__check" 3 N N N (S "io" 298) none 188) ::
 (nat_lit 190, tup []) ::
 (nat_lit 191, oE) ::
 (nat_lit 192, tS 438 ["self", "limit", "start", "stop", "i"]) ::
 (nat_lit 193, tup []) ::
 (nat_lit 194, oF (mb 14 3) "BytesIO.__line") ::
 (nat_lit 195, oD "__line" "BytesIO.__line" 435 77 2 0 0 3 190 tt 181 191 N (R 192) (R 193) (R 194) 443) ::
 (nat_lit 196, oG (mb 14 3) "BytesIO.__line" 3 N N N (S "io" 298) none 195) ::
 (nat_lit 197, tup []) ::
 (nat_lit 198, oE) ::
 (nat_lit 199, tS 449 ["self"]) ::
 (nat_lit 200, tup []) ::
 (nat_lit 201, oF (mb 14 4) "BytesIO.closed") ::
 (nat_lit 202, oD "closed" "BytesIO.closed" 446 90 1 0 0 3 197 tt 181 198 N (R 199) (R 200) (R 201) 450) ::
 (nat_lit 203, oG (mb 14 4) "BytesIO.closed" 3 N N N (S "io" 298) none 202) ::
 (nat_lit 204, ob (T "property") (Data.fields [R 203, N, N, N, S "closed" 453, ff].toArray) none #[]) ::
 (nat_lit 205, tup []) ::
 (nat_lit 206, oE) ::
 (nat_lit 207, tS 457 ["self"]) ::
 (nat_lit 208, tup []) ::
 (nat_lit 209, oF (mb 14 5) "BytesIO.close") ::
 (nat_lit 210, oD "close" "BytesIO.close" 454 94 1 0 0 3 205 tt 181 206 N (R 207) (R 208) (R 209) 458) ::
 (nat_lit 211, oG (mb 14 5) "BytesIO.close" 3 N N N (S "io" 298) none 210) ::
 (nat_lit 212, tup []) ::
 (nat_lit 213, oE) ::
 (nat_lit 214, tS 464 ["self"]) ::
 (nat_lit 215, tup []) ::
 (nat_lit 216, oF (mb 14 6) "BytesIO.__enter__") ::
 (nat_lit 217, oD "__enter__" "BytesIO.__enter__" 461 97 1 0 0 3 212 tt 181 213 N (R 214) (R 215) (R 216) 465) ::
 (nat_lit 218, oG (mb 14 6) "BytesIO.__enter__" 3 N N N (S "io" 298) none 217) ::
 (nat_lit 219, tup []) ::
 (nat_lit 220, oE) ::
 (nat_lit 221, tS 471 ["self", "args"]) ::
 (nat_lit 222, tup []) ::
 (nat_lit 223, oF (mb 14 7) "BytesIO.__exit__") ::
 (nat_lit 224, oD "__exit__" "BytesIO.__exit__" 468 101 1 0 0 7 219 tt 181 220 N (R 221) (R 222) (R 223) 473) ::
 (nat_lit 225, oG (mb 14 7) "BytesIO.__exit__" 3 N N N (S "io" 298) none 224) ::
 (nat_lit 226, tup []) ::
 (nat_lit 227, oE) ::
 (nat_lit 228, tS 479 ["self"]) ::
 (nat_lit 229, tup []) ::
 (nat_lit 230, oF (mb 14 8) "BytesIO.readable") ::
 (nat_lit 231, oD "readable" "BytesIO.readable" 476 104 1 0 0 3 226 tt 181 227 N (R 228) (R 229) (R 230) 480) ::
 (nat_lit 232, oG (mb 14 8) "BytesIO.readable" 3 N N N (S "io" 298) none 231) ::
 (nat_lit 233, tup []) ::
 (nat_lit 234, oE) ::
 (nat_lit 235, tS 486 ["self"]) ::
 (nat_lit 236, tup []) ::
 (nat_lit 237, oF (mb 14 9) "BytesIO.writable") ::
 (nat_lit 238, oD "writable" "BytesIO.writable" 483 108 1 0 0 3 233 tt 181 234 N (R 235) (R 236) (R 237) 487) ::
 (nat_lit 239, oG (mb 14 9) "BytesIO.writable" 3 N N N (S "io" 298) none 238) ::
 (nat_lit 240, tup []) ::
 (nat_lit 241, oE) ::
 (nat_lit 242, tS 493 ["self"]) ::
 (nat_lit 243, tup []) ::
 (nat_lit 244, oF (mb 14 10) "BytesIO.seekable") ::
 (nat_lit 245, oD "seekable" "BytesIO.seekable" 490 112 1 0 0 3 240 tt 181 241 N (R 242) (R 243) (R 244) 494) ::
 (nat_lit 246, oG (mb 14 10) "BytesIO.seekable" 3 N N N (S "io" 298) none 245) ::
 (nat_lit 247, tup []) ::
 (nat_lit 248, oE) ::
 (nat_lit 249, tS 500 ["self"]) ::
 (nat_lit 250, tup []) ::
 (nat_lit 251, oF (mb 14 11) "BytesIO.isatty") ::
 (nat_lit 252, oD "isatty" "BytesIO.isatty" 497 116 1 0 0 3 247 tt 181 248 N (R 249) (R 250) (R 251) 501) ::
 (nat_lit 253, oG (mb 14 11) "BytesIO.isatty" 3 N N N (S "io" 298) none 252) ::
 (nat_lit 254, tup []) ::
 (nat_lit 255, oE) ::
 (nat_lit 256, tS 507 ["self"]) ::
 (nat_lit 257, tup []) ::
 (nat_lit 258, oF (mb 14 12) "BytesIO.flush") ::
 (nat_lit 259, oD "flush" "BytesIO.flush" 504 120 1 0 0 3 254 tt 181 255 N (R 256) (R 257) (R 258) 508) ::
 (nat_lit 260, oG (mb 14 12) "BytesIO.flush" 3 N N N (S "io" 298) none 259) ::
 (nat_lit 261, tup []) ::
 (nat_lit 262, oE) ::
 (nat_lit 263, tS 514 ["self"]) ::
 (nat_lit 264, tup []) ::
 (nat_lit 265, oF (mb 14 13) "BytesIO.fileno") ::
 (nat_lit 266, oD "fileno" "BytesIO.fileno" 511 123 1 0 0 3 261 tt 181 262 N (R 263) (R 264) (R 265) 515) ::
 (nat_lit 267, oG (mb 14 13) "BytesIO.fileno" 3 N N N (S "io" 298) none 266) ::
 (nat_lit 268, tup []) ::
 (nat_lit 269, oE) ::
 (nat_lit 270, tS 521 ["self"]) ::
 (nat_lit 271, tup []) ::
 (nat_lit 272, oF (mb 14 14) "BytesIO.detach") ::
 (nat_lit 273, oD "detach" "BytesIO.detach" 518 126 1 0 0 3 268 tt 181 269 N (R 270) (R 271) (R 272) 522) ::
 (nat_lit 274, oG (mb 14 14) "BytesIO.detach" 3 N N N (S "io" 298) none 273) ::
 (nat_lit 275, tup []) ::
 (nat_lit 276, oE) ::
 (nat_lit 277, tS 528 ["self"]) ::
 (nat_lit 278, tup []) ::
 (nat_lit 279, oF (mb 14 15) "BytesIO.getvalue") ::
 (nat_lit 280, oD "getvalue" "BytesIO.getvalue" 525 129 1 0 0 3 275 tt 181 276 N (R 277) (R 278) (R 279) 529) ::
 (nat_lit 281, oG (mb 14 15) "BytesIO.getvalue" 3 N N N (S "io" 298) none 280) ::
 (nat_lit 282, tup []) ::
 (nat_lit 283, oE) ::
 (nat_lit 284, tS 535 ["self"]) ::
 (nat_lit 285, tup []) ::
 (nat_lit 286, oF (mb 14 16) "BytesIO.getbuffer") ::
 (nat_lit 287, oD "getbuffer" "BytesIO.getbuffer" 532 133 1 0 0 3 282 tt 181 283 N (R 284) (R 285) (R 286) 536) ::
 (nat_lit 288, oG (mb 14 16) "BytesIO.getbuffer" 3 N N N (S "io" 298) none 287) ::
 (nat_lit 289, tup []) ::
 (nat_lit 290, oE) ::
 (nat_lit 291, tS 542 ["self"]) ::
 (nat_lit 292, tup []) ::
 (nat_lit 293, oF (mb 14 17) "BytesIO.tell") ::
 (nat_lit 294, oD "tell" "BytesIO.tell" 539 136 1 0 0 3 289 tt 181 290 N (R 291) (R 292) (R 293) 543) ::
 (nat_lit 295, oG (mb 14 17) "BytesIO.tell" 3 N N N (S "io" 298) none 294) ::
 (nat_lit 296, tup [I 0 546]) ::
 (nat_lit 297, tup []) ::
 (nat_lit 298, oE) ::
 (nat_lit 299, tS 550 ["self", "pos", "whence"]) ::
 (nat_lit 300, tup []) ::
 (nat_lit 301, oF (mb 14 18) "BytesIO.seek") ::
 (nat_lit 302, oD "seek" "BytesIO.seek" 547 140 3 3 0 3 297 tt 181 298 N (R 299) (R 300) (R 301) 553) ::
 (nat_lit 303, oG (mb 14 18) "BytesIO.seek" 3 (R 296) N N (S "io" 298) none 302) ::
 (nat_lit 304, tup [N]) ::
 (nat_lit 305, tup []) ::
 (nat_lit 306, oE) ::
 (nat_lit 307, tS 559 ["self", "size"]) ::
 (nat_lit 308, tup []) ::
 (nat_lit 309, oF (mb 14 19) "BytesIO.truncate") ::
 (nat_lit 310, oD "truncate" "BytesIO.truncate" 556 157 2 2 0 3 305 tt 181 306 N (R 307) (R 308) (R 309) 561) ::
 (nat_lit 311, oG (mb 14 19) "BytesIO.truncate" 3 (R 304) N N (S "io" 298) none 310) ::
 (nat_lit 312, tup [I (-1) 565]) ::
 (nat_lit 313, tup []) ::
 (nat_lit 314, oE) ::
 (nat_lit 315, tS 569 ["self", "size", "start", "stop"]) ::
 (nat_lit 316, tup []) ::
 (nat_lit 317, oF (mb 14 20) "BytesIO.read") ::
 (nat_lit 318, oD "read" "BytesIO.read" 566 160 2 2 0 3 313 tt 181 314 N (R 315) (R 316) (R 317) 573) ::
 (nat_lit 319, oG (mb 14 20) "BytesIO.read" 3 (R 312) N N (S "io" 298) none 318) ::
 (nat_lit 320, tup [I (-1) 577]) ::
 (nat_lit 321, tup []) ::
 (nat_lit 322, oE) ::
 (nat_lit 323, tS 581 ["self", "size"]) ::
 (nat_lit 324, tup []) ::
 (nat_lit 325, oF (mb 14 21) "BytesIO.read1") ::
 (nat_lit 326, oD "read1" "BytesIO.read1" 578 174 2 2 0 3 321 tt 181 322 N (R 323) (R 324) (R 325) 583) ::
 (nat_lit 327, oG (mb 14 21) "BytesIO.read1" 3 (R 320) N N (S "io" 298) none 326) ::
 (nat_lit 328, tup []) ::
 (nat_lit 329, oE) ::
 (nat_lit 330, tS 589 ["self", "buffer", "start", "n"]) ::
 (nat_lit 331, tup []) ::
 (nat_lit 332, oF (mb 14 22) "BytesIO.readinto") ::
 (nat_lit 333, oD "readinto" "BytesIO.readinto" 586 177 2 2 0 3 328 tt 181 329 N (R 330) (R 331) (R 332) 593) ::
 (nat_lit 334, oG (mb 14 22) "BytesIO.readinto" 3 N N N (S "io" 298) none 333) ::
 (nat_lit 335, tup []) ::
 (nat_lit 336, oE) ::
 (nat_lit 337, tS 599 ["self", "buffer"]) ::
 (nat_lit 338, tup []) ::
 (nat_lit 339, oF (mb 14 23) "BytesIO.readinto1") ::
 (nat_lit 340, oD "readinto1" "BytesIO.readinto1" 596 191 2 2 0 3 335 tt 181 336 N (R 337) (R 338) (R 339) 601) ::
 (nat_lit 341, oG (mb 14 23) "BytesIO.readinto1" 3 N N N (S "io" 298) none 340) ::
 (nat_lit 342, tup [I (-1) 605]) ::
 (nat_lit 343, tup []) ::
 (nat_lit 344, oE) ::
 (nat_lit 345, tS 609 ["self", "size"]) ::
 (nat_lit 346, tup []) ::
 (nat_lit 347, oF (mb 14 24) "BytesIO.readline") ::
 (nat_lit 348, oD "readline" "BytesIO.readline" 606 194 2 2 0 3 343 tt 181 344 N (R 345) (R 346) (R 347) 611) ::
 (nat_lit 349, oG (mb 14 24) "BytesIO.readline" 3 (R 342) N N (S "io" 298) none 348) ::
 (nat_lit 350, tup [N]) ::
 (nat_lit 351, tup []) ::
 (nat_lit 352, oE) ::
 (nat_lit 353, tS 617 ["self", "size"]) ::
 (nat_lit 354, tup []) ::
 (nat_lit 355, oF (mb 14 25) "BytesIO.readlines") ::
 (nat_lit 356, oD "readlines" "BytesIO.readlines" 614 201 2 2 0 3 351 tt 181 352 N (R 353) (R 354) (R 355) 619) ::
 (nat_lit 357, oG (mb 14 25) "BytesIO.readlines" 3 (R 350) N N (S "io" 298) none 356) ::
 (nat_lit 358, tup []) ::
 (nat_lit 359, oE) ::
 (nat_lit 360, tS 625 ["self"]) ::
 (nat_lit 361, tup []) ::
 (nat_lit 362, oF (mb 14 26) "BytesIO.__iter__") ::
 (nat_lit 363, oD "__iter__" "BytesIO.__iter__" 622 204 1 0 0 3 358 tt 181 359 N (R 360) (R 361) (R 362) 626) ::
 (nat_lit 364, oG (mb 14 26) "BytesIO.__iter__" 3 N N N (S "io" 298) none 363) ::
 (nat_lit 365, tup []) ::
 (nat_lit 366, oE) ::
 (nat_lit 367, tS 632 ["self", "line"]) ::
 (nat_lit 368, tup []) ::
 (nat_lit 369, oF (mb 14 27) "BytesIO.__next__") ::
 (nat_lit 370, oD "__next__" "BytesIO.__next__" 629 207 1 0 0 3 365 tt 181 366 N (R 367) (R 368) (R 369) 634) ::
 (nat_lit 371, oG (mb 14 27) "BytesIO.__next__" 3 N N N (S "io" 298) none 370) ::
 (nat_lit 372, tup []) ::
 (nat_lit 373, oE) ::
 (nat_lit 374, tS 640 ["self", "b", "n", "start"]) ::
 (nat_lit 375, tup []) ::
 (nat_lit 376, oF (mb 14 28) "BytesIO.write") ::
 (nat_lit 377, oD "write" "BytesIO.write" 637 214 2 2 0 3 372 tt 181 373 N (R 374) (R 375) (R 376) 644) ::
 (nat_lit 378, oG (mb 14 28) "BytesIO.write" 3 N N N (S "io" 298) none 377) ::
 (nat_lit 379, tup []) ::
 (nat_lit 380, oE) ::
 (nat_lit 381, tS 650 ["self", "lines"]) ::
 (nat_lit 382, tup []) ::
 (nat_lit 383, oF (mb 14 29) "BytesIO.writelines") ::
 (nat_lit 384, oD "writelines" "BytesIO.writelines" 647 230 2 2 0 3 379 tt 181 380 N (R 381) (R 382) (R 383) 652) ::
 (nat_lit 385, oG (mb 14 29) "BytesIO.writelines" 3 N N N (S "io" 298) none 384) ::
 (nat_lit 386, tup []) ::
 (nat_lit 387, oE) ::
 (nat_lit 388, tS 658 ["self"]) ::
 (nat_lit 389, tup []) ::
 (nat_lit 390, oF (mb 14 30) "BytesIO.__repr__") ::
 (nat_lit 391, oD "__repr__" "BytesIO.__repr__" 655 233 1 0 0 3 386 tt 181 387 N (R 388) (R 389) (R 390) 659) ::
 (nat_lit 392, oG (mb 14 30) "BytesIO.__repr__" 3 N N N (S "io" 298) none 391) ::
 (nat_lit 393, tS 662 ["__buf", "__pos"]) ::
 (nat_lit 394, dic [E P "__module__" 413 (S "_io" 418), E P "__firstlineno__" 417 (I 64 416), E P "__init__" 427 (R 182), E P "_BytesIO__check" 434 (R 189), E P "_BytesIO__line" 445 (R 196), E P "closed" 453 (R 204), E P "close" 460 (R 211), E P "__enter__" 467 (R 218), E P "__exit__" 475 (R 225), E P "readable" 482 (R 232), E P "writable" 489 (R 239), E P "seekable" 496 (R 246), E P "isatty" 503 (R 253), E P "flush" 510 (R 260), E P "fileno" 517 (R 267), E P "detach" 524 (R 274), E P "getvalue" 531 (R 281), E P "getbuffer" 538 (R 288), E P "tell" 545 (R 295), E P "seek" 555 (R 303), E P "truncate" 563 (R 311), E P "read" 575 (R 319), E P "read1" 585 (R 327), E P "readinto" 595 (R 334), E P "readinto1" 603 (R 341), E P "readline" 613 (R 349), E P "readlines" 621 (R 357), E P "__iter__" 628 (R 364), E P "__next__" 636 (R 371), E P "write" 646 (R 378), E P "writelines" 654 (R 385), E P "__repr__" 661 (R 392), E P "__static_attributes__" 664 (R 393), E P "__doc__" 665 N] 2) ::
 (nat_lit 395, ob (T "type") (Data.cls { name := "BytesIO", bases := [R 153], mro := [R 395, R 153, R 138, T "object"], ns := 394, qualname := "BytesIO", hasDict := true, slotNames := [], subclasses := [], abstract := false, collection := none, hasDel := false }) none #[some (R 168), none, some (S "BytesIO" 406), some (S "BytesIO" 414), some N, some tt]) ::
 (nat_lit 396, ob (T "super") (Data.fields [R 395, R 395, R 395].toArray) none #[]) ::
 (nat_lit 397, ob (T "builtin_function_or_method") (Data.fields [B "object.__init_subclass__", R 395].toArray) none #[]) ::
 (nat_lit 398, tup [R 165]) ::
 (nat_lit 399, ob (T "builtin_function_or_method") (Data.fields [B "type.__prepare__", T "type"].toArray) none #[]) ::
 (nat_lit 400, dic [E P "__module__" 675 (S "_io" 680), E P "__qualname__" 677 (S "StringIO" 676), E P "__firstlineno__" 679 (I 235 678), E P "__init__" 692 (R 412), E P "_StringIO__translated" 701 (R 419), E P "_StringIO__check" 708 (R 426), E P "_StringIO__check_dot" 715 (R 433), E P "_StringIO__line" 730 (R 440), E P "closed" 738 (R 448), E P "line_buffering" 746 (R 456), E P "newlines" 754 (R 464), E P "encoding" 762 (R 472), E P "errors" 770 (R 480), E P "close" 777 (R 487), E P "__enter__" 784 (R 494), E P "__exit__" 792 (R 501), E P "readable" 799 (R 508), E P "writable" 806 (R 515), E P "seekable" 813 (R 522), E P "isatty" 820 (R 529), E P "flush" 827 (R 536), E P "fileno" 834 (R 543), E P "detach" 841 (R 550), E P "getvalue" 848 (R 557), E P "tell" 855 (R 564), E P "seek" 865 (R 572), E P "truncate" 873 (R 580), E P "read" 885 (R 588), E P "readline" 895 (R 596), E P "readlines" 905 (R 604), E P "__iter__" 912 (R 611), E P "__next__" 920 (R 618), E P "write" 932 (R 625), E P "writelines" 940 (R 632), E P "__repr__" 947 (R 639), E P "__static_attributes__" 951 (R 640)] 36) ::
 (nat_lit 401, tup []) ::
 (nat_lit 402, ob N (Data.fields [I 238 0, I 4 0, R 411, I 251 0, I 4 0, R 418, I 259 0, I 4 0, R 425, I 263 0, I 4 0, R 432, I 267 0, I 4 0, R 439, I 300 0, I 4 0, R 446, I 304 0, I 4 0, R 454, I 308 0, I 4 0, R 462, I 312 0, I 4 0, R 470, I 316 0, I 4 0, R 478, I 319 0, I 4 0, R 486, I 322 0, I 4 0, R 493, I 326 0, I 4 0, R 500, I 329 0, I 4 0, R 507, I 333 0, I 4 0, R 514, I 337 0, I 4 0, R 521, I 341 0, I 4 0, R 528, I 345 0, I 4 0, R 535, I 348 0, I 4 0, R 542, I 351 0, I 4 0, R 549, I 354 0, I 4 0, R 556, I 358 0, I 4 0, R 563, I 362 0, I 4 0, R 571, I 379 0, I 4 0, R 579, I 382 0, I 4 0, R 587, I 396 0, I 4 0, R 595, I 403 0, I 4 0, R 603, I 406 0, I 4 0, R 610, I 410 0, I 4 0, R 617, I 417 0, I 4 0, R 624, I 436 0, I 4 0, R 631, I 439 0, I 4 0, R 638].toArray) none #[]) ::
 (nat_lit 403, oD "StringIO" "StringIO" 670 235 0 0 0 0 401 ff 181 402 N N N N 673) ::
 (nat_lit 404, ob (T "frame") Data.plain none #[some (R 403), some (R 3), some (R 400), none, some (S "io" 298), none, some (R 0)]) ::
 (nat_lit 405, tup [S "" 682, S "\n" 683]) ::
 (nat_lit 406, tup []) ::
 (nat_lit 407, oE) ::
 (nat_lit 408, tS 687 ["self", "initial_value", "newline"]) ::
 (nat_lit 409, tup []) ::
 (nat_lit 410, oF (mb 15 1) "StringIO.__init__") ::
 (nat_lit 411, oD "__init__" "StringIO.__init__" 684 238 3 0 0 3 406 tt 181 407 N (R 408) (R 409) (R 410) 690) ::
 (nat_lit 412, oG (mb 15 1) "StringIO.__init__" 3 (R 405) N N (S "io" 298) none 411) ::
 (nat_lit 413, tup []) ::
 (nat_lit 414, oE) ::
 (nat_lit 415, tS 696 ["self", "s", "newline"]) ::
 (nat_lit 416, tup []) ::
 (nat_lit 417, oF (mb 15 2) "StringIO.__translated") ::
 (nat_lit 418, oD "__translated" "StringIO.__translated" 693 251 2 0 0 3 413 tt 181 414 N (R 415) (R 416) (R 417) 699) ::
 (nat_lit 419, oG (mb 15 2) "StringIO.__translated" 3 N N N (S "io" 298) none 418) ::
 (nat_lit 420, tup []) ::
 (nat_lit 421, oE) ::
 (nat_lit 422, tS 705 ["self"]) ::
 (nat_lit 423, tup []) ::
 (nat_lit 424, oF (mb 15 3) "StringIO.__check") ::
 (nat_lit 425, oD "__check" "StringIO.__check" 702 259 1 0 0 3 420 tt 181 421 N (R 422) (R 423) (R 424) 706) ::
 (nat_lit 426, oG (mb 15 3) "StringIO.__check" 3 N N N (S "io" 298) none 425) ::
 (nat_lit 427, tup []) ::
 (nat_lit 428, oE) ::
 (nat_lit 429, tS 712 ["self"]) ::
 (nat_lit 430, tup []) ::
 (nat_lit 431, oF (mb 15 4) "StringIO.__check_dot") ::
 (nat_lit 432, oD "__check_dot" "StringIO.__check_dot" 709 263 1 0 0 3 427 tt 181 428 N (R 429) (R 430) (R 431) 713) ::
 (nat_lit 433, oG (mb 15 4) "StringIO.__check_dot" 3 N N N (S "io" 298) none 432) ::
 (nat_lit 434, tup []) ::
 (nat_lit 435, oE) ::
 (nat_lit 436, tS 719 ["self", "limit", "start", "stop", "cut", "newline", "i", "j", "end"]) ::
 (nat_lit 437, tup []) ::
 (nat_lit 438, oF (mb 15 5) "StringIO.__line") ::
 (nat_lit 439, oD "__line" "StringIO.__line" 716 267 2 0 0 3 434 tt 181 435 N (R 436) (R 437) (R 438) 728) ::
 (nat_lit 440, oG (mb 15 5) "StringIO.__line" 3 N N N (S "io" 298) none 439) ::
 (nat_lit 441, tup []) ::
 (nat_lit 442, oE) ::
 (nat_lit 443, tS 734 ["self"]) ::
 (nat_lit 444, tup []) ::
 (nat_lit 445, oF (mb 15 6) "StringIO.closed") ::
 (nat_lit 446, oD "closed" "StringIO.closed" 731 299 1 0 0 3 441 tt 181 442 N (R 443) (R 444) (R 445) 735) ::
 (nat_lit 447, oG (mb 15 6) "StringIO.closed" 3 N N N (S "io" 298) none 446) ::
 (nat_lit 448, ob (T "property") (Data.fields [R 447, N, N, N, S "closed" 738, ff].toArray) none #[]) ::
 (nat_lit 449, tup []) ::
 (nat_lit 450, oE) ::
 (nat_lit 451, tS 742 ["self"]) ::
 (nat_lit 452, tup []) ::
 (nat_lit 453, oF (mb 15 7) "StringIO.line_buffering") ::
 (nat_lit 454, oD "line_buffering" "StringIO.line_buffering" 739 303 1 0 0 3 449 tt 181 450 N (R 451) (R 452) (R 453) 743) ::
 (nat_lit 455, oG (mb 15 7) "StringIO.line_buffering" 3 N N N (S "io" 298) none 454) ::
 (nat_lit 456, ob (T "property") (Data.fields [R 455, N, N, N, S "line_buffering" 746, ff].toArray) none #[]) ::
 (nat_lit 457, tup []) ::
 (nat_lit 458, oE) ::
 (nat_lit 459, tS 750 ["self"]) ::
 (nat_lit 460, tup []) ::
 (nat_lit 461, oF (mb 15 8) "StringIO.newlines") ::
 (nat_lit 462, oD "newlines" "StringIO.newlines" 747 307 1 0 0 3 457 tt 181 458 N (R 459) (R 460) (R 461) 751) ::
 (nat_lit 463, oG (mb 15 8) "StringIO.newlines" 3 N N N (S "io" 298) none 462) ::
 (nat_lit 464, ob (T "property") (Data.fields [R 463, N, N, N, S "newlines" 754, ff].toArray) none #[]) ::
 (nat_lit 465, tup []) ::
 (nat_lit 466, oE) ::
 (nat_lit 467, tS 758 ["self"]) ::
 (nat_lit 468, tup []) ::
 (nat_lit 469, oF (mb 15 9) "StringIO.encoding") ::
 (nat_lit 470, oD "encoding" "StringIO.encoding" 755 311 1 0 0 3 465 tt 181 466 N (R 467) (R 468) (R 469) 759) ::
 (nat_lit 471, oG (mb 15 9) "StringIO.encoding" 3 N N N (S "io" 298) none 470) ::
 (nat_lit 472, ob (T "property") (Data.fields [R 471, N, N, N, S "encoding" 762, ff].toArray) none #[]) ::
 (nat_lit 473, tup []) ::
 (nat_lit 474, oE) ::
 (nat_lit 475, tS 766 ["self"]) ::
 (nat_lit 476, tup []) ::
 (nat_lit 477, oF (mb 15 10) "StringIO.errors") ::
 (nat_lit 478, oD "errors" "StringIO.errors" 763 315 1 0 0 3 473 tt 181 474 N (R 475) (R 476) (R 477) 767) ::
 (nat_lit 479, oG (mb 15 10) "StringIO.errors" 3 N N N (S "io" 298) none 478) ::
 (nat_lit 480, ob (T "property") (Data.fields [R 479, N, N, N, S "errors" 770, ff].toArray) none #[]) ::
 (nat_lit 481, tup []) ::
 (nat_lit 482, oE) ::
 (nat_lit 483, tS 774 ["self"]) ::
 (nat_lit 484, tup []) ::
 (nat_lit 485, oF (mb 15 11) "StringIO.close") ::
 (nat_lit 486, oD "close" "StringIO.close" 771 319 1 0 0 3 481 tt 181 482 N (R 483) (R 484) (R 485) 775) ::
 (nat_lit 487, oG (mb 15 11) "StringIO.close" 3 N N N (S "io" 298) none 486) ::
 (nat_lit 488, tup []) ::
 (nat_lit 489, oE) ::
 (nat_lit 490, tS 781 ["self"]) ::
 (nat_lit 491, tup []) ::
 (nat_lit 492, oF (mb 15 12) "StringIO.__enter__") ::
 (nat_lit 493, oD "__enter__" "StringIO.__enter__" 778 322 1 0 0 3 488 tt 181 489 N (R 490) (R 491) (R 492) 782) ::
 (nat_lit 494, oG (mb 15 12) "StringIO.__enter__" 3 N N N (S "io" 298) none 493) ::
 (nat_lit 495, tup []) ::
 (nat_lit 496, oE) ::
 (nat_lit 497, tS 788 ["self", "args"]) ::
 (nat_lit 498, tup []) ::
 (nat_lit 499, oF (mb 15 13) "StringIO.__exit__") ::
 (nat_lit 500, oD "__exit__" "StringIO.__exit__" 785 326 1 0 0 7 495 tt 181 496 N (R 497) (R 498) (R 499) 790) ::
 (nat_lit 501, oG (mb 15 13) "StringIO.__exit__" 3 N N N (S "io" 298) none 500) ::
 (nat_lit 502, tup []) ::
 (nat_lit 503, oE) ::
 (nat_lit 504, tS 796 ["self"]) ::
 (nat_lit 505, tup []) ::
 (nat_lit 506, oF (mb 15 14) "StringIO.readable") ::
 (nat_lit 507, oD "readable" "StringIO.readable" 793 329 1 0 0 3 502 tt 181 503 N (R 504) (R 505) (R 506) 797) ::
 (nat_lit 508, oG (mb 15 14) "StringIO.readable" 3 N N N (S "io" 298) none 507) ::
 (nat_lit 509, tup []) ::
 (nat_lit 510, oE) ::
 (nat_lit 511, tS 803 ["self"]) ::
 (nat_lit 512, tup []) ::
 (nat_lit 513, oF (mb 15 15) "StringIO.writable") ::
 (nat_lit 514, oD "writable" "StringIO.writable" 800 333 1 0 0 3 509 tt 181 510 N (R 511) (R 512) (R 513) 804) ::
 (nat_lit 515, oG (mb 15 15) "StringIO.writable" 3 N N N (S "io" 298) none 514) ::
 (nat_lit 516, tup []) ::
 (nat_lit 517, oE) ::
 (nat_lit 518, tS 810 ["self"]) ::
 (nat_lit 519, tup []) ::
 (nat_lit 520, oF (mb 15 16) "StringIO.seekable") ::
 (nat_lit 521, oD "seekable" "StringIO.seekable" 807 337 1 0 0 3 516 tt 181 517 N (R 518) (R 519) (R 520) 811) ::
 (nat_lit 522, oG (mb 15 16) "StringIO.seekable" 3 N N N (S "io" 298) none 521) ::
 (nat_lit 523, tup []) ::
 (nat_lit 524, oE) ::
 (nat_lit 525, tS 817 ["self"]) ::
 (nat_lit 526, tup []) ::
 (nat_lit 527, oF (mb 15 17) "StringIO.isatty") ::
 (nat_lit 528, oD "isatty" "StringIO.isatty" 814 341 1 0 0 3 523 tt 181 524 N (R 525) (R 526) (R 527) 818) ::
 (nat_lit 529, oG (mb 15 17) "StringIO.isatty" 3 N N N (S "io" 298) none 528) ::
 (nat_lit 530, tup []) ::
 (nat_lit 531, oE) ::
 (nat_lit 532, tS 824 ["self"]) ::
 (nat_lit 533, tup []) ::
 (nat_lit 534, oF (mb 15 18) "StringIO.flush") ::
 (nat_lit 535, oD "flush" "StringIO.flush" 821 345 1 0 0 3 530 tt 181 531 N (R 532) (R 533) (R 534) 825) ::
 (nat_lit 536, oG (mb 15 18) "StringIO.flush" 3 N N N (S "io" 298) none 535) ::
 (nat_lit 537, tup []) ::
 (nat_lit 538, oE) ::
 (nat_lit 539, tS 831 ["self"]) ::
 (nat_lit 540, tup []) ::
 (nat_lit 541, oF (mb 15 19) "StringIO.fileno") ::
 (nat_lit 542, oD "fileno" "StringIO.fileno" 828 348 1 0 0 3 537 tt 181 538 N (R 539) (R 540) (R 541) 832) ::
 (nat_lit 543, oG (mb 15 19) "StringIO.fileno" 3 N N N (S "io" 298) none 542) ::
 (nat_lit 544, tup []) ::
 (nat_lit 545, oE) ::
 (nat_lit 546, tS 838 ["self"]) ::
 (nat_lit 547, tup []) ::
 (nat_lit 548, oF (mb 15 20) "StringIO.detach") ::
 (nat_lit 549, oD "detach" "StringIO.detach" 835 351 1 0 0 3 544 tt 181 545 N (R 546) (R 547) (R 548) 839) ::
 (nat_lit 550, oG (mb 15 20) "StringIO.detach" 3 N N N (S "io" 298) none 549) ::
 (nat_lit 551, tup []) ::
 (nat_lit 552, oE) ::
 (nat_lit 553, tS 845 ["self"]) ::
 (nat_lit 554, tup []) ::
 (nat_lit 555, oF (mb 15 21) "StringIO.getvalue") ::
 (nat_lit 556, oD "getvalue" "StringIO.getvalue" 842 354 1 0 0 3 551 tt 181 552 N (R 553) (R 554) (R 555) 846) ::
 (nat_lit 557, oG (mb 15 21) "StringIO.getvalue" 3 N N N (S "io" 298) none 556) ::
 (nat_lit 558, tup []) ::
 (nat_lit 559, oE) ::
 (nat_lit 560, tS 852 ["self"]) ::
 (nat_lit 561, tup []) ::
 (nat_lit 562, oF (mb 15 22) "StringIO.tell") ::
 (nat_lit 563, oD "tell" "StringIO.tell" 849 358 1 0 0 3 558 tt 181 559 N (R 560) (R 561) (R 562) 853) ::
 (nat_lit 564, oG (mb 15 22) "StringIO.tell" 3 N N N (S "io" 298) none 563) ::
 (nat_lit 565, tup [I 0 856]) ::
 (nat_lit 566, tup []) ::
 (nat_lit 567, oE) ::
 (nat_lit 568, tS 860 ["self", "pos", "whence"]) ::
 (nat_lit 569, tup []) ::
 (nat_lit 570, oF (mb 15 23) "StringIO.seek") ::
 (nat_lit 571, oD "seek" "StringIO.seek" 857 362 3 3 0 3 566 tt 181 567 N (R 568) (R 569) (R 570) 863) ::
 (nat_lit 572, oG (mb 15 23) "StringIO.seek" 3 (R 565) N N (S "io" 298) none 571) ::
 (nat_lit 573, tup [N]) ::
 (nat_lit 574, tup []) ::
 (nat_lit 575, oE) ::
 (nat_lit 576, tS 869 ["self", "pos"]) ::
 (nat_lit 577, tup []) ::
 (nat_lit 578, oF (mb 15 24) "StringIO.truncate") ::
 (nat_lit 579, oD "truncate" "StringIO.truncate" 866 379 2 2 0 3 574 tt 181 575 N (R 576) (R 577) (R 578) 871) ::
 (nat_lit 580, oG (mb 15 24) "StringIO.truncate" 3 (R 573) N N (S "io" 298) none 579) ::
 (nat_lit 581, tup [I (-1) 875]) ::
 (nat_lit 582, tup []) ::
 (nat_lit 583, oE) ::
 (nat_lit 584, tS 879 ["self", "size", "start", "stop"]) ::
 (nat_lit 585, tup []) ::
 (nat_lit 586, oF (mb 15 25) "StringIO.read") ::
 (nat_lit 587, oD "read" "StringIO.read" 876 382 2 2 0 3 582 tt 181 583 N (R 584) (R 585) (R 586) 883) ::
 (nat_lit 588, oG (mb 15 25) "StringIO.read" 3 (R 581) N N (S "io" 298) none 587) ::
 (nat_lit 589, tup [I (-1) 887]) ::
 (nat_lit 590, tup []) ::
 (nat_lit 591, oE) ::
 (nat_lit 592, tS 891 ["self", "size"]) ::
 (nat_lit 593, tup []) ::
 (nat_lit 594, oF (mb 15 26) "StringIO.readline") ::
 (nat_lit 595, oD "readline" "StringIO.readline" 888 396 2 2 0 3 590 tt 181 591 N (R 592) (R 593) (R 594) 893) ::
 (nat_lit 596, oG (mb 15 26) "StringIO.readline" 3 (R 589) N N (S "io" 298) none 595) ::
 (nat_lit 597, tup [I (-1) 897]) ::
 (nat_lit 598, tup []) ::
 (nat_lit 599, oE) ::
 (nat_lit 600, tS 901 ["self", "hint"]) ::
 (nat_lit 601, tup []) ::
 (nat_lit 602, oF (mb 15 27) "StringIO.readlines") ::
 (nat_lit 603, oD "readlines" "StringIO.readlines" 898 403 2 2 0 3 598 tt 181 599 N (R 600) (R 601) (R 602) 903) ::
 (nat_lit 604, oG (mb 15 27) "StringIO.readlines" 3 (R 597) N N (S "io" 298) none 603) ::
 (nat_lit 605, tup []) ::
 (nat_lit 606, oE) ::
 (nat_lit 607, tS 909 ["self"]) ::
 (nat_lit 608, tup []) ::
 (nat_lit 609, oF (mb 15 28) "StringIO.__iter__") ::
 (nat_lit 610, oD "__iter__" "StringIO.__iter__" 906 406 1 0 0 3 605 tt 181 606 N (R 607) (R 608) (R 609) 910) ::
 (nat_lit 611, oG (mb 15 28) "StringIO.__iter__" 3 N N N (S "io" 298) none 610) ::
 (nat_lit 612, tup []) ::
 (nat_lit 613, oE) ::
 (nat_lit 614, tS 916 ["self", "line"]) ::
 (nat_lit 615, tup []) ::
 (nat_lit 616, oF (mb 15 29) "StringIO.__next__") ::
 (nat_lit 617, oD "__next__" "StringIO.__next__" 913 410 1 0 0 3 612 tt 181 613 N (R 614) (R 615) (R 616) 918) ::
 (nat_lit 618, oG (mb 15 29) "StringIO.__next__" 3 N N N (S "io" 298) none 617) ::
 (nat_lit 619, tup []) ::
 (nat_lit 620, oE) ::
 (nat_lit 621, tS 924 ["self", "s", "n", "m", "start", "buf"]) ::
 (nat_lit 622, tup []) ::
 (nat_lit 623, oF (mb 15 30) "StringIO.write") ::
 (nat_lit 624, oD "write" "StringIO.write" 921 417 2 2 0 3 619 tt 181 620 N (R 621) (R 622) (R 623) 930) ::
 (nat_lit 625, oG (mb 15 30) "StringIO.write" 3 N N N (S "io" 298) none 624) ::
 (nat_lit 626, tup []) ::
 (nat_lit 627, oE) ::
 (nat_lit 628, tS 936 ["self", "lines"]) ::
 (nat_lit 629, tup []) ::
 (nat_lit 630, oF (mb 15 31) "StringIO.writelines") ::
 (nat_lit 631, oD "writelines" "StringIO.writelines" 933 436 2 2 0 3 626 tt 181 627 N (R 628) (R 629) (R 630) 938) ::
 (nat_lit 632, oG (mb 15 31) "StringIO.writelines" 3 N N N (S "io" 298) none 631) ::
 (nat_lit 633, tup []) ::
 (nat_lit 634, oE) ::
 (nat_lit 635, tS 944 ["self"]) ::
 (nat_lit 636, tup []) ::
 (nat_lit 637, oF (mb 15 32) "StringIO.__repr__") ::
 (nat_lit 638, oD "__repr__" "StringIO.__repr__" 941 439 1 0 0 3 633 tt 181 634 N (R 635) (R 636) (R 637) 945) ::
 (nat_lit 639, oG (mb 15 32) "StringIO.__repr__" 3 N N N (S "io" 298) none 638) ::
 (nat_lit 640, tS 948 ["__buf", "__newline", "__pos"]) ::
 (nat_lit 641, dic [E P "__module__" 675 (S "_io" 680), E P "__firstlineno__" 679 (I 235 678), E P "__init__" 692 (R 412), E P "_StringIO__translated" 701 (R 419), E P "_StringIO__check" 708 (R 426), E P "_StringIO__check_dot" 715 (R 433), E P "_StringIO__line" 730 (R 440), E P "closed" 738 (R 448), E P "line_buffering" 746 (R 456), E P "newlines" 754 (R 464), E P "encoding" 762 (R 472), E P "errors" 770 (R 480), E P "close" 777 (R 487), E P "__enter__" 784 (R 494), E P "__exit__" 792 (R 501), E P "readable" 799 (R 508), E P "writable" 806 (R 515), E P "seekable" 813 (R 522), E P "isatty" 820 (R 529), E P "flush" 827 (R 536), E P "fileno" 834 (R 543), E P "detach" 841 (R 550), E P "getvalue" 848 (R 557), E P "tell" 855 (R 564), E P "seek" 865 (R 572), E P "truncate" 873 (R 580), E P "read" 885 (R 588), E P "readline" 895 (R 596), E P "readlines" 905 (R 604), E P "__iter__" 912 (R 611), E P "__next__" 920 (R 618), E P "write" 932 (R 625), E P "writelines" 940 (R 632), E P "__repr__" 947 (R 639), E P "__static_attributes__" 951 (R 640), E P "__doc__" 952 N] 2) ::
 (nat_lit 642, ob (T "type") (Data.cls { name := "StringIO", bases := [R 165], mro := [R 642, R 165, R 138, T "object"], ns := 641, qualname := "StringIO", hasDict := true, slotNames := [], subclasses := [], abstract := false, collection := none, hasDel := false }) none #[some (R 398), none, some (S "StringIO" 668), some (S "StringIO" 676), some N, some tt]) ::
 (nat_lit 643, ob (T "super") (Data.fields [R 642, R 642, R 642].toArray) none #[]) ::
 (nat_lit 644, ob (T "builtin_function_or_method") (Data.fields [B "object.__init_subclass__", R 642].toArray) none #[]) ::
 (nat_lit 645, tup []) ::
 (nat_lit 646, oE) ::
 (nat_lit 647, tS 960 ["msg"]) ::
 (nat_lit 648, tup []) ::
 (nat_lit 649, oF (st 17) "sha256") ::
 (nat_lit 650, oD "sha256" "sha256" 957 442 1 0 0 3 645 tt 181 646 N (R 647) (R 648) (R 649) 961) ::
 (nat_lit 651, oG (st 17) "sha256" 3 N N N (S "embit.hashes" 955) none 650) ::
 (nat_lit 652, tup [T "Exception"]) ::
 (nat_lit 653, ob (T "builtin_function_or_method") (Data.fields [B "type.__prepare__", T "type"].toArray) none #[]) ::
 (nat_lit 654, dic [E P "__module__" 973 (S "embit.base" 964), E P "__qualname__" 975 (S "EmbitError" 974), E P "__firstlineno__" 977 (I 445 976), E P "__static_attributes__" 978 (R 659)] 4) ::
 (nat_lit 655, tup []) ::
 (nat_lit 656, oE) ::
 (nat_lit 657, oD "EmbitError" "EmbitError" 968 445 0 0 0 0 655 ff 181 656 N N N N 971) ::
 (nat_lit 658, ob (T "frame") Data.plain none #[some (R 657), some (R 3), some (R 654), none, some (S "embit.base" 964), none, some (R 0)]) ::
 (nat_lit 659, tup []) ::
 (nat_lit 660, dic [E P "__module__" 973 (S "embit.base" 964), E P "__firstlineno__" 977 (I 445 976), E P "__static_attributes__" 978 (R 659), E P "__weakref__" 980 (R 662), E P "__doc__" 981 N] 3) ::
 (nat_lit 661, ob (T "type") (Data.cls { name := "EmbitError", bases := [T "Exception"], mro := [R 661, T "Exception", T "BaseException", T "object"], ns := 660, qualname := "EmbitError", hasDict := true, slotNames := [], subclasses := [R 900], abstract := false, collection := none, hasDel := false }) none #[some (R 652), none, some (S "EmbitError" 966), some (S "EmbitError" 974), some (B "Exception.__new__"), some tt]) ::
 (nat_lit 662, ob (T "getset_descriptor") (Data.fields [S "__weakref__" 979, R 661, B "ExceptionGroup.__weakref__", N].toArray) none #[]) ::
 (nat_lit 663, ob (T "super") (Data.fields [R 661, R 661, R 661].toArray) none #[]) ::
 (nat_lit 664, ob (T "builtin_function_or_method") (Data.fields [B "object.__init_subclass__", R 661].toArray) none #[]) ::
 (nat_lit 665, tup []) ::
 (nat_lit 666, ob (T "builtin_function_or_method") (Data.fields [B "type.__prepare__", T "type"].toArray) none #[]) ::
 (nat_lit 667, dic [E P "__module__" 993 (S "embit.base" 964), E P "__qualname__" 995 (S "EmbitBase" 994), E P "__firstlineno__" 997 (I 447 996), E P "read_from" 1019 (R 680), E P "parse" 1041 (R 690), E P "write_to" 1051 (R 698), E P "serialize" 1061 (R 705), E P "to_string" 1071 (R 712), E P "from_string" 1093 (R 721), E P "__str__" 1100 (R 729), E P "__eq__" 1108 (R 736), E P "__ne__" 1116 (R 743), E P "__static_attributes__" 1117 (R 744)] 13) ::
 (nat_lit 668, tup []) ::
 (nat_lit 669, ob N (Data.fields [I 450 0, I 4 0, R 677, I 454 0, I 4 0, R 687, I 457 0, I 4 0, R 697, I 460 0, I 4 0, R 704, I 465 0, I 4 0, R 711, I 474 0, I 4 0, R 718, I 477 0, I 4 0, R 728, I 480 0, I 4 0, R 735, I 485 0, I 4 0, R 742].toArray) none #[]) ::
 (nat_lit 670, oD "EmbitBase" "EmbitBase" 988 447 0 0 0 0 668 ff 181 669 N N N N 991) ::
 (nat_lit 671, ob (T "frame") Data.plain none #[some (R 670), some (R 3), some (R 667), none, some (S "embit.base" 964), none, some (R 0)]) ::
 (nat_lit 672, tup []) ::
 (nat_lit 673, oE) ::
 (nat_lit 674, tS 1001 ["cls", "stream", "args", "kwargs"]) ::
 (nat_lit 675, tup []) ::
 (nat_lit 676, oF (mb 20 0) "EmbitBase.read_from") ::
 (nat_lit 677, oD "read_from" "EmbitBase.read_from" 998 449 2 0 0 15 672 tt 181 673 N (R 674) (R 675) (R 676) 1005) ::
 (nat_lit 678, oG (mb 20 0) "EmbitBase.read_from" 3 N N N (S "embit.base" 964) (some 681) 677) ::
 (nat_lit 679, dic [E P "__module__" 1008 (S "embit.base" 964), E P "__name__" 1011 (S "read_from" 1010), E P "__qualname__" 1014 (S "EmbitBase.read_from" 1013), E P "__doc__" 1016 N, E P "__annotations__" 1018 (R 681)] 5) ::
 (nat_lit 680, ob (T "classmethod") (Data.fields [R 678, ff].toArray) (some 679) #[]) ::
 (nat_lit 681, dic [] 0) ::
 (nat_lit 682, tup []) ::
 (nat_lit 683, oE) ::
 (nat_lit 684, tS 1023 ["cls", "s", "args", "kwargs"]) ::
 (nat_lit 685, tup []) ::
 (nat_lit 686, oF (mb 20 1) "EmbitBase.parse") ::
 (nat_lit 687, oD "parse" "EmbitBase.parse" 1020 453 2 0 0 15 682 tt 181 683 N (R 684) (R 685) (R 686) 1027) ::
 (nat_lit 688, oG (mb 20 1) "EmbitBase.parse" 3 N N N (S "embit.base" 964) (some 691) 687) ::
 (nat_lit 689, dic [E P "__module__" 1030 (S "embit.base" 964), E P "__name__" 1033 (S "parse" 1032), E P "__qualname__" 1036 (S "EmbitBase.parse" 1035), E P "__doc__" 1038 N, E P "__annotations__" 1040 (R 691)] 5) ::
 (nat_lit 690, ob (T "classmethod") (Data.fields [R 688, ff].toArray) (some 689) #[]) ::
 (nat_lit 691, dic [] 0) ::
 (nat_lit 692, tup []) ::
 (nat_lit 693, oE) ::
 (nat_lit 694, tS 1045 ["self", "stream", "args", "kwargs"]) ::
 (nat_lit 695, tup []) ::
 (nat_lit 696, oF (mb 20 2) "EmbitBase.write_to") ::
 (nat_lit 697, oD "write_to" "EmbitBase.write_to" 1042 457 2 0 0 15 692 tt 181 693 N (R 694) (R 695) (R 696) 1049) ::
 (nat_lit 698, oG (mb 20 2) "EmbitBase.write_to" 3 N N N (S "embit.base" 964) none 697) ::
 (nat_lit 699, tup []) ::
 (nat_lit 700, oE) ::
 (nat_lit 701, tS 1055 ["self", "args", "kwargs", "stream"]) ::
 (nat_lit 702, tup []) ::
 (nat_lit 703, oF (mb 20 3) "EmbitBase.serialize") ::
 (nat_lit 704, oD "serialize" "EmbitBase.serialize" 1052 460 1 0 0 15 699 tt 181 700 N (R 701) (R 702) (R 703) 1059) ::
 (nat_lit 705, oG (mb 20 3) "EmbitBase.serialize" 3 N N N (S "embit.base" 964) none 704) ::
 (nat_lit 706, tup []) ::
 (nat_lit 707, oE) ::
 (nat_lit 708, tS 1065 ["self", "args", "kwargs", "res"]) ::
 (nat_lit 709, tup []) ::
 (nat_lit 710, oF (mb 20 4) "EmbitBase.to_string") ::
 (nat_lit 711, oD "to_string" "EmbitBase.to_string" 1062 465 1 0 0 15 706 tt 181 707 N (R 708) (R 709) (R 710) 1069) ::
 (nat_lit 712, oG (mb 20 4) "EmbitBase.to_string" 3 N N N (S "embit.base" 964) none 711) ::
 (nat_lit 713, tup []) ::
 (nat_lit 714, oE) ::
 (nat_lit 715, tS 1075 ["cls", "s", "args", "kwargs"]) ::
 (nat_lit 716, tup []) ::
 (nat_lit 717, oF (mb 20 5) "EmbitBase.from_string") ::
 (nat_lit 718, oD "from_string" "EmbitBase.from_string" 1072 473 2 0 0 15 713 tt 181 714 N (R 715) (R 716) (R 717) 1079) ::
 (nat_lit 719, oG (mb 20 5) "EmbitBase.from_string" 3 N N N (S "embit.base" 964) (some 722) 718) ::
 (nat_lit 720, dic [E P "__module__" 1082 (S "embit.base" 964), E P "__name__" 1085 (S "from_string" 1084), E P "__qualname__" 1088 (S "EmbitBase.from_string" 1087), E P "__doc__" 1090 N, E P "__annotations__" 1092 (R 722)] 5) ::
 (nat_lit 721, ob (T "classmethod") (Data.fields [R 719, ff].toArray) (some 720) #[]) ::
 (nat_lit 722, dic [] 0) ::
 (nat_lit 723, tup []) ::
 (nat_lit 724, oE) ::
 (nat_lit 725, tS 1097 ["self"]) ::
 (nat_lit 726, tup []) ::
 (nat_lit 727, oF (mb 20 6) "EmbitBase.__str__") ::
 (nat_lit 728, oD "__str__" "EmbitBase.__str__" 1094 477 1 0 0 3 723 tt 181 724 N (R 725) (R 726) (R 727) 1098) ::
 (nat_lit 729, oG (mb 20 6) "EmbitBase.__str__" 3 N N N (S "embit.base" 964) none 728) ::
 (nat_lit 730, tup []) ::
 (nat_lit 731, oE) ::
 (nat_lit 732, tS 1104 ["self", "other"]) ::
 (nat_lit 733, tup []) ::
 (nat_lit 734, oF (mb 20 7) "EmbitBase.__eq__") ::
 (nat_lit 735, oD "__eq__" "EmbitBase.__eq__" 1101 480 2 0 0 3 730 tt 181 731 N (R 732) (R 733) (R 734) 1106) ::
 (nat_lit 736, oG (mb 20 7) "EmbitBase.__eq__" 3 N N N (S "embit.base" 964) none 735) ::
 (nat_lit 737, tup []) ::
 (nat_lit 738, oE) ::
 (nat_lit 739, tS 1112 ["self", "other"]) ::
 (nat_lit 740, tup []) ::
 (nat_lit 741, oF (mb 20 8) "EmbitBase.__ne__") ::
 (nat_lit 742, oD "__ne__" "EmbitBase.__ne__" 1109 485 2 0 0 3 737 tt 181 738 N (R 739) (R 740) (R 741) 1114) ::
 (nat_lit 743, oG (mb 20 8) "EmbitBase.__ne__" 3 N N N (S "embit.base" 964) none 742) ::
 (nat_lit 744, tup []) ::
 (nat_lit 745, dic [E P "__module__" 993 (S "embit.base" 964), E P "__firstlineno__" 997 (I 447 996), E P "read_from" 1019 (R 680), E P "parse" 1041 (R 690), E P "write_to" 1051 (R 698), E P "serialize" 1061 (R 705), E P "to_string" 1071 (R 712), E P "from_string" 1093 (R 721), E P "__str__" 1100 (R 729), E P "__eq__" 1108 (R 736), E P "__ne__" 1116 (R 743), E P "__static_attributes__" 1117 (R 744), E P "__dict__" 1119 (R 747), E P "__weakref__" 1121 (R 748), E P "__doc__" 1122 N, E P "__hash__" 1123 N] 5) ::
 (nat_lit 746, ob (T "type") (Data.cls { name := "EmbitBase", bases := [T "object"], mro := [R 746, T "object"], ns := 745, qualname := "EmbitBase", hasDict := true, slotNames := [], subclasses := [R 843, R 888, R 1061, R 1107, R 1143], abstract := false, collection := none, hasDel := false }) none #[none, none, some (S "EmbitBase" 986), some (S "EmbitBase" 994), some (B "object.__new__"), some tt]) ::
 (nat_lit 747, ob (T "getset_descriptor") (Data.fields [S "__dict__" 1118, R 746, B "function.__dict__", B "function.__dict__#set"].toArray) none #[]) ::
 (nat_lit 748, ob (T "getset_descriptor") (Data.fields [S "__weakref__" 1120, R 746, B "ExceptionGroup.__weakref__", N].toArray) none #[]) ::
 (nat_lit 749, ob (T "super") (Data.fields [R 746, R 746, R 746].toArray) none #[]) ::
 (nat_lit 750, ob (T "builtin_function_or_method") (Data.fields [B "object.__init_subclass__", R 746].toArray) none #[]) ::
 (nat_lit 751, dic [E P "main" 1126 (R 752), E P "test" 1172 (R 753), E P "regtest" 1218 (R 754), E P "signet" 1264 (R 755)] 4) ::
 (nat_lit 752, dic [E P "name" 1127 (S "Mainnet" 1128), E P "wif" 1129 (Y [128] 1130), E P "p2pkh" 1131 (Y [0] 1132), E P "p2sh" 1133 (Y [5] 1134), E P "bech32" 1135 (S "bc" 1136), E P "xprv" 1137 (Y [4, 136, 173, 228] 1138), E P "xpub" 1139 (Y [4, 136, 178, 30] 1140), E P "yprv" 1141 (Y [4, 157, 120, 120] 1142), E P "zprv" 1143 (Y [4, 178, 67, 12] 1144), E P "Yprv" 1145 (Y [2, 149, 176, 5] 1146), E P "Zprv" 1147 (Y [2, 170, 122, 153] 1148), E P "ypub" 1149 (Y [4, 157, 124, 178] 1150), E P "zpub" 1151 (Y [4, 178, 71, 70] 1152), E P "Ypub" 1153 (Y [2, 149, 180, 63] 1154), E P "Zpub" 1155 (Y [2, 170, 126, 211] 1156)] 15) ::
 (nat_lit 753, dic [E P "name" 1173 (S "Testnet" 1174), E P "wif" 1175 (Y [239] 1176), E P "p2pkh" 1177 (Y [111] 1178), E P "p2sh" 1179 (Y [196] 1180), E P "bech32" 1181 (S "tb" 1182), E P "xprv" 1183 (Y [4, 53, 131, 148] 1184), E P "xpub" 1185 (Y [4, 53, 135, 207] 1186), E P "yprv" 1187 (Y [4, 74, 78, 40] 1188), E P "zprv" 1189 (Y [4, 95, 24, 188] 1190), E P "Yprv" 1191 (Y [2, 66, 133, 181] 1192), E P "Zprv" 1193 (Y [2, 87, 80, 72] 1194), E P "ypub" 1195 (Y [4, 74, 82, 98] 1196), E P "zpub" 1197 (Y [4, 95, 28, 246] 1198), E P "Ypub" 1199 (Y [2, 66, 137, 239] 1200), E P "Zpub" 1201 (Y [2, 87, 84, 131] 1202)] 15) ::
 (nat_lit 754, dic [E P "name" 1219 (S "Regtest" 1220), E P "wif" 1221 (Y [239] 1222), E P "p2pkh" 1223 (Y [111] 1224), E P "p2sh" 1225 (Y [196] 1226), E P "bech32" 1227 (S "bcrt" 1228), E P "xprv" 1229 (Y [4, 53, 131, 148] 1230), E P "xpub" 1231 (Y [4, 53, 135, 207] 1232), E P "yprv" 1233 (Y [4, 74, 78, 40] 1234), E P "zprv" 1235 (Y [4, 95, 24, 188] 1236), E P "Yprv" 1237 (Y [2, 66, 133, 181] 1238), E P "Zprv" 1239 (Y [2, 87, 80, 72] 1240), E P "ypub" 1241 (Y [4, 74, 82, 98] 1242), E P "zpub" 1243 (Y [4, 95, 28, 246] 1244), E P "Ypub" 1245 (Y [2, 66, 137, 239] 1246), E P "Zpub" 1247 (Y [2, 87, 84, 131] 1248)] 15) ::
 (nat_lit 755, dic [E P "name" 1265 (S "Signet" 1266), E P "wif" 1267 (Y [239] 1268), E P "p2pkh" 1269 (Y [111] 1270), E P "p2sh" 1271 (Y [196] 1272), E P "bech32" 1273 (S "tb" 1274), E P "xprv" 1275 (Y [4, 53, 131, 148] 1276), E P "xpub" 1277 (Y [4, 53, 135, 207] 1278), E P "yprv" 1279 (Y [4, 74, 78, 40] 1280), E P "zprv" 1281 (Y [4, 95, 24, 188] 1282), E P "Yprv" 1283 (Y [2, 66, 133, 181] 1284), E P "Zprv" 1285 (Y [2, 87, 80, 72] 1286), E P "ypub" 1287 (Y [4, 74, 82, 98] 1288), E P "zpub" 1289 (Y [4, 95, 28, 246] 1290), E P "Ypub" 1291 (Y [2, 66, 137, 239] 1292), E P "Zpub" 1293 (Y [2, 87, 84, 131] 1294)] 15) ::
 (nat_lit 756, tup [R 746]) ::
 (nat_lit 757, ob (T "builtin_function_or_method") (Data.fields [B "type.__prepare__", T "type"].toArray) none #[]) ::
 (nat_lit 758, dic [E P "__module__" 1324 (S "embit.script" 1315), E P "__qualname__" 1326 (S "Script" 1325), E P "__firstlineno__" 1328 (I 489 1327), E P "__init__" 1337 (R 770), E P "address" 1347 (R 778), E P "push" 1355 (R 785), E P "script_type" 1362 (R 792), E P "write_to" 1371 (R 799), E P "read_from" 1391 (R 808), E P "from_address" 1411 (R 818), E P "__eq__" 1419 (R 826), E P "__ne__" 1427 (R 833), E P "__len__" 1434 (R 840), E P "__static_attributes__" 1436 (R 841)] 14) ::
 (nat_lit 759, tup []) ::
 (nat_lit 760, ob N (Data.fields [I 491 0, I 4 0, R 769, I 494 0, I 4 0, R 777, I 497 0, I 4 0, R 784, I 500 0, I 4 0, R 791, I 503 0, I 4 0, R 798, I 509 0, I 4 0, R 805, I 513 0, I 4 0, R 815, I 516 0, I 4 0, R 825, I 519 0, I 4 0, R 832, I 522 0, I 4 0, R 839].toArray) none #[]) ::
 (nat_lit 761, oD "Script" "Script" 1319 489 0 0 0 0 759 ff 181 760 N N N N 1322) ::
 (nat_lit 762, ob (T "frame") Data.plain none #[some (R 761), some (R 3), some (R 758), none, some (S "embit.script" 1315), none, some (R 0)]) ::
 (nat_lit 763, tup [Y [] 1329]) ::
 (nat_lit 764, tup []) ::
 (nat_lit 765, oE) ::
 (nat_lit 766, tS 1333 ["self", "data"]) ::
 (nat_lit 767, tup []) ::
 (nat_lit 768, oF (mb 23 0) "Script.__init__") ::
 (nat_lit 769, oD "__init__" "Script.__init__" 1330 491 2 0 0 3 764 tt 181 765 N (R 766) (R 767) (R 768) 1335) ::
 (nat_lit 770, oG (mb 23 0) "Script.__init__" 3 (R 763) N N (S "embit.script" 1315) none 769) ::
 (nat_lit 771, tup [R 752]) ::
 (nat_lit 772, tup []) ::
 (nat_lit 773, oE) ::
 (nat_lit 774, tS 1343 ["self", "network"]) ::
 (nat_lit 775, tup []) ::
 (nat_lit 776, oF (mb 23 1) "Script.address") ::
 (nat_lit 777, oD "address" "Script.address" 1340 494 2 0 0 3 772 tt 181 773 N (R 774) (R 775) (R 776) 1345) ::
 (nat_lit 778, oG (mb 23 1) "Script.address" 3 (R 771) N N (S "embit.script" 1315) none 777) ::
 (nat_lit 779, tup []) ::
 (nat_lit 780, oE) ::
 (nat_lit 781, tS 1351 ["self", "data"]) ::
 (nat_lit 782, tup []) ::
 (nat_lit 783, oF (mb 23 2) "Script.push") ::
 (nat_lit 784, oD "push" "Script.push" 1348 497 2 0 0 3 779 tt 181 780 N (R 781) (R 782) (R 783) 1353) ::
 (nat_lit 785, oG (mb 23 2) "Script.push" 3 N N N (S "embit.script" 1315) none 784) ::
 (nat_lit 786, tup []) ::
 (nat_lit 787, oE) ::
 (nat_lit 788, tS 1359 ["self"]) ::
 (nat_lit 789, tup []) ::
 (nat_lit 790, oF (mb 23 3) "Script.script_type") ::
 (nat_lit 791, oD "script_type" "Script.script_type" 1356 500 1 0 0 3 786 tt 181 787 N (R 788) (R 789) (R 790) 1360) ::
 (nat_lit 792, oG (mb 23 3) "Script.script_type" 3 N N N (S "embit.script" 1315) none 791) ::
 (nat_lit 793, tup []) ::
 (nat_lit 794, oE) ::
 (nat_lit 795, tS 1366 ["self", "stream", "res"]) ::
 (nat_lit 796, tup []) ::
 (nat_lit 797, oF (mb 23 4) "Script.write_to") ::
 (nat_lit 798, oD "write_to" "Script.write_to" 1363 503 2 0 0 3 793 tt 181 794 N (R 795) (R 796) (R 797) 1369) ::
 (nat_lit 799, oG (mb 23 4) "Script.write_to" 3 N N N (S "embit.script" 1315) none 798) ::
 (nat_lit 800, tup []) ::
 (nat_lit 801, oE) ::
 (nat_lit 802, tS 1375 ["cls", "stream"]) ::
 (nat_lit 803, tup []) ::
 (nat_lit 804, oF (mb 23 5) "Script.read_from") ::
 (nat_lit 805, oD "read_from" "Script.read_from" 1372 508 2 0 0 3 800 tt 181 801 N (R 802) (R 803) (R 804) 1377) ::
 (nat_lit 806, oG (mb 23 5) "Script.read_from" 3 N N N (S "embit.script" 1315) (some 809) 805) ::
 (nat_lit 807, dic [E P "__module__" 1380 (S "embit.script" 1315), E P "__name__" 1383 (S "read_from" 1382), E P "__qualname__" 1386 (S "Script.read_from" 1385), E P "__doc__" 1388 N, E P "__annotations__" 1390 (R 809)] 5) ::
 (nat_lit 808, ob (T "classmethod") (Data.fields [R 806, ff].toArray) (some 807) #[]) ::
 (nat_lit 809, dic [] 0) ::
 (nat_lit 810, tup []) ::
 (nat_lit 811, oE) ::
 (nat_lit 812, tS 1395 ["cls", "addr"]) ::
 (nat_lit 813, tup []) ::
 (nat_lit 814, oF (mb 23 6) "Script.from_address") ::
 (nat_lit 815, oD "from_address" "Script.from_address" 1392 512 2 0 0 3 810 tt 181 811 N (R 812) (R 813) (R 814) 1397) ::
 (nat_lit 816, oG (mb 23 6) "Script.from_address" 3 N N N (S "embit.script" 1315) (some 819) 815) ::
 (nat_lit 817, dic [E P "__module__" 1400 (S "embit.script" 1315), E P "__name__" 1403 (S "from_address" 1402), E P "__qualname__" 1406 (S "Script.from_address" 1405), E P "__doc__" 1408 N, E P "__annotations__" 1410 (R 819)] 5) ::
 (nat_lit 818, ob (T "classmethod") (Data.fields [R 816, ff].toArray) (some 817) #[]) ::
 (nat_lit 819, dic [] 0) ::
 (nat_lit 820, tup []) ::
 (nat_lit 821, oE) ::
 (nat_lit 822, tS 1415 ["self", "other"]) ::
 (nat_lit 823, tup []) ::
 (nat_lit 824, oF (mb 23 7) "Script.__eq__") ::
 (nat_lit 825, oD "__eq__" "Script.__eq__" 1412 516 2 0 0 3 820 tt 181 821 N (R 822) (R 823) (R 824) 1417) ::
 (nat_lit 826, oG (mb 23 7) "Script.__eq__" 3 N N N (S "embit.script" 1315) none 825) ::
 (nat_lit 827, tup []) ::
 (nat_lit 828, oE) ::
 (nat_lit 829, tS 1423 ["self", "other"]) ::
 (nat_lit 830, tup []) ::
 (nat_lit 831, oF (mb 23 8) "Script.__ne__") ::
 (nat_lit 832, oD "__ne__" "Script.__ne__" 1420 519 2 0 0 3 827 tt 181 828 N (R 829) (R 830) (R 831) 1425) ::
 (nat_lit 833, oG (mb 23 8) "Script.__ne__" 3 N N N (S "embit.script" 1315) none 832) ::
 (nat_lit 834, tup []) ::
 (nat_lit 835, oE) ::
 (nat_lit 836, tS 1431 ["self"]) ::
 (nat_lit 837, tup []) ::
 (nat_lit 838, oF (mb 23 9) "Script.__len__") ::
 (nat_lit 839, oD "__len__" "Script.__len__" 1428 522 1 0 0 3 834 tt 181 835 N (R 836) (R 837) (R 838) 1432) ::
 (nat_lit 840, oG (mb 23 9) "Script.__len__" 3 N N N (S "embit.script" 1315) none 839) ::
 (nat_lit 841, tS 1435 ["data"]) ::
 (nat_lit 842, dic [E P "__module__" 1324 (S "embit.script" 1315), E P "__firstlineno__" 1328 (I 489 1327), E P "__init__" 1337 (R 770), E P "address" 1347 (R 778), E P "push" 1355 (R 785), E P "script_type" 1362 (R 792), E P "write_to" 1371 (R 799), E P "read_from" 1391 (R 808), E P "from_address" 1411 (R 818), E P "__eq__" 1419 (R 826), E P "__ne__" 1427 (R 833), E P "__len__" 1434 (R 840), E P "__static_attributes__" 1436 (R 841), E P "__doc__" 1437 N, E P "__hash__" 1438 N] 3) ::
 (nat_lit 843, ob (T "type") (Data.cls { name := "Script", bases := [R 746], mro := [R 843, R 746, T "object"], ns := 842, qualname := "Script", hasDict := true, slotNames := [], subclasses := [], abstract := false, collection := none, hasDel := false }) none #[some (R 756), none, some (S "Script" 1317), some (S "Script" 1325), some (B "object.__new__"), some tt]) ::
 (nat_lit 844, ob (T "super") (Data.fields [R 843, R 843, R 843].toArray) none #[]) ::
 (nat_lit 845, ob (T "builtin_function_or_method") (Data.fields [B "object.__init_subclass__", R 843].toArray) none #[]) ::
 (nat_lit 846, tup [R 746]) ::
 (nat_lit 847, ob (T "builtin_function_or_method") (Data.fields [B "type.__prepare__", T "type"].toArray) none #[]) ::
 (nat_lit 848, dic [E P "__module__" 1448 (S "embit.script" 1315), E P "__qualname__" 1450 (S "Witness" 1449), E P "__firstlineno__" 1452 (I 524 1451), E P "__init__" 1460 (R 861), E P "write_to" 1470 (R 868), E P "read_from" 1490 (R 877), E P "__len__" 1497 (R 885), E P "__static_attributes__" 1499 (R 886)] 8) ::
 (nat_lit 849, tup []) ::
 (nat_lit 850, ob N (Data.fields [I 526 0, I 4 0, R 860, I 529 0, I 4 0, R 867, I 537 0, I 4 0, R 874, I 540 0, I 4 0, R 884].toArray) none #[]) ::
 (nat_lit 851, oD "Witness" "Witness" 1443 524 0 0 0 0 849 ff 181 850 N N N N 1446) ::
 (nat_lit 852, ob (T "frame") Data.plain none #[some (R 851), some (R 3), some (R 848), none, some (S "embit.script" 1315), none, some (R 0)]) ::
 (nat_lit 853, ob (T "list") (Data.seq [].toArray 0) none #[]) ::
 (nat_lit 854, tup [R 853]) ::
 (nat_lit 855, tup []) ::
 (nat_lit 856, oE) ::
 (nat_lit 857, tS 1456 ["self", "items"]) ::
 (nat_lit 858, tup []) ::
 (nat_lit 859, oF (mb 24 0) "Witness.__init__") ::
 (nat_lit 860, oD "__init__" "Witness.__init__" 1453 526 2 0 0 3 855 tt 181 856 N (R 857) (R 858) (R 859) 1458) ::
 (nat_lit 861, oG (mb 24 0) "Witness.__init__" 3 (R 854) N N (S "embit.script" 1315) none 860) ::
 (nat_lit 862, tup []) ::
 (nat_lit 863, oE) ::
 (nat_lit 864, tS 1464 ["self", "stream", "res", "item"]) ::
 (nat_lit 865, tup []) ::
 (nat_lit 866, oF (mb 24 1) "Witness.write_to") ::
 (nat_lit 867, oD "write_to" "Witness.write_to" 1461 529 2 0 0 3 862 tt 181 863 N (R 864) (R 865) (R 866) 1468) ::
 (nat_lit 868, oG (mb 24 1) "Witness.write_to" 3 N N N (S "embit.script" 1315) none 867) ::
 (nat_lit 869, tup []) ::
 (nat_lit 870, oE) ::
 (nat_lit 871, tS 1474 ["cls", "stream"]) ::
 (nat_lit 872, tup []) ::
 (nat_lit 873, oF (mb 24 2) "Witness.read_from") ::
 (nat_lit 874, oD "read_from" "Witness.read_from" 1471 536 2 0 0 3 869 tt 181 870 N (R 871) (R 872) (R 873) 1476) ::
 (nat_lit 875, oG (mb 24 2) "Witness.read_from" 3 N N N (S "embit.script" 1315) (some 878) 874) ::
 (nat_lit 876, dic [E P "__module__" 1479 (S "embit.script" 1315), E P "__name__" 1482 (S "read_from" 1481), E P "__qualname__" 1485 (S "Witness.read_from" 1484), E P "__doc__" 1487 N, E P "__annotations__" 1489 (R 878)] 5) ::
 (nat_lit 877, ob (T "classmethod") (Data.fields [R 875, ff].toArray) (some 876) #[]) ::
 (nat_lit 878, dic [] 0) ::
 (nat_lit 879, tup []) ::
 (nat_lit 880, oE) ::
 (nat_lit 881, tS 1494 ["self"]) ::
 (nat_lit 882, tup []) ::
 (nat_lit 883, oF (mb 24 3) "Witness.__len__") ::
 (nat_lit 884, oD "__len__" "Witness.__len__" 1491 540 1 0 0 3 879 tt 181 880 N (R 881) (R 882) (R 883) 1495) ::
 (nat_lit 885, oG (mb 24 3) "Witness.__len__" 3 N N N (S "embit.script" 1315) none 884) ::
 (nat_lit 886, tS 1498 ["items"]) ::
 (nat_lit 887, dic [E P "__module__" 1448 (S "embit.script" 1315), E P "__firstlineno__" 1452 (I 524 1451), E P "__init__" 1460 (R 861), E P "write_to" 1470 (R 868), E P "read_from" 1490 (R 877), E P "__len__" 1497 (R 885), E P "__static_attributes__" 1499 (R 886), E P "__doc__" 1500 N] 2) ::
 (nat_lit 888, ob (T "type") (Data.cls { name := "Witness", bases := [R 746], mro := [R 888, R 746, T "object"], ns := 887, qualname := "Witness", hasDict := true, slotNames := [], subclasses := [], abstract := false, collection := none, hasDel := false }) none #[some (R 846), none, some (S "Witness" 1441), some (S "Witness" 1449), some (B "object.__new__"), some tt]) ::
 (nat_lit 889, ob (T "super") (Data.fields [R 888, R 888, R 888].toArray) none #[]) ::
 (nat_lit 890, ob (T "builtin_function_or_method") (Data.fields [B "object.__init_subclass__", R 888].toArray) none #[]) ::
 (nat_lit 891, tup [R 661]) ::
 (nat_lit 892, ob (T "builtin_function_or_method") (Data.fields [B "type.__prepare__", T "type"].toArray) none #[]) ::
 (nat_lit 893, dic [E P "__module__" 1512 (S "embit.transaction" 1503), E P "__qualname__" 1514 (S "TransactionError" 1513), E P "__firstlineno__" 1516 (I 543 1515), E P "__static_attributes__" 1517 (R 898)] 4) ::
 (nat_lit 894, tup []) ::
 (nat_lit 895, oE) ::
 (nat_lit 896, oD "TransactionError" "TransactionError" 1507 543 0 0 0 0 894 ff 181 895 N N N N 1510) ::
 (nat_lit 897, ob (T "frame") Data.plain none #[some (R 896), some (R 3), some (R 893), none, some (S "embit.transaction" 1503), none, some (R 0)]) ::
 (nat_lit 898, tup []) ::
 (nat_lit 899, dic [E P "__module__" 1512 (S "embit.transaction" 1503), E P "__firstlineno__" 1516 (I 543 1515), E P "__static_attributes__" 1517 (R 898), E P "__doc__" 1518 N] 2) ::
 (nat_lit 900, ob (T "type") (Data.cls { name := "TransactionError", bases := [R 661], mro := [R 900, R 661, T "Exception", T "BaseException", T "object"], ns := 899, qualname := "TransactionError", hasDict := true, slotNames := [], subclasses := [], abstract := false, collection := none, hasDel := false }) none #[some (R 891), none, some (S "TransactionError" 1505), some (S "TransactionError" 1513), some (B "Exception.__new__"), some tt]) ::
 (nat_lit 901, ob (T "super") (Data.fields [R 900, R 900, R 900].toArray) none #[]) ::
 (nat_lit 902, ob (T "builtin_function_or_method") (Data.fields [B "object.__init_subclass__", R 900].toArray) none #[]) ::
 (nat_lit 903, tup []) ::
 (nat_lit 904, ob (T "builtin_function_or_method") (Data.fields [B "type.__prepare__", T "type"].toArray) none #[]) ::
 (nat_lit 905, dic [E P "__module__" 1528 (S "embit.transaction" 1503), E P "__qualname__" 1530 (S "SIGHASH" 1529), E P "__firstlineno__" 1532 (I 545 1531), E P "DEFAULT" 1534 (I 0 1533), E P "ALL" 1536 (I 1 1535), E P "NONE" 1538 (I 2 1537), E P "SINGLE" 1540 (I 3 1539), E P "ANYONECANPAY" 1542 (I 128 1541), E P "check" 1563 (R 918), E P "__static_attributes__" 1564 (R 920)] 10) ::
 (nat_lit 906, tup []) ::
 (nat_lit 907, ob N (Data.fields [I 553 0, I 4 0, R 915].toArray) none #[]) ::
 (nat_lit 908, oD "SIGHASH" "SIGHASH" 1523 545 0 0 0 0 906 ff 181 907 N N N N 1526) ::
 (nat_lit 909, ob (T "frame") Data.plain none #[some (R 908), some (R 3), some (R 905), none, some (S "embit.transaction" 1503), none, some (R 0)]) ::
 (nat_lit 910, tup []) ::
 (nat_lit 911, oE) ::
 (nat_lit 912, tS 1546 ["cls", "sighash", "anyonecanpay"]) ::
 (nat_lit 913, tup []) ::
 (nat_lit 914, oF (mb 27 5) "SIGHASH.check") ::
 (nat_lit 915, oD "check" "SIGHASH.check" 1543 552 2 0 0 3 910 tt 181 911 N (R 912) (R 913) (R 914) 1549) ::
 (nat_lit 916, oG (mb 27 5) "SIGHASH.check" 3 N N N (S "embit.transaction" 1503) (some 919) 915) ::
 (nat_lit 917, dic [E P "__module__" 1552 (S "embit.transaction" 1503), E P "__name__" 1555 (S "check" 1554), E P "__qualname__" 1558 (S "SIGHASH.check" 1557), E P "__doc__" 1560 N, E P "__annotations__" 1562 (R 919)] 5) ::
 (nat_lit 918, ob (T "classmethod") (Data.fields [R 916, ff].toArray) (some 917) #[]) ::
 (nat_lit 919, dic [] 0) ::
 (nat_lit 920, tup []) ::
 (nat_lit 921, dic [E P "__module__" 1528 (S "embit.transaction" 1503), E P "__firstlineno__" 1532 (I 545 1531), E P "DEFAULT" 1534 (I 0 1533), E P "ALL" 1536 (I 1 1535), E P "NONE" 1538 (I 2 1537), E P "SINGLE" 1540 (I 3 1539), E P "ANYONECANPAY" 1542 (I 128 1541), E P "check" 1563 (R 918), E P "__static_attributes__" 1564 (R 920), E P "__dict__" 1566 (R 923), E P "__weakref__" 1568 (R 924), E P "__doc__" 1569 N] 4) ::
 (nat_lit 922, ob (T "type") (Data.cls { name := "SIGHASH", bases := [T "object"], mro := [R 922, T "object"], ns := 921, qualname := "SIGHASH", hasDict := true, slotNames := [], subclasses := [], abstract := false, collection := none, hasDel := false }) none #[none, none, some (S "SIGHASH" 1521), some (S "SIGHASH" 1529), some (B "object.__new__"), some tt]) ::
 (nat_lit 923, ob (T "getset_descriptor") (Data.fields [S "__dict__" 1565, R 922, B "function.__dict__", B "function.__dict__#set"].toArray) none #[]) ::
 (nat_lit 924, ob (T "getset_descriptor") (Data.fields [S "__weakref__" 1567, R 922, B "ExceptionGroup.__weakref__", N].toArray) none #[]) ::
 (nat_lit 925, ob (T "super") (Data.fields [R 922, R 922, R 922].toArray) none #[]) ::
 (nat_lit 926, ob (T "builtin_function_or_method") (Data.fields [B "object.__init_subclass__", R 922].toArray) none #[]) ::
 (nat_lit 927, tup [R 746]) ::
 (nat_lit 928, ob (T "builtin_function_or_method") (Data.fields [B "type.__prepare__", T "type"].toArray) none #[]) ::
 (nat_lit 929, dic [E P "__module__" 1579 (S "embit.transaction" 1503), E P "__qualname__" 1581 (S "Transaction" 1580), E P "__firstlineno__" 1583 (I 561 1582), E P "__init__" 1596 (R 943), E P "clear_cache" 1603 (R 950), E P "is_segwit" 1612 (R 958), E P "write_to" 1623 (R 965), E P "hash" 1634 (R 972), E P "txid" 1641 (R 979), E P "read_vout" 1662 (R 988), E P "read_from" 1682 (R 998), E P "hash_prevouts" 1691 (R 1006), E P "hash_sequence" 1700 (R 1013), E P "hash_outputs" 1709 (R 1020), E P "hash_amounts" 1717 (R 1027), E P "hash_script_pubkeys" 1725 (R 1034), E P "sighash_taproot" 1744 (R 1042), E P "sighash_segwit" 1761 (R 1050), E P "sighash_legacy" 1779 (R 1058), E P "__static_attributes__" 1789 (R 1059)] 20) ::
 (nat_lit 930, tup []) ::
 (nat_lit 931, ob N (Data.fields [I 563 0, I 4 0, R 942, I 570 0, I 4 0, R 949, I 578 0, I 4 0, R 956, I 584 0, I 4 0, R 964, I 600 0, I 4 0, R 971, I 613 0, I 4 0, R 978, I 617 0, I 4 0, R 985, I 621 0, I 4 0, R 995, I 624 0, I 4 0, R 1005, I 633 0, I 4 0, R 1012, I 641 0, I 4 0, R 1019, I 649 0, I 4 0, R 1026, I 652 0, I 4 0, R 1033, I 655 0, I 4 0, R 1041, I 658 0, I 4 0, R 1049, I 691 0, I 4 0, R 1057].toArray) none #[]) ::
 (nat_lit 932, oD "Transaction" "Transaction" 1574 561 0 0 0 0 930 ff 181 931 N N N N 1577) ::
 (nat_lit 933, ob (T "frame") Data.plain none #[some (R 932), some (R 3), some (R 929), none, some (S "embit.transaction" 1503), none, some (R 0)]) ::
 (nat_lit 934, ob (T "list") (Data.seq [].toArray 0) none #[]) ::
 (nat_lit 935, ob (T "list") (Data.seq [].toArray 0) none #[]) ::
 (nat_lit 936, tup [I 2 1584, R 934, R 935, I 0 1585]) ::
 (nat_lit 937, tup []) ::
 (nat_lit 938, oE) ::
 (nat_lit 939, tS 1589 ["self", "version", "vin", "vout", "locktime"]) ::
 (nat_lit 940, tup []) ::
 (nat_lit 941, oF (mb 28 0) "Transaction.__init__") ::
 (nat_lit 942, oD "__init__" "Transaction.__init__" 1586 563 5 0 0 3 937 tt 181 938 N (R 939) (R 940) (R 941) 1594) ::
 (nat_lit 943, oG (mb 28 0) "Transaction.__init__" 3 (R 936) N N (S "embit.transaction" 1503) none 942) ::
 (nat_lit 944, tup []) ::
 (nat_lit 945, oE) ::
 (nat_lit 946, tS 1600 ["self"]) ::
 (nat_lit 947, tup []) ::
 (nat_lit 948, oF (mb 28 1) "Transaction.clear_cache") ::
 (nat_lit 949, oD "clear_cache" "Transaction.clear_cache" 1597 570 1 0 0 3 944 tt 181 945 N (R 946) (R 947) (R 948) 1601) ::
 (nat_lit 950, oG (mb 28 1) "Transaction.clear_cache" 3 N N N (S "embit.transaction" 1503) none 949) ::
 (nat_lit 951, tup []) ::
 (nat_lit 952, oE) ::
 (nat_lit 953, tS 1607 ["self", "inp"]) ::
 (nat_lit 954, tup []) ::
 (nat_lit 955, oF (mb 28 2) "Transaction.is_segwit") ::
 (nat_lit 956, oD "is_segwit" "Transaction.is_segwit" 1604 577 1 0 0 3 951 tt 181 952 N (R 953) (R 954) (R 955) 1609) ::
 (nat_lit 957, oG (mb 28 2) "Transaction.is_segwit" 3 N N N (S "embit.transaction" 1503) none 956) ::
 (nat_lit 958, ob (T "property") (Data.fields [R 957, N, N, N, S "is_segwit" 1612, ff].toArray) none #[]) ::
 (nat_lit 959, tup []) ::
 (nat_lit 960, oE) ::
 (nat_lit 961, tS 1616 ["self", "stream", "res", "inp", "out"]) ::
 (nat_lit 962, tup []) ::
 (nat_lit 963, oF (mb 28 3) "Transaction.write_to") ::
 (nat_lit 964, oD "write_to" "Transaction.write_to" 1613 584 2 0 0 3 959 tt 181 960 N (R 961) (R 962) (R 963) 1621) ::
 (nat_lit 965, oG (mb 28 3) "Transaction.write_to" 3 N N N (S "embit.transaction" 1503) none 964) ::
 (nat_lit 966, tup []) ::
 (nat_lit 967, oE) ::
 (nat_lit 968, tS 1627 ["self", "h", "inp", "out", "hsh"]) ::
 (nat_lit 969, tup []) ::
 (nat_lit 970, oF (mb 28 4) "Transaction.hash") ::
 (nat_lit 971, oD "hash" "Transaction.hash" 1624 600 1 0 0 3 966 tt 181 967 N (R 968) (R 969) (R 970) 1632) ::
 (nat_lit 972, oG (mb 28 4) "Transaction.hash" 3 N N N (S "embit.transaction" 1503) none 971) ::
 (nat_lit 973, tup []) ::
 (nat_lit 974, oE) ::
 (nat_lit 975, tS 1638 ["self"]) ::
 (nat_lit 976, tup []) ::
 (nat_lit 977, oF (mb 28 5) "Transaction.txid") ::
 (nat_lit 978, oD "txid" "Transaction.txid" 1635 613 1 0 0 3 973 tt 181 974 N (R 975) (R 976) (R 977) 1639) ::
 (nat_lit 979, oG (mb 28 5) "Transaction.txid" 3 N N N (S "embit.transaction" 1503) none 978) ::
 (nat_lit 980, tup []) ::
 (nat_lit 981, oE) ::
 (nat_lit 982, tS 1645 ["cls", "stream", "idx"]) ::
 (nat_lit 983, tup []) ::
 (nat_lit 984, oF (mb 28 6) "Transaction.read_vout") ::
 (nat_lit 985, oD "read_vout" "Transaction.read_vout" 1642 616 3 0 0 3 980 tt 181 981 N (R 982) (R 983) (R 984) 1648) ::
 (nat_lit 986, oG (mb 28 6) "Transaction.read_vout" 3 N N N (S "embit.transaction" 1503) (some 989) 985) ::
 (nat_lit 987, dic [E P "__module__" 1651 (S "embit.transaction" 1503), E P "__name__" 1654 (S "read_vout" 1653), E P "__qualname__" 1657 (S "Transaction.read_vout" 1656), E P "__doc__" 1659 N, E P "__annotations__" 1661 (R 989)] 5) ::
 (nat_lit 988, ob (T "classmethod") (Data.fields [R 986, ff].toArray) (some 987) #[]) ::
 (nat_lit 989, dic [] 0) ::
 (nat_lit 990, tup []) ::
 (nat_lit 991, oE) ::
 (nat_lit 992, tS 1666 ["cls", "stream"]) ::
 (nat_lit 993, tup []) ::
 (nat_lit 994, oF (mb 28 7) "Transaction.read_from") ::
 (nat_lit 995, oD "read_from" "Transaction.read_from" 1663 620 2 0 0 3 990 tt 181 991 N (R 992) (R 993) (R 994) 1668) ::
 (nat_lit 996, oG (mb 28 7) "Transaction.read_from" 3 N N N (S "embit.transaction" 1503) (some 999) 995) ::
 (nat_lit 997, dic [E P "__module__" 1671 (S "embit.transaction" 1503), E P "__name__" 1674 (S "read_from" 1673), E P "__qualname__" 1677 (S "Transaction.read_from" 1676), E P "__doc__" 1679 N, E P "__annotations__" 1681 (R 999)] 5) ::
 (nat_lit 998, ob (T "classmethod") (Data.fields [R 996, ff].toArray) (some 997) #[]) ::
 (nat_lit 999, dic [] 0) ::
 (nat_lit 1000, tup []) ::
 (nat_lit 1001, oE) ::
 (nat_lit 1002, tS 1686 ["self", "h", "inp"]) ::
 (nat_lit 1003, tup []) ::
 (nat_lit 1004, oF (mb 28 8) "Transaction.hash_prevouts") ::
 (nat_lit 1005, oD "hash_prevouts" "Transaction.hash_prevouts" 1683 624 1 0 0 3 1000 tt 181 1001 N (R 1002) (R 1003) (R 1004) 1689) ::
 (nat_lit 1006, oG (mb 28 8) "Transaction.hash_prevouts" 3 N N N (S "embit.transaction" 1503) none 1005) ::
 (nat_lit 1007, tup []) ::
 (nat_lit 1008, oE) ::
 (nat_lit 1009, tS 1695 ["self", "h", "inp"]) ::
 (nat_lit 1010, tup []) ::
 (nat_lit 1011, oF (mb 28 9) "Transaction.hash_sequence") ::
 (nat_lit 1012, oD "hash_sequence" "Transaction.hash_sequence" 1692 633 1 0 0 3 1007 tt 181 1008 N (R 1009) (R 1010) (R 1011) 1698) ::
 (nat_lit 1013, oG (mb 28 9) "Transaction.hash_sequence" 3 N N N (S "embit.transaction" 1503) none 1012) ::
 (nat_lit 1014, tup []) ::
 (nat_lit 1015, oE) ::
 (nat_lit 1016, tS 1704 ["self", "h", "out"]) ::
 (nat_lit 1017, tup []) ::
 (nat_lit 1018, oF (mb 28 10) "Transaction.hash_outputs") ::
 (nat_lit 1019, oD "hash_outputs" "Transaction.hash_outputs" 1701 641 1 0 0 3 1014 tt 181 1015 N (R 1016) (R 1017) (R 1018) 1707) ::
 (nat_lit 1020, oG (mb 28 10) "Transaction.hash_outputs" 3 N N N (S "embit.transaction" 1503) none 1019) ::
 (nat_lit 1021, tup []) ::
 (nat_lit 1022, oE) ::
 (nat_lit 1023, tS 1713 ["self", "amounts"]) ::
 (nat_lit 1024, tup []) ::
 (nat_lit 1025, oF (mb 28 11) "Transaction.hash_amounts") ::
 (nat_lit 1026, oD "hash_amounts" "Transaction.hash_amounts" 1710 649 2 0 0 3 1021 tt 181 1022 N (R 1023) (R 1024) (R 1025) 1715) ::
 (nat_lit 1027, oG (mb 28 11) "Transaction.hash_amounts" 3 N N N (S "embit.transaction" 1503) none 1026) ::
 (nat_lit 1028, tup []) ::
 (nat_lit 1029, oE) ::
 (nat_lit 1030, tS 1721 ["self", "script_pubkeys"]) ::
 (nat_lit 1031, tup []) ::
 (nat_lit 1032, oF (mb 28 12) "Transaction.hash_script_pubkeys") ::
 (nat_lit 1033, oD "hash_script_pubkeys" "Transaction.hash_script_pubkeys" 1718 652 2 0 0 3 1028 tt 181 1029 N (R 1030) (R 1031) (R 1032) 1723) ::
 (nat_lit 1034, oG (mb 28 12) "Transaction.hash_script_pubkeys" 3 N N N (S "embit.transaction" 1503) none 1033) ::
 (nat_lit 1035, tup [I 0 1533, I 0 1727, N, N, I 192 1728, N]) ::
 (nat_lit 1036, tup []) ::
 (nat_lit 1037, oE) ::
 (nat_lit 1038, tS 1732 ["self", "input_index", "script_pubkeys", "values", "sighash", "ext_flag", "annex", "script", "leaf_version", "codeseparator_pos"]) ::
 (nat_lit 1039, tup []) ::
 (nat_lit 1040, oF (mb 28 13) "Transaction.sighash_taproot") ::
 (nat_lit 1041, oD "sighash_taproot" "Transaction.sighash_taproot" 1729 655 10 0 0 3 1036 tt 181 1037 N (R 1038) (R 1039) (R 1040) 1742) ::
 (nat_lit 1042, oG (mb 28 13) "Transaction.sighash_taproot" 3 (R 1035) N N (S "embit.transaction" 1503) none 1041) ::
 (nat_lit 1043, tup [I 1 1535]) ::
 (nat_lit 1044, tup []) ::
 (nat_lit 1045, oE) ::
 (nat_lit 1046, tS 1749 ["self", "input_index", "script_pubkey", "value", "sighash", "sh", "anyonecanpay", "inp", "zero", "h"]) ::
 (nat_lit 1047, tup []) ::
 (nat_lit 1048, oF (mb 28 14) "Transaction.sighash_segwit") ::
 (nat_lit 1049, oD "sighash_segwit" "Transaction.sighash_segwit" 1746 658 5 0 0 3 1044 tt 181 1045 N (R 1046) (R 1047) (R 1048) 1759) ::
 (nat_lit 1050, oG (mb 28 14) "Transaction.sighash_segwit" 3 (R 1043) N N (S "embit.transaction" 1503) none 1049) ::
 (nat_lit 1051, tup [I 1 1535]) ::
 (nat_lit 1052, tup []) ::
 (nat_lit 1053, oE) ::
 (nat_lit 1054, tS 1766 ["self", "input_index", "script_pubkey", "sighash", "sh", "anyonecanpay", "h", "i", "inp", "empty", "out"]) ::
 (nat_lit 1055, tup []) ::
 (nat_lit 1056, oF (mb 28 15) "Transaction.sighash_legacy") ::
 (nat_lit 1057, oD "sighash_legacy" "Transaction.sighash_legacy" 1763 691 4 0 0 3 1052 tt 181 1053 N (R 1054) (R 1055) (R 1056) 1777) ::
 (nat_lit 1058, oG (mb 28 15) "Transaction.sighash_legacy" 3 (R 1051) N N (S "embit.transaction" 1503) none 1057) ::
 (nat_lit 1059, tS 1780 ["_hash_amounts", "_hash_outputs", "_hash_prevouts", "_hash_script_pubkeys", "_hash_sequence", "locktime", "version", "vin", "vout"]) ::
 (nat_lit 1060, dic [E P "__module__" 1579 (S "embit.transaction" 1503), E P "__firstlineno__" 1583 (I 561 1582), E P "__init__" 1596 (R 943), E P "clear_cache" 1603 (R 950), E P "is_segwit" 1612 (R 958), E P "write_to" 1623 (R 965), E P "hash" 1634 (R 972), E P "txid" 1641 (R 979), E P "read_vout" 1662 (R 988), E P "read_from" 1682 (R 998), E P "hash_prevouts" 1691 (R 1006), E P "hash_sequence" 1700 (R 1013), E P "hash_outputs" 1709 (R 1020), E P "hash_amounts" 1717 (R 1027), E P "hash_script_pubkeys" 1725 (R 1034), E P "sighash_taproot" 1744 (R 1042), E P "sighash_segwit" 1761 (R 1050), E P "sighash_legacy" 1779 (R 1058), E P "__static_attributes__" 1789 (R 1059), E P "__doc__" 1790 N] 2) ::
 (nat_lit 1061, ob (T "type") (Data.cls { name := "Transaction", bases := [R 746], mro := [R 1061, R 746, T "object"], ns := 1060, qualname := "Transaction", hasDict := true, slotNames := [], subclasses := [], abstract := false, collection := none, hasDel := false }) none #[some (R 927), none, some (S "Transaction" 1572), some (S "Transaction" 1580), some (B "object.__new__"), some tt]) ::
 (nat_lit 1062, ob (T "super") (Data.fields [R 1061, R 1061, R 1061].toArray) none #[]) ::
 (nat_lit 1063, ob (T "builtin_function_or_method") (Data.fields [B "object.__init_subclass__", R 1061].toArray) none #[]) ::
 (nat_lit 1064, tup [R 746]) ::
 (nat_lit 1065, ob (T "builtin_function_or_method") (Data.fields [B "type.__prepare__", T "type"].toArray) none #[]) ::
 (nat_lit 1066, dic [E P "__module__" 1800 (S "embit.transaction" 1503), E P "__qualname__" 1802 (S "TransactionInput" 1801), E P "__firstlineno__" 1804 (I 728 1803), E P "__init__" 1817 (R 1078), E P "is_segwit" 1825 (R 1086), E P "write_to" 1840 (R 1094), E P "read_from" 1860 (R 1103), E P "__static_attributes__" 1866 (R 1105)] 8) ::
 (nat_lit 1067, tup []) ::
 (nat_lit 1068, ob N (Data.fields [I 730 0, I 4 0, R 1077, I 742 0, I 4 0, R 1084, I 745 0, I 4 0, R 1093, I 761 0, I 4 0, R 1100].toArray) none #[]) ::
 (nat_lit 1069, oD "TransactionInput" "TransactionInput" 1795 728 0 0 0 0 1067 ff 181 1068 N N N N 1798) ::
 (nat_lit 1070, ob (T "frame") Data.plain none #[some (R 1069), some (R 3), some (R 1066), none, some (S "embit.transaction" 1503), none, some (R 0)]) ::
 (nat_lit 1071, tup [N, I 4294967295 1805, N]) ::
 (nat_lit 1072, tup []) ::
 (nat_lit 1073, oE) ::
 (nat_lit 1074, tS 1809 ["self", "txid", "vout", "script_sig", "sequence", "witness"]) ::
 (nat_lit 1075, tup []) ::
 (nat_lit 1076, oF (mb 29 0) "TransactionInput.__init__") ::
 (nat_lit 1077, oD "__init__" "TransactionInput.__init__" 1806 730 6 0 0 3 1072 tt 181 1073 N (R 1074) (R 1075) (R 1076) 1815) ::
 (nat_lit 1078, oG (mb 29 0) "TransactionInput.__init__" 3 (R 1071) N N (S "embit.transaction" 1503) none 1077) ::
 (nat_lit 1079, tup []) ::
 (nat_lit 1080, oE) ::
 (nat_lit 1081, tS 1821 ["self"]) ::
 (nat_lit 1082, tup []) ::
 (nat_lit 1083, oF (mb 29 1) "TransactionInput.is_segwit") ::
 (nat_lit 1084, oD "is_segwit" "TransactionInput.is_segwit" 1818 741 1 0 0 3 1079 tt 181 1080 N (R 1081) (R 1082) (R 1083) 1822) ::
 (nat_lit 1085, oG (mb 29 1) "TransactionInput.is_segwit" 3 N N N (S "embit.transaction" 1503) none 1084) ::
 (nat_lit 1086, ob (T "property") (Data.fields [R 1085, N, N, N, S "is_segwit" 1825, ff].toArray) none #[]) ::
 (nat_lit 1087, tup [N, I 1 1535]) ::
 (nat_lit 1088, tup []) ::
 (nat_lit 1089, oE) ::
 (nat_lit 1090, tS 1830 ["self", "stream", "script_sig", "sighash", "sh", "anyonecanpay", "sequence", "res"]) ::
 (nat_lit 1091, tup []) ::
 (nat_lit 1092, oF (mb 29 2) "TransactionInput.write_to") ::
 (nat_lit 1093, oD "write_to" "TransactionInput.write_to" 1827 745 4 0 0 3 1088 tt 181 1089 N (R 1090) (R 1091) (R 1092) 1838) ::
 (nat_lit 1094, oG (mb 29 2) "TransactionInput.write_to" 3 (R 1087) N N (S "embit.transaction" 1503) none 1093) ::
 (nat_lit 1095, tup []) ::
 (nat_lit 1096, oE) ::
 (nat_lit 1097, tS 1844 ["cls", "stream"]) ::
 (nat_lit 1098, tup []) ::
 (nat_lit 1099, oF (mb 29 3) "TransactionInput.read_from") ::
 (nat_lit 1100, oD "read_from" "TransactionInput.read_from" 1841 760 2 0 0 3 1095 tt 181 1096 N (R 1097) (R 1098) (R 1099) 1846) ::
 (nat_lit 1101, oG (mb 29 3) "TransactionInput.read_from" 3 N N N (S "embit.transaction" 1503) (some 1104) 1100) ::
 (nat_lit 1102, dic [E P "__module__" 1849 (S "embit.transaction" 1503), E P "__name__" 1852 (S "read_from" 1851), E P "__qualname__" 1855 (S "TransactionInput.read_from" 1854), E P "__doc__" 1857 N, E P "__annotations__" 1859 (R 1104)] 5) ::
 (nat_lit 1103, ob (T "classmethod") (Data.fields [R 1101, ff].toArray) (some 1102) #[]) ::
 (nat_lit 1104, dic [] 0) ::
 (nat_lit 1105, tS 1861 ["script_sig", "sequence", "txid", "vout", "witness"]) ::
 (nat_lit 1106, dic [E P "__module__" 1800 (S "embit.transaction" 1503), E P "__firstlineno__" 1804 (I 728 1803), E P "__init__" 1817 (R 1078), E P "is_segwit" 1825 (R 1086), E P "write_to" 1840 (R 1094), E P "read_from" 1860 (R 1103), E P "__static_attributes__" 1866 (R 1105), E P "__doc__" 1867 N] 2) ::
 (nat_lit 1107, ob (T "type") (Data.cls { name := "TransactionInput", bases := [R 746], mro := [R 1107, R 746, T "object"], ns := 1106, qualname := "TransactionInput", hasDict := true, slotNames := [], subclasses := [], abstract := false, collection := none, hasDel := false }) none #[some (R 1064), none, some (S "TransactionInput" 1793), some (S "TransactionInput" 1801), some (B "object.__new__"), some tt]) ::
 (nat_lit 1108, ob (T "super") (Data.fields [R 1107, R 1107, R 1107].toArray) none #[]) ::
 (nat_lit 1109, ob (T "builtin_function_or_method") (Data.fields [B "object.__init_subclass__", R 1107].toArray) none #[]) ::
 (nat_lit 1110, tup [R 746]) ::
 (nat_lit 1111, ob (T "builtin_function_or_method") (Data.fields [B "type.__prepare__", T "type"].toArray) none #[]) ::
 (nat_lit 1112, dic [E P "__module__" 1877 (S "embit.transaction" 1503), E P "__qualname__" 1879 (S "TransactionOutput" 1878), E P "__firstlineno__" 1881 (I 763 1880), E P "__init__" 1890 (R 1123), E P "write_to" 1899 (R 1130), E P "read_from" 1919 (R 1139), E P "__static_attributes__" 1922 (R 1141)] 7) ::
 (nat_lit 1113, tup []) ::
 (nat_lit 1114, ob N (Data.fields [I 765 0, I 4 0, R 1122, I 769 0, I 4 0, R 1129, I 775 0, I 4 0, R 1136].toArray) none #[]) ::
 (nat_lit 1115, oD "TransactionOutput" "TransactionOutput" 1872 763 0 0 0 0 1113 ff 181 1114 N N N N 1875) ::
 (nat_lit 1116, ob (T "frame") Data.plain none #[some (R 1115), some (R 3), some (R 1112), none, some (S "embit.transaction" 1503), none, some (R 0)]) ::
 (nat_lit 1117, tup []) ::
 (nat_lit 1118, oE) ::
 (nat_lit 1119, tS 1885 ["self", "value", "script_pubkey"]) ::
 (nat_lit 1120, tup []) ::
 (nat_lit 1121, oF (mb 30 0) "TransactionOutput.__init__") ::
 (nat_lit 1122, oD "__init__" "TransactionOutput.__init__" 1882 765 3 0 0 3 1117 tt 181 1118 N (R 1119) (R 1120) (R 1121) 1888) ::
 (nat_lit 1123, oG (mb 30 0) "TransactionOutput.__init__" 3 N N N (S "embit.transaction" 1503) none 1122) ::
 (nat_lit 1124, tup []) ::
 (nat_lit 1125, oE) ::
 (nat_lit 1126, tS 1894 ["self", "stream", "res"]) ::
 (nat_lit 1127, tup []) ::
 (nat_lit 1128, oF (mb 30 1) "TransactionOutput.write_to") ::
 (nat_lit 1129, oD "write_to" "TransactionOutput.write_to" 1891 769 2 0 0 3 1124 tt 181 1125 N (R 1126) (R 1127) (R 1128) 1897) ::
 (nat_lit 1130, oG (mb 30 1) "TransactionOutput.write_to" 3 N N N (S "embit.transaction" 1503) none 1129) ::
 (nat_lit 1131, tup []) ::
 (nat_lit 1132, oE) ::
 (nat_lit 1133, tS 1903 ["cls", "stream"]) ::
 (nat_lit 1134, tup []) ::
 (nat_lit 1135, oF (mb 30 2) "TransactionOutput.read_from") ::
 (nat_lit 1136, oD "read_from" "TransactionOutput.read_from" 1900 774 2 0 0 3 1131 tt 181 1132 N (R 1133) (R 1134) (R 1135) 1905) ::
 (nat_lit 1137, oG (mb 30 2) "TransactionOutput.read_from" 3 N N N (S "embit.transaction" 1503) (some 1140) 1136) ::
 (nat_lit 1138, dic [E P "__module__" 1908 (S "embit.transaction" 1503), E P "__name__" 1911 (S "read_from" 1910), E P "__qualname__" 1914 (S "TransactionOutput.read_from" 1913), E P "__doc__" 1916 N, E P "__annotations__" 1918 (R 1140)] 5) ::
 (nat_lit 1139, ob (T "classmethod") (Data.fields [R 1137, ff].toArray) (some 1138) #[]) ::
 (nat_lit 1140, dic [] 0) ::
 (nat_lit 1141, tS 1920 ["script_pubkey", "value"]) ::
 (nat_lit 1142, dic [E P "__module__" 1877 (S "embit.transaction" 1503), E P "__firstlineno__" 1881 (I 763 1880), E P "__init__" 1890 (R 1123), E P "write_to" 1899 (R 1130), E P "read_from" 1919 (R 1139), E P "__static_attributes__" 1922 (R 1141), E P "__doc__" 1923 N] 2) ::
 (nat_lit 1143, ob (T "type") (Data.cls { name := "TransactionOutput", bases := [R 746], mro := [R 1143, R 746, T "object"], ns := 1142, qualname := "TransactionOutput", hasDict := true, slotNames := [], subclasses := [], abstract := false, collection := none, hasDel := false }) none #[some (R 1110), none, some (S "TransactionOutput" 1870), some (S "TransactionOutput" 1878), some (B "object.__new__"), some tt]) ::
 (nat_lit 1144, ob (T "super") (Data.fields [R 1143, R 1143, R 1143].toArray) none #[]) ::
 (nat_lit 1145, ob (T "builtin_function_or_method") (Data.fields [B "object.__init_subclass__", R 1143].toArray) none #[]) ::
 (nat_lit 1146, tup []) ::
 (nat_lit 1147, oE) ::
 (nat_lit 1148, tup []) ::
 (nat_lit 1149, tup []) ::
 (nat_lit 1150, oF (st 32) "_law_types") ::
 (nat_lit 1151, oD "_law_types" "_law_types" 1928 778 0 0 0 3 1146 tt 181 1147 N (R 1148) (R 1149) (R 1150) 1931) ::
 (nat_lit 1152, oG (st 32) "_law_types" 3 N N N (S "law_kk0016_02" 1926) none 1151) ::
 (nat_lit 1153, tup []) ::
 (nat_lit 1154, oE) ::
 (nat_lit 1155, tS 1937 ["octets"]) ::
 (nat_lit 1156, tup []) ::
 (nat_lit 1157, oF (st 33) "_law_digest") ::
 (nat_lit 1158, oD "_law_digest" "_law_digest" 1934 780 1 0 0 3 1153 tt 181 1154 N (R 1155) (R 1156) (R 1157) 1938) ::
 (nat_lit 1159, oG (st 33) "_law_digest" 3 N N N (S "law_kk0016_02" 1926) none 1158) ::
 (nat_lit 1160, tup []) ::
 (nat_lit 1161, oE) ::
 (nat_lit 1162, tS 1944 ["number"]) ::
 (nat_lit 1163, tup []) ::
 (nat_lit 1164, oF (st 34) "_law_four") ::
 (nat_lit 1165, oD "_law_four" "_law_four" 1941 782 1 0 0 3 1160 tt 181 1161 N (R 1162) (R 1163) (R 1164) 1945) ::
 (nat_lit 1166, oG (st 34) "_law_four" 3 N N N (S "law_kk0016_02" 1926) none 1165) ::
 (nat_lit 1167, tup []) ::
 (nat_lit 1168, oE) ::
 (nat_lit 1169, tS 1951 ["octets", "size"]) ::
 (nat_lit 1170, tup []) ::
 (nat_lit 1171, oF (st 35) "_law_sized") ::
 (nat_lit 1172, oD "_law_sized" "_law_sized" 1948 784 1 0 0 3 1167 tt 181 1168 N (R 1169) (R 1170) (R 1171) 1953) ::
 (nat_lit 1173, oG (st 35) "_law_sized" 3 N N N (S "law_kk0016_02" 1926) none 1172) ::
 (nat_lit 1174, tup []) ::
 (nat_lit 1175, oE) ::
 (nat_lit 1176, tS 1959 ["number"]) ::
 (nat_lit 1177, tup []) ::
 (nat_lit 1178, oF (st 36) "_law_filled") ::
 (nat_lit 1179, oD "_law_filled" "_law_filled" 1956 787 1 0 0 3 1174 tt 181 1175 N (R 1176) (R 1177) (R 1178) 1960) ::
 (nat_lit 1180, oG (st 36) "_law_filled" 3 N N N (S "law_kk0016_02" 1926) none 1179) ::
 (nat_lit 1181, tup []) ::
 (nat_lit 1182, oE) ::
 (nat_lit 1183, tS 1966 ["row"]) ::
 (nat_lit 1184, tup []) ::
 (nat_lit 1185, oF (st 37) "_law_point") ::
 (nat_lit 1186, oD "_law_point" "_law_point" 1963 789 1 0 0 3 1181 tt 181 1182 N (R 1183) (R 1184) (R 1185) 1967) ::
 (nat_lit 1187, oG (st 37) "_law_point" 3 N N N (S "law_kk0016_02" 1926) none 1186) ::
 (nat_lit 1188, tup []) ::
 (nat_lit 1189, oE) ::
 (nat_lit 1190, tS 1973 ["row"]) ::
 (nat_lit 1191, tup []) ::
 (nat_lit 1192, oF (st 38) "_law_out") ::
 (nat_lit 1193, oD "_law_out" "_law_out" 1970 791 1 0 0 3 1188 tt 181 1189 N (R 1190) (R 1191) (R 1192) 1974) ::
 (nat_lit 1194, oG (st 38) "_law_out" 3 N N N (S "law_kk0016_02" 1926) none 1193) ::
 (nat_lit 1195, tup []) ::
 (nat_lit 1196, oE) ::
 (nat_lit 1197, oF (st 39) "_law_laid") ::
 (nat_lit 1198, oD "_law_laid" "_law_laid" 1977 793 3 0 0 3 1195 tt 181 1196 N N N (R 1197) 1980) ::
 (nat_lit 1199, oG (st 39) "_law_laid" 3 N N N (S "law_kk0016_02" 1926) none 1198) ::
 (nat_lit 1200, tup []) ::
 (nat_lit 1201, oE) ::
 (nat_lit 1202, tS 1986 ["state", "place", "code", "kind", "base", "ins", "k", "row", "outs"]) ::
 (nat_lit 1203, tup []) ::
 (nat_lit 1204, oF (st 40) "_law_old") ::
 (nat_lit 1205, oD "_law_old" "_law_old" 1983 799 4 0 0 3 1200 tt 181 1201 N (R 1202) (R 1203) (R 1204) 1995) ::
 (nat_lit 1206, oG (st 40) "_law_old" 3 N N N (S "law_kk0016_02" 1926) none 1205) ::
 (nat_lit 1207, tup []) ::
 (nat_lit 1208, oE) ::
 (nat_lit 1209, oF (st 41) "_law_new") ::
 (nat_lit 1210, oD "_law_new" "_law_new" 1998 809 5 0 0 3 1207 tt 181 1208 N N N (R 1209) 2001) ::
 (nat_lit 1211, oG (st 41) "_law_new" 3 N N N (S "law_kk0016_02" 1926) none 1210) ::
 (nat_lit 1212, tup []) ::
 (nat_lit 1213, oE) ::
 (nat_lit 1214, oF (st 42) "_law_made") ::
 (nat_lit 1215, oD "_law_made" "_law_made" 2004 816 1 0 0 3 1212 tt 181 1213 N N N (R 1214) 2007) ::
 (nat_lit 1216, oG (st 42) "_law_made" 3 N N N (S "law_kk0016_02" 1926) none 1215) ::
 (nat_lit 1217, tup []) ::
 (nat_lit 1218, oE) ::
 (nat_lit 1219, tS 2013 ["whole", "state", "new", "turn", "kind", "place", "code", "value", "due", "told"]) ::
 (nat_lit 1220, tup []) ::
 (nat_lit 1221, oF (st 43) "_law_asked") ::
 (nat_lit 1222, oD "_law_asked" "_law_asked" 2010 820 4 0 0 3 1217 tt 181 1218 N (R 1219) (R 1220) (R 1221) 2023) ::
 (nat_lit 1223, oG (st 43) "_law_asked" 3 N N N (S "law_kk0016_02" 1926) none 1222) ::
 (nat_lit 1224, tup []) ::
 (nat_lit 1225, oE) ::
 (nat_lit 1226, tS 2029 ["whole", "state", "way", "turn", "place"]) ::
 (nat_lit 1227, tup []) ::
 (nat_lit 1228, oF (st 44) "_law_turned") ::
 (nat_lit 1229, oD "_law_turned" "_law_turned" 2026 838 4 0 0 3 1224 tt 181 1225 N (R 1226) (R 1227) (R 1228) 2034) ::
 (nat_lit 1230, oG (st 44) "_law_turned" 3 N N N (S "law_kk0016_02" 1926) none 1229) ::
 (nat_lit 1231, tup []) ::
 (nat_lit 1232, oE) ::
 (nat_lit 1233, oF (st 45) "_law_start") ::
 (nat_lit 1234, oD "_law_start" "_law_start" 2037 855 1 0 0 3 1231 tt 181 1232 N N N (R 1233) 2040) ::
 (nat_lit 1235, oG (st 45) "_law_start" 3 N N N (S "law_kk0016_02" 1926) none 1234) ::
 (nat_lit 1236, tup []) ::
 (nat_lit 1237, oE) ::
 (nat_lit 1238, tS 2046 ["script", "cells", "state", "kept", "whole", "other", "number", "way", "turn"]) ::
 (nat_lit 1239, tup []) ::
 (nat_lit 1240, oF (st 46) "law") ::
 (nat_lit 1241, oD "law" "law" 2043 863 1 0 0 3 1236 tt 181 1237 N (R 1238) (R 1239) (R 1240) 2055) ::
 (nat_lit 1242, oG (st 46) "law" 3 N N N (S "law_kk0016_02" 1926) none 1241) ::
 []
noncomputable def l47 (P : Params) : List Obj := (Kc P).map (·.2)
def up (n : Nat) (ds : List (Nat × Obj)) (l : List Obj) : List Obj := ds.foldl (fun l d => l.set d.1 d.2) (l.take n)
noncomputable def l0 (P : Params) : List Obj := up 15 [(2, ob N (Data.dict [].toArray 0) none #[]), (3, dic [E P "__name__" 165 (S "__main__" 164), E P "__doc__" 166 N, E P "__package__" 167 N, E P "__loader__" 168 (B "__main__.__loader__#opaque"), E P "__spec__" 169 N, E P "__annotations__" 170 (R 6), E P "__builtins__" 171 (R 4), E P "__file__" 173 (S "/claim/cut.py" 172), E P "__cached__" 174 N] 9), (12, ob N (Data.fields [].toArray) none #[])] (l47 P)
noncomputable def s0 (P : Params) (os : OsState) : SharedT := ⟨bt 14 (l0 P), 15, boot_life, #[], boot_drawn, 187, os⟩
noncomputable def l21 (P : Params) : List Obj := up 751 [(3, dic [E P "__name__" 165 (S "embit.base" 964), E P "__doc__" 166 N, E P "__package__" 167 N, E P "__loader__" 168 (B "__main__.__loader__#opaque"), E P "__spec__" 169 N, E P "__annotations__" 170 (R 6), E P "__builtins__" 171 (R 4), E P "__file__" 173 (S "/claim/cut.py" 172), E P "__cached__" 174 N, E P "_wall" 193 (R 21), E P "hexlify" 201 (R 26), E P "Sha256" 247 (R 58), E P "hashlib" 287 (R 83), E P "to_bytes" 297 (R 94), E P "_whence" 307 (R 101), E P "_index" 315 (R 108), E P "UnsupportedOperation" 337 (R 118), E P "IOBase" 369 (R 138), E P "BufferedIOBase" 387 (R 153), E P "TextIOBase" 405 (R 165), E P "BytesIO" 667 (R 395), E P "StringIO" 954 (R 642), E P "sha256" 963 (R 651), E P "EmbitError" 985 (R 661), E P "EmbitBase" 1125 (R 746)] 25), (12, ob N (Data.fields [(I 1 0), (I 0 0), (R 20), (I 5 0), (I 0 0), (R 25), (I 8 0), (I 0 0), (R 32), (I 19 0), (I 0 0), (R 68), (I 25 0), (I 0 0), (R 93), (I 39 0), (I 0 0), (R 100), (I 44 0), (I 0 0), (R 107), (I 51 0), (I 0 0), (R 114), (I 53 0), (I 0 0), (R 127), (I 60 0), (I 0 0), (R 149), (I 62 0), (I 0 0), (R 161), (I 64 0), (I 0 0), (R 173), (I 235 0), (I 0 0), (R 403), (I 442 0), (I 0 0), (R 650), (I 445 0), (I 0 0), (R 657), (I 447 0), (I 0 0), (R 670)].toArray) none #[]), (661, ob (T "type") (Data.cls { name := "EmbitError", bases := [(T "Exception")], mro := [(R 661), (T "Exception"), (T "BaseException"), (T "object")], ns := 660, qualname := "EmbitError", hasDict := true, slotNames := [], subclasses := [], abstract := false, collection := none, hasDel := false }) none #[(some (R 652)), none, (some (S "EmbitError" 966)), (some (S "EmbitError" 974)), (some (B "Exception.__new__")), (some tt)]), (746, ob (T "type") (Data.cls { name := "EmbitBase", bases := [(T "object")], mro := [(R 746), (T "object")], ns := 745, qualname := "EmbitBase", hasDict := true, slotNames := [], subclasses := [], abstract := false, collection := none, hasDel := false }) none #[none, none, (some (S "EmbitBase" 986)), (some (S "EmbitBase" 994)), (some (B "object.__new__")), (some tt)])] (l47 P)
noncomputable def s21 (P : Params) (os : OsState) : SharedT := ⟨bt 14 (l21 P), 751, boot_life, #[], boot_drawn, 1126, os⟩
noncomputable def l24 (P : Params) : List Obj := up 846 [(3, dic [E P "__name__" 165 (S "embit.script" 1315), E P "__doc__" 166 N, E P "__package__" 167 N, E P "__loader__" 168 (B "__main__.__loader__#opaque"), E P "__spec__" 169 N, E P "__annotations__" 170 (R 6), E P "__builtins__" 171 (R 4), E P "__file__" 173 (S "/claim/cut.py" 172), E P "__cached__" 174 N, E P "_wall" 193 (R 21), E P "hexlify" 201 (R 26), E P "Sha256" 247 (R 58), E P "hashlib" 287 (R 83), E P "to_bytes" 297 (R 94), E P "_whence" 307 (R 101), E P "_index" 315 (R 108), E P "UnsupportedOperation" 337 (R 118), E P "IOBase" 369 (R 138), E P "BufferedIOBase" 387 (R 153), E P "TextIOBase" 405 (R 165), E P "BytesIO" 667 (R 395), E P "StringIO" 954 (R 642), E P "sha256" 963 (R 651), E P "EmbitError" 985 (R 661), E P "EmbitBase" 1125 (R 746), E P "NETWORKS" 1314 (R 751), E P "Script" 1440 (R 843)] 27), (12, ob N (Data.fields [(I 1 0), (I 0 0), (R 20), (I 5 0), (I 0 0), (R 25), (I 8 0), (I 0 0), (R 32), (I 19 0), (I 0 0), (R 68), (I 25 0), (I 0 0), (R 93), (I 39 0), (I 0 0), (R 100), (I 44 0), (I 0 0), (R 107), (I 51 0), (I 0 0), (R 114), (I 53 0), (I 0 0), (R 127), (I 60 0), (I 0 0), (R 149), (I 62 0), (I 0 0), (R 161), (I 64 0), (I 0 0), (R 173), (I 235 0), (I 0 0), (R 403), (I 442 0), (I 0 0), (R 650), (I 445 0), (I 0 0), (R 657), (I 447 0), (I 0 0), (R 670), (I 489 0), (I 0 0), (R 761)].toArray) none #[]), (661, ob (T "type") (Data.cls { name := "EmbitError", bases := [(T "Exception")], mro := [(R 661), (T "Exception"), (T "BaseException"), (T "object")], ns := 660, qualname := "EmbitError", hasDict := true, slotNames := [], subclasses := [], abstract := false, collection := none, hasDel := false }) none #[(some (R 652)), none, (some (S "EmbitError" 966)), (some (S "EmbitError" 974)), (some (B "Exception.__new__")), (some tt)]), (746, ob (T "type") (Data.cls { name := "EmbitBase", bases := [(T "object")], mro := [(R 746), (T "object")], ns := 745, qualname := "EmbitBase", hasDict := true, slotNames := [], subclasses := [(R 843)], abstract := false, collection := none, hasDel := false }) none #[none, none, (some (S "EmbitBase" 986)), (some (S "EmbitBase" 994)), (some (B "object.__new__")), (some tt)])] (l47 P)
noncomputable def s24 (P : Params) (os : OsState) : SharedT := ⟨bt 14 (l24 P), 846, boot_life, #[], boot_drawn, 1441, os⟩
noncomputable def s47 (P : Params) (os : OsState) : SharedT := ⟨bt 14 (l47 P), 1243, boot_life, #[], boot_drawn, 2058, os⟩
noncomputable def envT : Env := { scope := prog.main.scope, locals := mainNs, globals := mainNs, cells := [], code := (R 13), frame := some 14 }
noncomputable abbrev cT : Code := .body (behindTheImports prog) envT
noncomputable abbrev bT : List Frame := [topFrame ⟨0, 0, 0, 0⟩]
noncomputable abbrev annT : Option Value := (some (R 6))
noncomputable def sts (i n : Nat) : List Stmt := ((behindTheImports prog).drop i).take n
theorem seg_eq : @segRunT = PySem.W.Fast.tw10110043849684766642 := PySem.W.Fast.te10110043849684766642
theorem tab_eq : treeTable = PySem.W.Fast.tw14364793385576792824 := PySem.W.Fast.te14364793385576792824
/- pre steps 12 pos ⟨0, 0, 0, 0⟩ block steps 0 pos ⟨0, 0, 0, 0⟩ fin steps 1 pos ⟨863, 0, 877, 83⟩ n0 11 toks0 181 toksPre 187 -/
theorem g21T (w : World) (os : OsState) : PySem.W.Fast.tw10110043849684766642 PySem.W.Fast.tw14364793385576792824 prog w 11 annT 1 5695 (s0 w.params os) (piecesOf (sts 0 21) envT cT ⟨0, 0, 0, 0⟩ bT) = some (Flow.next, s21 w.params os, cT, ⟨447, 0, 486, 37⟩) := by kernel_rfl
theorem g24T_false (w : World) (os : OsState) : PySem.W.Fast.tw10110043849684766642 PySem.W.Fast.tw14364793385576792824 prog (w.withFollow "special-get-raises" false) 11 annT 1 1818 (s21 (w.withFollow "special-get-raises" false).params os) (piecesOf (sts 21 3) envT cT ⟨447, 0, 486, 37⟩ bT) = some (Flow.next, s24 (w.withFollow "special-get-raises" false).params os, cT, ⟨489, 0, 523, 29⟩) := by kernel_rfl
theorem g24T_true (w : World) (os : OsState) : PySem.W.Fast.tw10110043849684766642 PySem.W.Fast.tw14364793385576792824 prog (w.withFollow "special-get-raises" true) 11 annT 1 1818 (s21 (w.withFollow "special-get-raises" true).params os) (piecesOf (sts 21 3) envT cT ⟨447, 0, 486, 37⟩ bT) = some (Flow.next, s24 (w.withFollow "special-get-raises" true).params os, cT, ⟨489, 0, 523, 29⟩) := by kernel_rfl
theorem g47T (w : World) (os : OsState) : PySem.W.Fast.tw10110043849684766642 PySem.W.Fast.tw14364793385576792824 prog w 11 annT 1 3723 (s24 w.params os) (piecesOf (sts 24 23) envT cT ⟨489, 0, 523, 29⟩ bT) = some (Flow.next, s47 w.params os, cT, ⟨863, 0, 877, 83⟩) := by kernel_rfl
end
section

/-! the run -/
theorem preT (w : World) (os : OsState) : PySem.W.Fast.tw15667345088766844465 PySem.W.Fast.tw14364793385576792824 prog w 11 annT 12 ⟨boot_heap w.params, #[], boot_drawn, boot_toks, os⟩ (topStub prog) = some ((s0 w.params os).abs, ⟨PySem.W.Fast.tw11892475500146522536 PySem.W.Fast.tw14364793385576792824 cT, cT, ⟨0, 0, 0, 0⟩, bT⟩) := by kernel_rfl
theorem blockT (w : World) (os : OsState) : PySem.W.Fast.tw10110043849684766642 PySem.W.Fast.tw14364793385576792824 prog w 11 annT 1 1 (s0 w.params os) (blockOf (behindTheImports prog) envT cT ⟨0, 0, 0, 0⟩ bT) = some (Flow.next, s0 w.params os, cT, ⟨0, 0, 0, 0⟩) := by kernel_rfl
theorem finT (w : World) (os : OsState) : topRun PySem.W.Fast.tw14364793385576792824 prog w 11 annT 2 (s47 w.params os).abs ⟨doneF .next, cT, ⟨863, 0, 877, 83⟩, bT⟩ = some (s47 w.params os).abs := by kernel_rfl
end
section
theorem den_eq : @denote = PySem.W.Fast.tw11892475500146522536 := PySem.W.Fast.te11892475500146522536
theorem go_eq : @topGo = PySem.W.Fast.tw15667345088766844465 := PySem.W.Fast.te15667345088766844465
noncomputable def rs (i : Nat) : List Stmt := (behindTheImports prog).drop i
theorem rs_split (i k : Nat) : rs i = sts i k ++ rs (i + k) := by
 unfold rs sts
 rw [← List.drop_drop, List.take_append_drop]
theorem rs_end : rs 47 = [] := by kernel_rfl
theorem link {w : World} {n N i k : Nat} {s s' : SharedT} {r : Shared} {pos p' : Pos}
  (h : PySem.W.Fast.tw10110043849684766642 PySem.W.Fast.tw14364793385576792824 prog w 11 annT 1 n s (piecesOf (sts i k) envT cT pos bT) = some (Flow.next, s', cT, p'))
  (kk : topRun treeTable prog w 11 annT N s'.abs (restOf (rs (i + k)) envT cT p' bT) = some r) :
  topRun treeTable prog w 11 annT (n + N) s.abs (restOf (rs i) envT cT pos bT) = some r := by
 rw [rs_split i k]
 rw [← seg_eq, ← tab_eq] at h
 exact piece_app (segRun_of h) kk
theorem g24T (w : World) : ∀ os, PySem.W.Fast.tw10110043849684766642 PySem.W.Fast.tw14364793385576792824 prog w 11 annT 1 1818 (s21 w.params os) (piecesOf (sts 21 3) envT cT ⟨447, 0, 486, 37⟩ bT) = some (Flow.next, s24 w.params os, cT, ⟨489, 0, 523, 29⟩) :=
 byRow2 "special-get-raises" (P := fun w => ∀ os, PySem.W.Fast.tw10110043849684766642 PySem.W.Fast.tw14364793385576792824 prog w 11 annT 1 1818 (s21 w.params os) (piecesOf (sts 21 3) envT cT ⟨447, 0, 486, 37⟩ bT) = some (Flow.next, s24 w.params os, cT, ⟨489, 0, 523, 29⟩)) g24T_false g24T_true w
noncomputable def fuel : Nat := 12 + (1 + (5695 + (1818 + (3723 + 2))))
noncomputable def hEnd (P : Params) : Heap := ⟨(l47 P).toArray, boot_life⟩
theorem abs_end (P : Params) (os : OsState) : (s47 P os).abs = ⟨hEnd P, #[], boot_drawn, 2058, os⟩ := by kernel_rfl
theorem ran (w : World) (os : OsState) : topRun treeTable prog w 11 annT fuel ⟨boot_heap w.params, #[], boot_drawn, boot_toks, os⟩ (topStub prog) = some ⟨hEnd w.params, #[], boot_drawn, 2058, os⟩ := by
 rw [← abs_end w.params os]
 have fin := finT w os
 rw [← tab_eq] at fin
 have c47 : topRun treeTable prog w 11 annT 2 (s47 w.params os).abs (restOf (rs (24 + 23)) envT cT ⟨863, 0, 877, 83⟩ bT) = some (s47 w.params os).abs := by
  show topRun treeTable prog w 11 annT 2 (s47 w.params os).abs (restOf (rs 47) envT cT ⟨863, 0, 877, 83⟩ bT) = some (s47 w.params os).abs
  rw [rs_end]; exact piece_nil fin
 have all := link (i := 0) (g21T w os) (link (i := 0 + 21) (g24T w os) (link (i := 0 + 21 + 3) (g47T w os) c47))
 have blk := blockT w os
 rw [← seg_eq, ← tab_eq] at blk
 have pre := preT w os
 rw [← go_eq, ← tab_eq, ← den_eq] at pre
 exact go_top pre (piece_block (segRun_of blk) all)
end
section
abbrev law : OpenLaw := PySem.Challenge.rw_kk0016_02
theorem e_road : @noRoadLSs = PySem.W.Fast.tw8326940854005059898 := PySem.W.Fast.te8326940854005059898
theorem e_meet : @namesMeet = PySem.W.Fast.tw17119622794617984870 := PySem.W.Fast.te17119622794617984870
theorem e_res : @namesResolve = PySem.W.Fast.tw8377067652309620493 := PySem.W.Fast.te8377067652309620493
theorem e_sre : @sreFenced = PySem.W.Fast.tw11788848310118352699 := PySem.W.Fast.te11788848310118352699
theorem e_cls : @noClassBlock = PySem.W.Fast.tw8179353310426384613 := PySem.W.Fast.te8179353310426384613
theorem e_def : @defStands = PySem.W.Fast.tw9558739934217749035 := PySem.W.Fast.te9558739934217749035
theorem e_nam : @OpenLaw.namesIt = PySem.W.Fast.tw16286561074155671207 := PySem.W.Fast.te16286561074155671207
theorem e_foot : @footLine = PySem.W.Fast.tw10501279942588096481 := PySem.W.Fast.te10501279942588096481
theorem e_blt : @builtinNamed = PySem.W.Fast.qNamed := PySem.W.Fast.named_eq
theorem l1 : namesResolve law.row.prog = true := by rw [e_res]; kernel_rfl
theorem l2 : noRoadLSs { strict := !(importedModules law.row.prog.main.body).all cThrough.contains, foot := none, bare := (["vars", "dir", "locals"] : List Str).filter (readsOut law.row.prog law.row.prog.main.body) } law.row.prog.main.body = true := by rw [e_road]; kernel_rfl
theorem l3 : (namesMeet law.row.prog law.row.prog.main.body fun _ n => attrL n) = true := by rw [e_meet]; kernel_rfl
theorem looks : looksOpen law.row.prog = true := by
 unfold looksOpen
 rw [l1, l2, l3, e_sre]
 kernel_rfl
theorem part : law.row.partSaid = true := by
 unfold OpenRow.partSaid
 rw [looks, e_blt]
 kernel_rfl
theorem rowSaid : law.row.wellSaid = true := by
 unfold OpenRow.wellSaid
 rw [part]
 kernel_rfl
theorem l4 : (namesMeet law.prog law.above fun _ n => !law.own.contains n) = true := by rw [e_meet]; kernel_rfl
theorem well : law.wellSaid = true := by
 unfold OpenLaw.wellSaid
 rw [rowSaid, l4, e_road, e_meet, e_cls, e_def, e_nam, e_foot, e_blt]
 kernel_rfl
end
section
noncomputable def qv : Program := { prog with main := { prog.main with body := [st 46] } }
noncomputable def loose : List Str := [Str.ofString "_wall", Str.ofString "hexlify", Str.ofString "Sha256", Str.ofString "hashlib", Str.ofString "to_bytes", Str.ofString "_whence", Str.ofString "_index", Str.ofString "UnsupportedOperation", Str.ofString "IOBase", Str.ofString "BufferedIOBase", Str.ofString "TextIOBase", Str.ofString "BytesIO", Str.ofString "StringIO", Str.ofString "sha256", Str.ofString "EmbitError", Str.ofString "EmbitBase", Str.ofString "NETWORKS", Str.ofString "Script", Str.ofString "Witness", Str.ofString "TransactionError", Str.ofString "SIGHASH", Str.ofString "Transaction", Str.ofString "TransactionInput", Str.ofString "TransactionOutput", Str.ofString "_law_types", Str.ofString "_law_digest", Str.ofString "_law_four", Str.ofString "_law_sized", Str.ofString "_law_filled", Str.ofString "_law_point", Str.ofString "_law_out", Str.ofString "_law_laid", Str.ofString "_law_old", Str.ofString "_law_new", Str.ofString "_law_made", Str.ofString "_law_asked", Str.ofString "_law_turned", Str.ofString "_law_start"]
noncomputable def Xq : Shared → Bool := fun s => xlAt qv [] s && recOk (RowW.records law.row.toRowW) s
noncomputable abbrev sEnd (P : Params) (os : OsState) : Shared := ⟨hEnd P, #[], boot_drawn, 2058, os⟩
theorem e_open : opening prog = plainProg prog.main.scope.names := by kernel_rfl
theorem e_fence (s : Shared) : fenceModules? prog s = some s := by kernel_rfl
theorem k_open (w : World) : (fencedOpening treeTable prog w 60000).map (fun s => (s.heap, s.gens, s.drawn, s.toks)) = some (boot_heap w.params, Array.mk [], boot_drawn, boot_toks) := boot_open e_open (by kernel_rfl) e_fence w
theorem k_size (w : World) : ((boot_heap w.params).isNs mainGlobals && (#[] : Array GenState).size == 0, (boot_heap w.params).objs.size, (boot_heap w.params).nsMap mainGlobals "__annotations__") = (true, 11, annT) := by kernel_rfl
theorem k_le : Nat.ble fuel 60000 = true := by kernel_rfl
theorem k_l1 (w : World) (os : OsState) : (staticsOk (importedModules prog.main.body) (boot_heap w.params) (hEnd w.params) && namesBound prog (hEnd w.params) && gensDone (sEnd w.params os) && laidKept (boot_heap w.params) (hEnd w.params)) = true := by kernel_rfl
theorem k_l2T (w : World) (os : OsState) : PySem.W.Fast.tw4187177175401517315 qv loose (importedModules prog.main.body) Xq true (sEnd w.params os) = openGood qv loose := by kernel_rfl
theorem k_l2 (w : World) (os : OsState) : openSeen qv loose (importedModules prog.main.body) Xq true (sEnd w.params os) = openGood qv loose := by
 rw [show @openSeen = PySem.W.Fast.tw4187177175401517315 from PySem.W.Fast.te4187177175401517315]
 exact k_l2T w os
end
section
theorem kc_zip (P : Params) : Kc P = (l47 P).zipIdx.map (fun x => (x.2, x.1)) := by kernel_rfl
theorem kc_alive (P : Params) : (l47 P).all (fun o => !o.isFreed) = true := by kernel_rfl
theorem sub_step {a n : Nat} (h : n + 1 ≤ a) : a - n = a - (n + 1) + 1 := (Nat.succ_pred_eq_of_pos (Nat.sub_pos_of_lt h)).symm
theorem lookup_zip {l : List Obj} {a : Nat} {o : Obj} : ∀ {n : Nat}, ((l.zipIdx n).map (fun x => (x.2, x.1))).lookup a = some o → n ≤ a ∧ l[a - n]? = some o := by
 induction l with
 | nil => intro n h; simp at h
 | cons b l ih =>
  intro n h
  rw [List.zipIdx_cons, List.map_cons, List.lookup_cons] at h
  by_cases e : a = n
  ·subst e; simp at h; subst h; simp
  ·have : (a == n) = false := beq_eq_false_iff_ne.mpr e
   rw [this] at h
   obtain ⟨h1, h2⟩ := ih h
   refine ⟨Nat.le_of_succ_le h1, ?_⟩
   rw [sub_step h1, List.getElem?_cons_succ]
   exact h2
def YIn (w : World) (h : Heap) : Prop := (Kc w.params).In h
theorem yin (w : World) (s : Shared) (e : s.heap.objs.toList = l47 w.params) : YIn w s.heap := by
 intro a o h
 rw [kc_zip] at h
 obtain ⟨_, h2⟩ := lookup_zip h
 rw [Nat.sub_zero, ← e] at h2
 have h3 : s.heap.objs[a]? = some o := by rw [← Array.getElem?_toList]; exact h2
 have al : o.isFreed = false := by
  have := List.all_eq_true.mp (kc_alive w.params) o (by rw [← e]; exact List.mem_of_getElem? h2)
  simpa using this
 obtain ⟨c, d, dt, sl⟩ := o
 unfold Heap.get?
 rw [h3]
 cases dt <;> first | rfl | cases al
theorem left : LeftO prog qv loose Xq (fun s => s.heap.objs.toList) (fun w => l47 w.params) 60000 :=
 LeftO.of_pieces (H₀ := boot_heap) (H₁ := hEnd) (gs₀ := #[]) (gs₁ := #[]) (d₀ := boot_drawn) (d₁ := boot_drawn) (k₀ := boot_toks) (k₁ := 2058) (m₀ := 11) (ann := annT) (M := fuel)
  k_open k_size ran k_le fun w => funext fun os => by rw [k_l1 w os, k_l2 w os]; rfl
noncomputable def stLaw : DefRec := match st 46 with
 | .FunctionDef n a b _ _ _ sc _ _ p => ⟨n, a, b, sc, p⟩
 | _ => ⟨Str.empty, ⟨[], [], none, [], [], none, []⟩, [], default, default⟩
theorem k_def : defOf qv law.row.name = some (stLaw, []) := by kernel_rfl
theorem k_the : prog.theDef law.row.name = some (stLaw.params, stLaw.body, stLaw.scope) := by kernel_rfl
theorem k_kw : kwWritten? stLaw.params.kwonlyargs stLaw.params.kw_defaults = some [] := by kernel_rfl
theorem k_ok : (chainsOk qv && opensWell prog && (frees law.row.toRowW && law.row.toRowW.within.isEmpty)) = true := by kernel_rfl
abbrev WalkT : Prop := WalkO qv loose (XL qv []) YIn law.row.toRowW stLaw [] fun f vs => PySem.call f vs
theorem head (walk : WalkT) : law.Holds := by
 refine ⟨well, ?_⟩
 refine holds_open (r := law.row) (q := qv) (loose := loose) (Xt := Xq) (XP := XL qv []) (Yf := fun s => s.heap.objs.toList) (Ya := fun w => l47 w.params) (YP := YIn) (d := stLaw) (kwd := []) (N := 60000)
  left yin (fun w h h' x k => Frag.In.keeps x k) (fun s e => xl_of s (Bool.and_eq_true_iff.mp e).1) XL.keeps k_def k_the k_kw (fun s e => recFacts_of (Bool.and_eq_true_iff.mp e).2) rfl rowSaid k_ok ⟨rfl, rfl, rfl, rfl, rfl, by decide +kernel⟩ ?_ walk
 w_witness2
end
section
abbrev Ar (dp un : Nat) (fr : Option (List Env)) (gd : Option (List Code)) : Around := { handled := none, depth := dp, frames := fr, guards := gd, units := un }
abbrev Ext (W : List Addr) (h h' : Heap) : Prop := ∀ b o, b ∉ W → h.get? b = some o → h'.get? b = some o
structure Gd (w : World) (hb : Heap) (mean : ExcName → Option Value) (mg mb : Str → Option Value) : Prop where
 X : (Kc w.params).In hb
 T : Top qv (looseW qv loose) mean mg mb hb
abbrev St (hb h : Heap) : Prop := ∀ b o, hb.get? b = some o → h.get? b = some o
def Does (w : World) (n : Nat) (f : Value) (args : List Value) (kw : List (Str × Value)) (s : Shared) (W : List Addr) (post : Value → Heap → Prop) : Prop :=
 ∀ (dp un : Nat) (fr : Option (List Env)) (gd : Option (List Code)) (R : Result → Shared → Prop), dp + n < recursionLimit → un + 8 * n < cLine →
  (∀ r h' tk', Ext W s.heap h' → post r h' → R (.ok (.ret r)) { s with heap := h', toks := tk' }) → codeAny (model prog w) (Ar dp un fr gd) (.call f ⟨args, kw⟩) R s
def Leaves (g : Heap) (R : Value → Shared → Prop) (v : Value) (s' : Shared) : Prop := ∃ L' m', Fr g L' s'.heap m' ∧ (St g s'.heap → R v s')
theorem leaves {g : Heap} {L : Addr} {m : Str → Option Value} {R : Value → Shared → Prop} {v : Value} {s' : Shared} (F : Fr g L s'.heap m) (h : St g s'.heap → R v s') : Leaves g R v s' := ⟨_, _, F, h⟩

def LeafP (g : Heap) (W : List Addr) (h : Heap) (R : Result → Shared → Prop) (fl : Flow) (s' : Shared) : Prop := Leaves g (fun v s' => Ext W h s'.heap → R (.ok (.ret v)) s') (match fl with | .ret v => v | _ => .none) s'
theorem enter {w : World} {hb : Heap} {mean : ExcName → Option Value} {mg mb : Str → Option Value} (G : Gd w hb mean mg mb) {s : Shared} (st : St hb s.heap) (W : List (Addr × Obj)) (hW : ∀ p ∈ W, s.heap.get? p.1 = some p.2 ∧ hb.get? p.1 = none)
  {dp un : Nat} {fr : Option (List Env)} {gd : Option (List Code)} {R : Result → Shared → Prop} {name qual : Str} {params : Arguments} {body : List Stmt} {scope : Scope} {dV kV doc pm cdv ct oc : Value} {an od : Option Addr} {osl : Array (Option Value)} {f : Addr} {args : List Value} {kw : List (Str × Value)} {binds : List (Str × Value)}
  (ho : (Kc w.params).lookup f = some ⟨oc, od, .func (fnOf name qual params body scope dV kV doc pm an cdv ct), osl⟩) (hcd : codeIn (Kc w.params) cdv qual = true) (hroom : dp < recursionLimit)
  (hbind : BindsTo s (fnOf name qual params body scope dV kV doc pm an cdv ct) ⟨args, kw⟩ binds) (hloc : ∀ y ∈ binds, scope.names.lookup y.1 = some .local)
  (h : ∀ g L h₁, Fr g L h₁ (fun y => binds.reverse.lookup y) → News g L h₁ W → (∀ p ∈ W, p.1 < L) → s.heap.objs.size ≤ L → (Kc w.params).In g → Top qv (looseW qv loose) mean mg mb g → St hb g → (∀ b o, s.heap.get? b = some o → b ∉ W.map (·.1) → g.get? b = some o) →
   wpAny (model prog w) ((Ar dp un fr gd).deeper (envOf qual scope L f cdv)) (execs body (envOf qual scope L f cdv))
    (LeafP g (W.map (·.1)) s.heap R) (fun _ _ => False)
    { s with heap := h₁, toks := s.toks + binds.length })
  (hcell : ∀ x ∈ scope.names, x.2 ≠ .cell) (hco : scope.isCoroutine = false) (hgen : scope.isGenerator = false) (hk : scope.kind = .function) :
  codeAny (model prog w) (Ar dp un fr gd) (.call (.ref f) ⟨args, kw⟩) R s := by
 have X' : (Kc w.params).In s.heap := Frag.In.keeps G.X st
 refine codeAny_call_def (fd := fnOf name qual params body scope dV kV doc pm an cdv ct) (body := body) (binds := binds) hroom (X' _ _ ho) rfl (G.T.nolimit.keeps st) (codeRec_of X' hcd) rfl hbind hcell hloc (fun h₁ hns hk₁ => ?_) hco hgen hk
 have sub : St hb (hideAll s.heap (W.map (·.1))) := fun b o e => hideAll_get _ (st b o e) fun q => by
  obtain ⟨p, hp, rfl⟩ := List.mem_map.mp q
  rw [(hW p hp).2] at e; cases e
 refine wpAny_mono (h (hideAll s.heap (W.map (·.1))) s.heap.objs.size h₁ ⟨hns, fun b o e => hk₁ b o (of_hideAll _ e), Nat.le_of_eq (hideAll_size _ _)⟩
  (fun p hp => ⟨hk₁ _ _ (hW p hp).1, Nat.ne_of_lt (Heap.lt_size (hW p hp).1), hideAll_none _ (List.mem_map_of_mem hp)⟩) (fun p hp => Heap.lt_size (hW p hp).1) (Nat.le_refl _) (Frag.In.keeps G.X sub) (G.T.keeps sub) sub (fun b o e n => hideAll_get _ e n)) (fun fl s' hl => ?_) fun _ _ y => y.elim
 obtain ⟨L', m', F', k⟩ := hl
 exact k F'.keep fun b o n e => F'.keep b o (hideAll_get _ e n)

section
variable {w : World} {hb g : Heap} {n : Nat} {f : Value} {args : List Value} {kw : List (Str × Value)} {s : Shared} {post : Value → Heap → Prop} {L : Addr} {m : Str → Option Value} {news news' : List (Addr × Obj)} {dp un : Nat} {fr : Option (List Env)} {gd : Option (List Code)} {Q E : Value → Shared → Prop}
theorem news_ext {h h' : Heap} (N : News g L h news) (e : ∀ b o, h.get? b = some o → h'.get? b = some o) : News g L h' news := fun p hp => ⟨e _ _ (N p hp).1, (N p hp).2⟩
theorem fr_ext {h h' : Heap} (F : Fr g L h m) (e : ∀ b o, h.get? b = some o → h'.get? b = some o) : Fr g L h' m := by
 obtain ⟨oL, a1, a2, hL, a3⟩ := F.ns
 exact ⟨⟨oL, a1, a2, e _ _ hL, a3⟩, fun b o q => e _ _ (F.keep b o q), F.above⟩
theorem use0 {h0 : Heap} {gs : Array GenState} {dr : Drawn} {tk : Nat} {os : OsState} (D : Does w n f args kw ⟨h0, gs, dr, tk, os⟩ [] post) (F : Fr g L h0 m) (N : News g L h0 news) (hd : dp + n < recursionLimit) (hu : un + 8 * n < cLine)
  (h : ∀ K : Value → Heap → Nat → Prop, (∀ r h' tk', Q r ⟨h', gs, dr, tk', os⟩ → K r h' tk') → ∀ r h' tk', Fr g L h' m → News g L h' news → (∀ p ∈ news, p.1 < h0.objs.size) → L < h0.objs.size → post r h' → K r h' tk') :
  wpAny (model prog w) (Ar dp un fr gd) (call f args kw) Q E ⟨h0, gs, dr, tk, os⟩ := by
 refine wpAny_call (D dp un fr gd _ hd hu fun r h' tk' e p => ?_)
 have e' : ∀ b o, h0.get? b = some o → h'.get? b = some o := fun b o q => e b o (by simp) q
 exact h (fun r h' tk' => Q r ⟨h', gs, dr, tk', os⟩) (fun _ _ _ q => q) r h' tk' (fr_ext F e') (news_ext N e') (fun p hp => Heap.lt_size (N p hp).1) F.ns.lt p
theorem use0b {h0 : Heap} {gs : Array GenState} {dr : Drawn} {tk : Nat} {os : OsState} {X : Array UInt8} (D : Does w n f args kw ⟨h0, gs, dr, tk, os⟩ [] (fun r _ => ∃ t, r = .bytes X t)) (F : Fr g L h0 m) (N : News g L h0 news) (hd : dp + n < recursionLimit) (hu : un + 8 * n < cLine)
  (h : ∀ t h' tk', Fr g L h' m → News g L h' news → Q (.bytes X t) ⟨h', gs, dr, tk', os⟩) :
  wpAny (model prog w) (Ar dp un fr gd) (call f args kw) Q E ⟨h0, gs, dr, tk, os⟩ :=
 use0 D F N hd hu fun _ hK _ _ _ F' N' _ _ p => by obtain ⟨_, rfl⟩ := p; exact hK _ _ _ (h _ _ _ F' N')
theorem fr_but {h h' : Heap} {W : List Addr} (F : Fr g L h m) (hW : ∀ a ∈ W, a ≠ L ∧ g.get? a = none) (e : Ext W h h') : Fr g L h' m := by
 obtain ⟨oL, a1, a2, hL, a3⟩ := F.ns
 refine ⟨⟨oL, a1, a2, e _ _ (fun q => (hW _ q).1 rfl) hL, a3⟩, fun b o q => e _ _ (fun z => ?_) (F.keep b o q), F.above⟩
 have := (hW _ z).2; rw [q] at this; cases this
theorem use1 {h0 : Heap} {gs : Array GenState} {dr : Drawn} {tk : Nat} {os : OsState} {d : Addr} {o : Obj} (D : Does w n f args kw ⟨h0, gs, dr, tk, os⟩ [d] post) (F : Fr g L h0 m) (N : News g L h0 news) (hm : (d, o) ∈ news) (hd : dp + n < recursionLimit) (hu : un + 8 * n < cLine)
  (h : ∀ K : Value → Heap → Nat → Prop, (∀ r h' tk', Q r ⟨h', gs, dr, tk', os⟩ → K r h' tk') → ∀ r h' tk', Fr g L h' m → (∀ o' news', Upd d o o' news news' → h'.get? d = some o' → News g L h' news') → post r h' → K r h' tk') :
  wpAny (model prog w) (Ar dp un fr gd) (call f args kw) Q E ⟨h0, gs, dr, tk, os⟩ := by
 refine wpAny_call (D dp un fr gd _ hd hu fun r h' tk' e p => ?_)
 refine h (fun r h' tk' => Q r ⟨h', gs, dr, tk', os⟩) (fun _ _ _ q => q) r h' tk' (fr_but F (fun a ha => ?_) e) (fun o' news' U ho' => ?_) p
 ·rw [List.mem_singleton.mp ha]; exact (N _ hm).2
 ·obtain ⟨pre, post, rfl, rfl, h1, h2⟩ := U.split
  intro p hp
  rcases List.mem_append.mp hp with q | q
  ·have P := N p (List.mem_append_left _ q); exact ⟨e _ _ (by simpa using h1 p q) P.1, P.2⟩
  ·rcases List.mem_cons.mp q with rfl | q
   ·exact ⟨ho', (N (d, o) (by simp)).2⟩
   ·have P := N p (List.mem_append_right _ (.tail _ q)); exact ⟨e _ _ (by simpa using h2 p q) P.1, P.2⟩
theorem news_new {h h' : Heap} {x : Addr} {o : Obj} (F : Fr g L h m) (hx : h.objs.size ≤ x) (e : h'.get? x = some o) (N : News g L h' news) : News g L h' ((x, o) :: news) := by
 intro p hp
 rcases List.mem_cons.mp hp with rfl | hp
 ·refine ⟨e, fun q => ?_, ?_⟩
  ·have hlt := F.ns.lt; rw [← q] at hlt; exact absurd hlt (Nat.not_lt.mpr hx)
  ·cases q : g.get? x with
   | none => rfl
   | some o' => exact absurd (Heap.lt_size (F.keep _ _ q)) (Nat.not_lt.mpr hx)
 ·exact N p hp
theorem use0o {h0 : Heap} {gs : Array GenState} {dr : Drawn} {tk : Nat} {os : OsState} {C : Addr} {O : Nat → Tok → Obj} (D : Does w n f args kw ⟨h0, gs, dr, tk, os⟩ [] (fun r h' => ∃ x d, r = .ref x ∧ h0.objs.size ≤ d ∧ d < x ∧ h'.get? x = some (instObj C d) ∧ ∃ k t', h'.get? d = some (O k t'))) (F : Fr g L h0 m) (N : News g L h0 news) (hd : dp + n < recursionLimit) (hu : un + 8 * n < cLine)
  (h : ∀ x d k t' h' tk', Fr g L h' m → News g L h' ((x, instObj C d) :: (d, O k t') :: news) → (∀ p ∈ news, p.1 < d) → @LT.lt Nat _ L d → @LT.lt Nat _ d x → Q (.ref x) ⟨h', gs, dr, tk', os⟩) :
  wpAny (model prog w) (Ar dp un fr gd) (call f args kw) Q E ⟨h0, gs, dr, tk, os⟩ :=
 use0 D F N hd hu fun _ hK _ _ _ F' N' l1 l2 p => by
  obtain ⟨x, d, rfl, ld, lx, ex, k, t', ed⟩ := p
  exact hK _ _ _ (h _ _ _ _ _ _ F' (news_new F (Nat.le_of_lt (Nat.lt_of_le_of_lt ld lx)) ex (news_new F ld ed N')) (fun p hp => Nat.lt_of_lt_of_le (l1 p hp) ld) (Nat.lt_of_lt_of_le l2 ld) lx)
end
section
variable {w : World} {hb g : Heap} {n : Nat} {f : Value} {args : List Value} {kw : List (Str × Value)} {s : Shared} {post : Value → Heap → Prop} {L : Addr} {m : Str → Option Value} {news : List (Addr × Obj)} {dp un : Nat} {fr : Option (List Env)} {gd : Option (List Code)} {R : Result → Shared → Prop}
theorem room3 {d n C : Nat} (h : d + (n + 2) < C) : d + 1 + n < C := by omega
theorem room4 {u n C : Nat} (h : u + 8 * (n + 2) < C) : u + 1 + 8 * n < C := by omega
theorem make_does {mean : ExcName → Option Value} {mg mb : Str → Option Value} (G : Gd w hb mean mg mb) (st : St hb s.heap) {C fI : Addr} {pi : Addr → Addr → Heap → Prop}
  (hm : makesIn (Kc w.params) C = true) (hi : findIn (Kc w.params) (.ref C) (Str.ofString "__init__") = some (some (.ref fI))) (hf : typeIn (Kc w.params) (.ref fI) = some (.type "function"))
  (D : ∀ x dx h', (∀ b o, s.heap.get? b = some o → h'.get? b = some o) → s.heap.objs.size ≤ dx → dx < x → h'.get? x = some (instObj C dx) → h'.get? dx = some (dictOf [] 0) → hb.get? x = none → hb.get? dx = none →
   Does w n (.ref fI) (.ref x :: args) kw { s with heap := h' } [dx] (fun r h'' => r = .none ∧ pi x dx h'')) :
  Does w (n + 2) (.ref C) args kw s [] (fun r h' => ∃ x dx, r = .ref x ∧ s.heap.objs.size ≤ dx ∧ dx < x ∧ h'.get? x = some (instObj C dx) ∧ pi x dx h') := by
 walk_at "ir"
 have X := Frag.In.keeps G.X st
 obtain ⟨h, gs, dr, tk, os⟩ := s
 have g1 : ∀ b o, h.get? b = some o → ((h.push emptyDict).push (instObj C h.objs.size)).get? b = some o := fun b o e => Heap.get?_push_of_some _ (Heap.get?_push_of_some _ e)
 have hs1 : (h.push emptyDict).objs.size = h.objs.size + 1 := Heap.size_push _ _
 have ed : ((h.push emptyDict).push (instObj C h.objs.size)).get? h.objs.size = some (dictOf [] 0) := Heap.get?_push_of_some _ (Heap.get?_push_size _ rfl)
 have ex : ((h.push emptyDict).push (instObj C h.objs.size)).get? (h.objs.size + 1) = some (instObj C h.objs.size) := by rw [← hs1]; exact Heap.get?_push_size _ rfl
 have none_of : ∀ a, h.objs.size ≤ a → hb.get? a = none := fun a ha => by
  cases q : hb.get? a with
  | none => rfl
  | some o => exact absurd (Heap.lt_size (st _ _ q)) (Nat.not_lt.mpr ha)
 refine make_core (makes_of X hm) (looks_findIn X hi) (fun self => bind_fn X self hf) (.inl rfl) ?_
 refine D (h.objs.size + 1) h.objs.size _ g1 (Nat.le_refl _) (Nat.lt_succ_self _) ex ed (none_of _ (Nat.le_succ _)) (none_of _ (Nat.le_refl _)) _ _ _ _ _ ?_ ?_ fun r h' tk' e p => ?_
 ·exact room3 hdp
 ·exact room4 hu
 ·obtain ⟨rfl, p⟩ := p
  have e' : ∀ b o, h.get? b = some o → h'.get? b = some o := fun b o q => e b o (fun z => absurd (Heap.lt_size q) (by rw [List.mem_singleton.mp z]; exact Nat.lt_irrefl _)) (g1 b o q)
  exact ⟨rfl, hQ _ _ _ (fun b o _ q => e' b o q) ⟨_, _, rfl, Nat.le_refl _, Nat.lt_succ_self _, e _ _ (by simp) ex, p⟩⟩
end
theorem fill : law.Holds → Kc = Kc := by k_fill; intro _; rfl
end
section
theorem inst_base {g h : Heap} {L x C dx : Addr} {m : Str → Option Value} {od : Obj} {sl : Array (Option Value)} (F : Fr g L h m) (h1 : g.get? x = some ⟨.ref C, some dx, .plain, sl⟩) (h2 : g.get? dx = some od) :
  InstAt h x ⟨.ref C, some dx, .plain, sl⟩ C (some od) := ⟨F.keep _ _ h1, rfl, rfl, F.keep _ _ h2⟩
theorem ext_drop {h h' : Heap} {x : Addr} {W : List Addr} {o : Obj} (e : Ext (x :: W) h h') (hx : h.get? x = some o) (hx' : h'.get? x = some o) : Ext W h h' := fun b o' hb q => by
 by_cases z : b = x
 ·subst z; rw [hx] at q; rw [hx', q]
 ·exact e b o' (by simp [z, hb]) q
abbrev ent (w : World) (x : String) (t : Nat) (v : Value) : DictEntry := ⟨PyData.keyHash w.params (Str.ofString x), .str (Str.ofString x) t, v⟩
theorem st_of {hb g h : Heap} {L : Addr} {m : Str → Option Value} (stg : St hb g) (F : Fr g L h m) : St hb h := fun b o e => F.keep b o (stg b o e)
theorem room1 {d n k : Nat} (h : d + n < recursionLimit) (e : k + 1 ≤ n) : d + 1 + k < recursionLimit := by omega
theorem room0 {d n : Nat} (h : d + n < recursionLimit) : d < recursionLimit := by omega
theorem roomU {u n c k : Nat} (h : u + 8 * n < cLine) (e : c + 8 * k ≤ 8 * n) : u + c + 8 * k < cLine := by omega
theorem roomU2 {u n c d k : Nat} (h : u + 8 * n < cLine) (e : c + d + 8 * k ≤ 8 * n) : u + c + d + 8 * k < cLine := by omega
theorem sz_app {a b : Array UInt8} {n m : Nat} (h1 : a.size ≤ n) (h2 : b.size ≤ m) : (a ++ b).size ≤ n + m := by rw [Array.size_append]; exact Nat.add_le_add h1 h2
theorem sz_nil : (#[] : Array UInt8).size ≤ 0 := Nat.le_refl _
theorem sz_le {n : Nat} {v : Int} : (le n v).size ≤ n := Nat.le_of_eq (le_size _ _)
theorem sz_dig {a : Array UInt8} : (dig a).size ≤ 32 := Nat.le_of_eq (dig_size _)
def Kont {α : Type} (K : α → Shared → Prop) : α → Shared → Prop := K
def KOf (K : Flow → Shared → Prop) (M : Model) (A : Around) (rest : List Stmt) (env : Env) (Q : Flow → Shared → Prop) (E : Value → Shared → Prop) : Prop := ∀ f s', (match f with | .next => wpAny M A (execs rest env) Q E s' | f => Q f s') → Kont K f s'
theorem exec_hide {M : Model} {A : Around} {E : Value → Shared → Prop} {s : Shared} {env : Env} {st : Stmt} {rest : List Stmt} {Q : Flow → Shared → Prop}
  (h : ∀ K : Flow → Shared → Prop, KOf K M A rest env Q E → wpAny M A (exec st env) (Kont K) E s) : wpAny M A (execs (st :: rest) env) Q E s := by
 rw [execs_cons]
 refine wpAny_bind (wpAny_mono (h _ fun _ _ q => q) (fun f s' h' => ?_) fun _ _ x => x)
 cases f <;> first | exact h' | exact wpAny_pure h'
theorem kont_next {M : Model} {A : Around} {E : Value → Shared → Prop} {s : Shared} {env : Env} {rest : List Stmt} {Q K : Flow → Shared → Prop} (hK : KOf K M A rest env Q E) (h : wpAny M A (execs rest env) Q E s) : Kont K .next s := hK .next s h
theorem kont_ret {M : Model} {A : Around} {E : Value → Shared → Prop} {s : Shared} {env : Env} {rest : List Stmt} {Q K : Flow → Shared → Prop} {v : Value} (hK : KOf K M A rest env Q E) (h : Q (.ret v) s) : Kont K (.ret v) s := hK (.ret v) s h
theorem kont_brk {M : Model} {A : Around} {E : Value → Shared → Prop} {s : Shared} {env : Env} {rest : List Stmt} {Q K : Flow → Shared → Prop} (hK : KOf K M A rest env Q E) (h : Q .brk s) : Kont K .brk s := hK .brk s h
theorem kont_cont {M : Model} {A : Around} {E : Value → Shared → Prop} {s : Shared} {env : Env} {rest : List Stmt} {Q K : Flow → Shared → Prop} (hK : KOf K M A rest env Q E) (h : Q .cont s) : Kont K .cont s := hK .cont s h
theorem store_let {M : Model} {A : Around} {E : Value → Shared → Prop} {s : Shared} {h₀ : Heap} {L a : Addr} {m : Str → Option Value} {cn : Str} {cs : Scope} {ccd : Value} {cl : List (Str × Addr)}
 {x : Str} {v : Value} {Q : Unit → Shared → Prop} {news : List (Addr × Obj)} (F : Fr h₀ L s.heap m) (N : News h₀ L s.heap news)
  (h : let m9 := fun y => if y = x then some v else m y; ∀ h', Fr h₀ L h' m9 → News h₀ L h' news → Q () { s with heap := h', toks := s.toks + 1 })
  (hk : cs.kind = .function := by rfl) (hx : (envX cn cs L a ccd cl).kindOf x = some .local := by rfl) : wpAny M A (storeName (envX cn cs L a ccd cl) x v) Q E s :=
 storeX_L F N h hk hx
theorem binds_P {s : Shared} {K : Frag} {fd : FuncData} {args : Args} {binds : List (Str × Value)} (X : K.In s.heap) (h : ∀ S : Setting, peek K S (bindArgs fd args) = some binds) : BindsTo s fd args binds :=
 fun M _ _ _ q => (Looks.of_peek X (h ⟨M.prog, M.w.params⟩)).here q
theorem hk2 : True := by
 k_with "storeName" => (k_here; k_dflt (refine' store_let ?F ?N ?_ ?a ?b; (case F => k_asm); (case N => k_asm); (case a => rfl); (case b => rfl); k_whole; intro m9 h'9 F'9 N'9; (try k_sweep)))
 k_with "execs cons" => (k_here; (with_reducible refine exec_hide ?_); intro K9 hK9; (try dsimp only))
 k_with "Kont" => (first | (with_reducible refine kont_next (by with_reducible assumption) ?_) | (with_reducible refine kont_ret (by with_reducible assumption) ?_) | (with_reducible refine kont_cont (by with_reducible assumption) ?_) | (with_reducible refine kont_brk (by with_reducible assumption) ?_))
 k_with "kk_num" => (first | (refine' room1 ?kh ?ke; (case kh => with_reducible assumption); (case ke => decide)) | (refine' roomU ?kh ?ke; (case kh => with_reducible assumption); (case ke => decide)) | (refine' roomU2 ?kh ?ke; (case kh => with_reducible assumption); (case ke => decide)) | omega | (show _ + 1 + _ < _; omega) | (dsimp only [Around.deeper, Ar, Around.in1]; omega) | (simp only [Around.deeper, Ar, Around.in1] at *; omega))
 k_with "k_ne" => first | with_reducible assumption | (refine Ne.symm ?_; with_reducible assumption) | (refine Nat.ne_of_lt ?_; with_reducible assumption) | (refine Nat.ne_of_gt ?_; with_reducible assumption) | (refine neN ?_; (try dsimp only); omega)
 k_with "kk_g" => assumption
 k_with "kk_st" => exact st_of (by assumption) (by k_asm)
 k_with "kk_enter" => ( (case ho => k_is); (case hcd => k_is); (case hroom => first | (refine' room0 ?kh; (case kh => with_reducible assumption)) | omega); (case hbind => first | exact BindsTo.of_eq rfl | exact binds_P (Frag.In.keeps (Gd.X (by assumption)) (by assumption)) (fun _ => by kernel_rfl)); (case hloc => exact locs rfl); (case hcell => decide); (case hco => rfl); (case hgen => rfl); (case hk => rfl))
 k_with "k_inst" => exact inst_base (by k_asm) (by assumption) (by assumption)
 k_with "kk_sz" => with_reducible (fail_if_success exact sz_nil); with_reducible first | assumption | exact Nat.le_of_eq (by assumption) | exact sz_le | exact sz_dig | exact sz_app (by walk_at "kk_sz") (by walk_at "kk_sz")
 k_with "kk_size" => first | with_reducible assumption | (with_reducible exact Nat.le_trans (by walk_at "kk_sz") (by decide)) | (with_reducible exact Nat.le_trans (Nat.add_le_add (by walk_at "kk_sz") (by walk_at "kk_sz")) (by decide)) | omega | ((try simp only [Array.size_append, List.size_toArray, List.length_cons, List.length_nil, le_size, be_size, dig_size] at *); omega)
 k_with "binaryOp Add bytes bytes" => (k_here; (with_reducible show wpAny _ _ (binaryOp Operator.Add (Value.bytes _ _) (Value.bytes _ _)) _ _ _); (refine KBy.add_bytes ?_ ?_); (walk_at "kk_size"); intro _ _)
 k_with "inplaceOp Add bytes bytes" => (k_here; (with_reducible show wpAny _ _ (inplaceOp Operator.Add (Value.bytes _ _) (Value.bytes _ _)) _ _ _); (refine iadd_bytes ?_ ?_); (walk_at "kk_size"); intro _ _)
 k_with "call builtin:int.to_bytes" => (k_here; (with_reducible show wpAny _ _ (call (Value.builtin "int.to_bytes") [Value.int _ _, Value.int _ _, Value.str _ _]) _ _ _); (first | refine to_le 4 (by first | rfl | omega) (by decide) (by first | assumption | omega) (by first | assumption | omega) ?_ | refine to_le 8 (by first | rfl | omega) (by decide) (by first | assumption | omega) (by first | assumption | omega) ?_ | refine to_le 2 (by first | rfl | omega | with_unfolding_all rfl) (by decide) (by first | assumption | omega) (by first | assumption | omega) ?_ | refine to_be 32 (by first | rfl | omega) (by decide) (by first | assumption | omega) (by first | assumption | omega) ?_); intro _ _)
 k_with "call ref" => (k_here; (with_reducible show wpAny _ _ (call (Value.ref _) [Value.bytes _ _, Value.str _ _]) _ _ _); kfb_any; k_dflt (refine from_big (KFB.at_of (by k_asm) (by k_mem)) ?_ ?_); (walk_at "kk_size"); intro _ _)
 k_with "binaryOp Mult int int" => (refine PySem.P.mul_int ?_ (by assumption))
 trivial
theorem hideP {P : Prop} (h : ∀ B : Prop, (P → B) → B) : P := h P id
section
variable {prog : Program} {w : World} {A : Around} {E : Value → Shared → Prop} {s : Shared} {env : Env} {K : Frag} {h₀ : Heap} {L a o C : Addr} {m : Str → Option Value} {cn : Str} {cs : Scope} {ccd : Value} {cl : List (Str × Addr)} {x attr : Str} {p1 p2 p3 : Pos} {ox : Obj} {es : List DictEntry} {n : Nat} {v : Value} {e : PySem.Expr} {rest : List PySem.Expr}
theorem attr_L {fa : Option Value} {Q : Value → Shared → Prop} (F : Fr h₀ L s.heap m) (hv : m x = some (.ref o)) (X₀ : K.In h₀) (I : InstAt s.heap o ox C (some (dictOf es n))) (hg : plainGet K C attr = true) (hh : hasDictIn K C = true)
  (ha : findIn K (.ref C) attr = some fa) (hn : noGet K fa = true) (hl : getL attr es = some (some v)) (hi : handedIn v = true) (h : Q v { s with toks := s.toks + 1 })
  (hk : cs.kind = .function) (hx : (envX cn cs L a ccd cl).kindOf x = some .local) (hd : (x == ("__debug__" : Str)) = false) :
  wpAny (model prog w) A (eval (.Attribute (.Name x p1) attr p2) (envX cn cs L a ccd cl)) Q E s := Attribute_Name_ (nameX_L F hv (get_own F X₀ I hg hh ha hn hl hi h) hk hx hd)
theorem args_one {Q : List Value → Shared → Prop} {M : Model} (h : wpAny M A (eval e env) (fun v s => Q [v] s) E s) (he : starEach [e] env = [(false, eval e env)]) : wpAny M A (spliced (backTo p1 (starEach [e] env))) Q E s := by
 rw [he]; exact spliced_cons (wpAny_mono h (fun _ _ q => spliced_nil q) fun _ _ q => q)
theorem args_nm {Q : List Value → Shared → Prop} {M : Model} (F : Fr h₀ L s.heap m) (hv : m x = some v) (h : wpAny M A (spliced (backTo p1 (starEach rest env))) (fun vs s => Q (v :: vs) s) E s)
  (hn : env = envX cn cs L a ccd cl) (hk : cs.kind = .function) (hx : (envX cn cs L a ccd cl).kindOf x = some .local) (hd : (x == ("__debug__" : Str)) = false) : wpAny M A (spliced (backTo p1 (starEach (.Name x p2 :: rest) env))) Q E s :=
 args_cons (by subst hn; exact nameX_L F hv h hk hx hd)
theorem args_nm1 {Q : List Value → Shared → Prop} {M : Model} (F : Fr h₀ L s.heap m) (hv : m x = some v) (h : Q [v] s)
  (hn : env = envX cn cs L a ccd cl) (hk : cs.kind = .function) (hx : (envX cn cs L a ccd cl).kindOf x = some .local) (hd : (x == ("__debug__" : Str)) = false) : wpAny M A (spliced (backTo p1 (starEach [.Name x p2] env))) Q E s :=
 args_nm F hv (args_nil h) hn hk hx hd
theorem meth_L1 {pl : Sem Bool} {f : Addr} {Q : Value → Shared → Prop} (F : Fr h₀ L s.heap m) (hv : m x = some (.ref o)) (X₀ : K.In h₀) (I : InstAt s.heap o ox C (some (dictOf es n))) (hg : plainGet K C attr = true)
  (hf : findIn K (.ref C) attr = some (some (.ref f))) (ht : isFn K (.ref f) = true) (hl : getL attr es = some none) (hq : keepIn K (.ref f) = true)
  (h : wpAny (model prog w) A (eval e env) (fun v s => K.In s.heap ∧ wpAny (model prog w) A (call (.ref f) [.ref o, v]) Q E s) E s)
  (hm : eval (.Call (.Attribute (.Name x p1) attr p2) [e] [] p3) env = (do
   let ov ← eval (.Name x p1) env
   standAt p2.atName
   let (f, first) ← holding [ov] (getMethod ov attr pl)
   callWith p3 f first (backTo p3 (starEach [e] env)) []))
  (he : starEach [e] env = [(false, eval e env)]) (hk : cs.kind = .function) (hx : (envX cn cs L a ccd cl).kindOf x = some .local) (hd : (x == ("__debug__" : Str)) = false) (hn : env = envX cn cs L a ccd cl) :
  wpAny (model prog w) A (eval (.Call (.Attribute (.Name x p1) attr p2) [e] [] p3) env) Q E s :=
 MethodCall_ (by rw [hn] at h he ⊢; exact nameX_L F hv (method_inst F X₀ I hg hf ht hl (callWith_K X₀ hq (args_one (Q := fun vs s => K.In s.heap ∧ wpAny (model prog w) A (call (.ref f) (.ref o :: vs)) Q E s) h he) he rfl)) hk hx hd) hm
theorem meth_L0 {pl : Sem Bool} {f : Addr} {Q : Value → Shared → Prop} (F : Fr h₀ L s.heap m) (hv : m x = some (.ref o)) (X₀ : K.In h₀) (I : InstAt s.heap o ox C (some (dictOf es n))) (hg : plainGet K C attr = true)
  (hf : findIn K (.ref C) attr = some (some (.ref f))) (ht : isFn K (.ref f) = true) (hl : getL attr es = some none) (hq : keepIn K (.ref f) = true)
  (h : wpAny (model prog w) A (call (.ref f) [.ref o]) Q E s)
  (hm : eval (.Call (.Attribute (.Name x p1) attr p2) [] [] p3) (envX cn cs L a ccd cl) = (do
   let ov ← eval (.Name x p1) (envX cn cs L a ccd cl)
   standAt p2.atName
   let (f, first) ← holding [ov] (getMethod ov attr pl)
   callWith p3 f first (backTo p3 (starEach [] (envX cn cs L a ccd cl))) []))
  (hk : cs.kind = .function) (hx : (envX cn cs L a ccd cl).kindOf x = some .local) (hd : (x == ("__debug__" : Str)) = false) :
  wpAny (model prog w) A (eval (.Call (.Attribute (.Name x p1) attr p2) [] [] p3) (envX cn cs L a ccd cl)) Q E s :=
 MethodCall_ (nameX_L F hv (method_inst F X₀ I hg hf ht hl (callWith_K0 (X₀.keeps F.keep) hq h)) hk hx hd) hm
theorem call_G {mg mb : Str → Option Value} {p : Program} {loose : List Str} {Q : Value → Shared → Prop} (F : Fr h₀ L s.heap m) (X : K.In h₀) (T : TopRead p loose mg mb h₀) (hv : nsIn K mainGlobals x = some (some v)) (hq : keepIn K v = true)
  (h : wpAny (model prog w) A (spliced (backTo p3 (starEach (e :: rest) env))) (fun vs s => K.In s.heap ∧ wpAny (model prog w) A (call v vs) Q E s) E s)
  (he : starEach (e :: rest) env = (false, eval e env) :: starEach rest env) (hp : (backTo p3 (starEach rest env)).any (·.1) = false) (hk : cs.kind = .function) (hx : (envX cn cs L a ccd cl).kindOf x = some .globalImplicit) (hd : (x == ("__debug__" : Str)) = false) (hn : env = envX cn cs L a ccd cl) :
  wpAny (model prog w) A (eval (.Call (.Name x p1) (e :: rest) [] p3) env) Q E s :=
 Call_ (by rw [hn] at h he hp ⊢; exact nameX_K F X T hv (callWith_K X hq h he hp) hk hx hd)
theorem call_G1 {mg mb : Str → Option Value} {p : Program} {loose : List Str} {Q : Value → Shared → Prop} (F : Fr h₀ L s.heap m) (X : K.In h₀) (T : TopRead p loose mg mb h₀) (hv : nsIn K mainGlobals x = some (some v)) (hq : keepIn K v = true)
  (h : wpAny (model prog w) A (eval e env) (fun b s => K.In s.heap ∧ wpAny (model prog w) A (call v [b]) Q E s) E s)
  (he : starEach [e] env = [(false, eval e env)]) (hk : cs.kind = .function) (hx : (envX cn cs L a ccd cl).kindOf x = some .globalImplicit) (hd : (x == ("__debug__" : Str)) = false) (hn : env = envX cn cs L a ccd cl) :
  wpAny (model prog w) A (eval (.Call (.Name x p1) [e] [] p3) env) Q E s :=
 call_G F X T hv hq (args_one (Q := fun vs s => K.In s.heap ∧ wpAny (model prog w) A (call v vs) Q E s) h he) he rfl hk hx hd hn
theorem call_B1 {mg mb : Str → Option Value} {p : Program} {loose : List Str} {id : String} {Q : Value → Shared → Prop} (F : Fr h₀ L s.heap m) (X : K.In h₀) (T : TopRead p loose mg mb h₀) (hv : nsIn K mainGlobals x = some none) (hb : bootBuiltins x = some (.builtin id)) (hs : x ≠ "__name__")
  (h : wpAny (model prog w) A (eval e env) (fun b s => wpAny (model prog w) A (call (.builtin id) [b]) Q E s) E s)
  (he : starEach [e] env = [(false, eval e env)]) (hk : cs.kind = .function) (hx : (envX cn cs L a ccd cl).kindOf x = some .globalImplicit) (hd : (x == ("__debug__" : Str)) = false) (hn : env = envX cn cs L a ccd cl) :
  wpAny (model prog w) A (eval (.Call (.Name x p1) [e] [] p3) env) Q E s :=
 Call_ (by rw [hn] at h he ⊢; exact nameX_B F X T hv hb hs (callWith_builtin1 (args_one (Q := fun vs s => wpAny (model prog w) A (call (.builtin id) vs) Q E s) h he) he rfl) hk hx hd)
end
theorem hk3 : True := by
 k_with "eval Attribute Name" => (k_here; k_dflt (refine' attr_L ?F ?v ?X ?I ?c ?d ?e ?f ?g ?i ?_ ?a ?b ?k; (case F => k_asm); (case v => rfl); (case X => k_asm); (case I => k_inst); (case c => k_is); (case d => k_is); (case e => k_is); (case f => k_is); (case g => k_get); (case i => k_handed); (case a => rfl); (case b => rfl); (case k => decide); k_whole))
 k_with "eval Call Attribute" => (k_here; (with_reducible show wpAny _ _ (eval (Expr.Call (Expr.Attribute (Expr.Name _ _) _ _) [] [] _) _) _ _ _); k_dflt (refine' meth_L0 ?F ?v ?X ?I ?c ?d ?e ?f ?g ?_ ?i ?a ?b ?k; (case F => k_asm); (case v => rfl); (case X => k_asm); (case I => k_inst); (case c => k_is); (case d => k_is); (case e => k_is); (case f => k_get); (case g => k_is); (case i => rfl); (case a => rfl); (case b => rfl); (case k => decide); k_whole))
 k_with "eval Call Attribute" => (k_here; (with_reducible show wpAny _ _ (eval (Expr.Call (Expr.Attribute (Expr.Name _ _) _ _) [_] [] _) _) _ _ _); k_dflt (refine' meth_L1 ?F ?v ?X ?I ?c ?d ?e ?f ?g ?_ ?i ?j ?a ?b ?k ?l; (case F => k_asm); (case v => rfl); (case X => k_asm); (case I => k_inst); (case c => k_is); (case d => k_is); (case e => k_is); (case f => k_get); (case g => k_is); (case l => rfl); (case i => rfl); (case j => rfl); (case a => rfl); (case b => rfl); (case k => decide); k_whole))
 k_with "eval Call Name" => (k_here; (with_reducible show wpAny _ _ (eval (Expr.Call _ (_ :: _) [] _) _) _ _ _); k_dflt (first | (refine' call_G1 ?F ?X ?T ?v ?c ?_ ?i ?a ?b ?k ?l; (case F => k_asm); (case X => k_asm); (case T => k_asm); (case v => k_is); (case c => k_is); (case l => rfl); (case i => rfl); (case a => rfl); (case b => rfl); (case k => decide); k_whole) | (refine' call_G ?F ?X ?T ?v ?c ?_ ?i ?j ?a ?b ?k ?l; (case F => k_asm); (case X => k_asm); (case T => k_asm); (case v => k_is); (case c => k_is); (case l => rfl); (case i => rfl); (case j => rfl); (case a => rfl); (case b => rfl); (case k => decide); k_whole)))
 k_with "eval Call Name" => (k_here; (with_reducible show wpAny _ _ (eval (Expr.Call (Expr.Name (Str.ofString "len") _) [_] [] _) _) _ _ _); k_dflt (refine' call_B1 ?F ?X ?T ?v ?c ?d ?_ ?i ?a ?b ?k ?l; (case F => k_asm); (case X => k_asm); (case T => k_asm); (case v => k_is); (case c => boot_fast); (case d => decide); (case l => rfl); (case i => rfl); (case a => rfl); (case b => rfl); (case k => decide); k_whole))
 k_with "spliced" => (k_here; (with_reducible show wpAny _ _ (spliced (backTo _ (starEach [_] _))) _ _ _); k_dflt (refine' args_one ?_ ?a; (case a => rfl); k_whole); (try dsimp only [List.cons_append, List.nil_append]))
 k_with "spliced" => (k_here; (with_reducible show wpAny _ _ (spliced (backTo _ (starEach (Expr.Name _ _ :: _) _))) _ _ _); k_dflt (refine' args_nm ?F ?v ?_ ?n ?a ?b ?k; (case F => k_asm); (case v => rfl); (case n => rfl); (case a => rfl); (case b => rfl); (case k => decide); k_whole))
 k_with "spliced" => (k_here; (with_reducible show wpAny _ _ (spliced (backTo _ (starEach [Expr.Name _ _] _))) _ _ _); k_dflt (refine' args_nm1 ?F ?v ?_ ?n ?a ?b ?k; (case F => k_asm); (case v => rfl); (case n => rfl); (case a => rfl); (case b => rfl); (case k => decide); k_whole); (try dsimp only [List.cons_append, List.nil_append]))
 trivial
end
section
open PySem.Spec
open Sem (wp)
theorem runs_of_x {p : Program} {w : World} {t : Sem Fin} {s : Shared} {R : Result → Shared → Prop} (hz : s.asleep)
  (h : wpX (model p w) callerA t (fun fin s' => ∃ f, fin = .done f ∧ R (.ok f) s' ∧ leftWithCleanup s'.gens = false) (fun e s' => R (.error e) s' ∧ leftWithCleanup s'.gens = false) s) :
  ∃ n r s' s'', runN (denote table) p w n s ⟨t, .builtin "claim.caller" {}, default, []⟩ = .halted (outcomeOf r) s' ∧
   schedN (denote table) p w n (.single s ⟨t, .builtin "claim.caller" {}, default, []⟩) = .halted (outcomeOf r) s' ∧ s'.forget = s''.forget ∧ R r s'' := by
 have h1 := h ⟨.builtin "claim.caller" {}, none, none, [], none⟩ default caller_in (by decide) (fun x hx => by cases hx)
 obtain ⟨n, r, s₁, s₂, hs, hn, hf, hR⟩ := wp_halts_full (M := model p w) (R := R) hz (Sem.wp_mono _ _ _ (fun fin _ _ x => by obtain ⟨f, rfl, y⟩ := x; exact y) (fun _ _ _ x => x) _ _ h1)
 exact ⟨n, r, s₂, s₁, hn, hs, hf, hR⟩
abbrev WalkC (q : Program) (loose : List Str) (XP : (Str → Option Value) → Heap → Prop) (YP : World → Heap → Prop) (r : RowW) (d : DefRec) (kwd : List (Str × Expr)) : Prop :=
 ∀ (w : World) (s₀ s₁ : Shared) (mg mb : Str → Option Value), Ground q loose r.records XP w s₀ mg mb s₁.heap → YP w s₁.heap → ∀ (a : Addr), mg d.name = some (.ref a) → s₁.gens = #[] →
  ∀ (args : List WData) (vals : List Value) (as : List Addr), r.claim.pre args = true → WData.layableAll args = true → ReadsAllW r.records (classAt s₀.heap) s₁.heap vals args as → WellAll w.params s₁.heap vals args →
   wpX (model r.prog w) callerA (call (.ref a) vals) (fun v s' => GoodWG r.claim (classAt s₀.heap) (ExcName.means s₀.heap) args s₁ (.ok (.ret v)) s')
    (fun e s' => GoodWG r.claim (classAt s₀.heap) (ExcName.means s₀.heap) args s₁ (.error e) s') s₁
theorem holds_x {r : OpenRow} {q : Program} {loose : List Str} {Xt : Shared → Bool} {XP : (Str → Option Value) → Heap → Prop} {α : Type} {Yf : Shared → α} {Ya : World → α} {YP : World → Heap → Prop} {d : DefRec} {kwd : List (Str × Expr)} {N : Nat}
  (left : LeftO r.prog q loose Xt Yf Ya N) (hY : ∀ w s, Yf s = Ya w → YP w s.heap) (hYk : ∀ w h h', YP w h → (∀ b o, h.get? b = some o → h'.get? b = some o) → YP w h')
  (hX : ∀ s, Xt s = true → XP (s.heap.nsMap mainGlobals) s.heap) (hXk : ∀ mg h h', XP mg h → (∀ b o, h.get? b = some o → h'.get? b = some o) → XP mg h')
  (hdef : defOf q r.name = some (d, kwd)) (hp : r.prog.theDef r.name = some (d.params, d.body, d.scope)) (hk : kwWritten? d.params.kwonlyargs d.params.kw_defaults = some kwd) (hRf : ∀ s, Xt s = true → RecFacts r.records s.heap) (hwr : (!r.writes || r.records.isEmpty) = true)
  (k1 : r.wellSaid = true) (ok : (chainsOk q && opensWell r.prog && (frees r.toRowW && r.within.isEmpty)) = true) (hb : r.prog.bare) (hw : r.toRowW.promised)
  (walk : WalkC q loose XP YP r.toRowW d kwd) : r.Holds := by
 refine ⟨k1, hw, ?_⟩
 simp only [Bool.and_eq_true] at ok
 obtain ⟨⟨hch, o1⟩, k5, k6⟩ := ok
 obtain ⟨hsame, hu, ha, hap, hm⟩ := frees_parts k5
 have hwi : r.toRowW.claim.within = [] := List.isEmpty_iff.mp k6
 have hi := ident_freeW hu ha hap
 refine ⟨⟨hb, o1, ?_⟩, hw.witness, fun w => ⟨(left.behind hX hch w).1, fun s' hs' => ?_⟩⟩
 ·show r.toRowW.makers.map _ = []
  rw [hm]; rfl
 refine hideP fun B9 k9 => ?_
 obtain ⟨s₀, hf, hg0, s, hT, hz, hgens, hg, G2, y⟩ := (left.behind (XP := fun mg h => XP mg h ∧ RecFacts r.records h) (fun s hs => ⟨hX s hs, hRf s hs⟩) hch w).2 s' hs'
 have hT' := hT
 have hno : s.gens = #[] := Array.eq_empty_of_size_eq_zero (beq_iff_eq.mp hgens)
 have G1 : Ground q loose [] XP w s (s.heap.nsMap mainGlobals) (s.heap.nsMap builtinsNs) s.heap := ⟨G2.T, G2.B, G2.D, G2.TE, G2.TD, G2.W, G2.X.1, G2.cls, G2.has, G2.apart, G2.once, G2.K⟩
 have RF := G2.X.2
 have G : Ground q loose r.toRowW.records XP w s _ _ s.heap := RF.ground G1
 refine k9 ⟨s₀, hf, hg0, s, hT, fun n hn => ?_, RF.1, RF.2.1, ?_⟩
 all_goals clear k9 B9
 ·obtain rfl : n = r.name := by split at hn <;> simp_all
  exact pinned_of_view hg G1 hdef hp hk
 intro args hpre hlay ord hord
 refine hideP fun B9 k9 => ?_
 obtain ⟨⟨vs, s₁⟩, hlaid⟩ := Option.isSome_iff_exists.mp (layAllW_isSome (P := w.params) (ord := ord) G.has args r.toRowW.args s (pre_splitW hpre).1)
 have kept := layAllW_keeps _ _ _ hlaid
 have rest := layAllW_rest _ _ _ hlaid
 obtain ⟨as, hrd, hin, hold⟩ := reads_layAllW hord _ _ _ hlaid hlay s₁.heap (fun _ _ e => e)
 have L : Laid r.toRowW.records w s s₁ args vs as := ⟨⟨ord, hord, hlaid⟩, hrd, hin, hold, kept, rest.1.trans hno, rest.2.2.1⟩
 have G' := G.keeps hXk kept
 obtain ⟨a, o, pm, cd, doc, dV, kV, h1, h2, h3, h4, h5⟩ := G'.fn hdef
 have W := walk w s s₁ _ _ G' (hYk _ _ _ (hY w s y) kept) a (defOf_name hdef ▸ h1) L.gens args vs as hpre hlay L.reads L.well
 let Kp : Heap → Prop := fun h' => r.writes = true → namesKept r.toRowW.prog r.keeps s.heap h' ∧ ∀ x ∈ r.toRowW.records, ∀ a, classAt s.heap x.1 = some a → recordClass h' a x.1 (x.2.map (·.1)) = true
 have good : ∀ res s', GoodWG r.toRowW.claim (classAt s.heap) (ExcName.means s.heap) args s₁ res s' → (r.toRowW.claim.Ends s args vs s₁ res s' ∧ s'.os = s.os ∧ Kp s'.heap) ∧ leftWithCleanup s'.gens = false := fun res s' g => by
  have z := g.laid (c := r.toRowW.claim) hsame hwi hi L
  exact ⟨⟨z.1, z.2.1, fun q => ⟨namesKept_of hT' hg r.keeps kept g.2.1.old, noTable hwr q⟩⟩, leftWithCleanup_false_of_bare z.2.2⟩
 have tree : wpX (model r.toRowW.prog w) callerA (callStub r.name vs).cur
   (fun fin s' => ∃ f, fin = .done f ∧ (r.toRowW.claim.Ends s args vs s₁ (.ok f) s' ∧ s'.os = s.os ∧ Kp s'.heap) ∧ leftWithCleanup s'.gens = false)
   (fun e s' => (r.toRowW.claim.Ends s args vs s₁ (.error e) s' ∧ s'.os = s.os ∧ Kp s'.heap) ∧ leftWithCleanup s'.gens = false) s₁ := by
  refine x_bind (x_any (wpAny_nsGet G'.T.g ?_))
  rw [h1]
  exact x_bind (x_mono W (fun v s' g => x_pure ⟨_, rfl, good _ _ g⟩) fun e s' g => good _ _ g)
 obtain ⟨n, res, s', s'', hrun, hsched, hf', hends, hos, hkp⟩ := runs_of_x (R := fun res s' => r.toRowW.claim.Ends s args vs s₁ res s' ∧ s'.os = s.os ∧ Kp s'.heap) (Shared.asleep_of_life rest.2.2.2 hz) tree
 obtain ⟨eh, _, _, eo, _⟩ := Shared.forget_eq hf'
 have hends := hends.congr eh
 have hlife : s'.heap.life = s.heap.life := (runN_life _ _ _ hrun).trans rest.2.2.2
 refine k9 ⟨vs, s₁, hlaid, n, _, s', hsched, ?_, fun _ i x hx => by rw [hno] at hx; simp at hx, eh ▸ hkp, by rw [hlife], Shared.rest_eq (eo ▸ hos)⟩
 rcases hends with ⟨v, rfl, d1, d2, d3, d4, d5⟩ | ⟨e, ob, cls, rfl, d1, d2, d3, d4, d5⟩
 ·exact .inl ⟨v, rfl, d1, d2, d3, fun b o y _ => d4 b o y, d5⟩
 ·exact .inr ⟨e, ob, cls, rfl, d1, d2, d3, d4, fun b o y _ => d5 b o y⟩
abbrev WalkXT : Prop := WalkC qv loose (XL qv []) YIn law.row.toRowW stLaw []
theorem headX (walk : WalkXT) : law.Holds := by
 refine ⟨well, ?_⟩
 refine holds_x (r := law.row) (q := qv) (loose := loose) (Xt := Xq) (XP := XL qv []) (Yf := fun s => s.heap.objs.toList) (Ya := fun w => l47 w.params) (YP := YIn) (d := stLaw) (kwd := []) (N := 60000)
  left yin (fun w h h' x k => Frag.In.keeps x k) (fun s e => xl_of s (Bool.and_eq_true_iff.mp e).1) XL.keeps k_def k_the k_kw (fun s e => recFacts_of (Bool.and_eq_true_iff.mp e).2) rfl rowSaid k_ok ⟨rfl, rfl, rfl, rfl, rfl, by decide +kernel⟩ ?_ walk
 w_witness2
end
section
open Sem (wp)
section
variable {p : Program} {w : World} {M : Model} {A : Around} {E : Value → Shared → Prop} {s : Shared} {env : Env} {R : Result → Shared → Prop}
theorem x_func {body : List Stmt}
  (h : wpX (model p w) (A.deeper env) (execs body env) (fun f s' => R (.ok (.ret (match f with | .ret v => v | _ => .none))) s')
   (fun e s' => wpAny (model p w) (A.deeper env) (leaving env e) (fun _ s'' => R (.error e) s'') (fun e' s'' => R (.error e') s'') s') s) : codeX (model p w) A (.func body env) R s := by
 refine x_tree rfl ?_
 show wpX _ (A.deeper env) (do point; match ← (execs body env).onRaise (leaving env) with | .ret v => ret v | _ => ret .none) _ _ s
 refine x_bind (x_any (wpAny_point (x_bind (x_onRaise (x_mono h (fun f s' h' => ?_) fun _ _ h' => x_any h')))))
 cases f <;> exact x_pure h'
theorem x_callG {s₁ : Shared} {a : Addr} {oc : Value} {od : Option Addr} {sl : Array (Option Value)} {name qual : Str} {params : Arguments} {body : List Stmt} {scope : Scope} {dV kV doc pm cdv ct : Value} {an : Option Addr} {args : Args} {binds : List (Str × Value)}
  (hroom : A.depth < recursionLimit) (ho : s.heap.get? a = some ⟨oc, od, .func (fnOf name qual params body scope dV kV doc pm an cdv ct), sl⟩) (hlim : s₁.heap.NoLimit) (hcd : s.heap.CodeRec cdv qual)
  (hbind : ∀ {A' : Around} {E' : Value → Shared → Prop} {Q : List (Str × Value) → Shared → Prop}, Q binds s₁ → wpAny (model p w) A' (bindArgs (fnOf name qual params body scope dV kV doc pm an cdv ct) args) Q E' s)
  (hcell : ∀ x ∈ scope.names, x.2 ≠ .cell) (hloc : ∀ x ∈ binds, scope.names.lookup x.1 = some .local)
  (hs : scope = ⟨.function, scope.names, false, false, scope.more⟩)
  (h : ∀ h₀, h₀.Ns s₁.heap.objs.size (fun x => binds.reverse.lookup x) → (∀ b o, s₁.heap.get? b = some o → h₀.get? b = some o) → codeX (model p w) A (.func body (envOf qual scope s₁.heap.objs.size a cdv)) R { s₁ with heap := h₀, toks := s₁.toks + binds.length }) :
  codeX (model p w) A (.call (.ref a) args) R s := by
 generalize scope.names = nms at *
 generalize scope.more = mo at *
 subst hs
 obtain ⟨c, o, vs, tq, rfl, hoc, hdc, hq⟩ := hcd
 refine x_tree rfl (x_any ?_)
 show wpAny _ A.in1 (load a >>= _) _ _ s
 refine wpAny_bind (wpAny_load ho ?_)
 refine wpAny_bind (m := field (.ref c) 1) (wpAny_field hoc hdc hq (wpAny_bind (wpAny_pure ?_)))
 refine wpAny_bind (hbind (wpAny_bind (wpAny_newFunctionEnv hcell hloc (fun h₀ hns hsb => wpAny_bind (wpAny_enterFrame (hlim.fresh _ hsb) hroom (wpAny_pure ⟨rfl, h h₀ hns fun b o e => ?_⟩))) rfl)))
 exact hsb.extBut b o (Nat.ne_of_lt (Heap.lt_size e)) (Heap.get?_push_of_some _ e)
theorem sc_eq {s : Scope} (a : s.isCoroutine = false) (b : s.isGenerator = false) (c : s.kind = .function) : s = ⟨.function, s.names, false, false, s.more⟩ := by
 obtain ⟨k, n, g, i, m⟩ := s
 cases a; cases b; cases c; rfl
end
def DoesX (w : World) (n : Nat) (f : Value) (args : List Value) (kw : List (Str × Value)) (s : Shared) (W : List Addr) (post : Value → Heap → Prop) : Prop :=
 ∀ (dp un : Nat) (fr : Option (List Env)) (gd : Option (List Code)) (R : Result → Shared → Prop), dp + n < recursionLimit → un + 8 * n < cLine →
  (∀ r h' tk', Ext W s.heap h' → post r h' → R (.ok (.ret r)) { s with heap := h', toks := tk' }) → codeX (model prog w) (Ar dp un fr gd) (.call f ⟨args, kw⟩) R s
theorem DoesX.of {w : World} {n : Nat} {f : Value} {args : List Value} {kw : List (Str × Value)} {s : Shared} {W : List Addr} {post : Value → Heap → Prop} (D : Does w n f args kw s W post) : DoesX w n f args kw s W post :=
 fun dp un fr gd R h1 h2 h3 => x_code (D dp un fr gd R h1 h2 h3)
theorem enterX {w : World} {hb : Heap} {mean : ExcName → Option Value} {mg mb : Str → Option Value} (G : Gd w hb mean mg mb) {s : Shared} (st : St hb s.heap) (W : List (Addr × Obj)) (hW : ∀ p ∈ W, s.heap.get? p.1 = some p.2 ∧ hb.get? p.1 = none)
  {dp un : Nat} {fr : Option (List Env)} {gd : Option (List Code)} {R : Result → Shared → Prop} {name qual : Str} {params : Arguments} {body : List Stmt} {scope : Scope} {dV kV doc pm cdv ct oc : Value} {an od : Option Addr} {osl : Array (Option Value)} {f : Addr} {args : List Value} {kw : List (Str × Value)} {binds : List (Str × Value)}
  (ho : (Kc w.params).lookup f = some ⟨oc, od, .func (fnOf name qual params body scope dV kV doc pm an cdv ct), osl⟩) (hcd : codeIn (Kc w.params) cdv qual = true) (hroom : dp < recursionLimit)
  (hbind : BindsTo s (fnOf name qual params body scope dV kV doc pm an cdv ct) ⟨args, kw⟩ binds) (hloc : ∀ y ∈ binds, scope.names.lookup y.1 = some .local)
  (h : ∀ g L h₁, Fr g L h₁ (fun y => binds.reverse.lookup y) → News g L h₁ W → (∀ p ∈ W, p.1 < L) → s.heap.objs.size ≤ L → (Kc w.params).In g → Top qv (looseW qv loose) mean mg mb g → St hb g → (∀ b o, s.heap.get? b = some o → b ∉ W.map (·.1) → g.get? b = some o) →
   wpX (model prog w) ((Ar dp un fr gd).deeper (envOf qual scope L f cdv)) (execs body (envOf qual scope L f cdv))
    (LeafP g (W.map (·.1)) s.heap R) (fun _ _ => False)
    { s with heap := h₁, toks := s.toks + binds.length })
  (hcell : ∀ x ∈ scope.names, x.2 ≠ .cell) (hco : scope.isCoroutine = false) (hgen : scope.isGenerator = false) (hk : scope.kind = .function) :
  codeX (model prog w) (Ar dp un fr gd) (.call (.ref f) ⟨args, kw⟩) R s := by
 have X' : (Kc w.params).In s.heap := Frag.In.keeps G.X st
 refine x_callG (binds := binds) hroom (X' _ _ ho) (G.T.nolimit.keeps st) (codeRec_of X' hcd) (hbind _ _ _ _) hcell hloc (sc_eq hco hgen hk) (fun h₁ hns hk₁ => x_func ?_)
 have sub : St hb (hideAll s.heap (W.map (·.1))) := fun b o e => hideAll_get _ (st b o e) fun q => by
  obtain ⟨p, hp, rfl⟩ := List.mem_map.mp q
  rw [(hW p hp).2] at e; cases e
 refine x_mono (h (hideAll s.heap (W.map (·.1))) s.heap.objs.size h₁ ⟨hns, fun b o e => hk₁ b o (of_hideAll _ e), Nat.le_of_eq (hideAll_size _ _)⟩
  (fun p hp => ⟨hk₁ _ _ (hW p hp).1, Nat.ne_of_lt (Heap.lt_size (hW p hp).1), hideAll_none _ (List.mem_map_of_mem hp)⟩) (fun p hp => Heap.lt_size (hW p hp).1) (Nat.le_refl _) (Frag.In.keeps G.X sub) (G.T.keeps sub) sub (fun b o e n => hideAll_get _ e n)) (fun fl s' hl => ?_) fun _ _ y => y.elim
 obtain ⟨L', m', F', k⟩ := hl
 exact k F'.keep fun b o n e => F'.keep b o (hideAll_get _ e n)
section
variable {w : World} {g : Heap} {n : Nat} {f : Value} {args : List Value} {kw : List (Str × Value)} {s : Shared} {post : Value → Heap → Prop} {L : Addr} {m : Str → Option Value} {news : List (Addr × Obj)} {dp un : Nat} {fr : Option (List Env)} {gd : Option (List Code)} {Q E : Value → Shared → Prop}
theorem useX0 {h0 : Heap} {gs : Array GenState} {dr : Drawn} {tk : Nat} {os : OsState} (D : DoesX w n f args kw ⟨h0, gs, dr, tk, os⟩ [] post) (F : Fr g L h0 m) (N : News g L h0 news) (hd : dp + n < recursionLimit) (hu : un + 8 * n < cLine)
  (h : ∀ K : Value → Heap → Nat → Prop, (∀ r h' tk', Q r ⟨h', gs, dr, tk', os⟩ → K r h' tk') → ∀ r h' tk', Fr g L h' m → News g L h' news → (∀ p ∈ news, p.1 < h0.objs.size) → L < h0.objs.size → post r h' → K r h' tk') :
  wpX (model prog w) (Ar dp un fr gd) (call f args kw) Q E ⟨h0, gs, dr, tk, os⟩ := by
 refine x_call (D dp un fr gd _ hd hu fun r h' tk' e p => ?_)
 have e' : ∀ b o, h0.get? b = some o → h'.get? b = some o := fun b o q => e b o (by simp) q
 exact h (fun r h' tk' => Q r ⟨h', gs, dr, tk', os⟩) (fun _ _ _ q => q) r h' tk' (fr_ext F e') (news_ext N e') (fun p hp => Heap.lt_size (N p hp).1) F.ns.lt p
theorem useX0b {h0 : Heap} {gs : Array GenState} {dr : Drawn} {tk : Nat} {os : OsState} {X : Array UInt8} (D : DoesX w n f args kw ⟨h0, gs, dr, tk, os⟩ [] (fun r _ => ∃ t, r = .bytes X t)) (F : Fr g L h0 m) (N : News g L h0 news) (hd : dp + n < recursionLimit) (hu : un + 8 * n < cLine)
  (h : ∀ t h' tk', Fr g L h' m → News g L h' news → Q (.bytes X t) ⟨h', gs, dr, tk', os⟩) :
  wpX (model prog w) (Ar dp un fr gd) (call f args kw) Q E ⟨h0, gs, dr, tk, os⟩ :=
 useX0 D F N hd hu fun _ hK _ _ _ F' N' _ _ p => by obtain ⟨_, rfl⟩ := p; exact hK _ _ _ (h _ _ _ F' N')
theorem useX1 {h0 : Heap} {gs : Array GenState} {dr : Drawn} {tk : Nat} {os : OsState} {d : Addr} {o : Obj} (D : DoesX w n f args kw ⟨h0, gs, dr, tk, os⟩ [d] post) (F : Fr g L h0 m) (N : News g L h0 news) (hm : (d, o) ∈ news) (hd : dp + n < recursionLimit) (hu : un + 8 * n < cLine)
  (h : ∀ K : Value → Heap → Nat → Prop, (∀ r h' tk', Q r ⟨h', gs, dr, tk', os⟩ → K r h' tk') → ∀ r h' tk', Fr g L h' m → (∀ o' news', Upd d o o' news news' → h'.get? d = some o' → News g L h' news') → post r h' → K r h' tk') :
  wpX (model prog w) (Ar dp un fr gd) (call f args kw) Q E ⟨h0, gs, dr, tk, os⟩ := by
 refine x_call (D dp un fr gd _ hd hu fun r h' tk' e p => ?_)
 refine h (fun r h' tk' => Q r ⟨h', gs, dr, tk', os⟩) (fun _ _ _ q => q) r h' tk' (fr_but F (fun a ha => ?_) e) (fun o' news' U ho' => ?_) p
 ·rw [List.mem_singleton.mp ha]; exact (N _ hm).2
 ·obtain ⟨pre, post, rfl, rfl, h1, h2⟩ := U.split
  intro p hp
  rcases List.mem_append.mp hp with q | q
  ·have P := N p (List.mem_append_left _ q); exact ⟨e _ _ (by simpa using h1 p q) P.1, P.2⟩
  ·rcases List.mem_cons.mp q with rfl | q
   ·exact ⟨ho', (N (d, o) (by simp)).2⟩
   ·have P := N p (List.mem_append_right _ (.tail _ q)); exact ⟨e _ _ (by simpa using h2 p q) P.1, P.2⟩
end
end
section
open Sem (wp)
section
variable {p : Program} {w : World} {M : Model} {A : Around} {E : Value → Shared → Prop} {s : Shared} {env : Env}
theorem x_execs_nil {Q : Flow → Shared → Prop} (h : Q .next s) : wpX M A (execs [] env) Q E s := fun _ _ _ _ _ => h
def KOfX (K : Flow → Shared → Prop) (M : Model) (A : Around) (rest : List Stmt) (env : Env) (Q : Flow → Shared → Prop) (E : Value → Shared → Prop) : Prop := ∀ f s', (match f with | .next => wpX M A (execs rest env) Q E s' | f => Q f s') → Kont K f s'
theorem x_execs {st rest} {Q : Flow → Shared → Prop} (h : ∀ K : Flow → Shared → Prop, KOfX K M A rest env Q E → wpX M A (exec st env) (Kont K) E s) : wpX M A (execs (st :: rest) env) Q E s := by
 rw [execs_cons]
 refine x_bind (x_mono (h _ fun _ _ q => q) (fun f s' h' => ?_) fun _ _ x => x)
 cases f <;> first | exact h' | exact x_pure h'
theorem kontX_next {rest} {Q K : Flow → Shared → Prop} (hK : KOfX K M A rest env Q E) (h : wpX M A (execs rest env) Q E s) : Kont K .next s := hK .next s h
theorem kontX_ret {rest} {Q K : Flow → Shared → Prop} {v : Value} (hK : KOfX K M A rest env Q E) (h : Q (.ret v) s) : Kont K (.ret v) s := hK (.ret v) s h
theorem kontX_cont {rest} {Q K : Flow → Shared → Prop} (hK : KOfX K M A rest env Q E) (h : Q .cont s) : Kont K .cont s := hK .cont s h
theorem x_expr {e pos} {Q : Flow → Shared → Prop} (h : wpX (model p w) A (eval e env) (fun _ => Q .next) E s) (hi : interactive env = false := by rfl) (hs : swapsWith e none pos.line env = pure false := by rfl) :
  wpX (model p w) A (exec (.Expr e pos) env) Q E s := by
 rw [exec_Expr env e pos hi hs]
 exact x_bind (x_stand (x_bind (x_mono h (fun v s' h' => x_any (wpAny_dropValue h')) fun _ _ x => x)))
theorem x_assign {x pos' value pos} {Q : Flow → Shared → Prop} (h : wpX M A (eval value env) (fun v s₁ => wpAny M A (storeName env x v) (fun _ => Q .next) E s₁) E s)
  (hs : swapsWith value (some (.Name x pos')) pos.line env = pure false := by rfl) : wpX M A (exec (.Assign [.Name x pos'] value pos) env) Q E s := by
 rw [exec_Assign_Name env x pos' value pos hs]
 exact x_bind (x_stand (x_bind (x_mono h (fun v s' h' => x_bind (x_stand (x_bind (x_any (wpAny_bindName (wpAny_mono h' (fun _ _ q => x_pure q) fun _ _ z => z)))))) fun _ _ z => z)))
theorem x_aug {x pos' op value pos} {Q : Flow → Shared → Prop}
  (h : wpAny M A (loadName env x) (fun old s₁ => wpX M A (eval value env) (fun v s₂ => wpAny M A (inplaceOp op old v) (fun r s₃ => wpAny M A (storeName env x r) (fun _ => Q .next) E s₃) E s₂) E s₁) E s) :
  wpX M A (exec (.AugAssign (.Name x pos') op value pos) env) Q E s := by
 rw [exec_AugAssign_Name env x pos' op value pos]
 refine x_bind (x_stand (x_bind (x_any (wpAny_mono h (fun old s₁ h₁ => x_bind (x_holding (x_mono h₁ (fun v s₂ h₂ => ?_) fun _ _ z => z))) fun _ _ z => z))))
 refine x_bind (x_stand (x_bind (x_operate (x_any (wpAny_mono h₂ (fun r s₃ h₃ => ?_) fun _ _ z => z)))))
 exact x_bind (x_stand (x_bind (x_any (wpAny_bindName (wpAny_mono h₃ (fun _ _ q => x_pure q) fun _ _ z => z)))))
theorem x_return {e pos} {Q : Flow → Shared → Prop} (h : wpX M A (eval e env) (fun v => Q (.ret v)) E s) : wpX M A (exec (.Return (some e) pos) env) Q E s := by
 rw [exec_Return_some env e pos]
 exact x_bind (x_stand (x_bind (x_mono h (fun v s' h' => x_pure h') fun _ _ z => z)))
theorem x_if {test body orelse pos} {Q : Flow → Shared → Prop}
  (h : wpX M A (isTrue test env (eval test env)) (fun b s₂ => if b then wpX M A (execs body env) Q E s₂ else wpX M A (execs orelse env) Q E s₂) E s) :
  wpX M A (exec (.If test body orelse pos) env) Q E s := by
 rw [exec_If env test body orelse pos]
 refine x_bind (x_stand (x_bind (x_mono h (fun b s₂ h₂ => ?_) fun _ _ z => z)))
 cases b <;> exact h₂
theorem x_not {x pos whole} {Q : Bool → Shared → Prop} (h : wpX M A (isTrue x env (eval x env)) (fun c s' => Q (!c) s') E s) : wpX M A (isTrue (.UnaryOp .Not x pos) env whole) Q E s :=
 x_bind (m := isTrue x env (eval x env)) (x_mono h (fun _ _ q => x_pure q) fun _ _ z => z)
theorem x_truth {e : Expr} {whole : Sem Value} {Q : Bool → Shared → Prop} (h : wpX M A whole (fun v s₁ => wpAny M A (truthy v) Q E s₁) E s)
  (he : isTrue e env whole = (do let v ← whole; standAt e.pos; holding [v] (truthy v)) := by rfl) : wpX M A (isTrue e env whole) Q E s := by
 rw [he]
 exact x_bind (x_mono h (fun v s₁ h₁ => x_bind (x_stand (x_holding (x_any h₁)))) fun _ _ z => z)
theorem x_unary {op : UnaryOp} {x : Expr} {pos : Pos} {Q : Value → Shared → Prop} (h : wpX M A (eval x env) (fun v s₁ => wpAny M A (unaryOp op v) Q E s₁) E s) : wpX M A (eval (.UnaryOp op x pos) env) Q E s := by
 rw [eval_UnaryOp]
 exact x_bind (x_mono h (fun v s₁ h₁ => x_bind (x_stand (x_holding (x_any h₁)))) fun _ _ z => z)
theorem x_compare {l op r pos} {Q : Value → Shared → Prop}
  (h : wpX M A (eval l env) (fun a s₁ => wpX M A (eval r env) (fun b s₂ => wpAny M A (compareOp op a b) Q E s₂) E s₁) E s)
  (hm : behindInMarks op r = false := by with_unfolding_all rfl) : wpX M A (eval (.Compare l [op] [r] pos) env) Q E s := by
 rw [eval_Compare1, markedBehindIn_of_false hm]
 exact x_bind (x_mono h (fun a s₁ h₁ => x_bind (x_holding (x_mono h₁ (fun b s₂ h₂ => x_bind (x_stand (x_operate (x_any h₂)))) fun _ _ z => z))) fun _ _ z => z)
theorem x_trueCompare {l op r pos whole} {Q : Bool → Shared → Prop}
  (h : wpX M A (eval l env) (fun a s₁ => wpX M A (eval r env) (fun b s₂ => wpAny M A (compareOp op a b) (fun c s₃ => wpAny M A (truthy c) Q E s₃) E s₂) E s₁) E s)
  (hm : behindInMarks op r = false := by with_unfolding_all rfl) : wpX M A (isTrue (.Compare l [op] [r] pos) env whole) Q E s := by
 rw [isTrue_Compare1, markedBehindIn_of_false hm]
 refine x_bind (x_mono h (fun a s₁ h₁ => x_bind (x_holding (x_mono h₁ (fun b s₂ h₂ => x_bind (x_stand (x_bind (x_operate (x_any (wpAny_mono h₂ (fun c s₃ h₃ => ?_) fun _ _ z => z)))))) fun _ _ z => z))) fun _ _ z => z)
 exact x_holding (x_any h₃)
theorem x_ifexp {test body orelse : Expr} {pos : Pos} {Q : Value → Shared → Prop}
  (h : wpX M A (isTrue test env (eval test env)) (fun b s₁ => if b then wpX M A (eval body env) Q E s₁ else wpX M A (eval orelse env) Q E s₁) E s) : wpX M A (eval (.IfExp test body orelse pos) env) Q E s := by
 rw [eval_IfExp]
 refine x_bind (x_mono h (fun b s₁ h₁ => ?_) fun _ _ z => z)
 cases b <;> exact h₁
theorem x_and2 {a b : Expr} {pos : Pos} {Q : Value → Shared → Prop}
  (h : wpX M A (eval a env) (fun v s₁ => wpAny M A (truthy v) (fun c s₂ => if c then wpX M A (eval b env) Q E s₂ else Q v s₂) E s₁) E s) : wpX M A (eval (.BoolOp .And [a, b] pos) env) Q E s := by
 show wpX M A (eval a env >>= _) Q E s
 refine x_bind (x_mono h (fun v s₁ h₁ => x_bind (x_stand (x_bind (x_holding (x_any (wpAny_mono h₁ (fun c s₂ h₂ => ?_) fun _ _ z => z)))))) fun _ _ z => z)
 cases c
 ·exact x_pure h₂
 ·exact h₂
theorem x_keep {α : Type} {vs : List Value} {m : Sem α} {Q : α → Shared → Prop} (h : wpX M A m Q E s) : wpX M A (m.keep vs) Q E s :=
 fun Γ p hΓ ho hb => by rw [Sem.wp_keep]; exact h Γ p hΓ ho hb
theorem x_callWith {pos : Pos} {f : Value} {first : List Value} {args : List (Bool × Sem Value)} {kws : List (Option Str × Sem Value)} {Q : Value → Shared → Prop}
  (h : wpX M A (evalArgs f true args kws) (fun x s₁ => wpAny M A (keeperOf f) (fun _ s₂ => wpX M A (call f (first ++ x.pos) x.kw) Q E s₂) E s₁) E s) : wpX M A (callWith pos f first args kws) Q E s := by
 unfold callWith
 refine x_bind (x_holding (x_mono h (fun x s₁ h₁ => x_bind (x_stand (x_bind (x_any (wpAny_mono h₁ (fun k s₂ h₂ => ?_) fun _ _ z => z))))) fun _ _ z => z))
 have tail : ∀ {t : Sem Value}, wpX M A t Q E s₂ → wpX M A (t >>= fun r => holding [r] point >>= fun _ => pure r) Q E s₂ :=
  fun ht => x_bind (x_mono ht (fun r s₂ hr => x_bind (x_any (wpAny_holding (wpAny_point (x_pure hr))))) fun _ _ z => z)
 generalize (args.any (·.1) || kws.any (·.1.isNone)) = b
 cases k <;> cases b <;> dsimp only
 all_goals first
  | exact tail (x_operate h₂)
  | exact tail h₂
  | exact tail (x_keep h₂)
  | (split <;> first | exact tail h₂ | exact tail (x_keep h₂))
theorem x_args0 {f : Value} {Q : Args → Shared → Prop} (h : Q ⟨[], []⟩ s) : wpX M A (evalArgs f true [] []) Q E s :=
 x_any (by
  unfold evalArgs
  show wpAny M A (spliced [] >>= _) Q E s
  refine wpAny_bind (Calls.spliced_nil (wpAny_bind (wpAny_pure ?_)))
  refine wpAny_holding ?_
  show wpAny M A (evalAll [] >>= _) Q E s
  exact wpAny_bind (wpAny_pure (wpAny_bind (wpAny_pure (wpAny_pure h)))))
theorem x_spliced {x : Sem Value} {rest : List (Bool × Sem Value)} {Q : List Value → Shared → Prop}
  (h : wpX M A x (fun v s₁ => wpX M A (spliced rest) (fun vs s₂ => Q (v :: vs) s₂) E s₁) E s) : wpX M A (spliced ((false, x) :: rest)) Q E s := by
 unfold spliced
 refine x_bind (x_mono h (fun v s₁ h₁ => ?_) fun _ _ z => z)
 refine x_bind (m := (pure [v] : Sem (List Value))) (x_pure (x_bind (x_holding (x_mono h₁ (fun vs s₂ h₂ => x_pure h₂) fun _ _ z => z))))
theorem x_args {f : Value} {x : Sem Value} {rest : List (Bool × Sem Value)} {Q : Args → Shared → Prop}
  (h : wpX M A (spliced ((false, x) :: rest)) (fun vs s₁ => Q ⟨vs, []⟩ s₁) E s) : wpX M A (evalArgs f true ((false, x) :: rest) []) Q E s := by
 unfold evalArgs
 show wpX M A (spliced ((false, x) :: rest) >>= _) Q E s
 refine x_bind (x_mono h (fun vs s₁ h₁ => ?_) fun _ _ z => z)
 refine x_holding ?_
 show wpX M A (evalAll [] >>= _) Q E s₁
 exact x_bind (x_pure (x_bind (x_pure (x_pure h₁))))
theorem x_name {x : Str} {np pos : Pos} {args : List Expr} {kws : List Keyword} {Q : Value → Shared → Prop}
  (h : wpX M A (eval (.Name x np) env) (fun f s₁ => wpX M A (callWith pos f [] (backTo pos (starEach args env)) (backToKw pos (keywordEach kws env))) Q E s₁) E s) : wpX M A (eval (.Call (.Name x np) args kws pos) env) Q E s := by
 rw [arm_eval_Call_Name']
 exact x_bind h
theorem x_meth {o : Expr} {name : Str} {apos pos : Pos} {args : List Expr} {kws : List Keyword} {pl : Sem Bool} {Q : Value → Shared → Prop}
  (h : wpX M A (eval o env) (fun ov s₁ => wpAny M A (getMethod ov name pl) (fun fx s₂ => wpX M A (callWith pos fx.1 fx.2 (backTo pos (starEach args env)) (backToKw pos (keywordEach kws env))) Q E s₂) E s₁) E s)
  (he : eval (.Call (.Attribute o name apos) args kws pos) env = (do
   let ov ← eval o env
   standAt apos.atName
   let (f, first) ← holding [ov] (getMethod ov name pl)
   callWith pos f first (backTo pos (starEach args env)) (backToKw pos (keywordEach kws env))) := by rfl) :
  wpX M A (eval (.Call (.Attribute o name apos) args kws pos) env) Q E s := by
 rw [he]
 refine x_bind (x_mono h (fun ov s₁ h₁ => x_bind (x_stand (x_bind (x_any (wpAny_holding (wpAny_mono h₁ (fun fx s₂ h₂ => ?_) fun _ _ x => x)))))) fun _ _ x => x)
 exact h₂
theorem x_call0 {K : Frag} {f : Value} {pos : Pos} {first : List Value} {Q : Value → Shared → Prop} (hk : keepIn K f = true) (X : K.In s.heap) (h : wpX M A (call f (first ++ []) []) Q E s) :
  wpX M A (callWith pos f first (backTo pos (starEach [] env)) (backToKw pos (keywordEach [] env))) Q E s :=
 x_callWith (x_args0 (by
  obtain ⟨k, _, l⟩ := keeps_K (M := M) hk s.heap X
  exact l.at h))
theorem x_calls {K : Frag} {f : Value} {pos : Pos} {first : List Value} {e : Expr} {rest : List Expr} {Q : Value → Shared → Prop} (hk : keepIn K f = true) (he : starEach (e :: rest) env = (false, eval e env) :: starEach rest env)
  (h : wpX M A (eval e env) (fun v s₁ => wpX M A (spliced (backTo pos (starEach rest env))) (fun vs s₂ => K.In s₂.heap ∧ wpX M A (call f (first ++ (v :: vs)) []) Q E s₂) E s₁) E s) :
  wpX M A (callWith pos f first (backTo pos (starEach (e :: rest) env)) (backToKw pos (keywordEach [] env))) Q E s := by
 rw [he]
 refine x_callWith (x_args (x_spliced (x_mono h (fun v s₁ h₁ => x_mono h₁ (fun vs s₂ h₂ => ?_) fun _ _ z => z) fun _ _ z => z)))
 obtain ⟨k, _, l⟩ := keeps_K (M := M) hk s₂.heap h₂.1
 exact l.at h₂.2
theorem x_more {pos : Pos} {e : Expr} {rest : List Expr} {Q : List Value → Shared → Prop} (he : starEach (e :: rest) env = (false, eval e env) :: starEach rest env)
  (h : wpX M A (eval e env) (fun v s₁ => wpX M A (spliced (backTo pos (starEach rest env))) (fun vs s₂ => Q (v :: vs) s₂) E s₁) E s) : wpX M A (spliced (backTo pos (starEach (e :: rest) env))) Q E s := by
 rw [he]
 exact x_spliced h
theorem x_noMore {pos : Pos} {Q : List Value → Shared → Prop} (h : Q [] s) : wpX M A (spliced (backTo pos (starEach [] env))) Q E s := x_pure h
end
theorem hk4 : True := by
 k_with "Kont" => (first | ((with_reducible refine kontX_next (by with_reducible assumption) ?_); (try dsimp only)) | (with_reducible refine kontX_ret (by with_reducible assumption) ?_) | (with_reducible refine kontX_cont (by with_reducible assumption) ?_))
 trivial
end
section
open Sem (wp)
namespace FBa
theorem mro : mroOf (.type "bytearray") = pure [.type "bytearray", .type "object"] := by rw [mroOf_type]; kernel_rfl
theorem lookup_new : typeLookup (.type "bytearray") "__new__" = pure (some (.builtin "bytearray.__new__")) := by rw [typeLookup_type, builtinLookup_eq_fast]; kernel_rfl
theorem slot_init : Slot "bytearray" "__init__" "bytearray.__init__" :=
 .of (owner := "bytearray") (n := "__init__") (by rw [typeLookup_type, builtinLookup_eq_fast]; kernel_rfl) (by decide +kernel) (by decide +kernel) (by decide +kernel)
  (by first | exact .inl (by decide +kernel) | exact .inr (by decide +kernel)) (by rw [isSubtype_type]; kernel_rfl)
theorem slot_setitem : Slot "bytearray" "__setitem__" "bytearray.__setitem__" :=
 .of (owner := "bytearray") (n := "__setitem__") (by rw [typeLookup_type, builtinLookup_eq_fast]; kernel_rfl) (by decide +kernel) (by decide +kernel) (by decide +kernel)
  (by first | exact .inl (by decide +kernel) | exact .inr (by decide +kernel)) (by rw [isSubtype_type]; kernel_rfl)
theorem slot_len : Slot "bytearray" "__len__" "bytearray.__len__" :=
 .of (owner := "bytearray") (n := "__len__") (by rw [typeLookup_type, builtinLookup_eq_fast]; kernel_rfl) (by decide +kernel) (by decide +kernel) (by decide +kernel)
  (by first | exact .inl (by decide +kernel) | exact .inr (by decide +kernel)) (by rw [isSubtype_type]; kernel_rfl)
theorem called : TypeCalled "bytearray" "bytearray.__new__" "bytearray.__init__" :=
 ⟨by decide +kernel, by decide +kernel, ⟨_, _, mro⟩, madeBy_type mro lookup_new (by decide +kernel), by decide +kernel, by rw [isSubtype_type]; kernel_rfl, slot_init⟩
theorem sub : isSubtype (.type "bytearray") (.type "bytearray") = pure true := by rw [isSubtype_type]; kernel_rfl
theorem typeCall0 : checkTypeCall "bytearray" ⟨[], []⟩ = pure () := by kernel_rfl
theorem typeCall1 (a : Value) : checkTypeCall "bytearray" ⟨[a], []⟩ = pure () := by kernel_rfl
theorem newCall0 : checkBuiltinCall "bytearray.__new__" ⟨[.type "bytearray"], []⟩ = pure () := by kernel_rfl
theorem newCall1 (a : Value) : checkBuiltinCall "bytearray.__new__" ⟨[.type "bytearray", a], []⟩ = pure () := by kernel_rfl
theorem plain_new : plainId "bytearray.__new__" = true := by decide +kernel
theorem plain_init : plainId "bytearray.__init__" = true := by decide +kernel
theorem plain_set : plainId "bytearray.__setitem__" = true := by decide +kernel
theorem entry_new : entryFor table "bytearray.__new__" = some Builtin.«list.__new__» := entryFor_alias (id' := "list.__new__") (by kernel_rfl) (by decide +kernel) (by decide +kernel) (by kernel_rfl)
theorem entry_init : entryFor table "bytearray.__init__" = some Builtin.«bytearray.__init__» := by first | exact entryFor_of_fast (by kernel_rfl) | exact entryFor_of_tree (by kernel_rfl)
theorem entry_set : entryFor table "bytearray.__setitem__" = some Builtin.«bytearray.__setitem__» := by first | exact entryFor_of_fast (by kernel_rfl) | exact entryFor_of_tree (by kernel_rfl)
theorem release : typeLookup (.type "bytearray") "__release_buffer__" = pure (some (.builtin "bytearray.__release_buffer__")) := by rw [typeLookup_type, builtinLookup_eq_fast]; kernel_rfl
theorem bind0 : Builtin.Bytes.bindOptional "bytearray.__init__" "bytearray" ["source", "encoding", "errors"] [] [] = pure [none, none, none] := by kernel_rfl
theorem bind1 (v : Value) : Builtin.Bytes.bindOptional "bytearray.__init__" "bytearray" ["source", "encoding", "errors"] [v] [] = pure [some v, none, none] := by kernel_rfl
theorem noIndex : typeLookup (.type "bytes") "__index__" = pure none := by rw [typeLookup_type, builtinLookup_eq_fast]; kernel_rfl
theorem has_buffer : typeLookup (.type "bytes") "__buffer__" = pure (some (.builtin "bytes.__buffer__")) := by rw [typeLookup_type, builtinLookup_eq_fast]; kernel_rfl
theorem bytes_release : typeLookup (.type "bytes") "__release_buffer__" = pure none := by rw [typeLookup_type, builtinLookup_eq_fast]; kernel_rfl
end FBa
set_option maxRecDepth 1000000 in
theorem owner_new : ("bytearray.__new__".splitOn ".__new__").headD "" = "bytearray" := by simp +decide [String.splitOn, String.splitOnAux]
section
variable {p : Program} {w : World} {M : Model} {A : Around} {E : Value → Shared → Prop} {s : Shared} {R : Result → Shared → Prop}
def baObj (b : Array UInt8) : Obj := { cls := .type "bytearray", data := .bytearray b }
theorem ba_new (rest : List Value) (hc : checkBuiltinCall "bytearray.__new__" ⟨.type "bytearray" :: rest, []⟩ = pure ()) {Q₁ : Value → Shared → Prop} (h : Q₁ (.ref s.heap.objs.size) { s with heap := s.heap.push (baObj #[]) }) :
  codeAny (model p w) A (.call (.builtin "bytearray.__new__") ⟨.type "bytearray" :: rest, []⟩) (wants Q₁ E) s := by
 refine codeAny_of_tree ?_
 show wpAny _ A.in1 (do checkBuiltinCall "bytearray.__new__" ⟨.type "bytearray" :: rest, []⟩; again (.builtin "bytearray.__new__" ⟨.type "bytearray" :: rest, []⟩)) _ _ s
 refine wpAny_bind (wpAny_of_eq hc (wpAny_pure ⟨plainId_quiet FBa.plain_new _, codeAny_builtin_stack FBa.entry_new rfl fun q st => ?_⟩))
 rw [Around.under_plainId FBa.plain_new _]
 have hsub := FBa.sub
 have hown := owner_new
 obtain ⟨hp, g, d, tk, os⟩ := s
 simp only [hown]
 wp_walk
 exact h
theorem x_builtin {id : String} {args : Args} {b : Builtin} (ok : okC (.builtin id args) = true) (hb : entryFor table id = some b)
  (h : wpX (model p w) (A.under (.builtin id args)) (b args) (fun fin s' => match fin with | .done f => R (.ok f) s' | .again c' => c'.quiet = true ∧ codeX (model p w) A c' R s') (fun e s' => R (.error e) s') s) :
  codeX (model p w) A (.builtin id args) R s := by
 refine x_tree ok ?_
 show wpX _ _ (match entryFor table id with | some b => b args | none => unsupported ((withoutEnding? id "#data").getD id)) _ _ s
 rw [hb]; exact h
theorem x_callBuiltin {id : String} {args : Args} {b : Builtin} (ok : okC (.builtin id args) = true) (hp : plainId id = true) (hb : entryFor table id = some b)
  (h : wpAny (model p w) A.in1 (checkBuiltinCall id args) (fun _ s₁ => wpX (model p w) A.in1 (b args)
   (fun fin s' => match fin with | .done f => R (.ok f) s' | .again c' => c'.quiet = true ∧ codeX (model p w) A c' R s') (fun e s' => R (.error e) s') s₁)
   (fun e s' => R (.error e) s') s) : codeX (model p w) A (.call (.builtin id) args) R s := by
 refine x_tree rfl ?_
 show wpX _ A.in1 (do checkBuiltinCall id args; again (.builtin id args)) _ _ s
 refine x_bind (x_any (wpAny_mono h (fun _ s₁ h₁ => x_pure ⟨plainId_quiet hp _, x_builtin ok hb ?_⟩) fun _ _ h' => h'))
 rw [Around.under_plainId hp _]; exact h₁
theorem x_ite_false {α : Type} {c : Prop} [Decidable c] {a b : Sem α} {Q : α → Shared → Prop} (hc : ¬ c) (h : wpX M A b Q E s) : wpX M A (if c then a else b) Q E s := by rw [if_neg hc]; exact h
theorem x_ite_true {α : Type} {c : Prop} [Decidable c] {a b : Sem α} {Q : α → Shared → Prop} (hc : c) (h : wpX M A a Q E s) : wpX M A (if c then a else b) Q E s := by rw [if_pos hc]; exact h
theorem x_eq {α : Type} {t : Sem α} {a : α} {Q : α → Shared → Prop} (e : t = pure a) (h : Q a s) : wpX M A t Q E s := by rw [e]; exact x_pure h
theorem x_baCall {args : List Value} {Q : Value → Shared → Prop} (hct : checkTypeCall "bytearray" ⟨args, []⟩ = pure ()) (hnc : checkBuiltinCall "bytearray.__new__" ⟨.type "bytearray" :: args, []⟩ = pure ())
  (hic : ∀ o, argsOk "bytearray.__init__" ⟨o :: args, []⟩)
  (h : wpX (model p w) A.in1.in1 (Builtin.«bytearray.__init__» ⟨.ref s.heap.objs.size :: args, []⟩)
    (fun fin s' => match fin with | .done f => f = .ret .none ∧ Q (.ref s.heap.objs.size) s' | .again _ => False) (fun e s' => E e s') { s with heap := s.heap.push (baObj #[]) }) :
  wpX (model p w) A (call (.type "bytearray") args) Q E s := by
 obtain ⟨c, tl, hmro⟩ := FBa.called.mro
 have hmade := FBa.called.made
 have hsub := FBa.called.sub
 refine x_call (x_tree rfl ?_)
 show wpX _ _ (callAny (.type "bytearray") _) _ _ _
 refine x_pure ⟨Code.quiet_builtin _ (by decide +kernel), x_builtin rfl F.entry_type_call ?_⟩
 rw [Around.under_plain (weight_type_call_type "bytearray" args []) rfl]
 unfold Builtin.«type.__call__»
 have h1 := FBa.called.notType
 have h2 := FBa.called.canCreate
 have hT : ({ s with heap := s.heap.push (baObj #[]) } : Shared).TypeIs (.ref s.heap.objs.size) "bytearray" := ⟨_, Heap.get?_push_size _ rfl, rfl⟩
 refine x_ite_false (by rw [h1]; decide) ?_
 dsimp only
 refine x_ite_false (by rw [h2]; decide) ?_
 refine x_bind (x_eq hct ?_)
 refine x_bind (x_eq hmro ?_)
 refine x_ite_false (by simp) ?_
 refine x_bind (x_eq hmade ?_)
 dsimp only
 refine x_bind (x_pure ?_)
 refine x_bind (x_holding (x_any (wpAny_call (codeAny_mono (ba_new args hnc (Q₁ := fun v s' => v = .ref s.heap.objs.size ∧ s' = { s with heap := s.heap.push (baObj #[]) }) (E := fun _ _ => False) ⟨rfl, rfl⟩) fun r s₁ hr => ?_))))
 rcases r with e | (v | _ | _ | _) <;> first | exact hr.elim | skip
 obtain ⟨rfl, rfl⟩ := hr
 refine x_bind (x_any (wpAny_isInstance hT hsub ?_))
 refine x_ite_false (by decide) ?_
 refine x_bind (x_holding ?_)
 unfold callSpecial?
 refine x_bind (x_any (wpAny_specialOf hT FBa.slot_init.lookup ?_))
 dsimp only
 refine x_holding (x_bind (x_eq (FBa.slot_init.bind _) ?_))
 dsimp only
 refine x_bind (x_call (x_callBuiltin rfl FBa.plain_init FBa.entry_init (FBa.slot_init.check _ _ _ _ _ _ _ _ hT (hic _) (x_mono h (fun fin s' hf => ?_) fun e s' he => he))))
 cases fin with
 | again c => exact hf.elim
 | done f =>
  obtain ⟨rfl, hq⟩ := hf
  exact x_pure (x_pure hq)
end
end
section
open Sem (wp)
section
variable {p : Program} {w : World} {M : Model} {A : Around} {E : Value → Shared → Prop} {s : Shared} {R : Result → Shared → Prop}
theorem ba_type {a : Addr} {b : Array UInt8} (h : s.heap.get? a = some (baObj b)) : s.TypeIs (.ref a) "bytearray" := ⟨_, h, rfl⟩
theorem no_release {a : Addr} {b : Array UInt8} {Q : Bool → Shared → Prop} (ha : s.heap.get? a = some (baObj b)) (h : Q false s) : wpAny (model p w) A (Builtin.Bytes.ownRelease (.ref a)) Q E s := by
 unfold Builtin.Bytes.ownRelease Builtin.Bytes.slotIsOwn
 refine wpAny_bind (wpAny_bind (wpAny_specialOf (ba_type ha) FBa.release ?_))
 dsimp only
 refine bm_if_false (by decide +kernel) ?_
 refine wpAny_isInstance (T := "bytearray") (b := true) (ba_type ha) (by rw [show ("bytearray.__release_buffer__".dropRight ("__release_buffer__".length + 1)) = "bytearray" by decide +kernel]; exact FBa.sub) ?_
 exact wpAny_pure h
theorem ba_write {a : Addr} {b : Array UInt8} {f : Array UInt8 → Array UInt8} {Q : Unit → Shared → Prop} (ha : s.heap.get? a = some (baObj b)) (hz : (f b).size ≤ 16777216)
  (h : ∀ h', h'.get? a = some (baObj (f b)) → (∀ c o, c ≠ a → s.heap.get? c = some o → h'.get? c = some o) → Q () { s with heap := h' }) : wpAny (model p w) A (Builtin.Bytes.write (.ref a) f) Q E s := by
 show wpAny _ _ (updateBytearray a f) _ _ _
 unfold updateBytearray
 refine wpAny_bind (wpAny_load ha ?_)
 show wpAny _ _ (update a (Obj.mapBytearray f) >>= fun _ => lookBehind a) _ _ _
 refine wpAny_bind (wpAny_update ha ?_)
 have e : (s.heap.update a (Obj.mapBytearray f)).get? a = some (baObj (f b)) := Heap.get?_update_self (Obj.mapBytearray f) ha rfl
 refine wpAny_lookBehind e ?_ (h _ e fun c o hc q => (Heap.get?_update_other _ _ (Ne.symm hc)).trans q)
 show (if (f b).size > sizeLine then some "bytearray:memory" else none) = none
 rw [if_neg (by rw [sizeLine_eq]; omega)]
theorem x_or {a : Addr} {b : Array UInt8} {Q : Bool → Shared → Prop} (ha : s.heap.get? a = some (baObj b)) (h : Q false s) :
  wpX (model p w) A (Builtin.Bytes.exported (.ref a) <||> (do return (← Builtin.Bytes.exportsOf (.ref a)) > 0)) Q E s := by
 show wpX _ _ (Builtin.Bytes.exported (.ref a) >>= fun c => _) _ _ _
 refine x_bind (x_exported ?_)
 show wpX _ _ (Builtin.Bytes.exportsOf (.ref a) >>= fun c => _) _ _ _
 refine x_bind (x_any ?_)
 show wpAny _ _ (load a >>= fun c => _) _ _ _
 exact wpAny_bind (wpAny_load ha (wpAny_pure (x_pure h)))
theorem x_resize {a : Addr} {b : Array UInt8} {Q : Unit → Shared → Prop} (ha : s.heap.get? a = some (baObj b)) (h : Q () s) : wpX (model p w) A (Builtin.Bytes.checkResize (.ref a)) Q E s := by
 unfold Builtin.Bytes.checkResize
 exact x_bind (x_or ha (x_ite_false (by decide) (x_pure h)))
theorem x_init0 {a : Addr} {b : Array UInt8} {Q : Fin → Shared → Prop} (ha : s.heap.get? a = some (baObj b))
  (h : ∀ h', h'.get? a = some (baObj #[]) → (∀ c o, c ≠ a → s.heap.get? c = some o → h'.get? c = some o) → Q (.done (.ret .none)) { s with heap := h' }) :
  wpX (model p w) A (Builtin.«bytearray.__init__» ⟨[.ref a], []⟩) Q E s := by
 unfold Builtin.«bytearray.__init__»
 dsimp only
 refine x_bind (x_any (no_release ha ?_))
 refine x_ite_false (by decide) ?_
 refine x_bind (x_eq FBa.bind0 ?_)
 dsimp only
 refine x_bind (x_eq (a := ()) (by rfl) ?_)
 refine x_bind (x_eq (a := ()) (by rfl) ?_)
 refine x_bind (x_or ha ?_)
 refine x_ite_false (by decide) ?_
 refine x_bind (x_any (ba_write ha (by decide) fun h' e k => ?_))
 exact x_bind (x_pure (x_pure (h h' e k)))
theorem buffer_bytes {id : String} {c : Array UInt8} {t : Tok} {full : Bool} {Q : Option (Array UInt8) → Shared → Prop} (h : Q (some c) s) : wpAny (model p w) A (Builtin.Bytes.buffer? id (.bytes c t) full) Q E s := by
 have hT := typeIs_bytes s c t
 unfold Builtin.Bytes.buffer? Builtin.Bytes.ownRelease Builtin.Bytes.slotIsOwn
 refine wpAny_bind (wpAny_specialOf hT FBa.has_buffer ?_)
 refine wpAny_bind (wpAny_bind (wpAny_specialOf hT FBa.has_buffer ?_))
 refine bm_if_false (by decide +kernel) ?_
 refine wpAny_isInstance (T := "bytes") (b := true) hT (by rw [show ("bytes.__buffer__".dropRight ("__buffer__".length + 1)) = "bytes" by decide +kernel]; exact F.bm_sub) ?_
 refine bm_if_false rfl ?_
 refine wpAny_bind (wpAny_specialOf hT FBa.has_buffer ?_)
 dsimp only
 refine wpAny_bind (wpAny_bind (wpAny_bind (wpAny_specialOf hT FBa.bytes_release ?_)))
 refine wpAny_pure (wpAny_pure ?_)
 refine bm_if_false rfl ?_
 refine wpAny_bind (wpAny_of_eq (a := c) rfl ?_)
 exact wpAny_pure h
theorem x_init1 {a : Addr} {b c : Array UInt8} {t : Tok} {Q : Fin → Shared → Prop} (ha : s.heap.get? a = some (baObj b)) (hz : c.size ≤ 16777216)
  (h : ∀ h', h'.get? a = some (baObj c) → (∀ c o, c ≠ a → s.heap.get? c = some o → h'.get? c = some o) → Q (.done (.ret .none)) { s with heap := h' }) :
  wpX (model p w) A (Builtin.«bytearray.__init__» ⟨[.ref a, .bytes c t], []⟩) Q E s := by
 unfold Builtin.«bytearray.__init__»
 dsimp only
 refine x_bind (x_any (no_release ha ?_))
 refine x_ite_false (by decide) ?_
 refine x_bind (x_eq (FBa.bind1 _) ?_)
 dsimp only
 refine x_bind (x_eq (a := ()) (by rfl) ?_)
 refine x_bind (x_eq (a := ()) (by rfl) ?_)
 refine x_bind (x_or ha ?_)
 refine x_ite_false (by decide) ?_
 refine x_bind (x_any (ba_write ha (by decide) fun h' e k => ?_))
 walk_at "xa"
 refine wpAny_bind (wpAny_of_eq (a := none) rfl ?_)
 refine bm_if_false rfl ?_
 refine wpAny_bind (wpAny_of_eq (a := ()) rfl ?_)
 refine wpAny_bind (wpAny_specialOf (typeIs_bytes _ c t) FBa.noIndex ?_)
 refine bm_if_false rfl ?_
 refine wpAny_bind (buffer_bytes ?_)
 dsimp only
 refine wpAny_bind (wpAny_rule ?_)
 refine wpAny_bind (ba_write e (f := fun _ => c) hz fun h'' e' k' => ?_)
 exact wpAny_pure (h h'' e' fun x o hx q => k' x o hx (k x o hx q))
end
end
section
open Sem (wp)
namespace FBa
theorem slice_noIndex : typeLookup (.type "slice") "__index__" = pure none := by rw [typeLookup_type, builtinLookup_eq_fast]; kernel_rfl
theorem int_index : typeLookup (.type "int") "__index__" = pure (some (.builtin "int.__index__")) := by rw [typeLookup_type, builtinLookup_eq_fast]; kernel_rfl
theorem bytes_noInt : typeLookup (.type "bytes") "__int__" = pure none := by rw [typeLookup_type, builtinLookup_eq_fast]; kernel_rfl
theorem bytes_noFloat : typeLookup (.type "bytes") "__float__" = pure none := by rw [typeLookup_type, builtinLookup_eq_fast]; kernel_rfl
theorem bytes_notBa : isSubtype (.type "bytes") (.type "bytearray") = pure false := by rw [isSubtype_type]; kernel_rfl
theorem bytes_notComplex : isSubtype (.type "bytes") (.type "complex") = pure false := by rw [isSubtype_type]; kernel_rfl
theorem notSeq : seqItemTypes.contains "bytearray" = false := by decide +kernel
end FBa
section
variable {p : Program} {w : World} {M : Model} {A : Around} {E : Value → Shared → Prop} {s : Shared} {R : Result → Shared → Prop}
theorem x_ba0 {Q : Value → Shared → Prop} (h : ∀ h', h'.get? s.heap.objs.size = some (baObj #[]) → (∀ c o, s.heap.get? c = some o → h'.get? c = some o) → Q (.ref s.heap.objs.size) { s with heap := h' }) :
  wpX (model p w) A (call (.type "bytearray") []) Q E s :=
 x_baCall FBa.typeCall0 FBa.newCall0 (fun _ => rfl) (x_init0 (Heap.get?_push_size _ rfl) fun h' e k => ⟨rfl, h h' e fun c o q => k c o (Nat.ne_of_lt (Heap.lt_size q)) (Heap.get?_push_of_some _ q)⟩)
theorem x_ba1 {c : Array UInt8} {t : Tok} {Q : Value → Shared → Prop} (hz : c.size ≤ 16777216) (h : ∀ h', h'.get? s.heap.objs.size = some (baObj c) → (∀ c o, s.heap.get? c = some o → h'.get? c = some o) → Q (.ref s.heap.objs.size) { s with heap := h' }) :
  wpX (model p w) A (call (.type "bytearray") [.bytes c t]) Q E s :=
 x_baCall (FBa.typeCall1 _) (FBa.newCall1 _) (fun _ => rfl) (x_init1 (Heap.get?_push_size _ rfl) hz fun h' e k => ⟨rfl, h h' e fun c o q => k c o (Nat.ne_of_lt (Heap.lt_size q)) (Heap.get?_push_of_some _ q)⟩)
def sliceObj (l u : Int) (t1 t2 : Tok) : Obj := { cls := .type "slice", data := .fields #[.int l t1, .int u t2, .none] }
theorem slice_parts {i : Addr} {l u : Int} {t1 t2 : Tok} {Q : Value × Value × Value → Shared → Prop} (hi : s.heap.get? i = some (sliceObj l u t1 t2)) (h : Q (rawInt l, rawInt u, .none) s) :
  wpAny (model p w) A (Builtin.Bytes.sliceParts (.ref i)) Q E s := by
 unfold Builtin.Bytes.sliceParts
 dsimp only
 refine wpAny_bind (wpAny_field hi rfl (i := 2) rfl ?_)
 refine wpAny_bind (wpAny_of_eq (a := Value.none) rfl ?_)
 refine bm_if_false rfl ?_
 refine wpAny_bind (wpAny_field hi rfl (i := 0) rfl ?_)
 refine wpAny_bind ?_
 refine bm_if_false rfl ?_
 refine wpAny_bind (wpAny_specialOf (typeIs_int _ _ _) FBa.int_index ?_)
 refine bm_if_false rfl ?_
 refine wpAny_bind (wpAny_of_eq (rfl : asIndex (.int l t1) = pure l) (wpAny_pure ?_))
 refine wpAny_bind (wpAny_field hi rfl (i := 1) rfl ?_)
 refine wpAny_bind ?_
 refine bm_if_false rfl ?_
 refine wpAny_bind (wpAny_specialOf (typeIs_int _ _ _) FBa.int_index ?_)
 refine bm_if_false rfl ?_
 exact wpAny_bind (wpAny_of_eq (rfl : asIndex (.int u t2) = pure u) (wpAny_pure (wpAny_pure h)))
theorem indices {l u : Int} {n : Nat} (hl : l = n) (hu : (n : Int) ≤ u) : sliceIndices (rawInt l) (rawInt u) .none n = pure ((n : Int), (n : Int), 1) := by
 subst hl
 have e : sliceIndices (rawInt (n : Int)) (rawInt u) .none n = (pure ((if (1 : Int) > 0 then max 0 (min (if (n : Int) < 0 then (n : Int) + n else n) (n : Int)) else max (-1) (min (if (n : Int) < 0 then (n : Int) + n else n) ((n : Int) - 1))), (if (1 : Int) > 0 then max 0 (min (if u < 0 then u + n else u) (n : Int)) else max (-1) (min (if u < 0 then u + n else u) ((n : Int) - 1))), (1 : Int)) : Sem (Int × Int × Int)) := rfl
 rw [e]
 congr 2
 ·rw [if_pos (by decide), if_neg (Int.not_lt.mpr (Int.natCast_nonneg n)), Int.min_self, Int.max_eq_right (Int.natCast_nonneg n)]
 ·have : (if (1 : Int) > 0 then max 0 (min (if u < 0 then u + n else u) (n : Int)) else max (-1) (min (if u < 0 then u + n else u) ((n : Int) - 1))) = (n : Int) := by
   rw [if_pos (by decide), if_neg (Int.not_lt.mpr (Int.le_trans (Int.natCast_nonneg n) hu)), Int.min_eq_right hu, Int.max_eq_right (Int.natCast_nonneg n)]
  rw [this]
theorem x_setitem {a i : Addr} {b c : Array UInt8} {t : Tok} {l u : Int} {t1 t2 : Tok} {Q : Unit → Shared → Prop} (ha : s.heap.get? a = some (baObj b)) (hi : s.heap.get? i = some (sliceObj l u t1 t2)) (hl : l = b.size) (hu : u = b.size + c.size) (hc : 0 < c.size) (hz : b.size + c.size ≤ 16777216)
  (h : ∀ h', h'.get? a = some (baObj (b ++ c)) → (∀ x o, x ≠ a → s.heap.get? x = some o → h'.get? x = some o) → Q () { s with heap := h' }) : wpX (model p w) A (setItem (.ref a) (.ref i) (.bytes c t)) Q E s := by
 have hT := ba_type ha
 have hS : s.TypeIs (.ref i) "slice" := ⟨_, hi, rfl⟩
 unfold setItem
 refine x_holding (x_bind (x_any ?_))
 unfold sequenceKey
 refine wpAny_bind (wpAny_typeOf hT ?_)
 dsimp only
 refine bm_if_true (by rw [FBa.notSeq]; rfl) (wpAny_pure ?_)
 unfold callSpecial?
 refine x_bind (x_bind (x_any (wpAny_specialOf hT FBa.slot_setitem.lookup ?_)))
 dsimp only
 refine x_holding (x_bind (x_eq (FBa.slot_setitem.bind _) ?_))
 dsimp only
 refine x_bind (x_call (x_callBuiltin rfl FBa.plain_set FBa.entry_set (FBa.slot_setitem.check _ _ _ _ _ _ _ _ hT rfl ?_)))
 unfold Builtin.«bytearray.__setitem__»
 dsimp only
 refine x_ite_false (by decide) ?_
 refine x_bind (x_any ?_)
 unfold Builtin.Bytes.subscript?
 refine wpAny_bind (wpAny_specialOf hS FBa.slice_noIndex ?_)
 refine bm_if_true rfl (wpAny_pure ?_)
 dsimp only
 refine x_bind (x_any (wpAny_typeOf hS ?_))
 refine x_ite_false (by decide) ?_
 refine x_bind (x_any (slice_parts hi ?_))
 refine x_ite_false Bool.false_ne_true (x_bind (x_any (wpAny_isInstance (typeIs_bytes _ c t) FBa.bytes_notBa ?_)))
 refine x_ite_true rfl ?_
 refine x_bind (x_any ?_)
 refine wpAny_bind (wpAny_bind (wpAny_specialOf (typeIs_bytes _ c t) FBa.noIndex (wpAny_pure ?_)))
 refine wpAny_bind (wpAny_bind (wpAny_specialOf (typeIs_bytes _ c t) FBa.bytes_noInt (wpAny_pure ?_)))
 refine wpAny_bind (wpAny_bind (wpAny_specialOf (typeIs_bytes _ c t) FBa.bytes_noFloat (wpAny_pure ?_)))
 refine wpAny_isInstance (typeIs_bytes _ c t) FBa.bytes_notComplex ?_
 refine x_bind (x_eq (a := none) rfl ?_)
 refine x_ite_false Bool.false_ne_true ?_
 refine x_bind (x_any (wpAny_rule ?_))
 refine x_bind (x_ba1 (by omega) fun h₁ e₁ k₁ => ?_)
 refine x_bind (x_holding (x_any (slice_parts (k₁ _ _ hi) ?_)))
 have pay : ∀ {P : Array UInt8 → Shared → Prop} {q : Addr} {d : Array UInt8} {s' : Shared} {E' : Value → Shared → Prop}, s'.heap.get? q = some (baObj d) → P d s' → wpAny (model p w) A.in1 (Builtin.Bytes.payload (.ref q)) P E' s' := by
  intro P q d s' E' hq hP
  show wpAny _ _ ((load q >>= fun _ => _) >>= fun _ => _) _ _ _
  exact wpAny_bind (wpAny_bind (wpAny_load hq (wpAny_pure (wpAny_pure hP))))
 refine x_bind (x_any (pay e₁ ?_))
 refine x_bind (x_any (pay (k₁ _ _ ha) ?_))
 refine x_bind (x_eq (indices hl (by omega)) ?_)
 refine x_ite_true rfl ?_
 refine x_bind (x_any (wpAny_rule ?_))
 refine x_ite_true (by
  show ((c.size : Int) != max (b.size : Int) b.size - b.size) = true
  rw [bne_iff_ne]; omega) ?_
 refine x_bind (x_resize (k₁ _ _ ha) ?_)
 refine x_bind (x_any (ba_write (k₁ _ _ ha) ?_ fun h₂ e₂ k₂ => ?_))
 ·simp; omega
 refine x_pure (x_pure ?_)
 refine x_pure (h h₂ ?_ fun x o hx q => k₂ x o hx (k₁ x o q))
 rw [e₂]
 simp
end
end
section
open Sem (wp)
abbrev tupObj (vs : List Value) : Obj := { cls := .type "tuple", data := .seq vs.toArray }
theorem enterXS {w : World} {hb : Heap} {mean : ExcName → Option Value} {mg mb : Str → Option Value} (G : Gd w hb mean mg mb) {s : Shared} (st : St hb s.heap) (W : List (Addr × Obj)) (hW : ∀ p ∈ W, s.heap.get? p.1 = some p.2 ∧ hb.get? p.1 = none)
  {dp un : Nat} {fr : Option (List Env)} {gd : Option (List Code)} {R : Result → Shared → Prop} {name qual : Str} {params : Arguments} {body : List Stmt} {scope : Scope} {dV kV doc pm cdv ct oc : Value} {an od : Option Addr} {osl : Array (Option Value)} {f : Addr} {args vs : List Value} {binds : Value → Value → List (Str × Value)}
  (ho : (Kc w.params).lookup f = some ⟨oc, od, .func (fnOf name qual params body scope dV kV doc pm an cdv ct), osl⟩) (hcd : codeIn (Kc w.params) cdv qual = true) (hroom : dp < recursionLimit)
  (hbind : bindArgs (fnOf name qual params body scope dV kV doc pm an cdv ct) ⟨args, []⟩ = (newTuple vs >>= fun t => alloc emptyDict >>= fun d => pure (binds t (.ref d)))) (hvs : vs.length ≤ 1000)
  (hloc : ∀ t d, ∀ y ∈ binds t d, scope.names.lookup y.1 = some .local)
  (h : ∀ g L h₁ t d, Fr g L h₁ (fun y => (binds (.ref t) (.ref d)).reverse.lookup y) → News g L h₁ ((d, emptyDict) :: (t, tupObj vs) :: W) → (∀ p ∈ W, p.1 < t) → t < d → d < L → s.heap.objs.size ≤ t → (Kc w.params).In g → Top qv (looseW qv loose) mean mg mb g → St hb g → (∀ b o, s.heap.get? b = some o → b ∉ W.map (·.1) → g.get? b = some o) →
   wpX (model prog w) ((Ar dp un fr gd).deeper (envOf qual scope L f cdv)) (execs body (envOf qual scope L f cdv))
    (LeafP g (W.map (·.1)) s.heap R) (fun _ _ => False)
    { s with heap := h₁, toks := s.toks + (binds (.ref t) (.ref d)).length })
  (hcell : ∀ x ∈ scope.names, x.2 ≠ .cell) (hco : scope.isCoroutine = false) (hgen : scope.isGenerator = false) (hk : scope.kind = .function) :
  codeX (model prog w) (Ar dp un fr gd) (.call (.ref f) ⟨args, []⟩) R s := by
 have X' : (Kc w.params).In s.heap := Frag.In.keeps G.X st
 let s₁ : Shared := { s with heap := (s.heap.push (tupObj vs)).push emptyDict }
 have k₁ : ∀ b o, s.heap.get? b = some o → s₁.heap.get? b = some o := fun b o e => Heap.get?_push_of_some _ (Heap.get?_push_of_some _ e)
 have sz : (s.heap.push (tupObj vs)).objs.size = s.heap.objs.size + 1 := Heap.size_push _ _
 have sz₁ : s₁.heap.objs.size = s.heap.objs.size + 2 := by show ((s.heap.push (tupObj vs)).push emptyDict).objs.size = _; rw [Heap.size_push, sz]
 have hns : ∀ a, s.heap.objs.size ≤ a → hb.get? a = none := fun a ha => by
  cases q : hb.get? a with
  | none => rfl
  | some o => exact absurd (Heap.lt_size (st _ _ q)) (Nat.not_lt.mpr ha)
 let W₁ : List (Addr × Obj) := (s.heap.objs.size + 1, emptyDict) :: (s.heap.objs.size, tupObj vs) :: W
 have hW₁ : ∀ p ∈ W₁, s₁.heap.get? p.1 = some p.2 ∧ hb.get? p.1 = none := by
  intro p hp
  rcases List.mem_cons.mp hp with rfl | hp
  ·exact ⟨by rw [← sz]; exact Heap.get?_push_size _ rfl, hns _ (Nat.le_succ _)⟩
  rcases List.mem_cons.mp hp with rfl | hp
  ·exact ⟨Heap.get?_push_of_some _ (Heap.get?_push_size _ rfl), hns _ (Nat.le_refl _)⟩
  ·exact ⟨k₁ _ _ (hW p hp).1, (hW p hp).2⟩
 refine x_callG (s₁ := s₁) (binds := binds (.ref s.heap.objs.size) (.ref (s.heap.objs.size + 1))) hroom (X' _ _ ho) ((G.T.nolimit.keeps st).keeps k₁) (codeRec_of X' hcd) ?_ hcell (hloc _ _) (sc_eq hco hgen hk) (fun h₁ hns₁ hk₁ => x_func ?_)
 ·intro A' E' Q q
  rw [hbind]
  refine wpAny_bind (m := newTuple vs) (wpAny_newObj_type ?_ ?_)
  ·refine wpAny_bind (m := alloc emptyDict) (wpAny_alloc (wpAny_pure ?_))
   rw [sz]; exact q
  ·show vs.toArray.size ≤ sizeLine
   rw [List.size_toArray, sizeLine_eq]; omega
 have sub : St hb (hideAll s₁.heap (W₁.map (·.1))) := fun b o e => hideAll_get _ (k₁ _ _ (st b o e)) fun q => by
  obtain ⟨p, hp, rfl⟩ := List.mem_map.mp q
  rw [(hW₁ p hp).2] at e; cases e
 have W0 : ∀ p ∈ W, p.1 < s.heap.objs.size := fun p hp => Heap.lt_size (hW p hp).1
 refine x_mono (h (hideAll s₁.heap (W₁.map (·.1))) s₁.heap.objs.size h₁ s.heap.objs.size (s.heap.objs.size + 1) ⟨hns₁, fun b o e => hk₁ b o (of_hideAll _ e), Nat.le_of_eq (hideAll_size _ _)⟩
  (fun p hp => ⟨hk₁ _ _ (hW₁ p hp).1, Nat.ne_of_lt (Heap.lt_size (hW₁ p hp).1), hideAll_none _ (List.mem_map_of_mem hp)⟩) W0 (Nat.lt_succ_self _) (by rw [sz₁]; exact Nat.lt_succ_self _) (Nat.le_refl _) (Frag.In.keeps G.X sub) (G.T.keeps sub) sub (fun b o e n => hideAll_get _ (k₁ _ _ e) fun q => ?_)) (fun fl s' hl => ?_) fun _ _ y => y.elim
 ·obtain ⟨p, hp, rfl⟩ := List.mem_map.mp q
  rcases List.mem_cons.mp hp with rfl | hp
  ·exact absurd (Heap.lt_size e) (Nat.not_lt.mpr (Nat.le_succ _))
  rcases List.mem_cons.mp hp with rfl | hp
  ·exact absurd (Heap.lt_size e) (Nat.lt_irrefl _)
  ·exact n (List.mem_map_of_mem hp)
 ·obtain ⟨L', m', F', k⟩ := hl
  refine k F'.keep fun b o n e => F'.keep b o (hideAll_get _ (k₁ _ _ e) fun q => ?_)
  obtain ⟨p, hp, rfl⟩ := List.mem_map.mp q
  rcases List.mem_cons.mp hp with rfl | hp
  ·exact absurd (Heap.lt_size e) (Nat.not_lt.mpr (Nat.le_succ _))
  rcases List.mem_cons.mp hp with rfl | hp
  ·exact absurd (Heap.lt_size e) (Nat.lt_irrefl _)
  ·exact n (List.mem_map_of_mem hp)
end
section
section
variable {w : World} {hb : Heap} {mean : ExcName → Option Value} {mg mb : Str → Option Value} {s : Shared}
theorem sha_update (G : Gd w hb mean mg mb) (st : St hb s.heap) {x d : Addr} {b c : Array UInt8} {t u : Tok} {k : Nat} (hx : s.heap.get? x = some (instObj 58 d)) (hd : s.heap.get? d = some (dictOf [ent w "data" k (.bytes b t)] 1)) (hn : hb.get? d = none) (hnx : hb.get? x = none) (hxd : @LT.lt Nat _ d x) (hz : b.size + c.size ≤ 16777216) :
  Does w 2 (.ref 48) [.ref x, .bytes c u] [] s [d] (fun r h' => r = .none ∧ ∃ t', h'.get? d = some (dictOf [ent w "data" k (.bytes (b ++ c) t')] 1)) := by
 walk_at "ir"
 refine' enter (binds := [(Str.ofString "self", .ref x), (Str.ofString "data", .bytes c u)]) G st [(x, instObj 58 d), (d, dictOf [ent w "data" k (.bytes b t)] 1)] ?hW ?ho ?hcd ?hroom ?hbind ?hloc ?h ?hcell ?hco ?hgen ?hk
 walk_at "kk_enter"
 case hW => exact List.forall_mem_cons.mpr ⟨⟨hx, hnx⟩, List.forall_mem_cons.mpr ⟨⟨hd, hn⟩, fun _ h => nomatch h⟩⟩
 walk_at "ig"
 k_lt l1
 k_steps
 refine leaves (by k_asm) fun _ => fun e => hQ _ _ _ (ext_drop e hx ?_) ⟨rfl, ?_, ?_⟩
 rotate_left 2
 all_goals exact News.get (by k_asm) (by k_mem)
theorem sha_digest (G : Gd w hb mean mg mb) (st : St hb s.heap) {x d : Addr} {b : Array UInt8} {t : Tok} {k : Nat} (hx : s.heap.get? x = some (instObj 58 d)) (hd : s.heap.get? d = some (dictOf [ent w "data" k (.bytes b t)] 1)) (hz : b.size ≤ 100000) :
  Does w 2 (.ref 55) [.ref x] [] s [] (fun r h' => ∃ t', r = .bytes (dig b) t') := by
 walk_at "ir"
 refine' enter (binds := [(Str.ofString "self", .ref x)]) G st [] ?hW ?ho ?hcd ?hroom ?hbind ?hloc ?h ?hcell ?hco ?hgen ?hk
 walk_at "kk_enter"
 case hW => intro p hp; cases hp
 walk_at "ig"
 clear l1
 have gx := sub x _ hx (by simp)
 have gd := sub d _ hd (by simp)
 have hb0 : (#[1] ++ b).size ≤ 100001 := by simp only [Array.size_append, List.size_toArray, List.length_cons, List.length_nil]; omega
 have hb1 := num_bits (#[1] ++ b)
 have hb2 := intBits_mul_le hb1 hb1
 have m1 : IntMulOk (num (#[1] ++ b)) (num (#[1] ++ b)) := mul_ok hb1 hb1 (by omega)
 have m2 : IntMulOk ((num (#[1] ++ b) : Int) * num (#[1] ++ b)) 48181483302151357469556550866566148933 := mul_ok (j := 200) hb2 (by decide +kernel) (by omega)
 have q0 := dnum_lo b
 have q1 := dnum_hi b
 unfold dnum at q0 q1
 k_steps
 exact leaves (by k_asm) fun _ => fun e => hQ _ _ _ e ⟨_, rfl⟩
end
end
section
section
variable {w : World} {hb : Heap} {mean : ExcName → Option Value} {mg mb : Str → Option Value} {s : Shared}
theorem sha_init (G : Gd w hb mean mg mb) (st : St hb s.heap) {x d : Addr} {b : Array UInt8} {t : Tok} (hx : s.heap.get? x = some (instObj 58 d)) (hd : s.heap.get? d = some (dictOf [] 0)) (hn : hb.get? d = none) (hnx : hb.get? x = none) (hxd : @LT.lt Nat _ d x) :
  Does w 2 (.ref 41) [.ref x, .bytes b t] [] s [d] (fun r h' => r = .none ∧ ∃ k t', h'.get? d = some (dictOf [ent w "data" k (.bytes b t')] 1)) := by
 walk_at "ir"
 refine' enter (binds := [(Str.ofString "self", .ref x), (Str.ofString "data", .bytes b t)]) G st [(x, instObj 58 d), (d, dictOf [] 0)] ?hW ?ho ?hcd ?hroom ?hbind ?hloc ?h ?hcell ?hco ?hgen ?hk
 walk_at "kk_enter"
 case hW => exact List.forall_mem_cons.mpr ⟨⟨hx, hnx⟩, List.forall_mem_cons.mpr ⟨⟨hd, hn⟩, fun _ h => nomatch h⟩⟩
 walk_at "ig"
 k_lt l1
 k_steps
 refine leaves (by k_asm) fun _ => fun e => hQ _ _ _ (ext_drop e hx ?_) ⟨rfl, ?_, ?_, ?_⟩
 rotate_left 3
 all_goals exact News.get (by k_asm) (by k_mem)
theorem sha_new (G : Gd w hb mean mg mb) (st : St hb s.heap) {b : Array UInt8} {t : Tok} :
  Does w 4 (.ref 58) [.bytes b t] [] s [] (fun r h' => ∃ x d, r = .ref x ∧ s.heap.objs.size ≤ d ∧ d < x ∧ h'.get? x = some (instObj 58 d) ∧ ∃ k t', h'.get? d = some (dictOf [ent w "data" k (.bytes b t')] 1)) :=
 make_does G st (n := 2) (fI := 41) (pi := fun x d h' => ∃ k t', h'.get? d = some (dictOf [ent w "data" k (.bytes b t')] 1)) (by k_is) (by k_is) (by k_is) fun x d h' k _ l ex ed nx nd => sha_init G (s := { s with heap := h' }) (fun b o e => k _ _ (st b o e)) ex ed nd nx l
theorem hk5 : True := by
 k_with "call ref" => (k_here; (with_reducible show wpAny _ _ (call (Value.ref 58) [Value.bytes _ _] _) _ _ _); (refine use0o (sha_new (by assumption) (by walk_at "kk_st")) (by k_asm) (by k_asm) (by walk_at "kk_num") (by walk_at "kk_num") ?_); intro x9 d9 k9 t'9 h'9 tk'9 F'9 N'9 l19 l29 lx9; (try k_lt l19))
 trivial
theorem hl_sha (G : Gd w hb mean mg mb) (st : St hb s.heap) {b : Array UInt8} {t : Tok} :
  Does w 6 (.ref 77) [.bytes b t] [] s [] (fun r h' => ∃ x d, r = .ref x ∧ s.heap.objs.size ≤ d ∧ d < x ∧ h'.get? x = some (instObj 58 d) ∧ ∃ k t', h'.get? d = some (dictOf [ent w "data" k (.bytes b t')] 1)) := by
 walk_at "ir"
 refine' enter (binds := [(Str.ofString "data", .bytes b t)]) G st [] ?hW ?ho ?hcd ?hroom ?hbind ?hloc ?h ?hcell ?hco ?hgen ?hk
 walk_at "kk_enter"
 case hW => intro p hp; cases hp
 walk_at "ig"
 clear l1
 k_steps
 refine leaves (by k_asm) fun _ => fun e => hQ _ _ _ e ⟨_, ?_, rfl, ?_, ?_, News.get (by k_asm) (by k_mem), ?_, ?_, News.get (by k_asm) (by k_mem)⟩
 all_goals omega
end
end
section
theorem none_base {hb g h : Heap} {L d : Addr} {o : Obj} {news : List (Addr × Obj)} (stg : St hb g) (N : News g L h news) (hm : (d, o) ∈ news) : hb.get? d = none := by
 cases q : hb.get? d with
 | none => rfl
 | some o' => have := (N _ hm).2.2; rw [stg _ _ q] at this; cases this
theorem hk6 : True := by
 k_with "call ref" => (k_here; (with_reducible show wpAny _ _ (call (Value.ref 77) _ _) _ _ _); (show wpAny _ _ (call (Value.ref 77) [Value.bytes _ _] _) _ _ _); (refine use0o (hl_sha (by assumption) (by walk_at "kk_st")) (by k_asm) (by k_asm) (by walk_at "kk_num") (by walk_at "kk_num") ?_); intro x9 d9 k9 t'9 h'9 tk'9 F'9 N'9 l19 l29 lx9; (try k_lt l19))
 k_with "call ref" => (k_here; (with_reducible show wpAny _ _ (call (Value.ref 55) _ _) _ _ _); (show wpAny _ _ (call (Value.ref 55) [Value.ref _] _) _ _ _); (refine use0b (sha_digest (by assumption) (by walk_at "kk_st") (News.get (by k_asm) (by k_mem)) (News.get (by k_asm) (by k_mem)) (by walk_at "kk_size")) (by k_asm) (by k_asm) (by walk_at "kk_num") (by walk_at "kk_num") ?_); intro t'9 h'9 tk'9 F'9 N'9)
 trivial
section
variable {w : World} {hb g : Heap} {mean : ExcName → Option Value} {mg mb : Str → Option Value} {L : Addr} {m : Str → Option Value} {news : List (Addr × Obj)} {dp un : Nat} {fr : Option (List Env)} {gd : Option (List Code)} {Q E : Value → Shared → Prop} {h0 : Heap} {gs : Array GenState} {dr : Drawn} {tk : Nat} {os : OsState}
theorem updF_mem {d : Addr} {o : Obj} {l : List (Addr × Obj)} {gf : Obj → List (Addr × Obj)} (U : UpdF d o l gf) : (d, o) ∈ l := by
 obtain ⟨pre, post, rfl, -, -, -⟩ := U.split; simp
theorem updF_upd {d : Addr} {o : Obj} {l : List (Addr × Obj)} {gf : Obj → List (Addr × Obj)} (U : UpdF d o l gf) (o' : Obj) : Upd d o o' l (gf o') := by
 induction U with
 | head h => exact .head h
 | tail h _ ih => exact .tail h ih
theorem use1u {n : Nat} {f : Value} {args : List Value} {kw : List (Str × Value)} {d : Addr} {o : Obj} {O : Tok → Obj} {gf : Obj → List (Addr × Obj)} (D : Does w n f args kw ⟨h0, gs, dr, tk, os⟩ [d] (fun r h' => r = .none ∧ ∃ t', h'.get? d = some (O t'))) (F : Fr g L h0 m) (N : News g L h0 news) (U : UpdF d o news gf) (hd : dp + n < recursionLimit) (hu : un + 8 * n < cLine)
  (h : ∀ t' h' tk', Fr g L h' m → News g L h' (gf (O t')) → Q .none ⟨h', gs, dr, tk', os⟩) : wpAny (model prog w) (Ar dp un fr gd) (call f args kw) Q E ⟨h0, gs, dr, tk, os⟩ :=
 use1 D F N (updF_mem U) hd hu fun _ hK _ _ _ F' n0 p => by
  obtain ⟨rfl, t', ed⟩ := p; exact hK _ _ _ (h _ _ _ F' (n0 _ _ (updF_upd U _) ed))
theorem c_upd (G : Gd w hb mean mg mb) {x d : Addr} {b c : Array UInt8} {t u : Tok} {k : Nat} {gf : Obj → List (Addr × Obj)} (st : St hb g) (F : Fr g L h0 m) (N : News g L h0 news) (m1 : (x, instObj 58 d) ∈ news) (U : UpdF d (dictOf [ent w "data" k (.bytes b t)] 1) news gf) (hxd : @LT.lt Nat _ d x) (hz : b.size + c.size ≤ 16777216) (hd : dp + 2 < recursionLimit) (hu : un + 8 * 2 < cLine)
  (h : ∀ t' h' tk', Fr g L h' m → News g L h' (gf (dictOf [ent w "data" k (.bytes (b ++ c) t')] 1)) → Q .none ⟨h', gs, dr, tk', os⟩) : wpAny (model prog w) (Ar dp un fr gd) (call (.ref 48) [.ref x, .bytes c u] []) Q E ⟨h0, gs, dr, tk, os⟩ :=
 use1u (sha_update G (st_of st F) (N _ m1).1 (N _ (updF_mem U)).1 (none_base st N (updF_mem U)) (none_base st N m1) hxd hz) F N U hd hu h
end
theorem hk7 : True := by
 k_with "call ref" => (k_here; (with_reducible show wpAny _ _ (call (Value.ref 48) _ _) _ _ _); (show wpAny _ _ (call (Value.ref 48) [Value.ref _, Value.bytes _ _] _) _ _ _); (refine c_upd (by assumption) (by assumption) (by k_asm) (by k_asm) (by k_mem) (by k_updF) (by omega) (by walk_at "kk_size") (by walk_at "kk_num") (by walk_at "kk_num") ?_); intro t'9 h'9 tk'9 F'9 N'9)
 trivial
section
variable {w : World} {hb : Heap} {mean : ExcName → Option Value} {mg mb : Str → Option Value} {s : Shared}
theorem sha256_does (G : Gd w hb mean mg mb) (st : St hb s.heap) {b : Array UInt8} {t : Tok} (hz : b.size ≤ 100000) :
  Does w 8 (.ref 651) [.bytes b t] [] s [] (fun r _ => ∃ t', r = .bytes (dig b) t') := by
 walk_at "ir"
 refine' enter (binds := [(Str.ofString "msg", .bytes b t)]) G st [] ?hW ?ho ?hcd ?hroom ?hbind ?hloc ?h ?hcell ?hco ?hgen ?hk
 walk_at "kk_enter"
 case hW => intro p hp; cases hp
 walk_at "ig"
 clear l1
 k_steps
 exact leaves (by k_asm) fun _ => fun e => hQ _ _ _ e ⟨_, rfl⟩
theorem hk8 : True := by
 k_with "call ref" => (k_here; (with_reducible show wpAny _ _ (call (Value.ref 651) _ _) _ _ _); (show wpAny _ _ (call (Value.ref 651) [Value.bytes _ _] _) _ _ _); (refine use0b (sha256_does (by assumption) (by walk_at "kk_st") (by walk_at "kk_size")) (by k_asm) (by k_asm) (by walk_at "kk_num") (by walk_at "kk_num") ?_); intro t'9 h'9 tk'9 F'9 N'9)
 trivial
theorem law_digest (G : Gd w hb mean mg mb) (st : St hb s.heap) {b : Array UInt8} {t : Tok} (hz : b.size ≤ 100000) :
  Does w 10 (.ref 1159) [.bytes b t] [] s [] (fun r _ => ∃ t', r = .bytes (dig (dig b)) t') := by
 walk_at "ir"
 refine' enter (binds := [(Str.ofString "octets", .bytes b t)]) G st [] ?hW ?ho ?hcd ?hroom ?hbind ?hloc ?h ?hcell ?hco ?hgen ?hk
 walk_at "kk_enter"
 case hW => intro p hp; cases hp
 walk_at "ig"
 clear l1
 k_steps
 exact leaves (by k_asm) fun _ => fun e => hQ _ _ _ e ⟨_, rfl⟩
end
end
section
section
variable {w : World} {A : Around} {h : Heap} {R : Result → Shared → Prop} {g : Array GenState} {d : Drawn} {t : Nat} {os : OsState}
theorem io_facts (X : (Kc w.params).In h) : Looks (model prog w) h (Bind.madeHere "object.__new__" (.ref 395)) () ∧ Looks (model prog w) h (Bind.madeBy (.ref 395)) none ∧ Looks (model prog w) h (mroOf (.ref 395)) [.ref 395, .ref 153, .ref 138, .type "object"] :=
 ⟨Looks.of_peek X (by kernel_rfl), Looks.of_peek X (by kernel_rfl), Looks.of_peek X (by kernel_rfl)⟩
theorem io_base (X : (Kc w.params).In h) : Looks (model prog w) h (Bind.staticBase (.ref 395)) (.type "object") ∧ Looks (model prog w) h (Bind.madeBy (.type "object")) (some "object.__new__") :=
 ⟨Looks.of_peek X (by kernel_rfl), Looks.of_peek X (by kernel_rfl)⟩
theorem io_attr {Q : Value → Shared → Prop} {E : Value → Shared → Prop} {s : Shared} (X : (Kc w.params).In s.heap) (hq : Q (.ref 135) { s with toks := s.toks + 1 }) : wpAny (model prog w) A (getAttr (.ref 395) (Str.ofString "__new__")) Q E s :=
 cls_bind (mc := .type "type") X (by k_is) (show findCls (Kc w.params) (.ref 395) (.type "type") (Str.ofString "__new__") = some (.get (.builtin "staticmethod.__get__") (.ref 139) .none (.ref 395)) by k_is) (wpAny_call (sm_get (s := { s with toks := s.toks + 1 }) (f := .ref 135) (rest := _) X (by k_is) (handed_on (by rfl) hq)))
theorem io_typ (X : (Kc w.params).In h) : Looks (model prog w) h (isInstance (.ref 395) (.type "type")) true ∧ Looks (model prog w) h (isSubtype (.ref 395) (.ref 395)) true ∧ Looks (model prog w) h (specialOf (.ref 395) "__call__") (some (.builtin "type.__call__")) ∧ Looks (model prog w) h (typeLookup (.ref 395) "__init__") (some (.ref 182)) :=
 ⟨Looks.of_peek X (by kernel_rfl), Looks.of_peek X (by kernel_rfl), Looks.of_peek X (by kernel_rfl), Looks.of_peek X (by kernel_rfl)⟩
theorem io_objnew (X : (Kc w.params).In h) (hq : R (.ok (.ret (.ref (h.objs.size + 1)))) ⟨(h.push emptyDict).push (instObj 395 h.objs.size), g, d, t, os⟩) :
  codeAny (model prog w) A (.call (.builtin "object.__new__") ⟨[.ref 395], []⟩) R ⟨h, g, d, t, os⟩ := by
 have F := PySem.F.objNew
 refine hideP fun B9 k9 => ?_
 obtain ⟨here, made, mro⟩ := io_facts X
 obtain ⟨base, omade⟩ := io_base X
 obtain ⟨typ, self, call, ini⟩ := io_typ X
 have hC : ∃ oc od cd sl, h.get? 395 = some ⟨oc, od, .cls cd, sl⟩ ∧ cd.abstract = false ∧ cd.hasDel = false := ⟨_, _, _, _, X 395 _ (by k_is), rfl, rfl⟩
 obtain ⟨oc, od, cd, sl, hC, e1, e2⟩ := hC
 refine k9 ?_; clear k9
 refine codeAny_call_builtin_code (Code.quiet_builtin _ F.quiet) ?_
 refine (Looks.of_peek (t := checkBuiltinCall "object.__new__" ⟨[.ref 395], []⟩) (r := ()) X (by kernel_rfl)).here ?_
 refine codeAny_builtin F.entry ?_
 unfold Builtin.«object.__new__»
 have fin : ∀ A', wpAny (model prog w) A' (do
   let d ← if typeHasDict (.ref 395) then some <$> alloc { cls := .type "dict", data := .dict #[] } else pure none
   ret (← newObj (.ref 395) .plain d)) (fun fin s' => match fin with | .done f => R (.ok f) s' | .again c' => c'.quiet = true ∧ codeAny (model prog w) A c' R s') (fun e s' => R (.error e) s') ⟨h, g, d, t, os⟩ := by
  intro A'
  show wpAny _ _ ((alloc emptyDict >>= fun x => pure (some x)) >>= _) _ _ _
  refine wpAny_bind (wpAny_bind (wpAny_alloc (wpAny_pure (wpAny_bind ?_))))
  show wpAny _ _ (newObjAsIs _ _ _) _ _ _
  unfold newObjAsIs classHasDel
  refine wpAny_bind (wpAny_alloc (wpAny_bind (wpAny_bind (wpAny_load (Heap.get?_push_of_some _ (Heap.get?_push_of_some _ hC)) (wpAny_pure ?_)))))
  rw [e2]
  refine wpAny_pure (wpAny_pure ?_)
  show R _ _
  rw [Heap.size_push]
  exact hq
 repeat (first | simp only [e1, Bool.false_eq_true, if_false] | exact fin _ | lk)
theorem io_make {g : Heap} {L : Addr} {m : Str → Option Value} {news : List (Addr × Obj)} {s : Shared} {Q E : Value → Shared → Prop} (F : Fr g L s.heap m) (N : News g L s.heap news) (X : (Kc w.params).In g)
  (h : ∀ x dx h', Fr g L h' m → News g L h' ((x, instObj 395 dx) :: (dx, dictOf [] 0) :: news) → (∀ p ∈ news, p.1 < dx) → L < dx → dx < x → Q (.ref x) { s with heap := h' }) : wpAny (model prog w) A (PySem.call (.builtin "object.__new__") [.ref 395]) Q E s := by
 obtain ⟨hh, gs, dr, tk, os⟩ := s
 refine wpAny_call (io_objnew (Frag.In.keeps X F.keep) ?_)
 have F1 := F.push (dictOf [] 0)
 have N1 := N.push F (dictOf [] 0)
 have F2 := F1.push (instObj 395 hh.objs.size)
 have N2 := N1.push F1 (instObj 395 hh.objs.size)
 rw [Heap.size_push] at N2
 exact h (hh.objs.size + 1) hh.objs.size _ F2 N2 (fun p hp => Heap.lt_size (N p hp).1) F.ns.lt (Nat.lt_succ_self _)
end
theorem hk9 : True := by
 k_with "call builtin:object.__new__" => (k_here; (with_reducible show wpAny _ _ (PySem.call (Value.builtin "object.__new__") [Value.ref 395]) _ _ _); (refine io_make (by k_asm) (by k_asm) (by k_asm) ?_); intro x9 dx9 h'9 F'9 N'9 l19 l29 l39; (replace l29 := ltN l29); (replace l39 := ltN l39); (try k_lt l19))
 trivial
section
variable {w : World} {hb : Heap} {mean : ExcName → Option Value} {mg mb : Str → Option Value} {s : Shared}
theorem io_new (G : Gd w hb mean mg mb) (st : St hb s.heap) :
  DoesX w 4 (.ref 135) [.ref 395] [] s [] (fun r h' => ∃ x d, r = .ref x ∧ s.heap.objs.size ≤ d ∧ d < x ∧ h'.get? x = some (instObj 395 d) ∧ h'.get? d = some (dictOf [] 0)) := by
 walk_at "ir"
 refine' enterXS (vs := []) (binds := fun t d => [(Str.ofString "cls", .ref 395), (Str.ofString "args", t), (Str.ofString "kwargs", d)]) G st [] ?hW ?ho ?hcd ?hroom ?hbind ?hvs ?hloc ?h ?hcell ?hco ?hgen ?hk
 case ho => k_is
 case hcd => k_is
 case hroom => omega
 case hvs => decide
 case hW => intro p hp; cases hp
 case hbind => rfl
 case hloc => intro t d; exact locs rfl
 case hcell => decide
 case hco => rfl
 case hgen => rfl
 case hk => rfl
 intro g L h₁ t d F N l1 lt ld lL X T stg sub
 clear l1
 walk_at "xa"
 k_steps
 refine leaves (by k_asm) fun _ => fun e => hQ _ _ _ e ⟨_, _, rfl, ?_, ?_, News.get (by k_asm) (by k_mem), News.get (by k_asm) (by k_mem)⟩
 all_goals omega
theorem io_call (G : Gd w hb mean mg mb) (st : St hb s.heap) {n : Nat} {args : List Value} {pi : Addr → Addr → Heap → Prop} (hn : 4 ≤ n) (ha : args = [])
  (D : ∀ x dx h', (∀ b o, s.heap.get? b = some o → h'.get? b = some o) → s.heap.objs.size ≤ dx → dx < x → h'.get? x = some (instObj 395 dx) → h'.get? dx = some (dictOf [] 0) → hb.get? x = none → hb.get? dx = none →
   ∀ tk, DoesX w n (.ref 182) [.ref x] [] { s with heap := h', toks := tk } [dx] (fun r h'' => r = .none ∧ pi x dx h'')) :
  DoesX w (n + 2) (.ref 395) args [] s [] (fun r h' => ∃ x dx, r = .ref x ∧ s.heap.objs.size ≤ dx ∧ dx < x ∧ h'.get? x = some (instObj 395 dx) ∧ pi x dx h') := by
 subst ha
 walk_at "ir"
 have X := Frag.In.keeps G.X st
 refine hideP fun B9 k9 => ?_
 obtain ⟨here, made, mro⟩ := io_facts X
 obtain ⟨typ, self, call, ini⟩ := io_typ X
 have hC : ∃ oc od cd sl, s.heap.get? 395 = some ⟨oc, od, .cls cd, sl⟩ := ⟨_, _, _, _, X 395 _ (by k_is)⟩
 obtain ⟨oc, od, cd, sl, hC⟩ := hC
 refine k9 ?_; clear k9
 refine x_tree rfl ?_
 walk_at "xa"
 show wpAny _ _ (callAny (.ref 395) _) _ _ _
 refine wpAny_bind (wpAny_load hC ?_)
 show wpAny _ _ (callAny.viaDunder (.ref 395) _) _ _ _
 unfold callAny.viaDunder
 refine wpAny_bind (call.here ?_)
 dsimp only
 rw [tc_bind]
 refine wpAny_bind (wpAny_pure (wpAny_bind (wpAny_pure ?_)))
 refine wpAny_pure (a := Fin.again (.call (.builtin "type.__call__") ⟨[.ref 395], []⟩)) (And.intro rfl ?_)
 refine x_tree rfl ?_
 show wpX _ _ (do checkBuiltinCall "type.__call__" ⟨[.ref 395], []⟩; again (.builtin "type.__call__" ⟨[.ref 395], []⟩)) _ _ _
 refine x_bind (x_any (check_slot tc_kind tc_split typ (tc_args _ _ _) (x_pure ⟨Code.quiet_builtin _ (by decide +kernel), x_builtin rfl entry_typeCall ?_⟩)))
 unfold Builtin.«type.__call__»
 refine x_ite_false (by decide) ?_
 dsimp only
 refine x_bind (x_any (mro.here ?_))
 refine x_ite_false (by decide) ?_
 refine x_bind (x_any (made.here ?_))
 dsimp only
 refine x_bind (x_any (io_attr X ?_))
 have hw : ((Ar dp un fr gd).under (Code.builtin "type.__call__" ⟨[.ref 395], []⟩)) = Ar (dp + 1) (un + 1) fr gd := rfl
 rw [hw]
 refine x_bind (x_holding (x_call (io_new G (s := { s with toks := s.toks + 1 }) st _ _ _ _ _ (Nat.lt_of_le_of_lt (Nat.add_le_add_left hn (dp + 1)) (room3 hdp)) (Nat.lt_of_le_of_lt (Nat.add_le_add_left (Nat.mul_le_mul_left 8 hn) (un + 1)) (room4 hu)) fun r h' tk' e p => ?_)))
 refine hideP fun B9 k9 => ?_
 obtain ⟨x, dx, rfl, ld, lx, ex, ed⟩ := p
 refine k9 ?_; clear k9
 have e' : ∀ b o, s.heap.get? b = some o → h'.get? b = some o := fun b o q => e b o (by simp) q
 have hT : Looks (model prog w) h' (typeOf (.ref x)) (.ref 395) := (Looks.ld ex).andThen .now
 have s1 := self.keeps e'
 have i1 := ini.keeps e'
 have b1 : Looks (model prog w) h' (bindSpecial (.ref 182) (.ref x)) (.ref 182, [.ref x]) := bind_fn (Frag.In.keeps X e') (.ref x) (by k_is)
 have none_of : ∀ a, s.heap.objs.size ≤ a → hb.get? a = none := fun a ha => by
  cases q : hb.get? a with
  | none => rfl
  | some o => exact absurd (Heap.lt_size (st _ _ q)) (Nat.not_lt.mpr ha)
 unfold isInstance callSpecial? specialOf
 refine x_bind (x_any (wpAny_bind (hT.here (s1.here ?_))))
 refine x_ite_false (by decide) ?_
 refine x_bind (x_holding (x_bind (x_any (wpAny_bind (hT.here (i1.here ?_))))))
 dsimp only
 refine x_holding (x_bind (x_any (b1.here ?_)))
 dsimp only
 refine x_bind (x_call (D x dx h' e' ld lx ex ed (none_of _ (Nat.le_trans ld (Nat.le_of_lt lx))) (none_of _ ld) tk' _ _ _ _ _ ?_ ?_ fun r h'' tk'' e2 p2 => ?_))
 ·exact room3 hdp
 ·exact room4 hu
 refine hideP fun B9 k9 => ?_
 obtain ⟨rfl, p2⟩ := p2
 refine k9 ?_; clear k9
 refine x_pure (x_ite_false (by decide) (x_pure ?_))
 refine hQ _ _ _ (fun b o _ q => e2 b o (fun z => ?_) (e' b o q)) ⟨x, dx, rfl, ld, lx, e2 _ _ ?_ ex, p2⟩
 ·rw [List.mem_singleton.mp z] at q; exact absurd (Heap.lt_size q) (Nat.not_lt.mpr ld)
 ·intro z; rw [List.mem_singleton.mp z] at lx; exact absurd lx (Nat.lt_irrefl _)
end
end
section
section
variable {M : Model} {A : Around} {E : Value → Shared → Prop} {s : Shared} {env : Env}
theorem x_assignTo {t value : Expr} {pos : Pos} {Q : Flow → Shared → Prop} (h : wpX M A (eval value env) (fun v s₁ => wpX M A (assign t env v) (fun _ => Q .next) E s₁) E s)
  (ht : (assignEach [t] env).map (·.2) = [assign t env] := by rfl) (hs : swapsWithSole [t] value pos.line env = pure false := by rfl) (hw : swappedStores [t] value env = pure none := by rfl) :
  wpX M A (exec (.Assign [t] value pos) env) Q E s := by
 rw [PyProof.Rows.exec_Assign]
 refine x_bind (x_stand ?_)
 rw [hs]
 refine x_bind (x_pure ?_)
 rw [if_neg (by decide)]
 refine x_bind (x_mono h (fun v s₁ h₁ => ?_) fun _ _ z => z)
 rw [hw, ht]
 refine x_bind (x_pure ?_)
 show wpX M A (do assignAll v [assign t env]; pure .next) Q E s₁
 exact x_bind (x_mono h₁ (fun _ _ z => x_pure z) fun _ _ z => z)
theorem x_callT0 {f : Value} {pos : Pos} {first : List Value} {Q : Value → Shared → Prop} (hk : keeperOf f = pure .machine) (h : wpX M A (call f (first ++ []) []) Q E s) :
  wpX M A (callWith pos f first (backTo pos (starEach [] env)) (backToKw pos (keywordEach [] env))) Q E s :=
 x_callWith (x_args0 (wpAny_of_eq hk h))
theorem x_baNew {p : Program} {w : World} {g : Heap} {L : Addr} {m : Str → Option Value} {news : List (Addr × Obj)} {Q : Value → Shared → Prop} (F : Fr g L s.heap m) (N : News g L s.heap news)
  (h : ∀ bx h', Fr g L h' m → News g L h' ((bx, baObj #[]) :: news) → (∀ p ∈ news, p.1 < bx) → L < bx → Q (.ref bx) { s with heap := h' }) : wpX (model p w) A (call (.type "bytearray") []) Q E s :=
 x_ba0 fun h' e k => h _ _ (fr_ext F k) (news_new F (Nat.le_refl _) e (news_ext N k)) (fun p hp => Heap.lt_size (N p hp).1) F.ns.lt
theorem x_release {vs keep : List Value} {Q : Unit → Shared → Prop} (h : Q () s) : wpX M A (release vs keep) Q E s := fun Γ p _ _ _ => by rw [Sem.wp_release]; exact h
theorem x_assignSub {o i : Expr} {pos : Pos} {v : Value} {Q : Unit → Shared → Prop} (h : wpAny M A (eval o env) (fun ov s₁ => wpAny M A (eval i env) (fun iv s₂ => wpX M A (setItem ov iv v) Q E s₂) E s₁) E s) :
  wpX M A (assign (.Subscript o i pos) env v) Q E s := by
 show wpX M A (holding [v] (eval o env) >>= _) Q E s
 refine x_bind (x_holding (x_any (wpAny_mono h (fun ov s₁ h₁ => x_bind (x_holding (x_any (wpAny_mono h₁ (fun iv s₂ h₂ => ?_) fun _ _ z => z)))) fun _ _ z => z)))
 exact x_bind (x_stand (x_bind (x_holding (x_mono h₂ (fun _ _ z => x_release z) fun _ _ z => z))))
end
section
variable {w : World} {hb : Heap} {mean : ExcName → Option Value} {mg mb : Str → Option Value} {s : Shared}
theorem io_init (G : Gd w hb mean mg mb) (st : St hb s.heap) {x d : Addr} (hx : s.heap.get? x = some (instObj 395 d)) (hd : s.heap.get? d = some (dictOf [] 0)) (hn : hb.get? d = none) (hnx : hb.get? x = none) (hxd : @LT.lt Nat _ d x) :
  DoesX w 8 (.ref 182) [.ref x] [] s [d] (fun r h' => r = .none ∧ ∃ bx k1 k2 t, s.heap.objs.size ≤ bx ∧ h'.get? bx = some (baObj #[]) ∧ h'.get? d = some (dictOf [ent w "_BytesIO__buf" k1 (.ref bx), ent w "_BytesIO__pos" k2 (.int 0 t)] 2)) := by
 walk_at "ir"
 refine' enterX (binds := [(Str.ofString "self", .ref x), (Str.ofString "initial_bytes", .none)]) G st [(x, instObj 395 d), (d, dictOf [] 0)] ?hW ?ho ?hcd ?hroom ?hbind ?hloc ?h ?hcell ?hco ?hgen ?hk
 walk_at "kk_enter"
 case hW => exact List.forall_mem_cons.mpr ⟨⟨hx, hnx⟩, List.forall_mem_cons.mpr ⟨⟨hd, hn⟩, fun _ h => nomatch h⟩⟩
 walk_at "ig"
 k_lt l1
 ((try k_steps); refine x_execs fun K9 hK9 => (x_any ?_))
 k_steps
 ((try k_steps); refine x_execs fun K9 hK9 => (x_assignTo (x_ifexp (x_any ?_))))
 k_steps
 refine x_name (x_any ?_)
 k_steps
 refine x_callT0 rfl (x_baNew (by k_asm) (by k_asm) ?_)
 intro bx h' F' N' l2 l3
 replace l3 := ltN l3
 k_lt l2
 walk_at "xa"
 k_steps
 walk_at "xa"
 k_steps
 refine leaves (by k_asm) fun _ => fun e => hQ _ _ _ (ext_drop e hx ?_) ⟨rfl, bx, _, _, _, ?_, News.get (by k_asm) (by k_mem), News.get (by k_asm) (by k_mem)⟩
 ·exact News.get (by k_asm) (by k_mem)
 ·omega
def Strm (w : World) (h : Heap) (x d bx : Addr) (b : Array UInt8) : Prop :=
 h.get? x = some (instObj 395 d) ∧ h.get? bx = some (baObj b) ∧ ∃ k1 k2 t, h.get? d = some (dictOf [ent w "_BytesIO__buf" k1 (.ref bx), ent w "_BytesIO__pos" k2 (.int (b.size : Int) t)] 2)
theorem io_made (G : Gd w hb mean mg mb) (st : St hb s.heap) :
  DoesX w 10 (.ref 395) [] [] s [] (fun r h' => ∃ x d, r = .ref x ∧ s.heap.objs.size ≤ d ∧ d < x ∧ h'.get? x = some (instObj 395 d) ∧ ∃ bx k1 k2 t, s.heap.objs.size ≤ bx ∧ h'.get? bx = some (baObj #[]) ∧ h'.get? d = some (dictOf [ent w "_BytesIO__buf" k1 (.ref bx), ent w "_BytesIO__pos" k2 (.int 0 t)] 2)) :=
 io_call G st (n := 8) (pi := fun x d h' => ∃ bx k1 k2 t, s.heap.objs.size ≤ bx ∧ h'.get? bx = some (baObj #[]) ∧ h'.get? d = some (dictOf [ent w "_BytesIO__buf" k1 (.ref bx), ent w "_BytesIO__pos" k2 (.int 0 t)] 2)) (by decide) rfl fun x dx h' k ld lx ex ed nx nd tk => by
  intro dp un fr gd R h1 h2 h3
  have hs : s.heap.objs.size ≤ h'.objs.size := Nat.le_trans ld (Nat.le_of_lt (Heap.lt_size ed))
  exact io_init G (s := { s with heap := h', toks := tk }) (fun b o e => k _ _ (st b o e)) ex ed nd nx lx dp un fr gd R h1 h2 fun r h'' tk' e p => h3 r h'' tk' e (by
   obtain ⟨rfl, bx, k1, k2, t, q1, q2, q3⟩ := p
   exact ⟨rfl, bx, k1, k2, t, Nat.le_trans hs q1, q2, q3⟩)
end
end
section
namespace FBa
theorem entry_len : entryFor table "bytearray.__len__" = some Builtin.«bytearray.__len__» := by first | exact entryFor_of_fast (by kernel_rfl) | exact entryFor_of_tree (by kernel_rfl)
theorem no_bytes : typeLookup (.type "bytearray") "__bytes__" = pure none := by rw [typeLookup_type, builtinLookup_eq_fast]; kernel_rfl
theorem no_idx : typeLookup (.type "bytearray") "__index__" = pure none := by rw [typeLookup_type, builtinLookup_eq_fast]; kernel_rfl
theorem ba_buffer : typeLookup (.type "bytearray") "__buffer__" = pure (some (.builtin "bytearray.__buffer__")) := by rw [typeLookup_type, builtinLookup_eq_fast]; kernel_rfl
end FBa
section
variable {p : Program} {w : World} {M : Model} {A : Around} {E : Value → Shared → Prop} {s : Shared} {R : Result → Shared → Prop}
theorem ba_pay {q : Addr} {d : Array UInt8} {P : Array UInt8 → Shared → Prop} (hq : s.heap.get? q = some (baObj d)) (hP : P d s) : wpAny M A (Builtin.Bytes.payload (.ref q)) P E s := by
 show wpAny _ _ ((load q >>= fun _ => _) >>= fun _ => _) _ _ _
 exact wpAny_bind (wpAny_bind (wpAny_load hq (wpAny_pure (wpAny_pure hP))))
theorem ba_len {bx : Addr} {b : Array UInt8} {Q : Value → Shared → Prop} (hb : s.heap.get? bx = some (baObj b)) (hfit : b.size ≤ 1099511627776) (h : Q (.int (b.size : Int) (s.toks + 1)) { s with toks := s.toks + 1 + 1 }) :
  wpAny (model p w) A (call (.builtin "len") [.ref bx]) Q E s := by
 refine PyProof.Rows.call_len_slot (n := (b.size : Int)) (ba_type hb) FBa.slot_len (fun Q' q => ?_) (by omega) (by omega) h
 refine wpAny_call_entry FBa.slot_len (ba_type hb) FBa.entry_len ?_
 show wpAny _ _ (Builtin.Bytes.payload (.ref bx) >>= fun _ => _) _ _ _
 refine wpAny_bind (ba_pay hb ?_)
 exact wpAny_bind (wpAny_mkInt (wpAny_pure ⟨_, rfl, q⟩))
theorem buffer_ba {id : String} {bx : Addr} {c : Array UInt8} {full : Bool} {Q : Option (Array UInt8) → Shared → Prop} (hb : s.heap.get? bx = some (baObj c)) (h : Q (some c) s) : wpAny (model p w) A (Builtin.Bytes.buffer? id (.ref bx) full) Q E s := by
 have hT := ba_type hb
 unfold Builtin.Bytes.buffer? Builtin.Bytes.slotIsOwn
 refine wpAny_bind (wpAny_specialOf hT FBa.ba_buffer ?_)
 refine wpAny_bind (wpAny_bind (wpAny_specialOf hT FBa.ba_buffer ?_))
 refine bm_if_false (by decide +kernel) ?_
 refine wpAny_isInstance (T := "bytearray") (b := true) hT (by rw [show ("bytearray.__buffer__".dropRight ("__buffer__".length + 1)) = "bytearray" by decide +kernel]; exact FBa.sub) ?_
 refine bm_if_false rfl ?_
 refine wpAny_bind (wpAny_specialOf hT FBa.ba_buffer ?_)
 dsimp only
 refine wpAny_bind (no_release hb ?_)
 refine bm_if_false rfl ?_
 exact wpAny_bind (ba_pay hb (wpAny_pure h))
theorem ba_bytes {bx : Addr} {b : Array UInt8} {Q : Value → Shared → Prop} (hb : s.heap.get? bx = some (baObj b)) (hfit : b.size ≤ 16777216) (h : ∀ t k, Q (.bytes b t) { s with toks := k }) :
  wpAny (model p w) A (call (.type "bytes") [.ref bx]) Q E s := by
 have hT := ba_type hb
 refine callType_codes (Q₁ := fun obj s₁ => s₁.TypeIs obj "bytes" ∧ Q obj s₁) F.bm_called (F.bm_typeCall _) F.entry_object_init ?_ fun obj s₁ h₁ => ?_
 ·refine codeAny_of_tree ?_
  show wpAny _ _ (do checkBuiltinCall "bytes.__new__" ⟨[.type "bytes", .ref bx], []⟩; again (.builtin "bytes.__new__" ⟨[.type "bytes", .ref bx], []⟩)) _ _ s
  refine wpAny_bind (wpAny_of_eq (F.bm_newCall _) (wpAny_pure ⟨plainId_quiet F.bm_plain _, codeAny_builtin F.bm_entry ?_⟩))
  rw [Around.under_plainId F.bm_plain _]
  unfold Builtin.«bytes.__new__»
  refine wpAny_bind (wpAny_of_eq (a := true) rfl ?_)
  refine bm_if_false rfl ?_
  refine wpAny_bind (wpAny_of_eq F.bm_sub ?_)
  refine bm_if_false rfl ?_
  refine wpAny_bind (wpAny_of_eq (F.bm_bind _) ?_)
  refine wpAny_bind (wpAny_of_eq (a := ()) rfl ?_)
  refine wpAny_bind (wpAny_of_eq (a := ()) rfl ?_)
  refine bm_if_false rfl ?_
  refine wpAny_bind (wpAny_specialOf hT FBa.no_bytes ?_)
  refine wpAny_bind (wpAny_bind ?_)
  show wpAny _ _ (load bx >>= _) _ _ _
  refine wpAny_bind (wpAny_load hb (wpAny_pure (wpAny_pure ?_)))
  refine bm_if_false rfl ?_
  refine wpAny_bind (wpAny_specialOf hT FBa.no_idx ?_)
  refine bm_if_true rfl ?_
  first
   | show wpAny _ _ (Builtin.Bytes.buffer? "bytes.__new__" (.ref bx) true >>= _) _ _ _
   | (refine wpAny_bind ?_; show wpAny _ _ (Builtin.Bytes.buffer? "bytes.__new__" (.ref bx) true >>= _) _ _ _)
  refine wpAny_bind (buffer_ba hb ?_)
  refine wpAny_bind (wpAny_rule ?_)
  refine wpAny_bind (wpAny_mkBytes ?_ (by rw [sizeLine_eq]; exact hfit))
  show wpAny _ _ (if (Value.type "bytes" == Value.type "bytes") = true then _ else _) _ _ _
  refine bm_if_true (by decide) ?_
  have fin : ∀ t k, wants (fun obj s₁ => s₁.TypeIs obj "bytes" ∧ Q obj s₁) E (.ok (.ret (.bytes b t))) { s with toks := k } := fun t k => ⟨typeIs_bytes _ _ _, h t k⟩
  first
   | exact wpAny_pure (fin _ _)
   | exact wpAny_bind (wpAny_pure (wpAny_pure (fin _ _)))
 ·exact ⟨h₁.1, F.args_object_init_2 obj _, object_init_meets F.bm_called.init.lookup F.bm_called.made (by decide) p w A.in1 _ s₁ ⟨h₁.1, rfl, h₁.2⟩⟩
end
end
section
theorem hk10 : True := by
 k_with "call builtin:len" => (k_here; (with_reducible show wpAny _ _ (PySem.call (Value.builtin "len") [Value.bytes _ _]) _ _ _); (refine len_bytes ?_ ?_); (walk_at "kk_size"))
 k_with "call builtin:len" => (k_here; (with_reducible show wpAny _ _ (PySem.call (Value.builtin "len") [Value.ref _]) _ _ _); (first | refine ba_len (News.get (by k_asm) (by k_mem)) ?_ ?_ | refine ba_len (Fr.keep (by k_asm) _ _ (by assumption)) ?_ ?_); (walk_at "kk_size"))
 k_with "call type:bytes" => (k_here; (with_reducible show wpAny _ _ (PySem.call (Value.type "bytes") [Value.ref _]) _ _ _); (first | refine ba_bytes (News.get (by k_asm) (by k_mem)) ?_ ?_ | refine ba_bytes (Fr.keep (by k_asm) _ _ (by assumption)) ?_ ?_); (walk_at "kk_size"); intro _ _)
 k_with "kk_get" => (first | exact News.get (by k_asm) (by k_mem) | exact Fr.keep (by k_asm) _ _ (by assumption))
 trivial
abbrev bioDict (w : World) (k1 k2 : Nat) (bx : Addr) (n : Nat) (t : Tok) : Obj := dictOf [ent w "_BytesIO__buf" k1 (.ref bx), ent w "_BytesIO__pos" k2 (.int (n : Int) t)] 2
section
variable {w : World} {hb : Heap} {mean : ExcName → Option Value} {mg mb : Str → Option Value} {s : Shared}
theorem io_check (G : Gd w hb mean mg mb) (st : St hb s.heap) {x d bx : Addr} {b : Array UInt8} {k1 k2 n : Nat} {t : Tok} (hx : s.heap.get? x = some (instObj 395 d)) (hd : s.heap.get? d = some (bioDict w k1 k2 bx n t)) (hbx : s.heap.get? bx = some (baObj b)) :
  Does w 2 (.ref 189) [.ref x] [] s [] (fun r _ => r = .none) := by
 walk_at "ir"
 refine' enter (binds := [(Str.ofString "self", .ref x)]) G st [] ?hW ?ho ?hcd ?hroom ?hbind ?hloc ?h ?hcell ?hco ?hgen ?hk
 walk_at "kk_enter"
 case hW => intro p hp; cases hp
 walk_at "ig"
 clear l1
 have gx := sub x _ hx (by simp)
 have gd := sub d _ hd (by simp)
 have gb := sub bx _ hbx (by simp)
 k_steps
 all_goals first | (exact leaves (by k_asm) fun _ => fun e => hQ _ _ _ e rfl) | w_report
theorem hk11 : True := by
 k_with "call ref" => (k_here; (with_reducible show wpAny _ _ (PySem.call (Value.ref 189) _ _) _ _ _); (show wpAny _ _ (PySem.call (Value.ref 189) [Value.ref _] _) _ _ _); (refine use0 (io_check (by assumption) (by walk_at "kk_st") (by walk_at "kk_get") (by walk_at "kk_get") (by walk_at "kk_get")) (by k_asm) (by k_asm) (by walk_at "kk_num") (by walk_at "kk_num") ?_); intro K8 hK8 r9 h'9 tk'9 F'9 N'9 l19 l29 p9; subst p9; clear l19 l29; (refine hK8 _ _ _ ?_))
 trivial
theorem io_getvalue (G : Gd w hb mean mg mb) (st : St hb s.heap) {x d bx : Addr} {b : Array UInt8} {k1 k2 n : Nat} {t : Tok} (hx : s.heap.get? x = some (instObj 395 d)) (hd : s.heap.get? d = some (bioDict w k1 k2 bx n t)) (hbx : s.heap.get? bx = some (baObj b)) (hz : b.size ≤ 1000000) :
  Does w 4 (.ref 281) [.ref x] [] s [] (fun r _ => ∃ t, r = .bytes b t) := by
 walk_at "ir"
 refine' enter (binds := [(Str.ofString "self", .ref x)]) G st [] ?hW ?ho ?hcd ?hroom ?hbind ?hloc ?h ?hcell ?hco ?hgen ?hk
 walk_at "kk_enter"
 case hW => intro p hp; cases hp
 walk_at "ig"
 clear l1
 have gx := sub x _ hx (by simp)
 have gd := sub d _ hd (by simp)
 have gb := sub bx _ hbx (by simp)
 k_steps
 all_goals first | (exact leaves (by k_asm) fun _ => fun e => hQ _ _ _ e ⟨_, rfl⟩) | w_report
end
end
section
theorem hk12 : True := by
 k_with "call type:type" => (k_here; (with_reducible show wpAny _ _ (PySem.call (Value.type "type") [Value.bytes _ _]) _ _ _); (refine call_type_of (Tx := "bytes") (typeIs_bytes _ _ _) (by decide) ?_))
 trivial
theorem x_setK {p : Program} {w : World} {A : Around} {E : Value → Shared → Prop} {Q : Unit → Shared → Prop} {g h : Heap} {gs : Array GenState} {dr : Drawn} {tk : Nat} {os : OsState} {L bx : Addr} {m : Str → Option Value} {news news' : List (Addr × Obj)} {b c : Array UInt8} {u t1 t2 : Tok} {lo hi : Int}
  (F : Fr g L h m) (N : News g L h news) (hm : (bx, baObj b) ∈ news) (hl : lo = b.size) (hu : hi = b.size + c.size) (hc : 0 < c.size) (hz : b.size + c.size ≤ 16777216) (U : Upd bx (baObj b) (baObj (b ++ c)) news news')
  (q : ∀ h', Fr g L h' m → News g L h' news' → Q () ⟨h', gs, dr, tk, os⟩) :
  wpX (model p w) A (setItem (.ref bx) (.ref h.objs.size) (.bytes c u)) Q E ⟨h.push (sliceObj lo hi t1 t2), gs, dr, tk, os⟩ := by
 refine x_setitem (s := ⟨h.push (sliceObj lo hi t1 t2), gs, dr, tk, os⟩) (Heap.get?_push_of_some _ (N _ hm).1) (Heap.get?_push_size _ rfl) hl hu hc hz fun h' e k => ?_
 have k' : ∀ y o, y ≠ bx → h.get? y = some o → h'.get? y = some o := fun y o hy q => k y o hy (Heap.get?_push_of_some _ q)
 refine q h' (fr_but (W := [bx]) F (fun a ha => ?_) fun y o hy q => k' y o (by simpa using hy) q) ?_
 ·rw [List.mem_singleton.mp ha]; exact (N _ hm).2
 ·obtain ⟨pre, post, rfl, rfl, h1, h2⟩ := U.split
  intro p hp
  rcases List.mem_append.mp hp with q | q
  ·have P := N p (List.mem_append_left _ q); exact ⟨k' _ _ (h1 p q) P.1, P.2⟩
  ·rcases List.mem_cons.mp q with rfl | q
   ·exact ⟨e, (N (bx, baObj b) (by simp)).2⟩
   ·have P := N p (List.mem_append_right _ (.tail _ q)); exact ⟨k' _ _ (h2 p q) P.1, P.2⟩
theorem hk13 : True := by
 k_with "kx" => (k_steps; all_goals (try (exfalso; omega)))
 trivial
section
variable {w : World} {hb : Heap} {mean : ExcName → Option Value} {mg mb : Str → Option Value} {s : Shared}
theorem io_write (G : Gd w hb mean mg mb) (st : St hb s.heap) {x d bx : Addr} {b c : Array UInt8} {k1 k2 : Nat} {t u : Tok} (hx : s.heap.get? x = some (instObj 395 d)) (hd : s.heap.get? d = some (bioDict w k1 k2 bx b.size t)) (hbx : s.heap.get? bx = some (baObj b))
  (nx : hb.get? x = none) (nd : hb.get? d = none) (nb : hb.get? bx = none) (hxd : x ≠ d) (hxb : x ≠ bx) (hdb : d ≠ bx) (hz : b.size ≤ 1000000) (hc : c.size ≤ 1000) :
  DoesX w 6 (.ref 378) [.ref x, .bytes c u] [] s [d, bx] (fun r h' => (∃ q, r = .int (c.size : Int) q) ∧ ∃ t, h'.get? d = some (bioDict w k1 k2 bx (b ++ c).size t) ∧ h'.get? bx = some (baObj (b ++ c))) := by
 walk_at "ir"
 refine' enterX (binds := [(Str.ofString "self", .ref x), (Str.ofString "b", .bytes c u)]) G st [(x, instObj 395 d), (d, dictOf [ent w "_BytesIO__buf" k1 (.ref bx), ent w "_BytesIO__pos" k2 (.int (b.size : Int) t)] 2), (bx, baObj b)] ?hW ?ho ?hcd ?hroom ?hbind ?hloc ?h ?hcell ?hco ?hgen ?hk
 walk_at "kk_enter"
 case hW => exact List.forall_mem_cons.mpr ⟨⟨hx, nx⟩, List.forall_mem_cons.mpr ⟨⟨hd, nd⟩, List.forall_mem_cons.mpr ⟨⟨hbx, nb⟩, fun _ h => nomatch h⟩⟩⟩
 walk_at "ig"
 k_lt l1
 have hdx := Ne.symm hxd
 have hbx' := Ne.symm hxb
 have hbd := Ne.symm hdb
 rcases Nat.eq_zero_or_pos c.size with hc0 | hc0
 ·walk_at "xa"
  walk_at "kx"
  have e0 : c = #[] := Array.eq_empty_of_size_eq_zero hc0
  refine leaves (by k_asm) fun _ => fun e => hQ _ _ _ (ext_drop e hx ?_) ⟨⟨_, by rw [hc0]; rfl⟩, t, ?_, ?_⟩
  ·exact News.get (by k_asm) (by k_mem)
  ·rw [e0, Array.append_empty]; exact News.get (by k_asm) (by k_mem)
  ·rw [e0, Array.append_empty]; exact News.get (by k_asm) (by k_mem)
 ·iterate 7 (refine x_execs fun K9 hK9 => (x_any ?_); walk_at "kx")
  ((try k_steps); refine x_execs fun K9 hK9 => (x_assignTo (x_any ?_)))
  walk_at "kx"
  refine x_assignSub ?_
  walk_at "kx"
  refine' x_setK ?F ?N ?m ?hl ?hu ?hc ?hz ?U ?q
  case F => k_asm
  case N => k_asm
  case m => k_mem
  case hl => rfl
  case hu => rfl
  case hc => omega
  case hz => omega
  case U => k_upd
  intro h' F' N'
  walk_at "kx"
  walk_at "xa"
  walk_at "kx"
  refine leaves (by k_asm) fun _ => fun e => hQ _ _ _ (ext_drop e hx ?_) ⟨⟨_, rfl⟩, ?_⟩
  ·exact News.get (by k_asm) (by k_mem)
  ·have hsz : (((b ++ c).size : Nat) : Int) = (b.size : Int) + c.size := by simp
   refine ⟨?tt, ?aa, ?bb⟩
   case bb => exact News.get (by k_asm) (by k_mem)
   case aa =>
    unfold bioDict
    rw [hsz]
    exact News.get (by k_asm) (by k_mem)
end
end
section
def sized (n : Nat) : Array UInt8 := if n < 253 then #[n.toUInt8] else #[253] ++ le 2 n
theorem while_false {w : World} {A : Around} {s : Shared} {env : Env} {test : Expr} {body : List Stmt} {pos : Pos} {Q : Flow → Shared → Prop} (h : wpAny (model prog w) A (isTrue test env (eval test env)) (fun b s₂ => b = false ∧ Q .next s₂) (fun _ _ => False) s) :
  wpAny (model prog w) A (exec (.While test body [] pos) env) Q (fun _ _ => False) s := by
 refine wpAny_While (codeAny_whileLoop (I := fun _ s' => s' = s) (fun n s' hs => ?_) 0 rfl)
 subst hs
 refine wpAny_mono h (fun b s₂ hb => ?_) fun _ _ z => z.elim
 obtain ⟨rfl, q⟩ := hb
 exact wpAny_execs_nil q
theorem hk14 : True := by
 k_with "exec While" => (k_here; (refine while_false ?_))
 trivial
theorem shr8 {n : Nat} (hn : n ≤ 255) : (((n : Int).fdiv (2 ^ ((8 : Int) * 2 ^ Int.toNat 0).toNat)) != 0) = false := by
 have e : (2 : Int) ^ ((8 : Int) * 2 ^ Int.toNat 0).toNat = 256 := by decide
 rw [e, Int.fdiv_eq_ediv_of_nonneg _ (by decide)]
 have : (n : Int) / 256 = 0 := by omega
 rw [this]; rfl
theorem sized_lt {n : Nat} (h : n < 253) : #[((n : Int)).toNat.toUInt8] = sized n := by unfold sized; rw [if_pos h, Int.toNat_natCast]
theorem sized_ge {n : Nat} (h : ¬ n < 253) : #[253] ++ le 2 (n : Int) = sized n := by unfold sized; rw [if_neg h]
section
variable {w : World} {hb : Heap} {mean : ExcName → Option Value} {mg mb : Str → Option Value} {s : Shared}
theorem to_bytes (G : Gd w hb mean mg mb) (st : St hb s.heap) {n : Nat} {t : Tok} (hn : n ≤ 255) :
  Does w 2 (.ref 94) [.int (n : Int) t] [] s [] (fun r _ => ∃ q, r = .bytes (sized n) q) := by
 walk_at "ir"
 refine' enter (binds := [(Str.ofString "i", .int (n : Int) t)]) G st [] ?hW ?ho ?hcd ?hroom ?hbind ?hloc ?h ?hcell ?hco ?hgen ?hk
 walk_at "kk_enter"
 case hW => intro p hp; cases hp
 walk_at "ig"
 clear l1
 by_cases h3 : n < 253
 ·walk_at "kx"
  ·exact shr8 hn
  ·exact leaves (by k_asm) fun _ => fun e => hQ _ _ _ e ⟨_, by rw [← sized_lt h3]⟩
 ·walk_at "kx"
  ·exact shr8 hn
  ·exact leaves (by k_asm) fun _ => fun e => hQ _ _ _ e ⟨_, by rw [← sized_ge h3]; rfl⟩
end
end
section
theorem sized_size {n : Nat} : (sized n).size ≤ 3 := by
 unfold sized; split
 ·exact (by decide : 1 ≤ 3)
 ·rw [Array.size_append, le_size]; decide
theorem hk15 : True := by
 k_with "call ref" => (k_here; (with_reducible show wpAny _ _ (PySem.call (Value.ref 94) _ _) _ _ _); (show wpAny _ _ (PySem.call (Value.ref 94) [Value.int _ _] _) _ _ _); (refine use0b (to_bytes (by assumption) (by walk_at "kk_st") (by first | assumption | omega | decide)) (by k_asm) (by k_asm) (by walk_at "kk_num") (by walk_at "kk_num") ?_); intro t'9 h'9 tk'9 F'9 N'9)
 trivial
section
variable {w : World} {g : Heap} {n : Nat} {f : Value} {args : List Value} {kw : List (Str × Value)} {s : Shared} {post : Value → Heap → Prop} {L : Addr} {m : Str → Option Value} {news : List (Addr × Obj)} {dp un : Nat} {fr : Option (List Env)} {gd : Option (List Code)} {Q E : Value → Shared → Prop}
theorem useX2 {h0 : Heap} {gs : Array GenState} {dr : Drawn} {tk : Nat} {os : OsState} {d1 d2 : Addr} {o1 o2 : Obj} (D : DoesX w n f args kw ⟨h0, gs, dr, tk, os⟩ [d1, d2] post) (F : Fr g L h0 m) (N : News g L h0 news) (hm1 : (d1, o1) ∈ news) (hm2 : (d2, o2) ∈ news) (hd : dp + n < recursionLimit) (hu : un + 8 * n < cLine)
  (h : ∀ r h' tk', Fr g L h' m → (∀ o1' o2' n1 n2, Upd d1 o1 o1' news n1 → Upd d2 o2 o2' n1 n2 → h'.get? d1 = some o1' → h'.get? d2 = some o2' → News g L h' n2) → post r h' → Q r ⟨h', gs, dr, tk', os⟩) :
  wpX (model prog w) (Ar dp un fr gd) (call f args kw) Q E ⟨h0, gs, dr, tk, os⟩ := by
 refine x_call (D dp un fr gd _ hd hu fun r h' tk' e p => ?_)
 refine h r h' tk' (fr_but F (fun a ha => ?_) e) (fun o1' o2' n1 n2 U1 U2 e1 e2 => ?_) p
 ·rcases List.mem_cons.mp ha with rfl | ha
  ·exact (N _ hm1).2
  ·rw [List.mem_singleton.mp ha]; exact (N _ hm2).2
 ·intro p hp
  obtain ⟨pre, pst, rfl, rfl, h1, h2⟩ := U1.split
  obtain ⟨pre2, pst2, q1, rfl, h3, h4⟩ := U2.split
  by_cases z2 : p.1 = d2
  ·have : p = (d2, o2') := by
    rcases List.mem_append.mp hp with q | q
    ·exact absurd z2 (h3 p q)
    ·rcases List.mem_cons.mp q with q | q
     ·exact q
     ·exact absurd z2 (h4 p q)
   subst this
   exact ⟨e2, (N _ hm2).2⟩
  ·have hp1 : p ∈ pre ++ (d1, o1') :: pst := by
    rw [q1]
    rcases List.mem_append.mp hp with q | q
    ·exact List.mem_append_left _ q
    ·rcases List.mem_cons.mp q with q | q
     ·rw [q] at z2; exact absurd rfl z2
     ·exact List.mem_append_right _ (.tail _ q)
   by_cases z1 : p.1 = d1
   ·have : p = (d1, o1') := by
     rcases List.mem_append.mp hp1 with q | q
     ·exact absurd z1 (h1 p q)
     ·rcases List.mem_cons.mp q with q | q
      ·exact q
      ·exact absurd z1 (h2 p q)
    subst this
    exact ⟨e1, (N _ hm1).2⟩
   ·have hp0 : p ∈ pre ++ (d1, o1) :: pst := by
     rcases List.mem_append.mp hp1 with q | q
     ·exact List.mem_append_left _ q
     ·rcases List.mem_cons.mp q with q | q
      ·rw [q] at z1; exact absurd rfl z1
      ·exact List.mem_append_right _ (.tail _ q)
    have P := N p hp0
    exact ⟨e _ _ (by simp [z1, z2]) P.1, P.2⟩
end
section
variable {w : World} {A : Around} {E : Value → Shared → Prop} {s : Shared} {env : Env}
theorem x_callsK {f : Value} {pos : Pos} {first : List Value} {e : Expr} {rest : List Expr} {Q : Value → Shared → Prop} (hk : keepIn (Kc w.params) f = true) (he : starEach (e :: rest) env = (false, eval e env) :: starEach rest env)
  (h : wpX (model prog w) A (eval e env) (fun v s₁ => wpX (model prog w) A (spliced (backTo pos (starEach rest env))) (fun vs s₂ => (Kc w.params).In s₂.heap ∧ wpX (model prog w) A (PySem.call f (first ++ (v :: vs)) []) Q E s₂) E s₁) E s) :
  wpX (model prog w) A (callWith pos f first (backTo pos (starEach (e :: rest) env)) (backToKw pos (keywordEach [] env))) Q E s := x_calls hk he h
theorem x_call0K {f : Value} {pos : Pos} {first : List Value} {Q : Value → Shared → Prop} (hk : keepIn (Kc w.params) f = true) (X : (Kc w.params).In s.heap) (h : wpX (model prog w) A (PySem.call f (first ++ []) []) Q E s) :
  wpX (model prog w) A (callWith pos f first (backTo pos (starEach [] env)) (backToKw pos (keywordEach [] env))) Q E s := x_call0 hk X h
end
theorem notin3 {a x d b : Addr} {o1 o2 o3 : Obj} (h1 : a ≠ x) (h2 : a ≠ d) (h3 : a ≠ b) : a ∉ [(x, o1), (d, o2), (b, o3)].map (·.1) := by simp [h1, h2, h3]
theorem ne_obj {h : Heap} {a b : Addr} {o1 o2 : Obj} (h1 : h.get? a = some o1) (h2 : h.get? b = some o2) (ne : o1 ≠ o2) : a ≠ b := fun e => ne (by subst e; rw [h1] at h2; exact Option.some.inj h2)
theorem ne_cls {o1 o2 : Obj} (h : o1.cls ≠ o2.cls) : o1 ≠ o2 := fun e => h (by rw [e])
theorem ne_cnt {es es' : List DictEntry} {n n' : Nat} (h : n ≠ n') : dictOf es n ≠ dictOf es' n' := fun e => h (by injection e with _ _ e; injection e)
theorem ne_inst {C C' d d' : Addr} (h : C ≠ C') : instObj C d ≠ instObj C' d' := ne_cls fun e => h (by injection e)
structure StrmAt (w : World) (h0 h : Heap) (x d bx : Addr) (k1 k2 : Nat) (b : Array UInt8) (t : Tok) : Prop where
 hx : h.get? x = some (instObj 395 d)
 hd : h.get? d = some (bioDict w k1 k2 bx b.size t)
 hbx : h.get? bx = some (baObj b)
 nx : h0.get? x = none
 nd : h0.get? d = none
 nb : h0.get? bx = none
section
variable {w : World} {h0 h : Heap} {x d bx : Addr} {k1 k2 : Nat} {b : Array UInt8} {t : Tok}
theorem StrmAt.xd (S : StrmAt w h0 h x d bx k1 k2 b t) : x ≠ d := ne_obj S.hx S.hd (ne_cls (by intro e; cases e))
theorem StrmAt.xb (S : StrmAt w h0 h x d bx k1 k2 b t) : x ≠ bx := ne_obj S.hx S.hbx (ne_cls (by intro e; cases e))
theorem StrmAt.db (S : StrmAt w h0 h x d bx k1 k2 b t) : d ≠ bx := ne_obj S.hd S.hbx (ne_cls (by intro e; injection e; contradiction))
theorem StrmAt.ofNews {g : Heap} {L : Addr} {news : List (Addr × Obj)} (stg : St h0 g) (N : News g L h news) (m1 : (x, instObj 395 d) ∈ news) (m2 : (d, bioDict w k1 k2 bx b.size t) ∈ news) (m3 : (bx, baObj b) ∈ news) : StrmAt w h0 h x d bx k1 k2 b t :=
 ⟨(N _ m1).1, (N _ m2).1, (N _ m3).1, none_base stg N m1, none_base stg N m2, none_base stg N m3⟩
end
abbrev strmW (w : World) (x d bx : Addr) (k1 k2 : Nat) (b : Array UInt8) (t : Tok) : List (Addr × Obj) :=
 [(x, instObj 395 d), (d, dictOf [ent w "_BytesIO__buf" k1 (.ref bx), ent w "_BytesIO__pos" k2 (.int (b.size : Int) t)] 2), (bx, baObj b)]
theorem StrmAt.ledger {w : World} {h0 h : Heap} {x d bx : Addr} {k1 k2 : Nat} {b : Array UInt8} {t : Tok} (S : StrmAt w h0 h x d bx k1 k2 b t) : ∀ p ∈ strmW w x d bx k1 k2 b t, h.get? p.1 = some p.2 ∧ h0.get? p.1 = none :=
 List.forall_mem_cons.mpr ⟨⟨S.hx, S.nx⟩, List.forall_mem_cons.mpr ⟨⟨S.hd, S.nd⟩, List.forall_mem_cons.mpr ⟨⟨S.hbx, S.nb⟩, fun _ h => nomatch h⟩⟩⟩
def Wrote (w : World) (d bx : Addr) (k1 k2 : Nat) (b c : Array UInt8) (r : Value) (h' : Heap) : Prop :=
 (∃ q, r = .int (c.size : Int) q) ∧ ∃ t, h'.get? d = some (bioDict w k1 k2 bx (b ++ c).size t) ∧ h'.get? bx = some (baObj (b ++ c))
theorem useX2w {w : World} {g : Heap} {n : Nat} {f : Value} {args : List Value} {kw : List (Str × Value)} {L : Addr} {m : Str → Option Value} {news : List (Addr × Obj)} {dp un : Nat} {fr : Option (List Env)} {gd : Option (List Code)} {Q E : Value → Shared → Prop}
  {h0 : Heap} {gs : Array GenState} {dr : Drawn} {tk : Nat} {os : OsState} {d bx : Addr} {k1 k2 : Nat} {b c : Array UInt8} {o1 o2 : Obj} (D : DoesX w n f args kw ⟨h0, gs, dr, tk, os⟩ [d, bx] (Wrote w d bx k1 k2 b c)) (F : Fr g L h0 m) (N : News g L h0 news) (hm1 : (d, o1) ∈ news) (hm2 : (bx, o2) ∈ news) (hd : dp + n < recursionLimit) (hu : un + 8 * n < cLine)
  (h : ∀ q t h' tk', Fr g L h' m → (∀ n1 n2, Upd d o1 (bioDict w k1 k2 bx (b ++ c).size t) news n1 → Upd bx o2 (baObj (b ++ c)) n1 n2 → News g L h' n2) → Q (.int (c.size : Int) q) ⟨h', gs, dr, tk', os⟩) :
  wpX (model prog w) (Ar dp un fr gd) (call f args kw) Q E ⟨h0, gs, dr, tk, os⟩ :=
 useX2 D F N hm1 hm2 hd hu fun r h' tk' F' n0 p => by
  obtain ⟨⟨q, rfl⟩, t, ed, eb⟩ := p
  exact h _ _ _ _ F' fun n1 n2 u1 u2 => n0 _ _ n1 n2 u1 u2 ed eb
end
section
section
variable {w : World} {hb : Heap} {mean : ExcName → Option Value} {mg mb : Str → Option Value} {s : Shared} {x d bx : Addr} {k1 k2 : Nat} {b : Array UInt8} {t : Tok}
theorem io_writeS (G : Gd w hb mean mg mb) (st : St hb s.heap) (S : StrmAt w hb s.heap x d bx k1 k2 b t) {c : Array UInt8} {u : Tok} (hz : b.size ≤ 1000000) (hc : c.size ≤ 1000) :
  DoesX w 6 (.ref 378) [.ref x, .bytes c u] [] s [d, bx] (Wrote w d bx k1 k2 b c) := io_write G st S.hx S.hd S.hbx S.nx S.nd S.nb S.xd S.xb S.db hz hc
theorem hk16 : True := by
 k_with "x_write" => ((show wpX _ _ (PySem.call (Value.ref 378) [Value.ref _, Value.bytes _ _] []) _ _ _); (refine useX2w (io_writeS (by assumption) (by walk_at "kk_st") (StrmAt.ofNews (by assumption) (by k_asm) (by k_mem) (by k_mem) (by k_mem)) (by walk_at "kk_size") (by walk_at "kk_size")) (by k_asm) (by k_asm) (by k_mem) (by k_mem) (by walk_at "kk_num") (by walk_at "kk_num") ?_); intro q9 t'9 h'9 tk'9 F'9 n09; (have N'9 := n09 _ _ (by k_upd) (by k_upd)); clear n09)
 k_with "x_args1" => ((try dsimp only); (refine x_callsK (by k_is) rfl (x_any ?_)); (walk_at "kx"); (refine x_noMore ⟨Frag.In.keeps (by assumption) (Fr.keep (by k_asm)), ?_⟩))
 trivial
theorem wrote_end {w : World} {d bx : Addr} {k1 k2 : Nat} {b b' c : Array UInt8} {h' : Heap} {v : Int} {q t : Tok} (h1 : h'.get? d = some (bioDict w k1 k2 bx b'.size t)) (h2 : h'.get? bx = some (baObj b')) (he : b' = b ++ c) (hv : v = (c.size : Int)) : Wrote w d bx k1 k2 b c (.int v q) h' := by
 subst he; subst hv; exact ⟨⟨_, rfl⟩, _, h1, h2⟩
theorem script_write (G : Gd w hb mean mg mb) (st : St hb s.heap) (S : StrmAt w hb s.heap x d bx k1 k2 b t) {y dy : Addr} {c : Array UInt8} {ky : Nat} {tc : Tok} (hy : s.heap.get? y = some (instObj 843 dy)) (hdy : s.heap.get? dy = some (dictOf [ent w "data" ky (.bytes c tc)] 1))
  (hz : b.size ≤ 900000) (hc : c.size ≤ 255) : DoesX w 10 (.ref 799) [.ref y, .ref x] [] s [d, bx] (Wrote w d bx k1 k2 b (sized c.size ++ c)) := by
 walk_at "ir"
 refine' enterX (binds := [(Str.ofString "self", .ref y), (Str.ofString "stream", .ref x)]) G st (strmW w x d bx k1 k2 b t) ?hW ?ho ?hcd ?hroom ?hbind ?hloc ?h ?hcell ?hco ?hgen ?hk
 walk_at "kk_enter"
 case hW => exact S.ledger
 walk_at "ig"
 have gy := sub y _ hy (notin3 (ne_obj hy S.hx (ne_inst (by decide))) (ne_obj hy S.hd (ne_cls (by intro e; cases e))) (ne_obj hy S.hbx (ne_cls (by intro e; cases e))))
 have gdy := sub dy _ hdy (notin3 (ne_obj hdy S.hx (ne_cls (by intro e; cases e))) (ne_obj hdy S.hd (ne_cnt (by decide))) (ne_obj hdy S.hbx (ne_cls (by intro e; injection e; contradiction))))
 have xd := S.xd
 have xb := S.xb
 have db := S.db
 have dx := Ne.symm xd
 have bxx := Ne.symm xb
 have bd := Ne.symm db
 have hsz := @sized_size c.size
 k_lt l1
 walk_at "xk"
 walk_at "kx"
 walk_at "x_args1"
 walk_at "x_write"
 walk_at "kx"
 walk_at "xl"
 walk_at "kx"
 refine x_meth (x_any ?_)
 walk_at "kx"
 walk_at "x_args1"
 walk_at "x_write"
 walk_at "kx"
 walk_at "xa"
 walk_at "kx"
 refine leaves (by k_asm) fun _ => fun e => hQ _ _ _ (ext_drop e S.hx (News.get (by k_asm) (by k_mem))) (wrote_end (News.get (by k_asm) (by k_mem)) (News.get (by k_asm) (by k_mem)) (by simp only [Array.append_assoc]) (by simp))
end
end
section
namespace FBa
theorem dict_sub : isSubtype (.type "dict") (.type "dict") = pure true := by rw [isSubtype_type]; kernel_rfl
theorem dict_iter : typeLookup (.type "dict") "__iter__" = pure (some (.builtin "dict.__iter__")) := by rw [typeLookup_type, builtinLookup_eq_fast]; kernel_rfl
end FBa
section
variable {p : Program} {w : World} {M : Model} {A : Around} {E : Value → Shared → Prop} {s : Shared}
theorem merge_none {d kd : Addr} {Q : Unit → Shared → Prop} (hk : s.heap.get? kd = some emptyDict) (hd : s.heap.get? d = some emptyDict) (hs : (kd == sysModules) = false) (q : Q () s) : wpAny (model p w) A (mergeMapping d (.ref kd) true) Q E s := by
 have hT : s.TypeIs (.ref kd) "dict" := ⟨_, hk, rfl⟩
 unfold mergeMapping
 refine wpAny_bind (wpAny_isInstance hT FBa.dict_sub ?_)
 refine bm_if_true rfl ?_
 refine wpAny_bind (wpAny_specialOf hT FBa.dict_iter ?_)
 refine wpAny_bind (wpAny_pure ?_)
 dsimp only
 refine bm_if_false hs ?_
 refine wpAny_bind (wpAny_dictEntries hd rfl ?_)
 refine bm_if_true rfl ?_
 refine wpAny_bind (wpAny_dictEntries hk rfl ?_)
 refine wpAny_bind (wpAny_of_eq (a := PUnit.unit) rfl ?_)
 refine wpAny_bind (wpAny_dictEntries hk rfl ?_)
 refine wpAny_bind (wpAny_dictEpoch hk rfl ?_)
 refine wpAny_bind (wpAny_of_eq (a := PUnit.unit) rfl ?_)
 exact wpAny_pure q
theorem bm_for1 {α β : Type} {x : α} {b : β} {f : α → β → Sem (ForInStep β)} {Q : β → Shared → Prop} (h : wpAny M A (f x b) (fun r s₁ => ∃ c, r = .yield c ∧ Q c s₁) E s) : wpAny M A (forIn [x] b f) Q E s := by
 rw [List.forIn_cons]
 refine wpAny_bind (wpAny_mono h (fun r s₁ z => ?_) fun _ _ z => z)
 obtain ⟨c, rfl, q⟩ := z
 exact wpAny_pure q
theorem kw_none {f : Value} {t : Sem Value} {Q : Addr → Shared → Prop}
  (h : wpAny (model p w) A t (fun v s₁ => ∃ kd, v = .ref kd ∧ s₁.heap.get? kd = some emptyDict ∧ s₁.heap.get? s.heap.objs.size = some emptyDict ∧ (kd == sysModules) = false ∧ Q s.heap.objs.size s₁) E { s with heap := s.heap.push emptyDict }) :
  wpAny (model p w) A (mergedKeywords f [(none, t)]) Q E s := by
 unfold mergedKeywords
 refine wpAny_bind (wpAny_alloc ?_)
 refine wpAny_bind (wpAny_holding ?_)
 refine wpAny_bind (bm_for1 ?_)
 refine wpAny_bind (bm_if_true rfl (wpAny_pure ?_))
 refine wpAny_bind (wpAny_mono h (fun v s₁ hv => ?_) fun _ _ z => z)
 obtain ⟨kd, rfl, e1, e2, hs, q⟩ := hv
 refine wpAny_bind (wpAny_onRaise (wpAny_holding (wpAny_tryCatch (wpAny_onRaise (merge_none e1 e2 hs ?_)))))
 refine wpAny_pure ⟨_, rfl, ?_⟩
 exact bm_if_true rfl (wpAny_pure (wpAny_pure q))
theorem keywords_none {f : Value} {d : Addr} {Q : List (Str × Value) → Shared → Prop} (hd : s.heap.get? d = some emptyDict) (q : Q [] s) : wpAny (model p w) A (keywordsIn f d) Q E s := by
 unfold keywordsIn
 refine wpAny_bind (wpAny_dictEntries hd rfl ?_)
 refine wpAny_bind (wpAny_of_eq (a := []) rfl ?_)
 exact wpAny_pure q
end
end
section
section
variable {p : Program} {w : World} {A : Around} {E : Value → Shared → Prop} {s : Shared} {env : Env} {R : Result → Shared → Prop}
theorem x_methodObj {q f : Addr} {self : Value} {pos : List Value} {kw : List (Str × Value)} (hq : s.heap.get? q = some (methodObj (.ref f) self)) (h : codeX (model p w) A (.call (.ref f) ⟨self :: pos, kw⟩) R s) :
  codeX (model p w) A (.call (.ref q) ⟨pos, kw⟩) R s := by
 refine x_tree rfl (x_any ?_)
 show wpAny _ _ (load q >>= _) _ _ _
 refine wpAny_bind (wpAny_load hq ?_)
 refine bm_if_true rfl ?_
 exact wpAny_pure ⟨rfl, h⟩
theorem keeper_method {q f : Addr} {self : Value} {o : Obj} {fd : FuncData} {Q : Keeper → Shared → Prop} (hq : s.heap.get? q = some (methodObj (.ref f) self)) (ho : s.heap.get? f = some o) (hd : o.data = .func fd) (h : Q .boundFrame s) :
  wpAny (model p w) A (keeperOf (.ref q)) Q E s := by
 unfold keeperOf
 refine wpAny_bind (wpAny_load hq ?_)
 dsimp only
 refine bm_if_false (by decide) ?_
 show wpAny _ _ (load f >>= fun _ => _) _ _ _
 refine wpAny_bind (wpAny_load ho ?_)
 rw [hd]
 exact wpAny_pure h
def StarEnd (kv : Value) (d q : Addr) (s₃ : Shared) (C : Prop) : Prop := ∃ kd, kv = .ref kd ∧ s₃.heap.get? kd = some emptyDict ∧ s₃.heap.get? d = some emptyDict ∧ (kd == sysModules) = false ∧ (∃ f self o fd, s₃.heap.get? q = some (methodObj (.ref f) self) ∧ s₃.heap.get? f = some o ∧ o.data = .func fd) ∧ C
theorem starEnd {g : Heap} {L kd d q f : Addr} {self oc : Value} {od : Option Addr} {sl : Array (Option Value)} {fd : FuncData} {s₃ : Shared} {m : Str → Option Value} {news : List (Addr × Obj)} {C : Prop} (F : Fr g L s₃.heap m) (N : News g L s₃.heap news) (X : (Kc w.params).In g) (m1 : (kd, emptyDict) ∈ news) (m2 : (d, emptyDict) ∈ news) (m3 : (q, methodObj (.ref f) self) ∈ news)
  (hs : (kd == sysModules) = false) (ho : (Kc w.params).lookup f = some ⟨oc, od, .func fd, sl⟩) (c : C) : StarEnd (.ref kd) d q s₃ C :=
 ⟨kd, rfl, (N _ m1).1, (N _ m2).1, hs, ⟨f, self, _, fd, (N _ m3).1, F.keep _ _ (X _ _ ho), rfl⟩, c⟩
theorem x_callStar {pos : Pos} {q : Addr} {first : List Value} {e kwe : Expr} {rest : List Expr} {kp : Pos} {Q : Value → Shared → Prop} (he : starEach (e :: rest) env = (false, eval e env) :: starEach rest env) (hr : rest ≠ [])
  (h : wpX (model p w) A (eval e env) (fun v s₁ => wpAny (model p w) A (spliced (backTo pos (starEach rest env))) (fun vs s₂ => wpAny (model p w) A (eval kwe env) (fun kv s₃ => StarEnd kv s₂.heap.objs.size q s₃ (wpX (model p w) A (PySem.call (.ref q) (first ++ (v :: vs)) []) Q E s₃)) E { s₂ with heap := s₂.heap.push emptyDict }) E s₁) E s) :
  wpX (model p w) A (callWith pos (.ref q) first (backTo pos (starEach (e :: rest) env)) (backToKw pos (keywordEach [⟨none, kwe, kp⟩] env))) Q E s := by
 rw [he]
 refine x_callWith ?_
 show wpX _ _ (evalArgs (.ref q) true ((false, eval e env) :: backTo pos (starEach rest env)) [(none, do let v ← eval kwe env; standAt pos; pure v)]) _ _ _
 unfold evalArgs
 show wpX _ _ (spliced ((false, eval e env) :: backTo pos (starEach rest env)) >>= _) _ _ _
 refine x_bind (x_spliced (x_mono h (fun v s₁ h₁ => x_any (wpAny_mono h₁ (fun vs s₂ h₂ => ?_) fun _ _ z => z)) fun _ _ z => z))
 refine x_holding (x_any ?_)
 refine wpAny_bind (kw_none (wpAny_bind (wpAny_mono h₂ (fun kv s₃ h₃ => ?_) fun _ _ z => z)))
 refine hideP fun B9 k9 => ?_
 obtain ⟨kd, rfl, a1, a2, a3, ⟨f, self, o, fd, b1, b2, b3⟩, h₄⟩ := h₃
 refine k9 ?_; clear k9
 refine wpAny_bind (wpAny_standAt (wpAny_pure ⟨kd, rfl, a1, a2, a3, ?_⟩))
 refine wpAny_bind (wpAny_pure ?_)
 refine wpAny_bind (wpAny_holding (keywords_none a2 ?_))
 exact wpAny_pure (keeper_method b1 b2 b3 h₄)
end
theorem DoesX.meth {w : World} {n : Nat} {q f : Addr} {self : Value} {args : List Value} {kw : List (Str × Value)} {s : Shared} {W : List Addr} {post : Value → Heap → Prop} (hq : s.heap.get? q = some (methodObj (.ref f) self)) (D : DoesX w n (.ref f) (self :: args) kw s W post) : DoesX w n (.ref q) args kw s W post :=
 fun dp un fr gd R h1 h2 h3 => x_methodObj hq (D dp un fr gd R h1 h2 h3)
end
section
section
variable {M : Model} {A : Around} {E : Value → Shared → Prop} {s : Shared} {env : Env}
theorem x_methStar {o : Expr} {name : Str} {apos pos : Pos} {args : List Expr} {kws : List Keyword} {Q : Value → Shared → Prop}
  (h : wpX M A (eval o env) (fun ov s₁ => wpAny M A (getAttr ov name true) (fun f s₂ => wpX M A (callWith pos f [] (backTo pos (starEach args env)) (backToKw pos (keywordEach kws env))) Q E s₂) E s₁) E s)
  (he : eval (.Call (.Attribute o name apos) args kws pos) env = (do
   let ov ← eval o env
   standAt apos.atName
   let (f, first) ← holding [ov] (do pure (← getAttr ov name true, []))
   callWith pos f first (backTo pos (starEach args env)) (backToKw pos (keywordEach kws env))) := by rfl) :
  wpX M A (eval (.Call (.Attribute o name apos) args kws pos) env) Q E s := by
 rw [he]
 refine x_bind (x_mono h (fun ov s₁ h₁ => x_bind (x_stand (x_bind (x_any (wpAny_holding (wpAny_bind (wpAny_mono h₁ (fun f s₂ h₂ => wpAny_pure ?_) fun _ _ x => x))))))) fun _ _ x => x)
 exact h₂
end
theorem lt_all {g h : Heap} {L : Addr} {news : List (Addr × Obj)} (N : News g L h news) : ∀ p ∈ news, p.1 < h.objs.size := fun p hp => Heap.lt_size (N p hp).1
theorem leN {a b : Nat} (h : a ≤ b) : a ≤ b := h
theorem use_bio {w : World} {hb g : Heap} {mean : ExcName → Option Value} {mg mb : Str → Option Value} (G : Gd w hb mean mg mb) {L : Addr} {m : Str → Option Value} {news : List (Addr × Obj)} {dp un : Nat} {fr : Option (List Env)} {gd : Option (List Code)} {Q E : Value → Shared → Prop} {h0 : Heap} {gs : Array GenState} {dr : Drawn} {tk : Nat} {os : OsState}
  (st : St hb h0) (F : Fr g L h0 m) (N : News g L h0 news) (hd : dp + 10 < recursionLimit) (hu : un + 8 * 10 < cLine)
  (h : ∀ x d bx k1 k2 t h' tk', Fr g L h' m → News g L h' ((x, instObj 395 d) :: (bx, baObj #[]) :: (d, bioDict w k1 k2 bx (#[] : Array UInt8).size t) :: news) → (∀ p ∈ news, p.1 < d) → (∀ p ∈ news, p.1 < bx) → @LT.lt Nat _ L d → @LT.lt Nat _ L bx → x ≠ d → d ≠ x → x ≠ bx → bx ≠ x → d ≠ bx → bx ≠ d → Q (.ref x) ⟨h', gs, dr, tk', os⟩) :
  wpX (model prog w) (Ar dp un fr gd) (PySem.call (.ref 395) [] []) Q E ⟨h0, gs, dr, tk, os⟩ :=
 useX0 (io_made G st) F N hd hu fun _ hK r h' tk' F' n0 l1 l2 p => by
  obtain ⟨x, d, rfl, ld, lx, ex, bx, k1, k2, t', lb, eb, ed0⟩ := p
  have ed : h'.get? d = some (bioDict _ k1 k2 bx (#[] : Array UInt8).size t') := ed0
  have xb : x ≠ bx := ne_obj ex eb (ne_cls (by intro e; cases e))
  have db : d ≠ bx := ne_obj ed eb (ne_cls (by intro e; injection e; contradiction))
  exact hK _ _ _ (h x d bx k1 k2 t' h' tk' F' (news_new F (Nat.le_of_lt (Nat.lt_of_le_of_lt ld lx)) ex (news_new F lb eb (news_new F ld ed n0))) (fun p hp => Nat.lt_of_lt_of_le (l1 p hp) ld) (fun p hp => Nat.lt_of_lt_of_le (l1 p hp) lb) (Nat.lt_of_lt_of_le l2 ld) (Nat.lt_of_lt_of_le l2 lb) (Nat.ne_of_gt lx) (Nat.ne_of_lt lx) xb (Ne.symm xb) db (Ne.symm db))
theorem hk17 : True := by
 k_with "call ref" => (k_here; (with_reducible show wpAny _ _ (PySem.call (Value.ref 281) _ _) _ _ _); (show wpAny _ _ (PySem.call (Value.ref 281) [Value.ref _] _) _ _ _); (refine use0b (io_getvalue (by assumption) (by walk_at "kk_st") (News.get (by k_asm) (by k_mem)) (News.get (by k_asm) (by k_mem)) (News.get (by k_asm) (by k_mem)) (by walk_at "kk_size")) (by k_asm) (by k_asm) (by walk_at "kk_num") (by walk_at "kk_num") ?_); intro t'9 h'9 tk'9 F'9 N'9)
 trivial
abbrev nWrite : Str := Str.ofString "write_to"
structure WrC (w : World) (C fW : Addr) : Prop where
 hg : plainGet (Kc w.params) C nWrite = true
 hh : hasDictIn (Kc w.params) C = true
 ha : findIn (Kc w.params) (.ref C) nWrite = some (some (.ref fW))
 hf : isFn (Kc w.params) (.ref fW) = true
 hgf : specialIn (Kc w.params) (.ref fW) "__get__" = some (some (.builtin "function.__get__"))
 ht : takesIn (Kc w.params) (.ref fW) = some false
 hd : ∃ oc od fd sl, (Kc w.params).lookup fW = some ⟨oc, od, .func fd, sl⟩
section
variable {w : World} {hb : Heap} {mean : ExcName → Option Value} {mg mb : Str → Option Value} {s : Shared}
theorem ser (G : Gd w hb mean mg mb) (st : St hb s.heap) {C y dy fW : Addr} {es : List DictEntry} {ne n m : Nat} {vs : List Value} {X : Array UInt8} (B : WrC w C fW)
  (hy : s.heap.get? y = some (instObj C dy)) (hdy : s.heap.get? dy = some (dictOf es ne)) (hl : getL nWrite es = some none) (hvs : vs.length ≤ 2) (hX : X.size ≤ 900000) (hn : n + 10 ≤ m) (hm : 11 ≤ m)
  (D : ∀ {s' : Shared} {x d bx : Addr} {k1 k2 : Nat} {t : Tok}, (∀ b o, s.heap.get? b = some o → s'.heap.get? b = some o) → St hb s'.heap → StrmAt w hb s'.heap x d bx k1 k2 #[] t → DoesX w n (.ref fW) (.ref y :: .ref x :: vs) [] s' [d, bx] (Wrote w d bx k1 k2 #[] X)) :
  DoesX w m (.ref 705) (.ref y :: vs) [] s [] (fun r _ => ∃ q, r = .bytes X q) := by
 walk_at "ir"
 have hdp1 : dp + 11 < recursionLimit := Nat.lt_of_le_of_lt (Nat.add_le_add_left hm dp) hdp
 have hu1 : un + 8 * 11 < cLine := Nat.lt_of_le_of_lt (Nat.add_le_add_left (Nat.mul_le_mul_left 8 hm) un) hu
 refine' enterXS (vs := vs) (binds := fun t d => [(Str.ofString "self", .ref y), (Str.ofString "args", t), (Str.ofString "kwargs", d)]) G st [] ?hW ?ho ?hcd ?hroom ?hbind ?hvs ?hloc ?h ?hcell ?hco ?hgen ?hk
 case ho => k_is
 case hcd => k_is
 case hroom => exact room0 hdp
 case hvs => exact Nat.le_trans hvs (by decide)
 case hW => intro p hp; cases hp
 case hbind =>
  rcases vs with _ | ⟨a, _ | ⟨b, _ | ⟨c, vs⟩⟩⟩
  ·rfl
  ·rfl
  ·rfl
  ·simp only [List.length_cons] at hvs; omega
 case hloc => intro t d; exact locs rfl
 case hcell => decide
 case hco => rfl
 case hgen => rfl
 case hk => rfl
 intro g L h₁ ta da F N l1 lt ld lL X T stg sub
 clear l1
 replace lt := ltN lt
 replace ld := ltN ld
 have gy := sub y _ hy (by simp)
 have gdy := sub dy _ hdy (by simp)
 have hmd := ltN (modules_low (G.T.nolimit.keeps st))
 replace lL := leN lL
 refine x_execs fun K9 hK9 => (x_assign (x_name (x_any ?_)))
 walk_at "kx"
 walk_at "xc"
 refine use_bio (by assumption) (by walk_at "kk_st") (by k_asm) (by k_asm) (by walk_at "kk_num") (by walk_at "kk_num") ?_
 intro x d bx k1 k2 t h' tk' F' N' l1 l1b l2 l2b xd dx xb bxx db bd
 k_lt l1
 k_lt l1b
 walk_at "kx"
 ((try k_steps); refine x_execs fun K9 hK9 => (x_expr (x_methStar (x_any ?_))))
 walk_at "kx"
 k_dflt (refine' kbm_bound ?k1 ?k2 ?k3 ?k4 B.hg B.hh B.ha B.hf B.hgf B.ht ?k11 hl ?_; (case k4 => exact inst_base (by k_asm) gy gdy); (case k1 => k_asm); (case k2 => k_asm); (case k3 => k_asm); (case k11 => decide +kernel); k_whole)
 intro q h' F' N' l1
 k_lt l1
 walk_at "kx"
 refine x_callStar rfl (by intro h; cases h) (x_any ?_)
 walk_at "kx"
 refine star_seq (o := tupObj vs) (ws := vs) (by k_asm) (by k_asm) (by k_mem) rfl rfl (.inr rfl) rfl (by rw [sizeLine_eq, List.size_toArray]; exact Nat.le_trans hvs (by decide)) ?_
 intro h' F' N'
 walk_at "kx"
 have l9 := lt_all (by k_asm)
 k_lt l9
 have N2 := News.push (by k_asm) (by k_asm) emptyDict
 have F2 := Fr.push (by k_asm) emptyDict
 walk_at "kx"
 obtain ⟨_, _, _, _, hfd⟩ := B.hd
 refine starEnd (by k_asm) (by k_asm) (by k_asm) (by k_mem) (by k_mem) (by k_mem) (beq_eq_false_iff_ne.mpr (Nat.ne_of_gt (by omega))) hfd ?_
 rw [List.append_nil]
 show wpX _ _ (PySem.call (Value.ref _) (Value.ref _ :: vs) []) _ _ _
 refine useX2w (DoesX.meth (News.get (by k_asm) (by k_mem)) (D (fun b o e => Fr.keep (by k_asm) _ _ (sub b o e (by simp))) (by walk_at "kk_st") (StrmAt.ofNews (by assumption) (by k_asm) (by k_mem) (by k_mem) (by k_mem)))) (by k_asm) (by k_asm) (by k_mem) (by k_mem) (by walk_at "kk_num") (by walk_at "kk_num") ?_
 intro q t' h' tk' F' n0
 have N' := n0 _ _ (by k_upd) (by k_upd)
 clear n0
 walk_at "kx"
 walk_at "xa"
 walk_at "kx"
 exact leaves (by k_asm) fun _ => fun e => hQ _ _ _ e ⟨_, by rw [Array.empty_append]⟩
theorem script_ser (G : Gd w hb mean mg mb) (st : St hb s.heap) {y dy : Addr} {c : Array UInt8} {ky : Nat} {tc : Tok} (hy : s.heap.get? y = some (instObj 843 dy)) (hdy : s.heap.get? dy = some (dictOf [ent w "data" ky (.bytes c tc)] 1)) (hc : c.size ≤ 255) :
  DoesX w 20 (.ref 705) [.ref y] [] s [] (fun r _ => ∃ q, r = .bytes (sized c.size ++ c) q) :=
 ser (fW := 799) (n := 10) G st ⟨by k_is, by k_is, by k_is, by k_is, by k_is, by k_is, _, _, _, _, by k_is⟩ hy hdy rfl (by decide) (by have := @sized_size c.size; rw [Array.size_append]; omega) (by decide) (by decide)
  fun k st' S => script_write G st' S (k _ _ hy) (k _ _ hdy) (by decide) hc
end
end
section
open Sem (wp)
abbrev iterObj (l : Addr) (i : Nat) : Obj := { cls := .type "list_iterator", data := .fields #[.ref l, .int (i : Int) 0] }
def wpB (b : Bool) {α : Type} (M : Model) (A : Around) (t : Sem α) (Q : α → Shared → Prop) (E : Value → Shared → Prop) (s : Shared) : Prop := match b with | true => wpX M A t Q E s | false => wpAny M A t Q E s
def codeB (b : Bool) (M : Model) (A : Around) (c : Code) (R : Result → Shared → Prop) (s : Shared) : Prop := match b with | true => codeX M A c R s | false => codeAny M A c R s
section
variable {b : Bool} {α β : Type} {M : Model} {A : Around} {E : Value → Shared → Prop} {s : Shared} {env : Env}
theorem b_any {t : Sem α} {Q : α → Shared → Prop} (h : wpAny M A t Q E s) : wpB b M A t Q E s := by cases b; exact h; exact x_any h
theorem b_pure {a : α} {Q : α → Shared → Prop} (h : Q a s) : wpB b M A (pure a) Q E s := b_any (wpAny_pure h)
theorem b_mono {t : Sem α} {Q Q' : α → Shared → Prop} {E' : Value → Shared → Prop} (h : wpB b M A t Q E s) (hQ : ∀ a s, Q a s → Q' a s) (hE : ∀ e s, E e s → E' e s) : wpB b M A t Q' E' s := by cases b; exact wpAny_mono h hQ hE; exact x_mono h hQ hE
theorem b_bind {m : Sem α} {f : α → Sem β} {Q : β → Shared → Prop} (h : wpB b M A m (fun a s' => wpB b M A (f a) Q E s') E s) : wpB b M A (m >>= f) Q E s := by cases b; exact wpAny_bind h; exact x_bind h
theorem b_onRaise {m : Sem α} {k : Value → Sem Unit} {Q : α → Shared → Prop} (h : wpB b M A m Q (fun e s' => wpB b M A (k e) (fun _ s'' => E e s'') E s') s) : wpB b M A (m.onRaise k) Q E s := by cases b; exact wpAny_onRaise h; exact x_onRaise h
theorem b_holding {vs : List Value} {m : Sem α} {Q : α → Shared → Prop} (h : wpB b M A m Q E s) : wpB b M A (holding vs m) Q E s := by cases b; exact wpAny_holding h; exact x_holding h
theorem b_stand {pos : Pos} {Q : Unit → Shared → Prop} (h : Q () s) : wpB b M A (standAt pos) Q E s := b_any (wpAny_standAt h)
theorem b_execs_nil {Q : Flow → Shared → Prop} (h : Q .next s) : wpB b M A (execs [] env) Q E s := b_any (wpAny_execs_nil h)
theorem b_codeMono {c : Code} {R R' : Result → Shared → Prop} (h : codeB b M A c R s) (hR : ∀ r s, R r s → R' r s) : codeB b M A c R' s := by cases b; exact codeAny_mono h hR; exact x_codeMono h hR
theorem b_run {c : Code} {h : Option Value} {Q : Flow → Shared → Prop} (hc : codeB b M (A.mark h) c (fun r s' => match r with | .ok f => Q f s' | .error e => E e s') s) (hnb : h ≠ some byPass := by intro x; cases x) : wpB b M A (run c h) Q E s := by cases b; exact wpAny_run hc hnb; exact x_run hc hnb
theorem b_tree {c : Code} {R : Result → Shared → Prop} (hok : okC c = true) (h : wpB b M (A.under c) (M.den c) (fun fin s' => match fin with | .done f => R (.ok f) s' | .again c' => c'.quiet = true ∧ codeB b M A c' R s') (fun e s' => R (.error e) s') s) : codeB b M A c R s := by cases b; exact codeAny_of_tree h; exact x_tree hok h
end
section
variable {p : Program} {w : World} {A : Around} {E : Value → Shared → Prop} {env : Env}
theorem b_loop {b : Bool} {t : Expr} {body : List Stmt} {vs : List Value} {l it : Addr} {J : Nat → Shared → Prop} {Q : Flow → Shared → Prop} (hh : A.handled = none) (ht : ∀ v, letOwnedTupleGo t (.ref it) v = pure ())
  (facts : ∀ i s, J i s → s.heap.IsListIter it l i ∧ s.heap.IsList l vs.toArray)
  (turn : ∀ i v s h', J i s → vs[i]? = some v → h'.IsListIter it l (i + 1) → Heap.SameBut it s.heap h' →
   wpAny (model p w) A (assign t env v) (fun _ s₂ => wpB b (model p w) A (execs body env) (fun f s₃ => match f with | .next | .cont => J (i + 1) s₃ | .brk => Q .next s₃ | .ret v => Q (.ret v) s₃) (fun _ _ => False) s₂) (fun _ _ => False) { s with heap := h' })
  (done : ∀ s h', J vs.length s → (∀ b o, b ≠ it → s.heap.get? b = some o → h'.get? b = some o) → Q .next { s with heap := h' }) :
  ∀ (k i : Nat) (s : Shared), vs.length - i = k → i ≤ vs.length → J i s → codeB b (model p w) A (.forLoop t (.ref it) body [] env) (fun r s' => match r with | .ok f => Q f s' | .error _ => False) s := by
 intro k
 induction k with
 | zero =>
  intro i s hk hi hJ
  have e : i = vs.length := Nat.le_antisymm hi (Nat.le_of_sub_eq_zero hk)
  subst e
  obtain ⟨f1, f2⟩ := facts _ _ hJ
  refine b_tree rfl ?_
  rw [Around.under_of_weight (by rfl) (by rfl)]
  show wpB b _ _ ((forTurn t (.ref it) body [] env).onRaise _) _ _ s
  refine b_onRaise (b_mono (E := fun _ _ => False) ?_ (fun _ _ z => z) fun _ _ z => z.elim)
  unfold forTurn
  refine b_bind (b_stand (b_bind (b_onRaise (b_any (wpAny_pyNext_list_end hh f1 f2 (by simp) fun h' he => ?_)))))
  refine b_pure ⟨rfl, b_tree rfl ?_⟩
  rw [Around.under_of_weight (by rfl) (by rfl)]
  show wpB b _ _ (Bind.bind (Sem.onRaise (execs [] env) _) (fun f => pure (Fin.done f))) _ _ _
  exact b_bind (b_onRaise (b_execs_nil (b_pure (done _ h' hJ he))))
 | succ k ih =>
  intro i s hk hi hJ
  have hlt : i < vs.length := Nat.lt_of_sub_eq_succ hk
  obtain ⟨v, hv⟩ : ∃ v, vs[i]? = some v := ⟨vs[i], List.getElem?_eq_getElem hlt⟩
  obtain ⟨f1, f2⟩ := facts _ _ hJ
  refine b_tree rfl ?_
  rw [Around.under_of_weight (by rfl) (by rfl)]
  show wpB b _ _ ((forTurn t (.ref it) body [] env).onRaise _) _ _ s
  refine b_onRaise (b_mono (E := fun _ _ => False) ?_ (fun _ _ z => z) fun _ _ z => z.elim)
  unfold forTurn
  refine b_bind (b_stand (b_bind (b_onRaise (b_any (wpAny_pyNext_list_item (x := v) f1 f2 (by simpa using hv) fun h' hit hs => ?_)))))
  refine b_bind (b_any (wpAny_of_eq (ht v) ?_))
  refine b_bind (b_any (wpAny_mono (turn i v s h' hJ hv hit hs) (fun _ s₂ h₂ => ?_) fun _ _ z => z))
  refine b_bind (b_mono h₂ (fun f s₃ h₃ => ?_) fun _ _ z => z)
  cases f with
  | next => exact b_pure ⟨rfl, ih (i + 1) s₃ (by rw [Nat.sub_add_eq, hk]; rfl) hlt h₃⟩
  | cont => exact b_pure ⟨rfl, ih (i + 1) s₃ (by rw [Nat.sub_add_eq, hk]; rfl) hlt h₃⟩
  | brk => exact b_pure h₃
  | ret v => exact b_pure h₃
theorem b_for {b : Bool} {t iter : Expr} {body : List Stmt} {pos : Pos} {vs : List Value} {l : Addr} {s : Shared} {J : Addr → Nat → Shared → Prop} {Q : Flow → Shared → Prop} (hh : A.handled = none) (ht : ∀ it v, letOwnedTupleGo t (.ref it) v = pure ())
  (start : wpAny (model p w) A (eval iter env) (fun x s₁ => x = .ref l ∧ s₁.heap.IsList l vs.toArray ∧ J s₁.heap.objs.size 0 { s₁ with heap := s₁.heap.push (iterObj l 0) }) E s)
  (facts : ∀ it i s, J it i s → s.heap.IsListIter it l i ∧ s.heap.IsList l vs.toArray)
  (turn : ∀ it i v s h', J it i s → vs[i]? = some v → h'.IsListIter it l (i + 1) → Heap.SameBut it s.heap h' →
   wpAny (model p w) A (assign t env v) (fun _ s₂ => wpB b (model p w) A (execs body env) (fun f s₃ => match f with | .next | .cont => J it (i + 1) s₃ | .brk => Q .next s₃ | .ret v => Q (.ret v) s₃) (fun _ _ => False) s₂) (fun _ _ => False) { s with heap := h' })
  (done : ∀ it s h', J it vs.length s → (∀ b o, b ≠ it → s.heap.get? b = some o → h'.get? b = some o) → Q .next { s with heap := h' })
  (hs : ∀ x, foldedSetIterable iter env x = pure x := by intro _; rfl) :
  wpB b (model p w) A (exec (.For t iter body [] pos) env) Q E s := by
 rw [exec_For]
 refine b_bind (b_stand (b_bind (b_any (wpAny_mono start (fun x s₁ h₁ => ?_) fun _ _ z => z))))
 obtain ⟨rfl, hl, hJ⟩ := h₁
 refine b_bind (b_any (wpAny_of_eq (hs _) ?_))
 refine b_bind (b_stand (b_bind (b_holding (b_any (wpAny_pyIter_list hl ?_)))))
 unfold runOwn
 refine b_onRaise (b_run (b_codeMono (b_loop (vs := vs) (l := l) (J := J s₁.heap.objs.size) hh (ht _) (facts _) (turn _) (done _) vs.length 0 _ rfl (Nat.zero_le _) hJ) fun r s' z => ?_))
 cases r with
 | ok f => exact z
 | error e => exact z.elim
theorem x_for {t iter : Expr} {body : List Stmt} {pos : Pos} {vs : List Value} {l : Addr} {s : Shared} {J : Addr → Nat → Shared → Prop} {Q : Flow → Shared → Prop} (hh : A.handled = none) (ht : ∀ it v, letOwnedTupleGo t (.ref it) v = pure ())
  (start : wpAny (model p w) A (eval iter env) (fun x s₁ => x = .ref l ∧ s₁.heap.IsList l vs.toArray ∧ J s₁.heap.objs.size 0 { s₁ with heap := s₁.heap.push (iterObj l 0) }) E s)
  (facts : ∀ it i s, J it i s → s.heap.IsListIter it l i ∧ s.heap.IsList l vs.toArray)
  (turn : ∀ it i v s h', J it i s → vs[i]? = some v → h'.IsListIter it l (i + 1) → Heap.SameBut it s.heap h' →
   wpAny (model p w) A (assign t env v) (fun _ s₂ => wpX (model p w) A (execs body env) (fun f s₃ => match f with | .next | .cont => J it (i + 1) s₃ | .brk => Q .next s₃ | .ret v => Q (.ret v) s₃) (fun _ _ => False) s₂) (fun _ _ => False) { s with heap := h' })
  (done : ∀ it s h', J it vs.length s → (∀ b o, b ≠ it → s.heap.get? b = some o → h'.get? b = some o) → Q .next { s with heap := h' })
  (hs : ∀ x, foldedSetIterable iter env x = pure x := by intro _; rfl) :
  wpX (model p w) A (exec (.For t iter body [] pos) env) Q E s :=
 b_for (b := true) hh ht start facts turn done hs
end
end
section
abbrev listObj (vs : List Value) : Obj := { cls := .type "list", data := .seq vs.toArray }
theorem isl_base {g h : Heap} {L l : Addr} {m : Str → Option Value} {vs : List Value} (F : Fr g L h m) (e : g.get? l = some (listObj vs)) : h.IsList l vs.toArray := ⟨_, F.keep _ _ e, rfl, _, rfl⟩
theorem len_list {w : World} {A : Around} {E Q : Value → Shared → Prop} {s : Shared} {l : Addr} {vs : List Value} (hl : s.heap.IsList l vs.toArray) (hz : vs.length ≤ 1000000) (h : ∀ t k, Q (.int (vs.length : Int) t) { s with toks := k }) : wpAny (model prog w) A (PySem.call (.builtin "len") [.ref l]) Q E s := by
 refine call_len_list hl (by rw [List.size_toArray]; omega) ?_
 rw [List.size_toArray]
 exact h _ _
theorem hk18 : True := by
 k_with "call builtin:len" => (k_here; (with_reducible show wpAny _ _ (PySem.call (Value.builtin "len") [Value.ref _]) _ _ _); (refine len_list (isl_base (by k_asm) (by assumption)) ?_ ?_); (first | assumption | exact Nat.zero_le _ | walk_at "kk_size"); intro _ _)
 trivial
abbrev listNil : Obj := listObj []
def NilK (g : Heap) (L l : Addr) (Q : Flow → Shared → Prop) (x : Value) (s₁ : Shared) : Prop :=
 x = .ref l ∧ g.get? l = some listNil ∧ ∃ m news, Fr g L s₁.heap m ∧ News g L s₁.heap news ∧ ∀ h', Fr g L h' m → News g L h' news → Q .next { s₁ with heap := h' }
theorem nilK {g : Heap} {L l : Addr} {Q : Flow → Shared → Prop} {s₁ : Shared} {m : Str → Option Value} {news : List (Addr × Obj)} (hl : g.get? l = some listNil) (F : Fr g L s₁.heap m) (N : News g L s₁.heap news) (q : ∀ h', Fr g L h' m → News g L h' news → Q .next { s₁ with heap := h' }) : NilK g L l Q (.ref l) s₁ :=
 ⟨rfl, hl, m, news, F, N, q⟩
theorem x_forNil {p : Program} {w : World} {A : Around} {E : Value → Shared → Prop} {env : Env} {t iter : Expr} {body : List Stmt} {pos : Pos} {l : Addr} {s : Shared} {Q : Flow → Shared → Prop} {g : Heap} {L : Addr} (hh : A.handled = none) (ht : ∀ it v, letOwnedTupleGo t (.ref it) v = pure ())
  (start : wpAny (model p w) A (eval iter env) (NilK g L l Q) E s) (hs : ∀ x, foldedSetIterable iter env x = pure x := by intro _; rfl) : wpX (model p w) A (exec (.For t iter body [] pos) env) Q E s := by
 refine x_for (vs := []) (l := l) (J := fun it i s' => i = 0 ∧ ∃ (s₁ : Shared) (m : Str → Option Value) (news : List (Addr × Obj)), it = s₁.heap.objs.size ∧ s' = { s₁ with heap := s₁.heap.push (iterObj l 0) } ∧ Fr g L s₁.heap m ∧ News g L s₁.heap news ∧ g.get? l = some listNil ∧ ∀ h', Fr g L h' m → News g L h' news → Q .next { s₁ with heap := h' }) hh ht
  (wpAny_mono start (fun x s₁ h => ?_) fun _ _ z => z) (fun it i s' h => ?_) (fun it i v s' h' _ hv => by simp at hv) (fun it s' h' h k => ?_) hs
 ·refine hideP fun B9 k9 => ?_
  obtain ⟨rfl, hl, m, news, F, N, q⟩ := h
  refine k9 ?_; clear k9
  exact ⟨rfl, isl_base F hl, rfl, s₁, m, news, rfl, rfl, F, N, hl, q⟩
 ·refine hideP fun B9 k9 => ?_
  obtain ⟨rfl, s₁, m, news, rfl, rfl, F, N, hl, q⟩ := h
  refine k9 ?_; clear k9
  exact ⟨⟨_, Heap.get?_push_size _ rfl, rfl, rfl⟩, isl_base (F.push _) hl⟩
 ·refine hideP fun B9 k9 => ?_
  obtain ⟨_, s₁, m, news, rfl, rfl, F, N, hl, q⟩ := h
  refine k9 ?_; clear k9
  have k' : ∀ b o, s₁.heap.get? b = some o → h'.get? b = some o := fun b o e => k b o (Nat.ne_of_lt (Heap.lt_size e)) (Heap.get?_push_of_some _ e)
  exact q h' (fr_ext F k') (news_ext N k')
section
variable {w : World} {hb : Heap} {mean : ExcName → Option Value} {mg mb : Str → Option Value} {s : Shared} {x d bx : Addr} {k1 k2 : Nat} {b : Array UInt8} {t : Tok}
theorem wit_write (G : Gd w hb mean mg mb) (st : St hb s.heap) (S : StrmAt w hb s.heap x d bx k1 k2 b t) {y dy l : Addr} {ky : Nat} (hy : s.heap.get? y = some (instObj 888 dy)) (hdy : s.heap.get? dy = some (dictOf [ent w "items" ky (.ref l)] 1)) (hl : s.heap.get? l = some listNil)
  (hz : b.size ≤ 900000) : DoesX w 10 (.ref 868) [.ref y, .ref x] [] s [d, bx] (Wrote w d bx k1 k2 b #[0]) := by
 walk_at "ir"
 refine' enterX (binds := [(Str.ofString "self", .ref y), (Str.ofString "stream", .ref x)]) G st (strmW w x d bx k1 k2 b t) ?hW ?ho ?hcd ?hroom ?hbind ?hloc ?h ?hcell ?hco ?hgen ?hk
 walk_at "kk_enter"
 case hW => exact S.ledger
 walk_at "ig"
 have gy := sub y _ hy (notin3 (ne_obj hy S.hx (ne_inst (by decide))) (ne_obj hy S.hd (ne_cls (by intro e; cases e))) (ne_obj hy S.hbx (ne_cls (by intro e; cases e))))
 have gdy := sub dy _ hdy (notin3 (ne_obj hdy S.hx (ne_cls (by intro e; cases e))) (ne_obj hdy S.hd (ne_cnt (by decide))) (ne_obj hdy S.hbx (ne_cls (by intro e; injection e; contradiction))))
 have hsz := @sized_size ([] : List Value).length
 have xd := S.xd
 have xb := S.xb
 have db := S.db
 have dx := Ne.symm xd
 have bxx := Ne.symm xb
 have bd := Ne.symm db
 have gl := sub l _ hl (notin3 (ne_obj hl S.hx (ne_cls (by intro e; cases e))) (ne_obj hl S.hd (ne_cls (by intro e; injection e; contradiction))) (ne_obj hl S.hbx (ne_cls (by intro e; injection e; contradiction))))
 k_lt l1
 walk_at "xk"
 walk_at "kx"
 walk_at "x_args1"
 walk_at "x_write"
 walk_at "kx"
 ((try k_steps); refine x_execs fun K9 hK9 => (x_forNil (l := l) (g := g) (L := L) rfl (fun _ _ => rfl) ?_))
 walk_at "kx"
 refine nilK gl (by k_asm) (by k_asm) ?_
 intro h' F' N'
 walk_at "xa"
 walk_at "kx"
 refine leaves (by k_asm) fun _ => fun e => hQ _ _ _ (ext_drop e S.hx (News.get (by k_asm) (by k_mem))) (wrote_end (News.get (by k_asm) (by k_mem)) (News.get (by k_asm) (by k_mem)) rfl rfl)
end
end
section
section
variable {w : World} {hb : Heap} {mean : ExcName → Option Value} {mg mb : Str → Option Value} {s : Shared}
theorem wit_ser (G : Gd w hb mean mg mb) (st : St hb s.heap) {y dy l : Addr} {ky : Nat} (hy : s.heap.get? y = some (instObj 888 dy)) (hdy : s.heap.get? dy = some (dictOf [ent w "items" ky (.ref l)] 1)) (hl : s.heap.get? l = some listNil) :
  DoesX w 20 (.ref 705) [.ref y] [] s [] (fun r _ => ∃ q, r = .bytes (#[0]) q) :=
 ser (fW := 868) (n := 10) G st ⟨by k_is, by k_is, by k_is, by k_is, by k_is, by k_is, _, _, _, _, by k_is⟩ hy hdy rfl (by decide) (by decide) (by decide) (by decide) fun k st' S => wit_write G st' S (k _ _ hy) (k _ _ hdy) (k _ _ hl) (by decide)
end
end
section
def keyOf (o : Obj) : Option Str := match o.data with
 | .dict es _ => (es[0]?).bind fun e => match e.key with | .str s _ => some s | _ => none
 | _ => none
theorem ne_key {o1 o2 : Obj} (h : (keyOf o1 == keyOf o2) = false) : o1 ≠ o2 := fun e => by rw [e] at h; simp at h
theorem ne_dict_ba {es : List DictEntry} {n : Nat} {b : Array UInt8} : dictOf es n ≠ baObj b := ne_cls (show Value.type "dict" ≠ Value.type "bytearray" by decide)
theorem hk19 : True := by
 k_with "x_ser" => ((show wpX _ _ (PySem.call (Value.ref 705) [Value.ref _] []) _ _ _); (refine useX0b (script_ser (by assumption) (by walk_at "kk_st") (by walk_at "kk_get") (by walk_at "kk_get") (by first | assumption | omega)) (by k_asm) (by k_asm) (by walk_at "kk_num") (by walk_at "kk_num") ?_); intro t'9 h'9 tk'9 F'9 N'9)
 trivial
section
variable {w : World} {hb : Heap} {mean : ExcName → Option Value} {mg mb : Str → Option Value} {s : Shared} {x d bx : Addr} {k1 k2 : Nat} {b : Array UInt8} {t : Tok}
structure ScrAt (w : World) (h : Heap) (y dy : Addr) (ky : Nat) (c : Array UInt8) (tc : Tok) : Prop where
 hy : h.get? y = some (instObj 843 dy)
 hd : h.get? dy = some (dictOf [ent w "data" ky (.bytes c tc)] 1)
theorem out_write (G : Gd w hb mean mg mb) (st : St hb s.heap) (S : StrmAt w hb s.heap x d bx k1 k2 b t) {y dy sp dsp : Addr} {c : Array UInt8} {ky kz ks v : Nat} {tc tv : Tok} (hy : s.heap.get? y = some (instObj 1143 dy)) (hdy : s.heap.get? dy = some (dictOf [ent w "value" ky (.int (v : Int) tv), ent w "script_pubkey" kz (.ref sp)] 2))
  (hs : ScrAt w s.heap sp dsp ks c tc) (hv : v < 18446744073709551616) (hz : b.size ≤ 900000) (hc : c.size ≤ 255) : DoesX w 30 (.ref 1130) [.ref y, .ref x] [] s [d, bx] (Wrote w d bx k1 k2 b (le 8 v ++ (sized c.size ++ c))) := by
 walk_at "ir"
 refine' enterX (binds := [(Str.ofString "self", .ref y), (Str.ofString "stream", .ref x)]) G st (strmW w x d bx k1 k2 b t) ?hW ?ho ?hcd ?hroom ?hbind ?hloc ?h ?hcell ?hco ?hgen ?hk
 walk_at "kk_enter"
 case hW => exact S.ledger
 walk_at "ig"
 have gy := sub y _ hy (notin3 (ne_obj hy S.hx (ne_inst (by decide))) (ne_obj hy S.hd (ne_cls (by intro e; cases e))) (ne_obj hy S.hbx (ne_cls (by intro e; cases e))))
 have gdy := sub dy _ hdy (notin3 (ne_obj hdy S.hx (ne_cls (by intro e; cases e))) (ne_obj hdy S.hd (ne_key rfl)) (ne_obj hdy S.hbx ne_dict_ba))
 have gsp := sub sp _ hs.hy (notin3 (ne_obj hs.hy S.hx (ne_inst (by decide))) (ne_obj hs.hy S.hd (ne_cls (by intro e; cases e))) (ne_obj hs.hy S.hbx (ne_cls (by intro e; cases e))))
 have gdsp := sub dsp _ hs.hd (notin3 (ne_obj hs.hd S.hx (ne_cls (by intro e; cases e))) (ne_obj hs.hd S.hd (ne_cnt (by decide))) (ne_obj hs.hd S.hbx ne_dict_ba))
 have xd := S.xd
 have xb := S.xb
 have db := S.db
 have dx := Ne.symm xd
 have bxx := Ne.symm xb
 have bd := Ne.symm db
 have hsz := @sized_size c.size
 k_lt l1
 walk_at "xk"
 walk_at "kx"
 walk_at "x_args1"
 walk_at "x_write"
 walk_at "kx"
 walk_at "xl"
 walk_at "kx"
 refine x_meth (x_any ?_)
 walk_at "kx"
 (try dsimp only)
 walk_at "sx"
 walk_at "kx"
 walk_at "xc"
 walk_at "x_ser"
 walk_at "xm"
 walk_at "x_write"
 walk_at "kx"
 walk_at "xa"
 walk_at "kx"
 refine leaves (by k_asm) fun _ => fun e => hQ _ _ _ (ext_drop e S.hx (News.get (by k_asm) (by k_mem))) (wrote_end (News.get (by k_asm) (by k_mem)) (News.get (by k_asm) (by k_mem)) (by simp only [Array.append_assoc]) (by simp))
end
end
section
section
variable {w : World} {hb : Heap} {mean : ExcName → Option Value} {mg mb : Str → Option Value} {s : Shared}
theorem out_ser (G : Gd w hb mean mg mb) (st : St hb s.heap) {y dy sp dsp : Addr} {c : Array UInt8} {ky kz ks v : Nat} {tc tv : Tok} (hy : s.heap.get? y = some (instObj 1143 dy)) (hdy : s.heap.get? dy = some (dictOf [ent w "value" ky (.int (v : Int) tv), ent w "script_pubkey" kz (.ref sp)] 2)) (hs : ScrAt w s.heap sp dsp ks c tc) (hv : v < 18446744073709551616) (hc : c.size ≤ 255) :
  DoesX w 40 (.ref 705) [.ref y] [] s [] (fun r _ => ∃ q, r = .bytes (le 8 v ++ (sized c.size ++ c)) q) :=
 ser (fW := 1130) (n := 30) G st ⟨by k_is, by k_is, by k_is, by k_is, by k_is, by k_is, _, _, _, _, by k_is⟩ hy hdy rfl (by decide) (by have := @sized_size c.size; simp only [Array.size_append, le_size]; omega) (by decide) (by decide) fun k st' S => out_write G st' S (k _ _ hy) (k _ _ hdy) ⟨k _ _ hs.hy, k _ _ hs.hd⟩ hv (by decide) hc
end
end
section
def kinds : List Nat := [0, 1, 2, 3, 128, 129, 130, 131]
theorem fresh_of {g h h0 : Heap} {L x : Addr} {o : Obj} {news : List (Addr × Obj)} (sub : ∀ b o, h0.get? b = some o → b ∉ ([] : List (Addr × Obj)).map (·.1) → g.get? b = some o) (N : News g L h news) (hm : (x, o) ∈ news) : h0.get? x = none := by
 cases q : h0.get? x with
 | none => rfl
 | some o' => have := (N _ hm).2.2; rw [sub _ _ q (by simp)] at this; cases this
theorem news_fresh {g h h' : Heap} {L x : Addr} {o : Obj} {m : Str → Option Value} {news : List (Addr × Obj)} (F : Fr g L h m) (hx : h.get? x = none) (e : h'.get? x = some o) (N : News g L h' news) : News g L h' ((x, o) :: news) := by
 intro p hp
 rcases List.mem_cons.mp hp with rfl | hp
 ·refine ⟨e, fun q => ?_, ?_⟩
  ·obtain ⟨oL, _, _, hL, _⟩ := F.ns
   rw [← q, hx] at hL; cases hL
  ·cases q : g.get? x with
   | none => rfl
   | some o' => have := F.keep _ _ q; rw [hx] at this; cases this
 ·exact N p hp
section
variable {w : World} {hb : Heap} {mean : ExcName → Option Value} {mg mb : Str → Option Value} {s : Shared}
theorem sig_lo (G : Gd w hb mean mg mb) (st : St hb s.heap) {k : Nat} {v : Int} {t : Tok} (h1 : Builtin.bitAnd (k : Int) 128 = 0) (hM : ([0, 1, 2, 3].any fun x : Int => x == (k : Int)) = true) (hv : (k : Int) = v) :
  Does w 2 (.ref 916) [.ref 922, .int (k : Int) t] [] s [] (fun r h' => ∃ tp q, r = .ref tp ∧ s.heap.get? tp = none ∧ h'.get? tp = some (tupObj [.int v q, .bool false])) := by
 subst hv
 walk_at "ir"
 refine' enter (binds := [(Str.ofString "cls", .ref 922), (Str.ofString "sighash", .int (k : Int) t)]) G st [] ?hW ?ho ?hcd ?hroom ?hbind ?hloc ?h ?hcell ?hco ?hgen ?hk
 walk_at "kk_enter"
 case hW => intro p hp; cases hp
 walk_at "ig"
 clear l1
 replace lL := leN lL
 walk_at "kx"
 refine leaves (by k_asm) fun _ => fun e => hQ _ _ _ e ⟨_, _, rfl, fresh_of (by assumption) (by k_asm) (by k_mem), News.get (by k_asm) (by k_mem)⟩
theorem sig_hi (G : Gd w hb mean mg mb) (st : St hb s.heap) {k : Nat} {v : Int} {t : Tok} (h1 : Builtin.bitAnd (k : Int) 128 ≠ 0) (hM : ([0, 1, 2, 3].any fun x : Int => x == Builtin.bitXor (k : Int) 128) = true) (hv : Builtin.bitXor (k : Int) 128 = v) :
  Does w 2 (.ref 916) [.ref 922, .int (k : Int) t] [] s [] (fun r h' => ∃ tp q, r = .ref tp ∧ s.heap.get? tp = none ∧ h'.get? tp = some (tupObj [.int v q, .bool true])) := by
 subst hv
 walk_at "ir"
 refine' enter (binds := [(Str.ofString "cls", .ref 922), (Str.ofString "sighash", .int (k : Int) t)]) G st [] ?hW ?ho ?hcd ?hroom ?hbind ?hloc ?h ?hcell ?hco ?hgen ?hk
 walk_at "kk_enter"
 case hW => intro p hp; cases hp
 walk_at "ig"
 clear l1
 replace lL := leN lL
 walk_at "kx"
 refine leaves (by k_asm) fun _ => fun e => hQ _ _ _ e ⟨_, _, rfl, fresh_of (by assumption) (by k_asm) (by k_mem), News.get (by k_asm) (by k_mem)⟩
theorem sig_check (G : Gd w hb mean mg mb) (st : St hb s.heap) {k : Nat} {t : Tok} (hk : k ∈ kinds) :
  Does w 2 (.ref 916) [.ref 922, .int (k : Int) t] [] s [] (fun r h' => ∃ tp q, r = .ref tp ∧ s.heap.get? tp = none ∧ h'.get? tp = some (tupObj [.int ((k % 128 : Nat) : Int) q, .bool (decide (128 ≤ k))])) := by
 have h : k = 0 ∨ k = 1 ∨ k = 2 ∨ k = 3 ∨ k = 128 ∨ k = 129 ∨ k = 130 ∨ k = 131 := by simpa [kinds] using hk
 rcases h with rfl | rfl | rfl | rfl | rfl | rfl | rfl | rfl
 ·exact sig_lo G st (by decide +kernel) (by decide +kernel) (by decide +kernel)
 ·exact sig_lo G st (by decide +kernel) (by decide +kernel) (by decide +kernel)
 ·exact sig_lo G st (by decide +kernel) (by decide +kernel) (by decide +kernel)
 ·exact sig_lo G st (by decide +kernel) (by decide +kernel) (by decide +kernel)
 ·exact sig_hi G st (by decide +kernel) (by decide +kernel) (by decide +kernel)
 ·exact sig_hi G st (by decide +kernel) (by decide +kernel) (by decide +kernel)
 ·exact sig_hi G st (by decide +kernel) (by decide +kernel) (by decide +kernel)
 ·exact sig_hi G st (by decide +kernel) (by decide +kernel) (by decide +kernel)
end
end
section
namespace FRv
theorem mro : mroOf (.type "reversed") = pure [.type "reversed", .type "object"] := by rw [mroOf_type]; kernel_rfl
theorem lookup_new : typeLookup (.type "reversed") "__new__" = pure (some (.builtin "reversed.__new__")) := by rw [typeLookup_type, builtinLookup_eq_fast]; kernel_rfl
theorem slot_init : Slot "reversed" "__init__" "object.__init__" :=
 .of (owner := "object") (n := "__init__") (by rw [typeLookup_type, builtinLookup_eq_fast]; kernel_rfl) (by decide +kernel) (by decide +kernel) (by decide +kernel)
  (by first | exact .inl (by decide +kernel) | exact .inr (by decide +kernel)) (by rw [isSubtype_type]; kernel_rfl)
theorem slot_next : Slot "reversed" "__next__" "reversed.__next__" :=
 .of (owner := "reversed") (n := "__next__") (by rw [typeLookup_type, builtinLookup_eq_fast]; kernel_rfl) (by decide +kernel) (by decide +kernel) (by decide +kernel)
  (by first | exact .inl (by decide +kernel) | exact .inr (by decide +kernel)) (by rw [isSubtype_type]; kernel_rfl)
theorem sub : isSubtype (.type "reversed") (.type "reversed") = pure true := by rw [isSubtype_type]; kernel_rfl
theorem called : TypeCalled "reversed" "reversed.__new__" "object.__init__" :=
 ⟨by decide +kernel, by decide +kernel, ⟨_, _, mro⟩, madeBy_type mro lookup_new (by decide +kernel), by decide +kernel, sub, slot_init⟩
theorem typeCall (a : Value) : checkTypeCall "reversed" ⟨[a], []⟩ = pure () := by kernel_rfl
theorem newCall (a : Value) : checkBuiltinCall "reversed.__new__" ⟨[.type "reversed", a], []⟩ = pure () := by kernel_rfl
theorem plain : plainId "reversed.__new__" = true := by decide +kernel
theorem entry : entryFor table "reversed.__new__" = some Builtin.«reversed.__new__» := by first | exact entryFor_of_fast (by kernel_rfl) | exact entryFor_of_tree (by kernel_rfl)
theorem entry_next : entryFor table "reversed.__next__" = some Builtin.«reversed.__next__» := by first | exact entryFor_of_fast (by kernel_rfl) | exact entryFor_of_tree (by kernel_rfl)
theorem no_rev : typeLookup (.type "bytes") "__reversed__" = pure none := by rw [typeLookup_type, builtinLookup_eq_fast]; kernel_rfl
theorem not_dict : isSubtype (.type "bytes") (.type "dict") = pure false := by rw [isSubtype_type]; kernel_rfl
theorem has_item : typeLookup (.type "bytes") "__getitem__" = pure (some (.builtin "bytes.__getitem__")) := by rw [typeLookup_type, builtinLookup_eq_fast]; kernel_rfl
theorem look_iter : typeLookup (.type "reversed") "__iter__" = pure (some (.builtin "reversed.__iter__")) := by rw [typeLookup_type, builtinLookup_eq_fast]; kernel_rfl
end FRv
abbrev revObj (b : Array UInt8) (t : Tok) (i : Int) : Obj := { cls := .type "reversed", data := .fields #[.bytes b t, .int i 0] }
section
variable {p : Program} {w : World} {A : Around} {E : Value → Shared → Prop} {s : Shared}
theorem rev_call {b : Array UInt8} {t : Tok} {Q : Value → Shared → Prop} (hz : b.size ≤ 1000000)
  (h : ∀ k, Q (.ref s.heap.objs.size) { s with heap := s.heap.push (revObj b t ((b.size : Int) - 1)), toks := k }) : wpAny (model p w) A (call (.type "reversed") [.bytes b t]) Q E s := by
 refine callType_codes (Q₁ := fun obj s₁ => s₁.TypeIs obj "reversed" ∧ Q obj s₁) FRv.called (FRv.typeCall _) F.entry_object_init ?_ fun obj s₁ h₁ => ?_
 ·refine codeAny_of_tree ?_
  show wpAny _ _ (do checkBuiltinCall "reversed.__new__" ⟨[.type "reversed", .bytes b t], []⟩; again (.builtin "reversed.__new__" ⟨[.type "reversed", .bytes b t], []⟩)) _ _ s
  refine wpAny_bind (wpAny_of_eq (FRv.newCall _) (wpAny_pure ⟨plainId_quiet FRv.plain _, codeAny_builtin FRv.entry ?_⟩))
  rw [Around.under_plainId FRv.plain _]
  unfold Builtin.«reversed.__new__» PySem.Builtin.SmallTypes.newClass
  refine wpAny_bind (wpAny_bind (wpAny_of_eq (a := true) rfl ?_))
  refine bm_if_false rfl ?_
  refine wpAny_bind (wpAny_of_eq FRv.sub ?_)
  refine bm_if_false rfl (wpAny_pure ?_)
  dsimp only
  refine wpAny_bind (wpAny_of_eq (a := ()) rfl ?_)
  refine wpAny_bind (wpAny_of_eq (a := ()) rfl ?_)
  refine wpAny_bind (wpAny_specialOf (typeIs_bytes s b t) FRv.no_rev ?_)
  dsimp only
  refine wpAny_bind ?_
  show wpAny _ _ (isInstance (Value.bytes b t) (Value.type "dict") >>= fun _ => _) _ _ _
  refine wpAny_bind (wpAny_isInstance (typeIs_bytes s b t) FRv.not_dict ?_)
  refine bm_if_false rfl ?_
  refine wpAny_bind (wpAny_specialOf (typeIs_bytes s b t) FRv.has_item ?_)
  dsimp only
  refine bm_if_true (by decide) (wpAny_pure ?_)
  refine bm_if_false rfl ?_
  refine wpAny_bind (len_bytes (by omega) ?_)
  refine wpAny_bind (wpAny_of_eq (a := some (b.size : Int)) rfl ?_)
  dsimp only
  refine wpAny_bind ?_
  show wpAny _ _ (newObj (Value.type "reversed") (.fields [Value.bytes b t, rawInt ((b.size : Int) - 1)].toArray)) _ _ _
  refine wpAny_newObj_type ?_ (show 2 ≤ sizeLine + 2 from Nat.le_add_left _ _)
  exact wpAny_pure ⟨⟨_, Heap.get?_push_size _ rfl, rfl⟩, h _⟩
 ·exact ⟨h₁.1, F.args_object_init_2 obj _, object_init_meets FRv.called.init.lookup FRv.called.made (by decide) p w A.in1 _ s₁ ⟨h₁.1, rfl, h₁.2⟩⟩
end
end
section
section
variable {p : Program} {w : World} {A : Around} {E : Value → Shared → Prop} {s : Shared}
theorem rev_item {it : Addr} {b : Array UInt8} {t : Tok} {i : Nat} {Q : Option Value → Shared → Prop} (ho : s.heap.get? it = some (revObj b t (i : Int))) (hi : i < b.size) (hz : b.size ≤ 1000000)
  (h : ∀ h' k u, h'.get? it = some (revObj b t ((i : Int) - 1)) → (∀ c o, c ≠ it → s.heap.get? c = some o → h'.get? c = some o) → Q (some (.int ((b.toList.getD i 0).toNat : Int) u)) { s with heap := h', toks := k }) : wpAny (model p w) A (pyNext (.ref it)) Q E s := by
 have hT : s.TypeIs (.ref it) "reversed" := ⟨_, ho, rfl⟩
 unfold pyNext
 refine wpAny_bind (wpAny_attempt (wpAny_callSpecial?_slot (name := Str.ofString "__next__") hT FRv.slot_next (wpAny_call_entry FRv.slot_next hT FRv.entry_next ?_)))
 show wpAny _ _ (field (.ref it) 0 >>= _) _ _ s
 refine wpAny_bind (wpAny_field ho rfl (x := .bytes b t) rfl ?_)
 show wpAny _ _ (field (.ref it) 1 >>= _) _ _ s
 refine wpAny_bind (wpAny_field ho rfl (x := .int (i : Int) 0) rfl ?_)
 dsimp only
 refine wpAny_ite_false (decide_eq_false (show ¬ ((i : Int) < 0) by omega)) ?_
 refine wpAny_bind (wpAny_specialOf (typeIs_bytes s b t) FRv.has_item ?_)
 refine bm_if_false rfl ?_
 refine wpAny_bind (wpAny_mkInt ?_)
 refine wpAny_bind (wpAny_attempt ?_)
 have g : ∀ {P : Value → Shared → Prop} {E' : Value → Shared → Prop} {s' : Shared} {u : Tok}, P (.int ((b.toList.getD i 0).toNat : Int) s'.toks) { s' with toks := s'.toks + 1 } → wpAny (model p w) A.in1 (getItem (.bytes b t) (.int (i : Int) u)) P E' s' := by
  intro P E' s' u hP
  have z := getItem_bytes (prog := p) (w := w) (A := A.in1) (E := E') (s := s') (t := t) (u := u) (l := b.toList) (i := (i : Int)) (Q := P) (by rw [Array.length_toList]; omega) (by omega) (by rw [Array.length_toList]; omega) (by rw [Int.toNat_natCast]; exact hP)
  rwa [Array.toArray_toList] at z
 refine g ?_
 dsimp only
 refine wpAny_bind (wpAny_field ho rfl (i := 1) (x := .int (i : Int) 0) rfl ?_)
 dsimp only
 refine wpAny_bind (wpAny_setField ho rfl (by simp) (wpAny_pure ⟨_, rfl, wpAny_pure (h _ _ _ ?_ ?_)⟩))
 ·exact Heap.get?_update_self (Obj.mapFields fun x => x.setIfInBounds 1 (rawInt ((i : Int) - 1))) ho rfl
 ·exact fun c o hc q => (Heap.get?_update_other _ _ (Ne.symm hc)).trans q
theorem rev_end {it : Addr} {b : Array UInt8} {t : Tok} {Q : Option Value → Shared → Prop} (hh : A.handled = none) (ho : s.heap.get? it = some (revObj b t (-1)))
  (h : ∀ h', (∀ c o, c ≠ it → s.heap.get? c = some o → h'.get? c = some o) → Q none { s with heap := h' }) : wpAny (model p w) A (pyNext (.ref it)) Q E s := by
 have hT : s.TypeIs (.ref it) "reversed" := ⟨_, ho, rfl⟩
 unfold pyNext
 refine wpAny_bind (wpAny_attempt (wpAny_callSpecial?_slot (name := Str.ofString "__next__") hT FRv.slot_next (wpAny_call_entry FRv.slot_next hT FRv.entry_next ?_)))
 show wpAny _ _ (field (.ref it) 0 >>= _) _ _ s
 refine wpAny_bind (wpAny_field ho rfl (x := .bytes b t) rfl ?_)
 show wpAny _ _ (field (.ref it) 1 >>= _) _ _ s
 refine wpAny_bind (wpAny_field ho rfl (x := .int (-1) 0) rfl ?_)
 dsimp only
 refine wpAny_ite_true (decide_eq_true (show (-1 : Int) < 0 by decide)) ?_
 refine wpAny_bind (wpAny_rule (wpAny_bind ?_))
 show wpAny _ _ (setField (.ref it) 1 (rawInt (-1)) >>= fun _ => setField (.ref it) 0 .none) _ _ _
 refine wpAny_bind (wpAny_setField ho rfl (by simp) ?_)
 have ho2 : (s.heap.update it (Obj.mapFields fun x => x.setIfInBounds 1 (rawInt (-1)))).get? it = some (revObj b t (-1)) := Heap.get?_update_self _ ho rfl
 refine wpAny_setField (s := { s with heap := s.heap.update it (Obj.mapFields fun x => x.setIfInBounds 1 (rawInt (-1))) }) ho2 rfl (by simp) ?_
 refine wpAny_bind ?_
 show wpAny _ _ (newExc (.type "StopIteration") [] >>= _) _ _ _
 refine wpAny_bind ?_
 simp only [newExc, newTuple]
 refine wpAny_bind (wpAny_newObj_type ?_ (by size_fits))
 refine wpAny_bind (m := firstArgMember _ _) (wpAny_of_eq (a := Value.none) (by first | rfl | (simp only [firstArgMember]; rfl)) ?_)
 refine wpAny_newObj_type ?_ (by size_fits)
 unfold raiseNew
 refine wpAny_bind (wpAny_handled ?_)
 rw [show A.in1.handled = none from hh]
 refine wpAny_bind (wpAny_pure (wpAny_throw ?_))
 refine wpAny_bind (wpAny_isInstance (T := "StopIteration") (b := true) ⟨_, Heap.get?_push_size _ rfl, rfl⟩ isSubtype_stop ?_)
 refine wpAny_pure (h _ fun c o hc q => ?_)
 exact Heap.get?_push_of_some _ (Heap.get?_push_of_some _ ((Heap.get?_update_other _ _ (Ne.symm hc)).trans ((Heap.get?_update_other _ _ (Ne.symm hc)).trans q)))
end
end
section
section
variable {p : Program} {w : World} {A : Around} {E : Value → Shared → Prop} {R : Result → Shared → Prop}
theorem drop_rev {l : List UInt8} {k : Nat} (hk : k < l.length) : (l.drop k).reverse.toArray = ((l.drop (k + 1)).reverse.toArray).push (((l.getD k 0).toNat : Int).toNat.toUInt8) := by
 have e : l.drop k = l[k] :: l.drop (k + 1) := List.drop_eq_getElem_cons hk
 rw [e, List.reverse_cons, Int.toNat_natCast]
 have g : l.getD k 0 = l[k] := by rw [List.getD_eq_getElem?_getD, List.getElem?_eq_getElem hk]; rfl
 rw [g]
 simp
theorem rv_loop {I S : Addr} {b : Array UInt8} {t : Tok} (hh : A.handled = none) (hIS : I ≠ S) (hz : b.size ≤ 1000000) : ∀ (k : Nat) (s : Shared), k ≤ b.size → s.heap.get? I = some (revObj b t ((k : Int) - 1)) → s.heap.get? S = some (baObj (b.toList.drop k).reverse.toArray) →
  (∀ h' u k', (∀ c o, c ≠ I → c ≠ S → s.heap.get? c = some o → h'.get? c = some o) → R (.ok (.ret (.bytes b.toList.reverse.toArray u))) { s with heap := h', toks := k' }) →
  codeAny (model p w) A (.builtin "bytes.__new__.loop" ⟨[.type "bytes", .ref I, .ref S], []⟩) R s := by
 intro k
 induction k with
 | zero =>
  intro s _ hI hS hR
  refine codeAny_builtin F.bm_entry_loop ?_
  rw [Around.under_plainId F.bm_plain_loop _]
  show wpAny _ A.in1 (pyNext (.ref I) >>= _) _ _ s
  refine wpAny_bind (rev_end hh hI fun h' he => ?_)
  refine wpAny_bind (ba_pay (he S _ (Ne.symm hIS) hS) ?_)
  refine wpAny_bind (wpAny_mkBytes ?_ (by simp; rw [sizeLine_eq]; omega))
  show wpAny _ _ (if (Value.type "bytes" == Value.type "bytes") = true then _ else _) _ _ _
  refine bm_if_true (by decide) ?_
  rw [List.drop_zero]
  first
   | exact wpAny_pure (hR h' _ _ fun c o hc _ q => he c o hc q)
   | exact wpAny_bind (wpAny_pure (wpAny_pure (hR h' _ _ fun c o hc _ q => he c o hc q)))
 | succ k ih =>
  intro s hk hI hS hR
  refine codeAny_builtin F.bm_entry_loop ?_
  rw [Around.under_plainId F.bm_plain_loop _]
  show wpAny _ A.in1 (pyNext (.ref I) >>= _) _ _ s
  have hI' : s.heap.get? I = some (revObj b t (k : Int)) := by rw [hI]; congr 3; omega
  refine wpAny_bind (rev_item hI' hk hz fun h' k' u hn he => ?_)
  dsimp only
  refine wpAny_bind (wpAny_holding (wpAny_of_eq (rfl : asIndex (.int _ u) = pure _) ?_))
  refine wpAny_bind (wpAny_letGo ?_)
  have lt := UInt8.toNat_lt (b.toList.getD k 0)
  refine bm_if_false (by simp only [Bool.or_eq_false_iff, decide_eq_false_iff_not]; omega) ?_
  refine wpAny_bind (ba_write (he S _ (Ne.symm hIS) hS) (f := (·.push _)) (by simp; omega) fun h'' e2 k2 => ?_)
  refine wpAny_pure ⟨plainId_quiet F.bm_plain_loop _, ih _ (by omega) (k2 I _ hIS hn) ?_ fun h3 u3 k3 kk => hR h3 u3 k3 fun c o hI2 hS2 q => kk c o hI2 hS2 (k2 c o hS2 (he c o hI2 q))⟩
  rw [drop_rev (by rw [Array.length_toList]; omega)]
  exact e2
end
end
section
namespace FRv
theorem slot_iter : Slot "reversed" "__iter__" "reversed.__iter__" :=
 .of (owner := "reversed") (n := "__iter__") (by rw [typeLookup_type, builtinLookup_eq_fast]; kernel_rfl) (by decide +kernel) (by decide +kernel) (by decide +kernel)
  (by first | exact .inl (by decide +kernel) | exact .inr (by decide +kernel)) (by rw [isSubtype_type]; kernel_rfl)
theorem entry_iter : entryFor table "reversed.__iter__" = some Builtin.«dict_keyiterator.__iter__» := entryFor_alias (id' := "dict_keyiterator.__iter__") (by kernel_rfl) rfl (by decide +kernel) (by kernel_rfl)
theorem slot_hint : Slot "reversed" "__length_hint__" "reversed.__length_hint__" :=
 .of (owner := "reversed") (n := "__length_hint__") (by rw [typeLookup_type, builtinLookup_eq_fast]; kernel_rfl) (by decide +kernel) (by decide +kernel) (by decide +kernel)
  (by first | exact .inl (by decide +kernel) | exact .inr (by decide +kernel)) (by rw [isSubtype_type]; kernel_rfl)
theorem entry_hint : entryFor table "reversed.__length_hint__" = some Builtin.«reversed.__length_hint__» := by first | exact entryFor_of_fast (by kernel_rfl) | exact entryFor_of_tree (by kernel_rfl)
theorem no_bytes : typeLookup (.type "reversed") "__bytes__" = pure none := by rw [typeLookup_type, builtinLookup_eq_fast]; kernel_rfl
theorem no_idx : typeLookup (.type "reversed") "__index__" = pure none := by rw [typeLookup_type, builtinLookup_eq_fast]; kernel_rfl
theorem no_buffer : typeLookup (.type "reversed") "__buffer__" = pure none := by rw [typeLookup_type, builtinLookup_eq_fast]; kernel_rfl
theorem no_len : typeLookup (.type "reversed") "__len__" = pure none := by rw [typeLookup_type, builtinLookup_eq_fast]; kernel_rfl
end FRv
section
variable {p : Program} {w : World} {A : Around} {E : Value → Shared → Prop} {s : Shared}
theorem rev_iter {I : Addr} {b : Array UInt8} {t : Tok} {i : Int} {Q : Value → Shared → Prop} (hI : s.heap.get? I = some (revObj b t i)) (h : Q (.ref I) s) : wpAny (model p w) A (pyIter (.ref I)) Q E s := by
 have hT : s.TypeIs (.ref I) "reversed" := ⟨_, hI, rfl⟩
 refine wpAny_pyIter_slot hT FRv.slot_iter (wpAny_call_entry FRv.slot_iter hT FRv.entry_iter ?_)
 show wpAny _ _ (ret (.ref I)) _ _ s
 exact wpAny_pure ⟨_, rfl, "reversed", _, hT, FRv.slot_next.lookup, h⟩
theorem rev_hint {I : Addr} {b : Array UInt8} {t : Tok} {Q : Value → Shared → Prop} (hI : s.heap.get? I = some (revObj b t ((b.size : Int) - 1))) (hz : b.size ≤ 1000000) (h : ∀ u k, Q (.int (b.size : Int) u) { s with toks := k }) :
  wpAny (model p w) A (call (.builtin "reversed.__length_hint__") [.ref I]) Q E s := by
 have hT : s.TypeIs (.ref I) "reversed" := ⟨_, hI, rfl⟩
 refine wpAny_call_entry FRv.slot_hint hT FRv.entry_hint ?_
 show wpAny _ _ (field (.ref I) 0 >>= _) _ _ s
 refine wpAny_bind (wpAny_field hI rfl (x := .bytes b t) rfl ?_)
 refine bm_if_false rfl ?_
 refine wpAny_bind (len_bytes (by omega) ?_)
 refine wpAny_bind (wpAny_of_eq (a := some (b.size : Int)) rfl ?_)
 dsimp only
 refine wpAny_bind (wpAny_field hI rfl (i := 1) (x := .int ((b.size : Int) - 1) 0) rfl ?_)
 dsimp only
 refine wpAny_ite_false (decide_eq_false (show ¬ ((b.size : Int) < (b.size : Int) - 1 + 1) by omega)) ?_
 rw [show (b.size : Int) - 1 + 1 = b.size by omega]
 exact wpAny_bind (wpAny_mkInt (wpAny_pure ⟨_, rfl, h _ _⟩))
end
end
section
section
variable {p : Program} {w : World} {A : Around} {E : Value → Shared → Prop} {s : Shared}
theorem rv_hintAll {I : Addr} {b : Array UInt8} {t : Tok} {Q : Unit → Shared → Prop} (hI : s.heap.get? I = some (revObj b t ((b.size : Int) - 1))) (hz : b.size ≤ 1000000) (h : ∀ k, Q () { s with toks := k }) :
  wpAny (model p w) A (Builtin.Bytes.lengthHint "bytes.__new__" (.ref I)) Q E s := by
 have hT : s.TypeIs (.ref I) "reversed" := ⟨_, hI, rfl⟩
 have f1 : (!Builtin.Bytes.fitsIndex (b.size : Int)) = false := by unfold Builtin.Bytes.fitsIndex; simp only [Bool.not_eq_false', Bool.and_eq_true, decide_eq_true_eq]; omega
 have f2 : Builtin.Bytes.tooLong (b.size : Int).toNat = false := by unfold Builtin.Bytes.tooLong; rw [sizeLine_eq, Int.toNat_natCast]; exact decide_eq_false (by omega)
 have f3 : ((b.size : Int) < 0) = False := by simp
 unfold Builtin.Bytes.lengthHint
 refine wpAny_bind (wpAny_specialOf hT FRv.no_len ?_)
 dsimp only
 refine bm_if_false rfl ?_
 refine bm_if_false rfl ?_
 refine wpAny_bind (wpAny_specialOf hT FRv.slot_hint.lookup ?_)
 dsimp only
 rw [show splitId "reversed.__length_hint__" = some ("reversed", "__length_hint__") by decide +kernel]
 dsimp only
 refine wpAny_bind (wpAny_isInstance hT FRv.sub ?_)
 refine bm_if_false rfl ?_
 refine bm_if_false (by decide +kernel) ?_
 refine wpAny_bind (wpAny_rule ?_)
 refine wpAny_bind (wpAny_of_eq (FRv.slot_hint.bind _) ?_)
 dsimp only
 refine wpAny_bind (wpAny_attempt (rev_hint hI hz fun u k => ?_))
 show wpAny _ _ (asInt? (Value.int (b.size : Int) u) >>= _) _ _ _
 have e0 : asInt? (Value.int (b.size : Int) u) = pure (some (b.size : Int)) := rfl
 rw [e0, pure_bind]
 dsimp only
 simp only [f1, f2, f3, Bool.false_eq_true, if_false]
 exact wpAny_pure (h _)
theorem rv_bytes {I : Addr} {b : Array UInt8} {t : Tok} {Q : Value → Shared → Prop} (hh : A.handled = none) (hI : s.heap.get? I = some (revObj b t ((b.size : Int) - 1))) (hz : b.size ≤ 1000000)
  (h : ∀ h' u k, (∀ c o, c ≠ I → s.heap.get? c = some o → h'.get? c = some o) → Q (.bytes b.toList.reverse.toArray u) { s with heap := h', toks := k }) : wpAny (model p w) A (call (.type "bytes") [.ref I]) Q E s := by
 have hT : s.TypeIs (.ref I) "reversed" := ⟨_, hI, rfl⟩
 refine callType_codes (Q₁ := fun obj s₁ => s₁.TypeIs obj "bytes" ∧ Q obj s₁) F.bm_called (F.bm_typeCall _) F.entry_object_init ?_ fun obj s₁ h₁ => ?_
 ·refine codeAny_of_tree ?_
  show wpAny _ _ (do checkBuiltinCall "bytes.__new__" ⟨[.type "bytes", .ref I], []⟩; again (.builtin "bytes.__new__" ⟨[.type "bytes", .ref I], []⟩)) _ _ s
  refine wpAny_bind (wpAny_of_eq (F.bm_newCall _) (wpAny_pure ⟨plainId_quiet F.bm_plain _, codeAny_builtin F.bm_entry ?_⟩))
  rw [Around.under_plainId F.bm_plain _]
  unfold Builtin.«bytes.__new__»
  refine wpAny_bind (wpAny_of_eq (a := true) rfl ?_)
  refine bm_if_false rfl ?_
  refine wpAny_bind (wpAny_of_eq F.bm_sub ?_)
  refine bm_if_false rfl ?_
  refine wpAny_bind (wpAny_of_eq (F.bm_bind _) ?_)
  refine wpAny_bind (wpAny_of_eq (a := ()) rfl ?_)
  refine wpAny_bind (wpAny_of_eq (a := ()) rfl ?_)
  refine bm_if_false rfl ?_
  refine wpAny_bind (wpAny_specialOf hT FRv.no_bytes ?_)
  refine wpAny_bind (wpAny_bind ?_)
  show wpAny _ _ (load I >>= _) _ _ _
  refine wpAny_bind (wpAny_load hI (wpAny_pure (wpAny_pure ?_)))
  refine bm_if_false rfl ?_
  refine wpAny_bind (wpAny_specialOf hT FRv.no_idx ?_)
  refine bm_if_true rfl ?_
  first
   | show wpAny _ _ (Builtin.Bytes.buffer? "bytes.__new__" (.ref I) true >>= _) _ _ _
   | (refine wpAny_bind ?_; show wpAny _ _ (Builtin.Bytes.buffer? "bytes.__new__" (.ref I) true >>= _) _ _ _)
  refine wpAny_bind ?_
  unfold Builtin.Bytes.buffer?
  refine wpAny_bind (wpAny_specialOf hT FRv.no_buffer ?_)
  refine wpAny_bind (wpAny_specialOf hT FRv.no_buffer ?_)
  refine wpAny_pure ?_
  refine wpAny_bind (wpAny_tryCatch (rev_iter hI ?_))
  refine wpAny_bind (wpAny_holding (rv_hintAll hI hz fun k => ?_))
  refine wpAny_bind ?_
  unfold Builtin.Bytes.newBytearray
  refine wpAny_newObj_type ?_ (Nat.zero_le _)
  have ne : I ≠ s.heap.objs.size := Nat.ne_of_lt (Heap.lt_size hI)
  have main := rv_loop (p := p) (w := w) (A := A.in1) (R := wants (fun obj s₁ => s₁.TypeIs obj "bytes" ∧ Q obj s₁) E) (I := I) (S := s.heap.objs.size) (b := b) (t := t) hh ne hz b.size { s with heap := s.heap.push (baObj #[]), toks := k } (Nat.le_refl _)
   (Heap.get?_push_of_some _ hI) (by rw [List.drop_eq_nil_of_le (by rw [Array.length_toList]; exact Nat.le_refl _)]; exact Heap.get?_push_size _ rfl)
   fun h' u k' hk => ⟨typeIs_bytes _ _ _, h h' u k' fun c o hc q => hk c o hc (Nat.ne_of_lt (Heap.lt_size q)) (Heap.get?_push_of_some _ q)⟩
  first
   | exact wpAny_pure ⟨plainId_quiet F.bm_plain_loop _, main⟩
   | exact wpAny_pure (wpAny_pure ⟨plainId_quiet F.bm_plain_loop _, main⟩)
 ·exact ⟨h₁.1, F.args_object_init_2 obj _, object_init_meets F.bm_called.init.lookup F.bm_called.made (by decide) p w A.in1 _ s₁ ⟨h₁.1, rfl, h₁.2⟩⟩
end
end
section
section
variable {p : Program} {w : World} {A : Around} {E Q : Value → Shared → Prop} {s : Shared} {g : Heap} {L : Addr} {m : Str → Option Value} {news : List (Addr × Obj)} {b : Array UInt8} {t : Tok}
theorem rev_K (F : Fr g L s.heap m) (N : News g L s.heap news) (hz : b.size ≤ 1000000)
  (h : ∀ I h' k, Fr g L h' m → News g L h' ((I, revObj b t ((b.size : Int) - 1)) :: news) → (∀ p ∈ news, p.1 < I) → Q (.ref I) { s with heap := h', toks := k }) : wpAny (model p w) A (PySem.call (.type "reversed") [.bytes b t]) Q E s :=
 rev_call hz fun k => h _ _ k (F.push _) (N.push F _) (fun p hp => Heap.lt_size (N p hp).1)
theorem revb_K {I : Addr} (hh : A.handled = none) (F : Fr g L s.heap m) (N : News g L s.heap ((I, revObj b t ((b.size : Int) - 1)) :: news)) (l : ∀ p ∈ news, p.1 < I) (hz : b.size ≤ 1000000)
  (h : ∀ h' u k, Fr g L h' m → News g L h' news → Q (.bytes b.toList.reverse.toArray u) { s with heap := h', toks := k }) : wpAny (model p w) A (PySem.call (.type "bytes") [.ref I]) Q E s := by
 have P := N _ (.head _)
 refine rv_bytes hh P.1 hz fun h' u k e => h h' u k (fr_but (W := [I]) F (fun a ha => by rw [List.mem_singleton.mp ha]; exact P.2) fun c o hc q => e c o (by simpa using hc) q) fun q hq => ?_
 have P' := N q (.tail _ hq)
 exact ⟨e _ _ (Nat.ne_of_lt (l q hq)) P'.1, P'.2⟩
end
end
section
def Has : List (Addr × Obj) → Heap → Prop
  | [], _ => True
  | (a, o) :: r, h => h.get? a = some o ∧ Has r h
theorem Has.get {h : Heap} {p : Addr × Obj} : ∀ {l : List (Addr × Obj)}, Has l h → p ∈ l → h.get? p.1 = some p.2
  | (_, _) :: _, ⟨a, r⟩, m => by
    rcases List.mem_cons.mp m with rfl | m
    · exact a
    · exact Has.get r m
theorem Has.of {h : Heap} : ∀ {l : List (Addr × Obj)}, (∀ p ∈ l, h.get? p.1 = some p.2) → Has l h
  | [], _ => trivial
  | (_, _) :: _, k => ⟨k _ (.head _), Has.of fun p m => k p (.tail _ m)⟩
theorem Has.mono {h h' : Heap} {l : List (Addr × Obj)} (H : Has l h) (k : ∀ p ∈ l, h.get? p.1 = some p.2 → h'.get? p.1 = some p.2) : Has l h' := Has.of fun p m => k p m (H.get m)
theorem Has.up {h h' : Heap} {l : List (Addr × Obj)} (H : Has l h) (k : ∀ b o, h.get? b = some o → h'.get? b = some o) : Has l h' := H.mono fun p _ e => k _ _ e
theorem Has.fr {g h : Heap} {L : Addr} {m : Str → Option Value} {l : List (Addr × Obj)} (H : Has l g) (F : Fr g L h m) : Has l h := H.up F.keep
theorem Has.app {h : Heap} {l r : List (Addr × Obj)} (H : Has l h) (H' : Has r h) : Has (l ++ r) h := Has.of fun p m => (List.mem_append.mp m).elim H.get H'.get
theorem Has.left {h : Heap} {l r : List (Addr × Obj)} (H : Has (l ++ r) h) : Has l h := Has.of fun _ m => H.get (List.mem_append_left _ m)
theorem Has.right {h : Heap} {l r : List (Addr × Obj)} (H : Has (l ++ r) h) : Has r h := Has.of fun _ m => H.get (List.mem_append_right _ m)
theorem Has.part {α : Type} {h : Heap} {f : α → List (Addr × Obj)} {l : List α} {a : α} (H : Has (l.flatMap f) h) (m : a ∈ l) : Has (f a) h := Has.of fun _ q => H.get (List.mem_flatMap.mpr ⟨a, m, q⟩)
def noBio (o : Obj) : Bool := !(o.cls == .ref 395) && !(o.cls == .type "bytearray") && !(keyOf o == some (Str.ofString "_BytesIO__buf"))
theorem noBio_ne {o o' : Obj} (a : noBio o = true) (b : noBio o' = false) : o ≠ o' := fun e => by rw [e, b] at a; cases a
theorem Has.sub {w : World} {h0 h g : Heap} {x d bx : Addr} {k1 k2 : Nat} {b : Array UInt8} {t : Tok} {l : List (Addr × Obj)} (H : Has l h) (S : StrmAt w h0 h x d bx k1 k2 b t) (n : l.all (fun p => noBio p.2) = true)
    (sub : ∀ b' o, h.get? b' = some o → b' ∉ (strmW w x d bx k1 k2 b t).map (·.1) → g.get? b' = some o) : Has l g := H.mono fun p m e => by
  have np := List.all_eq_true.mp n p m
  exact sub _ _ e (notin3 (ne_obj e S.hx (noBio_ne np rfl)) (ne_obj e S.hd (noBio_ne np rfl)) (ne_obj e S.hbx (noBio_ne np rfl)))
theorem Has.sub0 {h g : Heap} {l : List (Addr × Obj)} (H : Has l h) (sub : ∀ b' o, h.get? b' = some o → b' ∉ ([] : List (Addr × Obj)).map (·.1) → g.get? b' = some o) : Has l g := H.mono fun p m e => sub _ _ e (by simp)
structure TIn where
  x : Addr
  d : Addr
  s : Addr
  sd : Addr
  wt : Addr
  wd : Addr
  wl : Addr
  k1 : Nat
  k2 : Nat
  k3 : Nat
  k4 : Nat
  k5 : Nat
  ks : Nat
  kw : Nat
  t1 : Tok
  t2 : Tok
  t4 : Tok
  ts : Tok
  txid : Array UInt8
  vout : Nat
  scr : Array UInt8
  seq : Nat
abbrev scrF (w : World) (s sd : Addr) (ks : Nat) (ts : Tok) (scr : Array UInt8) : List (Addr × Obj) := [(s, instObj 843 sd), (sd, dictOf [ent w "data" ks (.bytes scr ts)] 1)]
def TIn.frag (w : World) (a : TIn) : List (Addr × Obj) :=
  [(a.x, instObj 1107 a.d), (a.d, dictOf [ent w "txid" a.k1 (.bytes a.txid a.t1), ent w "vout" a.k2 (.int (a.vout : Int) a.t2), ent w "script_sig" a.k3 (.ref a.s), ent w "sequence" a.k4 (.int (a.seq : Int) a.t4), ent w "witness" a.k5 (.ref a.wt)] 5),
   (a.s, instObj 843 a.sd), (a.sd, dictOf [ent w "data" a.ks (.bytes a.scr a.ts)] 1),
   (a.wt, instObj 888 a.wd), (a.wd, dictOf [ent w "items" a.kw (.ref a.wl)] 1), (a.wl, listNil)]
theorem TIn.noBio {w : World} (a : TIn) : (a.frag w).all (fun p => Kk.noBio p.2) = true := rfl
structure TOut where
  x : Addr
  d : Addr
  s : Addr
  sd : Addr
  k1 : Nat
  k2 : Nat
  ks : Nat
  t1 : Tok
  ts : Tok
  val : Nat
  scr : Array UInt8
def TOut.frag (w : World) (a : TOut) : List (Addr × Obj) :=
  [(a.x, instObj 1143 a.d), (a.d, dictOf [ent w "value" a.k1 (.int (a.val : Int) a.t1), ent w "script_pubkey" a.k2 (.ref a.s)] 2),
   (a.s, instObj 843 a.sd), (a.sd, dictOf [ent w "data" a.ks (.bytes a.scr a.ts)] 1)]
theorem TOut.noBio {w : World} (a : TOut) : (a.frag w).all (fun p => Kk.noBio p.2) = true := rfl
section
variable {w : World} {a : TIn} {h : Heap} (H : Has (a.frag w) h)
include H
theorem Has.i0 : h.get? a.x = some (instObj 1107 a.d) := H.1
theorem Has.i1 : h.get? a.d = some (dictOf [ent w "txid" a.k1 (.bytes a.txid a.t1), ent w "vout" a.k2 (.int (a.vout : Int) a.t2), ent w "script_sig" a.k3 (.ref a.s), ent w "sequence" a.k4 (.int (a.seq : Int) a.t4), ent w "witness" a.k5 (.ref a.wt)] 5) := H.2.1
theorem Has.i2 : h.get? a.s = some (instObj 843 a.sd) := H.2.2.1
theorem Has.i3 : h.get? a.sd = some (dictOf [ent w "data" a.ks (.bytes a.scr a.ts)] 1) := H.2.2.2.1
theorem Has.i4 : h.get? a.wt = some (instObj 888 a.wd) := H.2.2.2.2.1
theorem Has.i5 : h.get? a.wd = some (dictOf [ent w "items" a.kw (.ref a.wl)] 1) := H.2.2.2.2.2.1
theorem Has.i6 : h.get? a.wl = some listNil := H.2.2.2.2.2.2.1
end
section
variable {w : World} {a : TOut} {h : Heap} (H : Has (a.frag w) h)
include H
theorem Has.o0 : h.get? a.x = some (instObj 1143 a.d) := H.1
theorem Has.o1 : h.get? a.d = some (dictOf [ent w "value" a.k1 (.int (a.val : Int) a.t1), ent w "script_pubkey" a.k2 (.ref a.s)] 2) := H.2.1
theorem Has.o2 : h.get? a.s = some (instObj 843 a.sd) := H.2.2.1
theorem Has.o3 : h.get? a.sd = some (dictOf [ent w "data" a.ks (.bytes a.scr a.ts)] 1) := H.2.2.2.1
end
section
variable {w : World} {s sd : Addr} {ks : Nat} {ts : Tok} {scr : Array UInt8} {h : Heap} (H : Has (scrF w s sd ks ts scr) h)
include H
theorem Has.s0 : h.get? s = some (instObj 843 sd) := H.1
theorem Has.s1 : h.get? sd = some (dictOf [ent w "data" ks (.bytes scr ts)] 1) := H.2.1
end
section
variable {w : World} {A : Around} {E : Value → Shared → Prop} {s : Shared} {K : Frag} {x C L p : Addr} {h₀ : Heap} {m : Str → Option Value} {ox od : Obj} {name : Str}
theorem x_propGet {fget : Addr} {rest : List Value} {tp : Value} {R : Result → Shared → Prop} (X : K.In s.heap) (hp : recIn K p "property" = some (.ref fget :: rest))
    (h : codeX (model prog w) A (.call (.ref fget) ⟨[.ref x], []⟩) R s) : codeX (model prog w) A (.call (.builtin "property.__get__") ⟨[.ref p, .ref x, tp], []⟩) R s := by
  obtain ⟨d, sl, ho⟩ := rec_of X hp
  obtain ⟨hh, g, dr, t, os⟩ := s
  refine x_callBuiltin rfl KF.slot_prop.plain KF.entry_prop (KF.slot_prop.check _ _ _ _ _ _ _ _ ⟨_, ho, rfl⟩ (KF.args_prop _ _ _) (x_any ?_))
  unfold Builtin.«property.__get__» Builtin.Getset_descriptor.descrGetArgs
  dsimp only at ho
  repeat lk
  exact ⟨rfl, h⟩
theorem x_runValue {M : Model} {c : Code} {Q : Value → Shared → Prop}
    (hc : codeX M A c (fun r s' => match r with | .ok (.ret v) => Q v s' | .ok _ => False | .error e => E e s') s) :
    wpX M A (runValue c) Q E s := fun Γ p hΓ ho hb => by
  rw [Sem.wp_runValue]; exact hc _ p rfl (hΓ.enter c none p (by intro x; cases x)) (okB_enter ho hb c none p)
theorem x_getOpen {expr : Bool} {Q : Value → Shared → Prop} {oD : Option Obj} (X : K.In s.heap) (I : InstAt s.heap x ox C oD) (hga : findIn K (.ref C) "__getattribute__" = some (some (.builtin "object.__getattribute__")))
    (h : wpX (model prog w) A.in1 (Builtin.«proto.getattr_hooked» ⟨[.ref x, .str name s.toks], []⟩)
      (fun fin s' => match fin with | .done (.ret v) => wpAny (model prog w) A (handedOut v) Q E s' | _ => False) (fun e s' => False) { s with toks := s.toks + 1 }) :
    wpX (model prog w) A (getAttr (.ref x) name expr) Q E s := by
  obtain ⟨hh, g, d, t, os⟩ := s
  have L0 := I.type (M := model prog w)
  have L1 := looks_findIn (M := model prog w) X hga
  unfold getAttr getAttrBy
  refine x_bind (x_any (wpAny_mkText (x_holding (x_bind (x_any (L0.at (x_bind (x_any (L1.at ?_)))))))))
  show wpX _ _ (getAttrEveryday _ _ _) _ _ _
  refine x_bind (x_onRaise (x_runValue (x_builtin rfl F.plainObj_entry_getattr_hooked (x_mono h (fun fin s' z => ?_) fun _ _ z => z.elim))))
  rcases fin with (_ | _ | _ | _) | _ <;> first | exact x_any z | exact z.elim
theorem x_getBind {expr : Bool} {Q : Value → Shared → Prop} {oD : Option Obj} {g a : Value} (X : K.In s.heap) (I : InstAt s.heap x ox C oD) (hga : findIn K (.ref C) "__getattribute__" = some (some (.builtin "object.__getattribute__")))
    (hf : findObj K C oD name = some (.bind g a)) (hk : findIn K (.ref C) "__getattr__" = some none)
    (h : wpX (model prog w) A.in1 (call g [a, .ref x, .ref C]) (fun v s' => wpAny (model prog w) A (handedOut v) Q E s') (fun e s' => False) { s with toks := s.toks + 1 }) :
    wpX (model prog w) A (getAttr (.ref x) name expr) Q E s := by
  refine x_getOpen X I hga ?_
  obtain ⟨hh', gg, d, t, os⟩ := s
  have L0 := I.type (M := model prog w)
  have L1 := looks_find (M := model prog w) X I hf
  have L2 := looks_findIn (M := model prog w) X hk
  refine x_bind (x_pure (x_bind (x_any (L0.at (x_bind (x_any (L1.at (x_bind (x_any (L2.at ?_))))))))))
  show wpX _ _ (holding [a] (call g [a, .ref x, .ref C]) >>= ret) _ _ _
  exact x_bind (x_holding (x_mono h (fun v s' z => x_pure z) fun _ _ z => z))
theorem x_prop {expr : Bool} {Q : Value → Shared → Prop} {fget : Addr} {rest : List Value} (F : Fr h₀ L s.heap m) (X₀ : K.In h₀) (I : InstAt s.heap x ox C (some od)) (hg : plainGet K C name = true) (hh : hasDictIn K C = true)
    (ha : findIn K (.ref C) name = some (some (.ref p))) (hn : specialIn K (.ref p) "__get__" = some (some (.builtin "property.__get__"))) (ht : takesIn K (.ref p) = some true) (hp : recIn K p "property" = some (.ref fget :: rest))
    (h : codeX (model prog w) A.in1 (.call (.ref fget) ⟨[.ref x], []⟩) (fun r s' => match r with | .ok (.ret v) => handedIn v = true ∧ Q v s' | .ok _ => False | .error e => False) { s with toks := s.toks + 1 }) :
    wpX (model prog w) A (getAttr (.ref x) name expr) Q E s := by
  refine x_getBind (X₀.keeps F.keep) I (plainGet_of hg).1 (findObj_data (by obtain ⟨cd, hc, _⟩ := any_some hh; rw [hc]; rfl) ha hn ht) (plainGet_of hg).2 (x_call (x_propGet (s := { s with toks := s.toks + 1 }) (X₀.keeps F.keep) hp (x_codeMono h fun r s' z => ?_)))
  rcases r with e | (_ | _ | _ | _) <;> first | exact z.elim | exact handed_on z.1 z.2
end
theorem x_attr {M : Model} {A : Around} {E Q : Value → Shared → Prop} {s : Shared} {env : Env} {n attr : Str} {np pos : Pos} (h : wpX M A (eval (.Name n np) env) (fun o s₁ => wpX M A (getAttr o attr true) Q E s₁) E s) :
    wpX M A (eval (.Attribute (.Name n np) attr pos) env) Q E s := by
  rw [arm_eval_Attribute]
  have e1 : attributeBase (.Name n np) attr env (eval (.Name n np) env) = eval (.Name n np) env := rfl
  rw [e1]
  refine x_bind (x_mono h (fun o s₁ h₁ => x_bind (x_stand (x_bind (x_holding (x_mono h₁ (fun r s₂ h₂ => ?_) fun _ _ y => y))))) fun _ _ y => y)
  have e2 : letTemporaryGo (.Name n np) o r = pure () := rfl
  rw [e2]
  exact x_bind (x_pure (x_pure h₂))
theorem use_prop {w : World} {g : Heap} {n dp un : Nat} {fr : Option (List Env)} {gd : Option (List Code)} {E Q : Value → Shared → Prop} {s : Shared} {x C L p fget : Addr} {m : Str → Option Value} {news : List (Addr × Obj)} {ox od : Obj} {name : Str} {expr : Bool} {rest : List Value} {post : Value → Heap → Prop}
    (F : Fr g L s.heap m) (N : News g L s.heap news) (X₀ : (Kc w.params).In g) (I : InstAt s.heap x ox C (some od)) (hg : plainGet (Kc w.params) C name = true) (hh : hasDictIn (Kc w.params) C = true)
    (ha : findIn (Kc w.params) (.ref C) name = some (some (.ref p))) (hn : specialIn (Kc w.params) (.ref p) "__get__" = some (some (.builtin "property.__get__"))) (ht : takesIn (Kc w.params) (.ref p) = some true) (hp : recIn (Kc w.params) p "property" = some (.ref fget :: rest))
    (D : DoesX w n (.ref fget) [.ref x] [] { s with toks := s.toks + 1 } [] post) (hd : dp + n < recursionLimit) (hu : un + 1 + 8 * n < cLine)
    (h : ∀ r h' tk', Fr g L h' m → News g L h' news → post r h' → handedIn r = true ∧ Q r { s with heap := h', toks := tk' }) :
    wpX (model prog w) (Ar dp un fr gd) (getAttr (.ref x) name expr) Q E s := by
  refine x_prop F X₀ I hg hh ha hn ht hp (D dp (un + 1) fr gd _ hd hu fun r h' tk' e q => ?_)
  have e' : ∀ b o, s.heap.get? b = some o → h'.get? b = some o := fun b o q => e b o (by simp) q
  exact h r h' tk' (fr_ext F e') (news_ext N e') q
end
section
section
variable {w : World} {hb : Heap} {mean : ExcName → Option Value} {mg mb : Str → Option Value} {s : Shared}
theorem in_segwit (G : Gd w hb mean mg mb) (st : St hb s.heap) {a : TIn} (H : Has (a.frag w) s.heap) :
  DoesX w 24 (.ref 1085) [.ref a.x] [] s [] (fun r _ => r = .bool false) := by
 walk_at "ir"
 refine' enterX (binds := [(Str.ofString "self", .ref a.x)]) G st [] ?hW ?ho ?hcd ?hroom ?hbind ?hloc ?h ?hcell ?hco ?hgen ?hk
 walk_at "kk_enter"
 case hW => intro p hp; cases hp
 walk_at "ig"
 clear l1
 have HI9 := H.sub0 sub
 have gx := HI9.i0
 have gd := HI9.i1
 have gs := HI9.i2
 have gsd := HI9.i3
 have gw := HI9.i4
 have gwd := HI9.i5
 have gl := HI9.i6
 ((try k_steps); refine x_execs fun K9 hK9 => (x_return (x_unary (x_compare (x_meth (x_any ?_))))))
 walk_at "kx"
 walk_at "xc"
 refine useX0b (wit_ser (by assumption) (by walk_at "kk_st") (by walk_at "kk_get") (by walk_at "kk_get") (by walk_at "kk_get")) (by k_asm) (by k_asm) (by walk_at "kk_num") (by walk_at "kk_num") ?_
 intro t' h' tk' F' N'
 walk_at "xa"
 walk_at "kx"
 exact leaves (by k_asm) fun _ => fun e => hQ _ _ _ e rfl
end
end
section
theorem Does.meth {w : World} {n : Nat} {q f : Addr} {self : Value} {args : List Value} {kw : List (Str × Value)} {s : Shared} {W : List Addr} {post : Value → Heap → Prop} (hq : s.heap.get? q = some (methodObj (.ref f) self)) (D : Does w n (.ref f) (self :: args) kw s W post) : Does w n (.ref q) args kw s W post :=
 fun dp un fr gd R h1 h2 h3 => by
  refine codeAny_of_tree ?_
  show wpAny _ _ (load q >>= _) _ _ _
  refine wpAny_bind (wpAny_load hq ?_)
  refine bm_if_true rfl ?_
  exact wpAny_pure ⟨rfl, D dp un fr gd R h1 h2 h3⟩
theorem wp_split {M : Model} {Γ : Ctx} {env : Env} {Q : Flow → Pos → Shared → Prop} {E : Value → Pos → Shared → Prop} {r : List Stmt} {l : List Stmt} {p : Pos} {s : Shared} :
  Sem.wp M Γ (execs l env) (fun f p' s' => match f with | .next => Sem.wp M Γ (execs r env) Q E p' s' | f => Q f p' s') E p s → Sem.wp M Γ (execs (l ++ r) env) Q E p s := by
 induction l generalizing p s with
 | nil => exact id
 | cons st l ih =>
  intro h
  show Sem.wp M Γ (execs (st :: (l ++ r)) env) Q E p s
  rw [execs_cons] at h ⊢
  rw [Sem.wp_bind'] at h ⊢
  refine Sem.wp_mono M Γ _ (fun f p' s' h'' => ?_) (fun _ _ _ z => z) p s h
  cases f with
  | next => exact ih h''
  | _ => exact h''
theorem x_split {M : Model} {A : Around} {E : Value → Shared → Prop} {env : Env} {Q : Flow → Shared → Prop} {l r : List Stmt} {s : Shared}
  (h : wpX M A (execs l env) (fun f s' => match f with | .next => wpX M A (execs r env) Q E s' | f => Q f s') E s) : wpX M A (execs (l ++ r) env) Q E s := fun Γ p a b c => by
 refine wp_split (Sem.wp_mono M Γ _ (fun f p' s' z => ?_) (fun _ _ _ z => z) p s (h Γ p a b c))
 cases f with
 | next => exact z Γ p' a b c
 | _ => exact z
theorem hk20 : True := by
 k_with "xnil" => repeat (first | refine x_execs_nil ?_ | (with_reducible refine kontX_next (by with_reducible assumption) ?_) | dsimp only)
 trivial
theorem x_cut1 {M : Model} {A : Around} {E : Value → Shared → Prop} {env : Env} {Q : Flow → Shared → Prop} {a : Stmt} {r : List Stmt} {s : Shared} (P : Shared → Prop)
  (h : ∀ K : Shared → Prop, (∀ s', P s' → K s') → wpX M A (execs [a] env) (fun f s' => f = .next ∧ K s') (fun _ _ => False) s) (k : ∀ s', P s' → wpX M A (execs r env) Q E s') : wpX M A (execs (a :: r) env) Q E s :=
 x_split (l := [a]) (x_mono (h P fun _ q => q) (fun f s' z => by obtain ⟨rfl, z⟩ := z; exact k s' z) fun _ _ z => z.elim)
theorem x_cut2 {M : Model} {A : Around} {E : Value → Shared → Prop} {env : Env} {Q : Flow → Shared → Prop} {a b : Stmt} {r : List Stmt} {s : Shared} (P : Shared → Prop)
  (h : ∀ K : Shared → Prop, (∀ s', P s' → K s') → wpX M A (execs [a, b] env) (fun f s' => f = .next ∧ K s') (fun _ _ => False) s) (k : ∀ s', P s' → wpX M A (execs r env) Q E s') : wpX M A (execs (a :: b :: r) env) Q E s :=
 x_split (l := [a, b]) (x_mono (h P fun _ q => q) (fun f s' z => by obtain ⟨rfl, z⟩ := z; exact k s' z) fun _ _ z => z.elim)
theorem x_cut3 {M : Model} {A : Around} {E : Value → Shared → Prop} {env : Env} {Q : Flow → Shared → Prop} {a b c : Stmt} {r : List Stmt} {s : Shared} (P : Shared → Prop)
  (h : ∀ K : Shared → Prop, (∀ s', P s' → K s') → wpX M A (execs [a, b, c] env) (fun f s' => f = .next ∧ K s') (fun _ _ => False) s) (k : ∀ s', P s' → wpX M A (execs r env) Q E s') : wpX M A (execs (a :: b :: c :: r) env) Q E s :=
 x_split (l := [a, b, c]) (x_mono (h P fun _ q => q) (fun f s' z => by obtain ⟨rfl, z⟩ := z; exact k s' z) fun _ _ z => z.elim)
theorem hk21 : True := by
 k_with "ks" => k_steps
 k_with "xs_arg1" => ((try dsimp only); (refine x_callsK (by k_is) rfl (x_any ?_)); k_steps; (refine x_noMore ⟨Frag.In.keeps (by assumption) (Fr.keep (by k_asm)), ?_⟩))
 trivial
def SeqCut (g : Heap) (L : Addr) (m₀ : Str → Option Value) (news : List (Addr × Obj)) (v : Int) (s s' : Shared) : Prop :=
 ∃ v1 v2 q h' tk', s' = { s with heap := h', toks := tk' } ∧ Fr g L h' (fun y => if y = Str.ofString "sequence" then some (.int v q) else if y = Str.ofString "anyonecanpay" then some v1 else if y = Str.ofString "sh" then some v2 else m₀ y) ∧ News g L h' news
theorem SeqCut.mk {g : Heap} {L : Addr} {m₀ : Str → Option Value} {news : List (Addr × Obj)} {v v' : Int} {s : Shared} {v1 v2 : Value} {q : Tok} {h' : Heap} {tk' : Nat} (hv : v = v') (F : Fr g L h' (fun y => if y = Str.ofString "sequence" then some (.int v' q) else if y = Str.ofString "anyonecanpay" then some v1 else if y = Str.ofString "sh" then some v2 else m₀ y)) (N : News g L h' news) :
  SeqCut g L m₀ news v s ⟨h', s.gens, s.drawn, tk', s.os⟩ := by
 subst hv; exact ⟨_, _, _, _, _, rfl, F, N⟩
theorem SeqCut.elim {g : Heap} {L : Addr} {m₀ : Str → Option Value} {news : List (Addr × Obj)} {v : Int} {s s' : Shared} {b : Shared → Prop} (H : SeqCut g L m₀ news v s s')
  (k : ∀ v1 v2 q h' tk', Fr g L h' (fun y => if y = Str.ofString "sequence" then some (.int v q) else if y = Str.ofString "anyonecanpay" then some v1 else if y = Str.ofString "sh" then some v2 else m₀ y) → News g L h' news → b ⟨h', s.gens, s.drawn, tk', s.os⟩) : b s' := by
 obtain ⟨v1, v2, q, h', tk', rfl, F, N⟩ := H; exact k _ _ _ _ _ F N

section
variable {a b c : Str} {v v0 v1 v2 : Option Value} {m M : Str → Option Value}
theorem m1_n (h1 : M a = none) : ∀ y, M y = if y = a then none else M y := by
 intro y; split
 ·rename_i e; rw [e, h1]
 ·rfl
theorem m1_a (h : ∀ y, m y = if y = a then v0 else M y) : ∀ y, (if y = a then v else m y) = if y = a then v else M y := by
 intro y; split
 ·rfl
 ·rename_i e; rw [h y, if_neg e]
theorem m2_n (h1 : M a = none) (h2 : M b = none) : ∀ y, M y = if y = a then none else if y = b then none else M y := by
 intro y; split
 ·rename_i e; rw [e, h1]
 ·split
  ·rename_i e; rw [e, h2]
  ·rfl
theorem m2_a (h : ∀ y, m y = if y = a then v0 else if y = b then v1 else M y) : ∀ y, (if y = a then v else m y) = if y = a then v else if y = b then v1 else M y := by
 intro y; split
 ·rfl
 ·rename_i e; rw [h y, if_neg e]
theorem m2_b (ba : b ≠ a) (h : ∀ y, m y = if y = a then v0 else if y = b then v1 else M y) : ∀ y, (if y = b then v else m y) = if y = a then v0 else if y = b then v else M y := by
 intro y; split
 ·rename_i e; rw [e, if_neg ba]
 ·rename_i e; rw [h y, if_neg e]
theorem m3_n (h1 : M a = none) (h2 : M b = none) (h3 : M c = none) : ∀ y, M y = if y = a then none else if y = b then none else if y = c then none else M y := by
 intro y; split
 ·rename_i e; rw [e, h1]
 ·exact m2_n h2 h3 y
theorem m3_a (h : ∀ y, m y = if y = a then v0 else if y = b then v1 else if y = c then v2 else M y) : ∀ y, (if y = a then v else m y) = if y = a then v else if y = b then v1 else if y = c then v2 else M y := by
 intro y; split
 ·rfl
 ·rename_i e; rw [h y, if_neg e]
theorem m3_b (ba : b ≠ a) (h : ∀ y, m y = if y = a then v0 else if y = b then v1 else if y = c then v2 else M y) : ∀ y, (if y = b then v else m y) = if y = a then v0 else if y = b then v else if y = c then v2 else M y := by
 intro y; split
 ·rename_i e; rw [e, if_neg ba]
 ·rename_i e; rw [h y, if_neg e]
theorem m3_c (ca : c ≠ a) (cb : c ≠ b) (h : ∀ y, m y = if y = a then v0 else if y = b then v1 else if y = c then v2 else M y) : ∀ y, (if y = c then v else m y) = if y = a then v0 else if y = b then v1 else if y = c then v else M y := by
 intro y; split
 ·rename_i e; rw [e, if_neg ca, if_neg cb]
 ·rename_i e; rw [h y, if_neg e]
end
theorem hk22 : True := by
 k_with "kmap" => first | exact fun _ => rfl | exact m1_n rfl | exact m2_n rfl rfl | exact m3_n rfl rfl rfl | exact m2_a fun _ => rfl | exact m2_b (by decide) fun _ => rfl | (apply m2_a; walk_at "kmap") | (apply m2_b (by decide); walk_at "kmap") | exact m1_a fun _ => rfl | (apply m1_a; walk_at "kmap")
 trivial
theorem news_drop {g h : Heap} {L : Addr} {l : List (Addr × Obj)} (n : Nat) (N : News g L h l) : News g L h (l.drop n) := fun p m => N p (List.mem_of_mem_drop m)
theorem news_sub {g h : Heap} {L : Addr} {l l' : List (Addr × Obj)} (N : News g L h l) (k : ∀ p ∈ l', p ∈ l) : News g L h l' := fun p m => N p (k p m)
def seqOf (k : Nat) (q : Nat) : Nat := if k < 2 then q else 0
theorem seq_hi {k q : Nat} (h : 128 ≤ k) : ((seqOf k q : Nat) : Int) = 0 := by unfold seqOf; rw [if_neg (by omega)]; rfl
theorem seq_in {k q : Nat} (h : ([3, 2].any fun x : Int => x == ((k % 128 : Nat) : Int)) = true) : ((seqOf k q : Nat) : Int) = 0 := by
 unfold seqOf
 simp only [List.any_cons, List.any_nil, Bool.or_false, Bool.or_eq_true, beq_iff_eq] at h
 rw [if_neg (by omega)]; rfl
theorem seq_out {k q : Nat} (hk : k ∈ kinds) (h1 : ¬ 128 ≤ k) (h : ([3, 2].any fun x : Int => x == ((k % 128 : Nat) : Int)) = false) : ((seqOf k q : Nat) : Int) = (q : Int) := by
 unfold seqOf
 rw [if_pos ((by decide +kernel : ∀ k ∈ kinds, ¬ 128 ≤ k → ([3, 2].any fun x : Int => x == ((k % 128 : Nat) : Int)) = false → k < 2) k hk h1 h)]
theorem seqOf_lt {k q n : Nat} (h : q < n) : seqOf k q < n := by unfold seqOf; split <;> omega
theorem hk23 : True := by
 k_with "call type:reversed" => (k_here; (with_reducible show wpAny _ _ (PySem.call (Value.type _) [Value.bytes _ _]) _ _ _); (refine rev_K (by k_asm) (by k_asm) (by walk_at "kk_size") ?_); intro I'9 h'9 k'9 F'9 N'9 lrev9)
 k_with "call type:bytes" => (k_here; (with_reducible show wpAny _ _ (PySem.call (Value.type _) [Value.ref _]) _ _ _); (refine revb_K rfl (by k_asm) (by k_asm) (by assumption) (by walk_at "kk_size") ?_); intro h'9 u'9 k'9 F'9 N'9)
 k_with "call ref" => (k_here; (with_reducible show wpAny _ _ (PySem.call (Value.ref _) _ _) _ _ _); (show wpAny _ _ (PySem.call (Value.ref _) [Value.int _ _] _) _ _ _); (refine use0 (Does.meth (f := 916) (self := .ref 922) (News.get (by k_asm) (by k_mem)) (sig_check (by assumption) (by walk_at "kk_st") (by assumption))) (by k_asm) (by k_asm) (by walk_at "kk_num") (by walk_at "kk_num") ?_); intro K8 hK8 r9 h'9 tk'9 F'9 n09 l19 l29 p9; obtain ⟨tp9, q9, e19, e29, e39⟩ := p9; subst e19; (have N'9 := news_fresh (by k_asm) e29 e39 n09); clear n09 l19 l29; (refine hK8 _ _ _ ?_))
 trivial
def Binds1 (w : World) (f : Addr) (s : Shared) (args : Args) (binds : List (Str × Value)) : Prop :=
 ∃ oc od osl name qual params body scope dV kV doc pm cdv ct an, (Kc w.params).lookup f = some ⟨oc, od, .func (fnOf name qual params body scope dV kV doc pm an cdv ct), osl⟩ ∧ BindsTo s (fnOf name qual params body scope dV kV doc pm an cdv ct) args binds
theorem Binds1.use {w : World} {f : Addr} {s : Shared} {args : Args} {binds : List (Str × Value)} (B : Binds1 w f s args binds) {oc : Value} {od : Option Addr} {fd : FuncData} {sl : Array (Option Value)}
  (h : (Kc w.params).lookup f = some ⟨oc, od, .func fd, sl⟩) : BindsTo s fd args binds := by
 obtain ⟨_, _, _, _, _, _, _, _, _, _, _, _, _, _, _, e, b⟩ := B
 rw [e] at h; cases h; exact b
theorem Binds1.mk {w : World} {f : Addr} {s : Shared} {args : Args} {binds : List (Str × Value)} {oc : Value} {od : Option Addr} {osl : Array (Option Value)} {name qual : Str} {params : Arguments} {body : List Stmt} {scope : Scope} {dV kV doc pm cdv ct : Value} {an : Option Addr}
  (ho : (Kc w.params).lookup f = some ⟨oc, od, .func (fnOf name qual params body scope dV kV doc pm an cdv ct), osl⟩) (hb : BindsTo s (fnOf name qual params body scope dV kV doc pm an cdv ct) args binds) : Binds1 w f s args binds :=
 ⟨_, _, _, _, _, _, _, _, _, _, _, _, _, _, _, ho, hb⟩
theorem hk24 : True := by
 k_with "kk_binds1" => ((refine' Binds1.mk ?ho ?hb); (case ho => k_is); (case hb => first | exact BindsTo.of_eq rfl | exact binds_K (Frag.In.keeps (Gd.X (by assumption)) (by assumption)) rfl (by k_is) rfl rfl rfl))
 trivial
def WrCut (w : World) (g : Heap) (L : Addr) (M : Str → Option Value) (x d bx : Addr) (k1 k2 : Nat) (C : Array UInt8) (v : Int) (s s' : Shared) : Prop :=
 ∃ q h' tk' t, s' = ⟨h', s.gens, s.drawn, tk', s.os⟩ ∧ Fr g L h' (fun y => if y = Str.ofString "res" then some (.int v q) else M y) ∧ News g L h' (strmW w x d bx k1 k2 C t)
theorem WrCut.mk {w : World} {g : Heap} {L : Addr} {M : Str → Option Value} {x d bx : Addr} {k1 k2 : Nat} {C : Array UInt8} {v : Int} {s : Shared} {q : Tok} {h' : Heap} {tk' : Nat} {t : Tok} (F : Fr g L h' (fun y => if y = Str.ofString "res" then some (.int v q) else M y)) (N : News g L h' (strmW w x d bx k1 k2 C t)) : WrCut w g L M x d bx k1 k2 C v s ⟨h', s.gens, s.drawn, tk', s.os⟩ := ⟨_, _, _, _, rfl, F, N⟩
theorem WrCut.elim {w : World} {g : Heap} {L : Addr} {M : Str → Option Value} {x d bx : Addr} {k1 k2 : Nat} {C : Array UInt8} {v : Int} {s s' : Shared} {B : Shared → Prop} (H : WrCut w g L M x d bx k1 k2 C v s s')
  (k : ∀ q h' tk' t, Fr g L h' (fun y => if y = Str.ofString "res" then some (.int v q) else M y) → News g L h' (strmW w x d bx k1 k2 C t) → B ⟨h', s.gens, s.drawn, tk', s.os⟩) : B s' := by
 obtain ⟨q, h', tk', t, rfl, F, N⟩ := H; exact k _ _ _ _ F N
section
variable {w : World} {hb : Heap} {mean : ExcName → Option Value} {mg mb : Str → Option Value} {s : Shared} {x d bx : Addr} {k1 k2 : Nat} {b : Array UInt8} {t : Tok}
theorem in_writeG (G : Gd w hb mean mg mb) (st : St hb s.heap) (S : StrmAt w hb s.heap x d bx k1 k2 b t) {a : TIn} (H : Has (a.frag w) s.heap) {sc scd : Addr} {ks : Nat} {c : Array UInt8} {tc : Tok} (HS : Has (scrF w sc scd ks tc c) s.heap) {sv : Value} (hs : sv = .none ∧ sc = a.s ∨ sv = .ref sc) {k : Nat} {tk : Tok} (hk : k ∈ kinds)
  (hv : a.vout < 4294967296) (hq : a.seq < 4294967296) (hz : b.size ≤ 900000) (hc : c.size ≤ 255) (hi : a.txid.size = 32) {args : List Value}
  (B : Binds1 w 1094 s ⟨args, []⟩ [(Str.ofString "self", Value.ref a.x), (Str.ofString "stream", .ref x), (Str.ofString "script_sig", sv), (Str.ofString "sighash", .int (k : Int) tk)]) :
  DoesX w 30 (.ref 1094) args [] s [d, bx] (Wrote w d bx k1 k2 b (a.txid.toList.reverse.toArray ++ le 4 a.vout ++ (sized c.size ++ c) ++ le 4 (seqOf k a.seq))) := by
 walk_at "ir"
 refine' enterX (binds := [(Str.ofString "self", Value.ref a.x), (Str.ofString "stream", .ref x), (Str.ofString "script_sig", sv), (Str.ofString "sighash", .int (k : Int) tk)]) G st (strmW w x d bx k1 k2 b t) ?hW ?ho ?hcd ?hroom ?hbind ?hloc ?h ?hcell ?hco ?hgen ?hk
 case ho => k_is
 case hbind => exact B.use (by k_is)
 case hcd => k_is
 case hroom => omega
 case hloc => exact locs rfl
 case hcell => decide
 case hco => rfl
 case hgen => rfl
 case hk => rfl
 case hW => exact S.ledger
 walk_at "ig"
 have HI9 := H.sub S a.noBio sub
 have gx := HI9.i0
 have gd' := HI9.i1
 have gw := HI9.i4
 have gwd := HI9.i5
 have gl := HI9.i6
 have HS9 := HS.sub S rfl sub
 have gsc := HS9.s0
 have gscd := HS9.s1
 refine x_cut2 (SeqCut g L (fun y => [(Str.ofString "self", Value.ref a.x), (Str.ofString "stream", .ref x), (Str.ofString "script_sig", sv), (Str.ofString "sighash", .int (k : Int) tk)].reverse.lookup y) (strmW w x d bx k1 k2 b t) (seqOf k a.seq) s) (fun K7 hK7 => ?_) ?_
 ·walk_at "xa"
  walk_at "kx"
  all_goals (rename News _ _ _ _ => N9)
  all_goals first
   | (exact hK7 _ (SeqCut.mk (seq_hi (by assumption)) (by k_asm) (by walk_at "nd")))
   | (exact hK7 _ (SeqCut.mk (seq_in (by assumption)) (by k_asm) (by walk_at "nd")))
   | (exact hK7 _ (SeqCut.mk (seq_out hk (by assumption) (by assumption)) (by k_asm) (by walk_at "nd")))
 ·intro s' H9
  refine SeqCut.elim H9 ?_
  clear H9 F N
  intro v1 v2 q h' tk' F' N'
  have xd := S.xd
  have xb := S.xb
  have db := S.db
  have dx := Ne.symm xd
  have bxx := Ne.symm xb
  have bd := Ne.symm db
  have hsz := @sized_size c.size
  have hrv : a.txid.toList.reverse.toArray.size = 32 := by simp [hi]
  have hsq : (seqOf k a.seq : Int) < 4294967296 := by exact Int.ofNat_lt.mpr (seqOf_lt (k := k) hq)
  clear hk
  k_lt l1
  walk_at "xk"
  k_steps
  walk_at "xs_arg1"
  walk_at "x_write"
  k_steps
  walk_at "xl"
  k_steps
  refine x_meth (x_any ?_)
  k_steps
  walk_at "xs_arg1"
  walk_at "x_write"
  k_steps
  refine x_cut1 (WrCut w g L m9 x d bx k1 k2 (b ++ a.txid.toList.reverse.toArray ++ le 4 a.vout ++ (sized c.size ++ c)) ((a.txid.toList.reverse.toArray.size : Int) + ((le 4 a.vout).size : Int) + ((sized c.size ++ c).size : Int)) s) (fun K7 hK7 => ?_) ?_
  ·rcases hs with ⟨rfl, rfl⟩ | rfl
   all_goals
    walk_at "xi"
    k_steps
    walk_at "xl"
    k_steps
    refine x_meth (x_any ?_)
    k_steps
    (try dsimp only)
    walk_at "sx"
    k_steps
    walk_at "xc"
    walk_at "x_ser"
    walk_at "xm"
    walk_at "x_write"
    k_steps
    walk_at "xnil"
    walk_at "r8"
    exact ⟨rfl, hK7 _ (WrCut.mk F8 N8)⟩
  intro s' H9
  refine WrCut.elim H9 ?_
  clear H9 hs B
  (try clear F'9 N'9)
  intro q9 h' tk' t' F' N'
  walk_at "xl"
  k_steps
  refine x_meth (x_any ?_)
  k_steps
  walk_at "xs_arg1"
  walk_at "x_write"
  k_steps
  walk_at "xa"
  k_steps
  refine leaves (by k_asm) fun _ => fun e => hQ _ _ _ (ext_drop e S.hx (News.get (by k_asm) (by k_mem))) (wrote_end (News.get (by k_asm) (by k_mem)) (News.get (by k_asm) (by k_mem)) (by simp only [Array.append_assoc]) (by simp [Int.add_assoc]))
theorem in_write (G : Gd w hb mean mg mb) (st : St hb s.heap) (S : StrmAt w hb s.heap x d bx k1 k2 b t) {a : TIn} (H : Has (a.frag w) s.heap) {sc scd : Addr} {ks : Nat} {c : Array UInt8} {tc : Tok} (HS : Has (scrF w sc scd ks tc c) s.heap) {k : Nat} {tk : Tok} (hk : k ∈ kinds)
  (hv : a.vout < 4294967296) (hq : a.seq < 4294967296) (hz : b.size ≤ 900000) (hc : c.size ≤ 255) (hi : a.txid.size = 32) {args : List Value}
  (B : Binds1 w 1094 s ⟨args, []⟩ [(Str.ofString "self", Value.ref a.x), (Str.ofString "stream", .ref x), (Str.ofString "script_sig", .ref sc), (Str.ofString "sighash", .int (k : Int) tk)]) :
  DoesX w 30 (.ref 1094) args [] s [d, bx] (Wrote w d bx k1 k2 b (a.txid.toList.reverse.toArray ++ le 4 a.vout ++ (sized c.size ++ c) ++ le 4 (seqOf k a.seq))) :=
 in_writeG G st S H HS (.inr rfl) hk hv hq hz hc hi B
theorem in_writeN (G : Gd w hb mean mg mb) (st : St hb s.heap) (S : StrmAt w hb s.heap x d bx k1 k2 b t) {a : TIn} (H : Has (a.frag w) s.heap) {k : Nat} {tk : Tok} (hk : k ∈ kinds)
  (hv : a.vout < 4294967296) (hq : a.seq < 4294967296) (hz : b.size ≤ 900000) (hc : a.scr.size ≤ 255) (hi : a.txid.size = 32) {args : List Value}
  (B : Binds1 w 1094 s ⟨args, []⟩ [(Str.ofString "self", Value.ref a.x), (Str.ofString "stream", .ref x), (Str.ofString "script_sig", .none), (Str.ofString "sighash", .int (k : Int) tk)]) :
  DoesX w 30 (.ref 1094) args [] s [d, bx] (Wrote w d bx k1 k2 b (a.txid.toList.reverse.toArray ++ le 4 a.vout ++ (sized a.scr.size ++ a.scr) ++ le 4 (seqOf k a.seq))) :=
 in_writeG G st S H ⟨H.i2, H.i3, trivial⟩ (.inl ⟨rfl, rfl⟩) hk hv hq hz hc hi B
end
end
section
section
variable {w : World} {hb : Heap} {mean : ExcName → Option Value} {mg mb : Str → Option Value} {s : Shared} {x d bx : Addr} {k1 k2 : Nat} {b : Array UInt8} {t : Tok}
theorem in_write2 (G : Gd w hb mean mg mb) (st : St hb s.heap) (S : StrmAt w hb s.heap x d bx k1 k2 b t) {a : TIn} (H : Has (a.frag w) s.heap) {sc scd : Addr} {ks : Nat} {c : Array UInt8} {tc : Tok} (HS : Has (scrF w sc scd ks tc c) s.heap) {k : Nat} {tk : Tok} (hk : k ∈ kinds)
  (hv : a.vout < 4294967296) (hq : a.seq < 4294967296) (hz : b.size ≤ 900000) (hc : c.size ≤ 255) (hi : a.txid.size = 32) :
  DoesX w 30 (.ref 1094) [.ref a.x, .ref x, .ref sc, .int (k : Int) tk] [] s [d, bx] (Wrote w d bx k1 k2 b (a.txid.toList.reverse.toArray ++ le 4 a.vout ++ (sized c.size ++ c) ++ le 4 (seqOf k a.seq))) :=
in_write (tk := tk) G st S H HS hk hv hq hz hc hi (by walk_at "kk_binds1")
theorem in_write1 (G : Gd w hb mean mg mb) (st : St hb s.heap) (S : StrmAt w hb s.heap x d bx k1 k2 b t) {a : TIn} (H : Has (a.frag w) s.heap) {sc scd : Addr} {ks : Nat} {c : Array UInt8} {tc : Tok} (HS : Has (scrF w sc scd ks tc c) s.heap)
  (hv : a.vout < 4294967296) (hq : a.seq < 4294967296) (hz : b.size ≤ 900000) (hc : c.size ≤ 255) (hi : a.txid.size = 32) :
  DoesX w 30 (.ref 1094) [.ref a.x, .ref x, .ref sc] [] s [d, bx] (Wrote w d bx k1 k2 b (a.txid.toList.reverse.toArray ++ le 4 a.vout ++ (sized c.size ++ c) ++ le 4 a.seq)) :=
 in_write (k := 1) G st S H HS (by decide) hv hq hz hc hi (by walk_at "kk_binds1")
theorem in_write0 (G : Gd w hb mean mg mb) (st : St hb s.heap) (S : StrmAt w hb s.heap x d bx k1 k2 b t) {a : TIn} (H : Has (a.frag w) s.heap)
  (hv : a.vout < 4294967296) (hq : a.seq < 4294967296) (hz : b.size ≤ 900000) (hc : a.scr.size ≤ 255) (hi : a.txid.size = 32) :
  DoesX w 30 (.ref 1094) [.ref a.x, .ref x] [] s [d, bx] (Wrote w d bx k1 k2 b (a.txid.toList.reverse.toArray ++ le 4 a.vout ++ (sized a.scr.size ++ a.scr) ++ le 4 a.seq)) :=
 in_writeN (k := 1) G st S H (by decide) hv hq hz hc hi (by walk_at "kk_binds1")
end
end
section
def inB (txid : Array UInt8) (vout : Nat) (c : Array UInt8) (seq : Nat) : Array UInt8 := txid.toList.reverse.toArray ++ le 4 vout ++ (sized c.size ++ c) ++ le 4 seq
theorem inB_size {txid c : Array UInt8} {vout seq : Nat} (h : txid.size = 32) : (inB txid vout c seq).size ≤ 43 + c.size := by
 unfold inB
 have := @sized_size c.size
 simp only [Array.size_append, List.size_toArray, List.length_reverse, Array.length_toList, le_size, h]
 omega
section
variable {w : World} {hb : Heap} {mean : ExcName → Option Value} {mg mb : Str → Option Value} {s : Shared}
theorem in_ser1 (G : Gd w hb mean mg mb) (st : St hb s.heap) {a : TIn} {sc scd : Addr} {ks : Nat} {c : Array UInt8} {tc : Tok} (H : Has (a.frag w) s.heap) (HS : Has (scrF w sc scd ks tc c) s.heap) (hv : a.vout < 4294967296) (hq : a.seq < 4294967296) (hc : c.size ≤ 255) (hi : a.txid.size = 32) :
  DoesX w 40 (.ref 705) [.ref a.x, .ref sc] [] s [] (fun r _ => ∃ q, r = .bytes (inB a.txid a.vout c a.seq) q) :=
 ser (fW := 1094) (n := 30) G st ⟨by k_is, by k_is, by k_is, by k_is, by k_is, by k_is, _, _, _, _, by k_is⟩ H.1 H.2.1 rfl (by simp) (Nat.le_trans (inB_size hi) (by omega)) (by decide) (by decide) fun k st' S => in_write1 G st' S (H.up k) (HS.up k) hv hq (by decide) hc hi
theorem in_ser2 (G : Gd w hb mean mg mb) (st : St hb s.heap) {a : TIn} {sc scd : Addr} {ks : Nat} {c : Array UInt8} {tc : Tok} {k : Nat} {tk : Tok} (H : Has (a.frag w) s.heap) (HS : Has (scrF w sc scd ks tc c) s.heap) (hv : a.vout < 4294967296) (hq : a.seq < 4294967296) (hc : c.size ≤ 255) (hi : a.txid.size = 32) (hk : k ∈ kinds) :
  DoesX w 40 (.ref 705) [.ref a.x, .ref sc, .int (k : Int) tk] [] s [] (fun r _ => ∃ q, r = .bytes (inB a.txid a.vout c (seqOf k a.seq)) q) :=
 ser (fW := 1094) (n := 30) G st ⟨by k_is, by k_is, by k_is, by k_is, by k_is, by k_is, _, _, _, _, by k_is⟩ H.1 H.2.1 rfl (by simp) (Nat.le_trans (inB_size hi) (by omega)) (by decide) (by decide) fun k st' S => in_write2 G st' S (H.up k) (HS.up k) hk hv hq (by decide) hc hi
end
end
section
def LoopEnd (P : (Str → Option Value) → List (Addr × Obj) → Prop) (g : Heap) (L it : Addr) (o : Obj) (s₀ s₃ : Shared) : Prop :=
 ∃ h tk m news, s₃ = { s₀ with heap := h, toks := tk } ∧ P m news ∧ Fr g L h m ∧ News g L h ((it, o) :: news)
def LoopStart (P : (Str → Option Value) → List (Addr × Obj) → Prop) (g : Heap) (L l : Addr) (s₀ : Shared) (x : Value) (s₁ : Shared) : Prop :=
 x = .ref l ∧ ∃ h tk m news, s₁ = { s₀ with heap := h, toks := tk } ∧ P m news ∧ Fr g L h m ∧ News g L h news
theorem fr_congr {g h : Heap} {L : Addr} {m m' : Str → Option Value} (F : Fr g L h m) (e : ∀ y, m y = m' y) : Fr g L h m' := by
 have : m = m' := funext e
 rw [← this]; exact F
def JK (as : List Addr) (P : Nat → (Str → Option Value) → List (Addr × Obj) → Prop) (g : Heap) (L l : Addr) (s₀ : Shared) (it : Addr) (i : Nat) (s' : Shared) : Prop :=
 ∃ h tk m news o, s' = { s₀ with heap := h, toks := tk } ∧ P i m news ∧ Fr g L h m ∧ News g L h ((it, o) :: news) ∧ h.IsListIter it l i ∧ (∀ p ∈ as, p < it) ∧ L < it ∧ g.get? it = none
section
variable {as : List Addr} {P : Nat → (Str → Option Value) → List (Addr × Obj) → Prop} {g h' : Heap} {L l it : Addr} {s₀ s' : Shared} {i : Nat}
theorem JK.below (hA : ∀ i m news, P i m news → news.map (·.1) = as) {m : Str → Option Value} {news : List (Addr × Obj)} (hP : P i m news) (hl : ∀ p ∈ as, p < it) : ∀ q ∈ news, q.1 ≠ it := fun q hq => by
 have : q.1 ∈ as := by rw [← hA _ _ _ hP]; exact List.mem_map_of_mem hq
 exact Nat.ne_of_lt (hl _ this)
theorem JK.start (hA : ∀ i m news, P i m news → news.map (·.1) = as) {h : Heap} {tk : Nat} {m : Str → Option Value} {news : List (Addr × Obj)} (hP : P 0 m news) (F : Fr g L h m) (N : News g L h news) : JK as P g L l s₀ h.objs.size 0 { s₀ with heap := h.push (iterObj l 0), toks := tk } :=
 ⟨h.push (iterObj l 0), tk, m, news, iterObj l 0, rfl, hP, F.push _, N.push F _, ⟨_, Heap.get?_push_size _ rfl, rfl, rfl⟩, fun p hp => by
  rw [← hA _ _ _ hP] at hp
  obtain ⟨q, hq, rfl⟩ := List.mem_map.mp hp
  exact Heap.lt_size (N q hq).1, F.ns.lt, (N.push F (iterObj l 0) rfl (h.objs.size, iterObj l 0) (.head _)).2.2⟩
theorem JK.at (H : JK as P g L l s₀ it i s') : s'.heap.IsListIter it l i ∧ ∃ m, Fr g L s'.heap m := by
 refine hideP fun B9 k9 => ?_
 obtain ⟨h, tk, m, news, o, rfl, hP, F, N, hi, l1, l2, gi⟩ := H
 refine k9 ?_; clear k9
 exact ⟨hi, m, F⟩
theorem JK.fr {h : Heap} {m : Str → Option Value} (F : Fr g L h m) (l2 : L < it) (gi : g.get? it = none) (k : ∀ b o, b ≠ it → h.get? b = some o → h'.get? b = some o) : Fr g L h' m := by
 obtain ⟨oL, a1, a2, hL, a3⟩ := F.ns
 exact ⟨⟨oL, a1, a2, k _ _ (Nat.ne_of_lt l2) hL, a3⟩, fun b o q => k _ _ (fun z => by rw [z, gi] at q; cases q) (F.keep b o q), F.above⟩
theorem JK.next (hA : ∀ i m news, P i m news → news.map (·.1) = as) (H : JK as P g L l s₀ it i s') (hi : h'.IsListIter it l (i + 1)) (hsb : Heap.SameBut it s'.heap h') :
  ∃ m news o' tk, { s' with heap := h' } = { s₀ with heap := h', toks := tk } ∧ P i m news ∧ Fr g L h' m ∧ News g L h' ((it, o') :: news) ∧ (∀ p ∈ as, p < it) ∧ L < it ∧ ∀ s₃, LoopEnd (P (i + 1)) g L it o' s₀ s₃ → JK as P g L l s₀ it (i + 1) s₃ := by
 refine hideP fun B9 k9 => ?_
 obtain ⟨h, tk, m, news, o, rfl, hP, F, N, hi0, l1, l2, gi⟩ := H
 obtain ⟨o', ho', hoc, hod⟩ := hi
 refine k9 ?_; clear k9
 refine ⟨m, news, o', tk, rfl, hP, JK.fr F l2 gi hsb.extBut, fun q hq => ?_, l1, l2, fun s₃ H => ?_⟩
 ·rcases List.mem_cons.mp hq with rfl | hq
  ·exact ⟨ho', Nat.ne_of_gt l2, gi⟩
  ·have := N q (.tail _ hq)
   exact ⟨hsb.extBut _ _ (JK.below hA hP l1 q hq) this.1, this.2⟩
 ·refine hideP fun B9 k9 => ?_
  obtain ⟨h'', tk'', m'', news'', rfl, hP'', F'', N''⟩ := H
  refine k9 ?_; clear k9
  exact ⟨h'', tk'', m'', news'', o', rfl, hP'', F'', N'', ⟨o', (N'' (it, o') (.head _)).1, hoc, hod⟩, l1, l2, gi⟩
theorem JK.stop (hA : ∀ i m news, P i m news → news.map (·.1) = as) (H : JK as P g L l s₀ it i s') (k : ∀ b o, b ≠ it → s'.heap.get? b = some o → h'.get? b = some o) :
  ∃ m news tk, { s' with heap := h' } = { s₀ with heap := h', toks := tk } ∧ P i m news ∧ Fr g L h' m ∧ News g L h' news := by
 refine hideP fun B9 k9 => ?_
 obtain ⟨h, tk, m, news, o, rfl, hP, F, N, hi0, l1, l2, gi⟩ := H
 refine k9 ?_; clear k9
 exact ⟨m, news, tk, rfl, hP, JK.fr F l2 gi k, fun q hq => ⟨k _ _ (JK.below hA hP l1 q hq) (N q (.tail _ hq)).1, (N q (.tail _ hq)).2⟩⟩
end
theorem x_forK {p : Program} {w : World} {A : Around} {E : Value → Shared → Prop} {env : Env} {t iter : Expr} {body : List Stmt} {pos : Pos} {vs : List Value} {l : Addr} {s s₀ : Shared} {Q : Flow → Shared → Prop} {g : Heap} {L : Addr}
  (as : List Addr) (P : Nat → (Str → Option Value) → List (Addr × Obj) → Prop) (hh : A.handled = none) (ht : ∀ it v, letOwnedTupleGo t (.ref it) v = pure ()) (hg : g.IsList l vs.toArray)
  (start : wpAny (model p w) A (eval iter env) (LoopStart (P 0) g L l s₀) E s)
  (turn : ∀ i v m news it o h tk, vs[i]? = some v → P i m news → Fr g L h m → News g L h ((it, o) :: news) → (∀ p ∈ as, p < it) → L < it →
   wpAny (model p w) A (assign t env v) (fun _ s₂ => wpX (model p w) A (execs body env) (fun f s₃ => match f with | .next | .cont => LoopEnd (P (i + 1)) g L it o s₀ s₃ | .brk => Q .next s₃ | .ret v => Q (.ret v) s₃) (fun _ _ => False) s₂) (fun _ _ => False) { s₀ with heap := h, toks := tk })
  (done : ∀ m news h tk, P vs.length m news → Fr g L h m → News g L h news → Q .next { s₀ with heap := h, toks := tk })
  (hA : ∀ i m news, P i m news → news.map (·.1) = as) (hs : ∀ x, foldedSetIterable iter env x = pure x := by intro _; rfl) : wpX (model p w) A (exec (.For t iter body [] pos) env) Q E s := by
 refine hideP fun B9 k9 => ?_
 obtain ⟨ol, hol, hlc, hln, hld⟩ := hg
 refine k9 ?_; clear k9
 have isl : ∀ {h : Heap} {m : Str → Option Value}, Fr g L h m → h.IsList l vs.toArray := fun F => ⟨ol, F.keep _ _ hol, hlc, hln, hld⟩
 refine x_for (vs := vs) (l := l) (J := JK as P g L l s₀) hh ht (wpAny_mono start (fun x s₁ h => ?_) fun _ _ z => z) (fun it i s' h => ⟨h.at.1, isl h.at.2.choose_spec⟩) (fun it i v s' h' hJ hv hi hsb => ?_) (fun it s' h' hJ k => ?_) hs
 ·refine hideP fun B9 k9 => ?_
  obtain ⟨rfl, h, tk, m, news, rfl, hP, F, N⟩ := h
  refine k9 ?_; clear k9
  exact ⟨rfl, isl F, JK.start hA hP F N⟩
 ·refine hideP fun B9 k9 => ?_
  obtain ⟨m, news, o', tk, e, hP, F', N', l1, l2, fin⟩ := JK.next hA hJ hi hsb
  refine k9 ?_; clear k9
  rw [e]
  refine wpAny_mono (turn i v m news it o' h' tk hv hP F' N' l1 l2) (fun _ s₂ h₂ => x_mono h₂ (fun f s₃ h₃ => ?_) fun _ _ z => z) fun _ _ z => z
  cases f with
  | next => exact fin _ h₃
  | cont => exact fin _ h₃
  | brk => exact h₃
  | ret v => exact h₃
 ·refine hideP fun B9 k9 => ?_
  obtain ⟨m, news, tk, e, hP, F', N'⟩ := JK.stop hA hJ k
  refine k9 ?_; clear k9
  rw [e]
  exact done m news h' tk hP F' N'
structure TTx where
 x : Addr
 d : Addr
 vi : Addr
 vo : Addr
 ni : Nat
 no : Nat
 k1 : Nat
 k2 : Nat
 k3 : Nat
 k4 : Nat
 k5 : Nat
 k6 : Nat
 k7 : Nat
 k8 : Nat
 k9 : Nat
 tv : Tok
 tl : Tok
 ver : Nat
 lock : Nat
 ins : List TIn
 outs : List TOut
 c1 : Value
 c2 : Value
 c3 : Value
abbrev TTx.dict (w : World) (a : TTx) : Obj := dictOf [ent w "version" a.k1 (.int (a.ver : Int) a.tv), ent w "locktime" a.k2 (.int (a.lock : Int) a.tl), ent w "vin" a.k3 (.ref a.vi), ent w "vout" a.k4 (.ref a.vo), ent w "_hash_prevouts" a.k5 a.c1, ent w "_hash_sequence" a.k6 a.c2, ent w "_hash_outputs" a.k7 a.c3, ent w "_hash_amounts" a.k8 .none, ent w "_hash_script_pubkeys" a.k9 .none] 9
def TTx.low (w : World) (a : TTx) : List (Addr × Obj) := (a.vi, listOf (a.ins.map fun i => Value.ref i.x).toArray a.ni) :: (a.vo, listOf (a.outs.map fun o => Value.ref o.x).toArray a.no) :: (a.ins.flatMap (TIn.frag w) ++ a.outs.flatMap (TOut.frag w))
def TTx.frag (w : World) (a : TTx) : List (Addr × Obj) := (a.x, instObj 1061 a.d) :: (a.d, a.dict w) :: a.low w
theorem all_flatMap {α : Type} {f : α → List (Addr × Obj)} {q : Addr × Obj → Bool} (h : ∀ a, (f a).all q = true) : ∀ l : List α, (l.flatMap f).all q = true
 | [] => rfl
 | a :: l => by rw [List.flatMap_cons, List.all_append, h a, all_flatMap h l]; rfl
theorem TTx.noBioL {w : World} (a : TTx) : (a.low w).all (fun p => Kk.noBio p.2) = true := by
 unfold TTx.low
 rw [List.all_cons, List.all_cons, List.all_append, all_flatMap TIn.noBio, all_flatMap TOut.noBio]; rfl
theorem TTx.noBio {w : World} (a : TTx) : (a.frag w).all (fun p => Kk.noBio p.2) = true := by
 unfold TTx.frag
 rw [List.all_cons, List.all_cons, TTx.noBioL]; rfl
section
variable {w : World} {a : TTx} {h : Heap}
theorem Has.l0 (H : Has (a.low w) h) : h.get? a.vi = some (listOf (a.ins.map fun i => Value.ref i.x).toArray a.ni) := H.1
theorem Has.l1 (H : Has (a.low w) h) : h.get? a.vo = some (listOf (a.outs.map fun o => Value.ref o.x).toArray a.no) := H.2.1
theorem Has.low (H : Has (a.frag w) h) : Has (a.low w) h := H.2.2
theorem Has.t0 (H : Has (a.frag w) h) : h.get? a.x = some (instObj 1061 a.d) := H.1
theorem Has.t1 (H : Has (a.frag w) h) : h.get? a.d = some (a.dict w) := H.2.1
end
theorem Has.inp {w : World} {a : TTx} {h : Heap} (H : Has (a.low w) h) {i : TIn} (m : i ∈ a.ins) : Has (i.frag w) h := Has.part (f := TIn.frag w) (Has.left H.2.2) m
theorem Has.out {w : World} {a : TTx} {h : Heap} (H : Has (a.low w) h) {o : TOut} (m : o ∈ a.outs) : Has (o.frag w) h := Has.part (f := TOut.frag w) (Has.right H.2.2) m
end
section
def segP (m₀ : Str → Option Value) (x : Str) (news₀ : List (Addr × Obj)) (m : Str → Option Value) (news : List (Addr × Obj)) : Prop := news = news₀ ∧ ∃ v, ∀ y, m y = if y = x then v else m₀ y
theorem seg_step {c : Prop} {i1 i2 i3 : Decidable c} {a b d : Option Value} : @ite _ c i1 a (@ite _ c i2 b d) = @ite _ c i3 a d := by
 by_cases e : c
 ·rw [if_pos e, if_pos e]
 ·rw [if_neg e, if_neg e, if_neg e]
theorem seg_start {c : Prop} {i : Decidable c} {a : Option Value} (h : c → a = none) : a = @ite _ c i none a := by
 by_cases e : c
 ·rw [if_pos e, h e]
 ·rw [if_neg e]
theorem hk25 : True := by
 k_with "kk_seg" => first | exact fun y => seg_step | exact fun y => seg_start fun e => by subst e; rfl
 trivial
section
variable {w : World} {hb : Heap} {mean : ExcName → Option Value} {mg mb : Str → Option Value} {s : Shared}
theorem tx_segwit (G : Gd w hb mean mg mb) (st : St hb s.heap) {a : TTx} (H : Has (a.frag w) s.heap) :
  DoesX w 30 (.ref 957) [.ref a.x] [] s [] (fun r _ => r = .bool false) := by
 walk_at "ir"
 refine' enterX (binds := [(Str.ofString "self", .ref a.x)]) G st [] ?hW ?ho ?hcd ?hroom ?hbind ?hloc ?h ?hcell ?hco ?hgen ?hk
 walk_at "kk_enter"
 case hW => intro p hp; cases hp
 walk_at "ig"
 clear l1
 have HG := H.sub0 sub
 have HL := HG.low
 have gx := HG.t0
 have gd := HG.t1
 have gvi := HL.l0
 ((try k_steps); refine x_execs fun K9 hK9 => (x_forK (g := g) (L := L) (s₀ := s) (vs := a.ins.map fun i => Value.ref i.x) (l := a.vi) [] (fun _ => segP (fun y => [(Str.ofString "self", Value.ref a.x)].reverse.lookup y) (Str.ofString "inp") []) rfl (fun _ _ => rfl) ⟨_, gvi, rfl, _, rfl⟩ ?start ?turn ?done ?hA))
 case hA => rintro _ m news ⟨rfl, _⟩; rfl
 case start =>
  k_steps
  refine ⟨rfl, _, _, _, _, rfl, ⟨rfl, none, ?_⟩, F, N⟩
  walk_at "kk_seg"
 case turn =>
  rintro i v m news it o h tk hv ⟨rfl, v0, hm⟩ F' N' l1 l2
  clear F N
  have F := fr_congr F' hm
  clear F' hm
  rw [List.getElem?_map] at hv
  obtain ⟨j, hj, rfl⟩ := Option.map_eq_some_iff.mp hv
  have HI := Has.inp HL (List.mem_of_getElem? hj)
  clear hv
  k_steps
  ((try k_steps); refine x_execs fun K9 hK9 => (x_if (x_truth (x_attr (x_any ?_)))))
  k_steps
  have gj := HI.i0
  have gjd := HI.i1
  refine use_prop (C := 1107) (by k_asm) (by k_asm) (by assumption) (inst_base (by k_asm) gj gjd) (by k_is) (by k_is) (by k_is) (by k_is) (by k_is) (by k_is) (in_segwit (by assumption) (by walk_at "kk_st") (Has.fr HI (by k_asm))) (by walk_at "kk_num") (by walk_at "kk_num") ?_
  intro r h' tk' F' N' e1
  subst e1
  refine ⟨rfl, ?_⟩
  k_steps
  walk_at "xnil"
  walk_at "xnil"
  refine ⟨_, _, _, _, rfl, ⟨rfl, some (.ref j.x), ?_⟩, F', N'⟩
  walk_at "kk_seg"
 case done =>
  rintro m news h tk ⟨rfl, v0, hm⟩ F' N'
  clear F N
  have F := fr_congr F' hm
  clear F' hm
  walk_at "xa"
  k_steps
  exact leaves (by k_asm) fun _ => fun e => hQ _ _ _ e rfl
end
end
section
def cat : List (Array UInt8) → Array UInt8
 | [] => #[]
 | a :: r => a ++ cat r
theorem cat_snoc (a : Array UInt8) : ∀ l : List (Array UInt8), cat (l ++ [a]) = cat l ++ a
 | [] => by show a ++ #[] = #[] ++ a; simp
 | b :: l => by show b ++ cat (l ++ [a]) = b ++ cat l ++ a; rw [cat_snoc a l, Array.append_assoc]
theorem cat_take {α : Type} {f : α → Array UInt8} {l : List α} {i : Nat} {a : α} (h : l[i]? = some a) : cat ((l.take (i + 1)).map f) = cat ((l.take i).map f) ++ f a := by
 rw [List.take_succ, h]
 simp only [Option.toList_some, List.map_append, List.map_cons, List.map_nil, cat_snoc]
theorem cat_size {α : Type} {f : α → Array UInt8} {k : Nat} : ∀ {l : List α}, (∀ a ∈ l, (f a).size ≤ k) → (cat (l.map f)).size ≤ k * l.length
 | [], _ => Nat.zero_le _
 | a :: l, h => by
  have h1 := h a (.head _)
  have h2 := cat_size (l := l) fun b m => h b (.tail _ m)
  show (f a ++ cat (l.map f)).size ≤ k * (l.length + 1)
  rw [Array.size_append, Nat.mul_succ]; omega
theorem cat_size_take {α : Type} {f : α → Array UInt8} {k n i : Nat} {l : List α} (h : ∀ a ∈ l, (f a).size ≤ k) (hn : l.length ≤ n) : (cat ((l.take i).map f)).size ≤ k * n :=
 Nat.le_trans (cat_size fun a m => h a (List.mem_of_mem_take m)) (Nat.mul_le_mul_left _ (Nat.le_trans (by rw [List.length_take]; exact Nat.min_le_right _ _) hn))
def TIn.oct (a : TIn) : Array UInt8 := inB a.txid a.vout a.scr a.seq
def outB (v : Nat) (c : Array UInt8) : Array UInt8 := le 8 v ++ (sized c.size ++ c)
def TOut.oct (a : TOut) : Array UInt8 := outB a.val a.scr
theorem outB_size {v : Nat} {c : Array UInt8} : (outB v c).size ≤ 11 + c.size := by
 unfold outB
 have := @sized_size c.size
 simp only [Array.size_append, le_size]
 omega
structure TIn.Ok (a : TIn) : Prop where
 hv : a.vout < 4294967296
 hq : a.seq < 4294967296
 hc : a.scr.size ≤ 255
 hi : a.txid.size = 32
structure TOut.Ok (a : TOut) : Prop where
 hv : a.val < 18446744073709551616
 hc : a.scr.size ≤ 255
structure TTx.Ok (a : TTx) : Prop where
 hv : a.ver < 4294967296
 hl : a.lock < 4294967296
 n1 : 1 ≤ a.ins.length
 n2 : a.ins.length ≤ 3
 n3 : a.outs.length ≤ 20
 hi : ∀ i ∈ a.ins, i.Ok
 ho : ∀ o ∈ a.outs, o.Ok
theorem TIn.Ok.size {a : TIn} (o : a.Ok) : a.oct.size ≤ 298 := by have := @inB_size a.txid a.scr a.vout a.seq o.hi; have := o.hc; unfold TIn.oct; omega
theorem TOut.Ok.size {a : TOut} (o : a.Ok) : a.oct.size ≤ 266 := by have := @outB_size a.val a.scr; have := o.hc; unfold TOut.oct; omega
def TTx.oct (a : TTx) : Array UInt8 := le 4 a.ver ++ sized a.ins.length ++ cat (a.ins.map TIn.oct) ++ (sized a.outs.length ++ cat (a.outs.map TOut.oct)) ++ le 4 a.lock
theorem TTx.Ok.size {a : TTx} (o : a.Ok) : a.oct.size ≤ 10000 := by
 have h1 := Nat.le_trans (cat_size (f := TIn.oct) (k := 298) (l := a.ins) fun i m => (o.hi i m).size) (Nat.mul_le_mul_left 298 o.n2)
 have h2 := Nat.le_trans (cat_size (f := TOut.oct) (k := 266) (l := a.outs) fun i m => (o.ho i m).size) (Nat.mul_le_mul_left 266 o.n3)
 have h3 := @sized_size a.ins.length
 have h4 := @sized_size a.outs.length
 unfold TTx.oct
 walk_at "kk_size"
def wrP (w : World) (x d bx : Addr) (k1 k2 : Nat) (b : Array UInt8) (m₀ : Str → Option Value) (n : Str) (c : Array UInt8) (m : Str → Option Value) (news : List (Addr × Obj)) : Prop :=
 ∃ v q t, (∀ y, m y = if y = Str.ofString "res" then some (.int (c.size : Int) q) else if y = n then v else m₀ y) ∧ news = strmW w x d bx k1 k2 (b ++ c) t
end
section
theorem isl_baseN {g h : Heap} {L l : Addr} {m : Str → Option Value} {vs : List Value} {n : Nat} (F : Fr g L h m) (e : g.get? l = some (listOf vs.toArray n)) : h.IsList l vs.toArray := ⟨_, F.keep _ _ e, rfl, _, rfl⟩
theorem len_map {w : World} {A : Around} {E Q : Value → Shared → Prop} {s : Shared} {l : Addr} {α : Type} {f : α → Value} {vs : List α} (hl : s.heap.IsList l (vs.map f).toArray) (hz : vs.length ≤ 1000000) (h : ∀ t k, Q (.int (vs.length : Int) t) { s with toks := k }) : wpAny (model prog w) A (PySem.call (.builtin "len") [.ref l]) Q E s :=
 len_list hl (by rw [List.length_map]; exact hz) fun t k => by rw [List.length_map]; exact h t k
theorem hk26 : True := by
 k_with "call builtin:len" => (k_here; (with_reducible show wpAny _ _ (PySem.call (Value.builtin "len") [Value.ref _]) _ _ _); (refine len_map (isl_baseN (by k_asm) (by assumption)) ?_ ?_); (first | assumption | exact Nat.zero_le _ | walk_at "kk_size"); intro _ _)
 trivial
theorem wrP_mk {w : World} {x d bx : Addr} {k1 k2 : Nat} {b b' c : Array UInt8} {m₀ m : Str → Option Value} {n : Str} {news : List (Addr × Obj)} {v : Option Value} {r : Int} {q t : Tok} (hm : ∀ y, m y = if y = Str.ofString "res" then some (.int r q) else if y = n then v else m₀ y) (hr : r = (c.size : Int)) (hn : news = strmW w x d bx k1 k2 b' t) (hb : b' = b ++ c) : wrP w x d bx k1 k2 b m₀ n c m news := by
 subst hr; subst hb
 exact ⟨_, _, _, hm, hn⟩
section
variable {w : World} {hb : Heap} {mean : ExcName → Option Value} {mg mb : Str → Option Value} {s : Shared} {x d bx : Addr} {k1 k2 : Nat} {b : Array UInt8} {t : Tok}
theorem tx_write (G : Gd w hb mean mg mb) (st : St hb s.heap) (S : StrmAt w hb s.heap x d bx k1 k2 b t) {a : TTx} (H : Has (a.frag w) s.heap) (O : a.Ok) (hz : b.size ≤ 100000) : DoesX w 50 (.ref 965) [.ref a.x, .ref x] [] s [d, bx] (Wrote w d bx k1 k2 b a.oct) := by
 walk_at "ir"
 refine' enterX (binds := [(Str.ofString "self", .ref a.x), (Str.ofString "stream", .ref x)]) G st (strmW w x d bx k1 k2 b t) ?hW ?ho ?hcd ?hroom ?hbind ?hloc ?h ?hcell ?hco ?hgen ?hk
 walk_at "kk_enter"
 case hW => exact S.ledger
 walk_at "ig"
 have HG := H.sub S a.noBio sub
 have HL := HG.low
 have gx := HG.t0
 have gd' := HG.t1
 have gvi := HL.l0
 have gvo := HL.l1
 have xd := S.xd
 have xb := S.xb
 have db := S.db
 have dx := Ne.symm xd
 have bxx := Ne.symm xb
 have bd := Ne.symm db
 have hsz := @sized_size a.ins.length
 have hsz' := @sized_size a.outs.length
 have hv := O.hv
 have hl := O.hl
 have hn2 := O.n2
 have hn3 := O.n3
 k_lt l1
 walk_at "xk"
 k_steps
 walk_at "xs_arg1"
 walk_at "x_write"
 k_steps
 ((try k_steps); refine x_execs fun K9 hK9 => (x_if (x_truth (x_attr (x_any ?_)))))
 k_steps
 refine use_prop (C := 1061) (by k_asm) (by k_asm) (by assumption) (inst_base (by k_asm) gx gd') (by k_is) (by k_is) (by k_is) (by k_is) (by k_is) (by k_is) (tx_segwit (by assumption) (by walk_at "kk_st") (Has.fr HG (by k_asm))) (by walk_at "kk_num") (by walk_at "kk_num") ?_
 intro r h' tk' F' N' e1
 subst e1
 refine ⟨rfl, ?_⟩
 k_steps
 walk_at "xnil"
 walk_at "xl"
 k_steps
 refine x_meth (x_any ?_)
 k_steps
 walk_at "xs_arg1"
 walk_at "x_write"
 k_steps
 (try dsimp only)
 walk_at "r9"
 ((try k_steps); refine x_execs fun K9 hK9 => (x_forK (g := g) (L := L) (s₀ := s) (vs := a.ins.map fun i => Value.ref i.x) (l := a.vi) [x, d, bx] (fun i => wrP w x d bx k1 k2 b (fun y => [(Str.ofString "self", Value.ref a.x), (Str.ofString "stream", .ref x)].reverse.lookup y) (Str.ofString "inp") ((le 4 a.ver ++ sized a.ins.length) ++ cat ((a.ins.take i).map TIn.oct))) rfl (fun _ _ => rfl) ⟨_, gvi, rfl, _, rfl⟩ ?start ?turn ?done ?hA))
 case hA => rintro _ m news ⟨_, _, _, _, rfl⟩; rfl
 case start =>
  k_steps
  refine' ⟨rfl, _, _, _, _, rfl, wrP_mk (v := none) ?hm_inp ?hr_inp rfl ?hb_inp, F9, N9⟩
  case hm_inp =>
   walk_at "kmap"
  case hr_inp => (simp only [List.take_zero, List.map_nil, cat, Array.append_empty, Array.size_append, Int.natCast_add]; try omega)
  case hb_inp => (simp only [List.take_zero, List.map_nil, cat, Array.append_empty, Array.append_assoc]; done)
 case turn =>
  intro i v m news it o h tk hv p9 F' N' l2 l3
  refine hideP fun B9 k9 => ?_
  obtain ⟨v0, q, t0, hm, rfl⟩ := p9
  refine k9 ?_; clear k9
  clear F9 N9
  (try clear F N)
  have F := fr_congr F' hm
  clear F' hm
  rw [List.getElem?_map] at hv
  refine hideP fun B9 k9 => ?_
  obtain ⟨j, hj, rfl⟩ := Option.map_eq_some_iff.mp hv
  refine k9 ?_; clear k9
  have jm := List.mem_of_getElem? hj
  have HI := Has.inp HL jm
  have hcat : ((le 4 a.ver ++ sized a.ins.length) ++ cat ((a.ins.take (i + 1)).map TIn.oct)) = ((le 4 a.ver ++ sized a.ins.length) ++ cat ((a.ins.take i).map TIn.oct)) ++ TIn.oct j := by rw [cat_take hj]; simp only [Array.append_assoc]
  have hcz : ((le 4 a.ver ++ sized a.ins.length) ++ cat ((a.ins.take i).map TIn.oct)).size ≤ 9000 := by
   have := cat_size_take (i := i) (f := TIn.oct) (k := 298) (l := a.ins) (fun a m => (O.hi a m).size) O.n2
   have h5 := @sized_size a.ins.length
   have h6 := @sized_size a.outs.length

   walk_at "kk_size"
  rw [hcat]
  generalize ((le 4 a.ver ++ sized a.ins.length) ++ cat ((a.ins.take i).map TIn.oct)) = C at *
  clear hv hcat
  have jok := O.hi j jm
  have joz := jok.size
  have l4 := ltN (l2 _ (.head _))
  have l5 := ltN (l2 _ (.tail _ (.head _)))
  have l6 := ltN (l2 _ (.tail _ (.tail _ (.head _))))
  clear l2
  replace l3 := ltN l3
  k_steps
  walk_at "xl"
  k_steps
  have gj := HI.i0
  have gjd := HI.i1
  refine x_meth (x_any ?_)
  k_steps
  (try dsimp only)
  walk_at "sy"
  k_steps
  walk_at "xm"
  show wpX _ _ (PySem.call _ [Value.ref _, Value.ref _] []) _ _ _
  refine useX2w (c := j.oct) (in_write0 (by assumption) (by walk_at "kk_st") (StrmAt.ofNews (by assumption) (by k_asm) (by k_mem) (by k_mem) (by k_mem)) (Has.fr HI (by k_asm)) jok.hv jok.hq (by walk_at "kk_size") jok.hc jok.hi) (by k_asm) (by k_asm) (by k_mem) (by k_mem) (by walk_at "kk_num") (by walk_at "kk_num") ?_
  intro q t' h' tk' F' n0
  have N' := n0 _ _ (by k_upd) (by k_upd)
  clear n0
  k_steps
  walk_at "xnil"
  walk_at "r8"
  refine' ⟨_, _, _, _, rfl, wrP_mk (v := some (.ref j.x)) ?hm2_inp ?hr2_inp rfl ?hb2_inp, F8, N8⟩
  case hm2_inp =>
   walk_at "kmap"
  case hr2_inp => (simp only [Array.size_append, Int.natCast_add]; done)
  case hb2_inp => (simp only [Array.append_assoc]; done)
 case done =>
  intro m news h tk p9 F' N'
  refine hideP fun B9 k9 => ?_
  obtain ⟨v0, q, t0, hm, rfl⟩ := p9
  refine k9 ?_; clear k9
  clear F9 N9
  (try clear F N)
  have hE : ((le 4 a.ver ++ sized a.ins.length) ++ cat ((a.ins.take (a.ins.map fun i => Value.ref i.x).length).map TIn.oct)) = ((le 4 a.ver ++ sized a.ins.length) ++ cat (a.ins.map TIn.oct)) := by rw [List.take_of_length_le (by rw [List.length_map]; exact Nat.le_refl _)]
  rw [hE] at hm N'
  clear hE
  have F := fr_congr F' hm
  clear F' hm
  have hcz : (cat (a.ins.map TIn.oct)).size ≤ 894 := Nat.le_trans (cat_size (f := TIn.oct) (k := 298) (l := a.ins) fun i m => (O.hi i m).size) (by omega)
  walk_at "xl"
  k_steps
  refine x_meth (x_any ?_)
  k_steps
  walk_at "xs_arg1"
  walk_at "x_write"
  k_steps
  (try dsimp only)
  walk_at "r9"
  ((try k_steps); refine x_execs fun K9 hK9 => (x_forK (g := g) (L := L) (s₀ := s) (vs := a.outs.map fun i => Value.ref i.x) (l := a.vo) [x, d, bx] (fun i => wrP w x d bx k1 k2 b (fun y => if y = Str.ofString "inp" then v0 else [(Str.ofString "self", Value.ref a.x), (Str.ofString "stream", .ref x)].reverse.lookup y) (Str.ofString "out") ((le 4 a.ver ++ sized a.ins.length ++ cat (a.ins.map TIn.oct) ++ sized a.outs.length) ++ cat ((a.outs.take i).map TOut.oct))) rfl (fun _ _ => rfl) ⟨_, gvo, rfl, _, rfl⟩ ?start ?turn ?done ?hA))
  case hA => rintro _ m news ⟨_, _, _, _, rfl⟩; rfl
  case start =>
   k_steps
   refine' ⟨rfl, _, _, _, _, rfl, wrP_mk (v := none) ?hm_out ?hr_out rfl ?hb_out, F9, N9⟩
   case hm_out =>
    walk_at "kmap"
   case hr_out => (simp only [List.take_zero, List.map_nil, cat, Array.append_empty, Array.size_append, Int.natCast_add]; try omega)
   case hb_out => (simp only [List.take_zero, List.map_nil, cat, Array.append_empty, Array.append_assoc]; done)
  case turn =>
   intro i v m news it o h tk hv p9 F' N' l2 l3
   refine hideP fun B9 k9 => ?_
   obtain ⟨v0, q, t0, hm, rfl⟩ := p9
   refine k9 ?_; clear k9
   clear F9 N9
   (try clear F N)
   have F := fr_congr F' hm
   clear F' hm
   rw [List.getElem?_map] at hv
   refine hideP fun B9 k9 => ?_
   obtain ⟨j, hj, rfl⟩ := Option.map_eq_some_iff.mp hv
   refine k9 ?_; clear k9
   have jm := List.mem_of_getElem? hj
   have HI := Has.out HL jm
   have hcat : ((le 4 a.ver ++ sized a.ins.length ++ cat (a.ins.map TIn.oct) ++ sized a.outs.length) ++ cat ((a.outs.take (i + 1)).map TOut.oct)) = ((le 4 a.ver ++ sized a.ins.length ++ cat (a.ins.map TIn.oct) ++ sized a.outs.length) ++ cat ((a.outs.take i).map TOut.oct)) ++ TOut.oct j := by rw [cat_take hj]; simp only [Array.append_assoc]
   have hcz : ((le 4 a.ver ++ sized a.ins.length ++ cat (a.ins.map TIn.oct) ++ sized a.outs.length) ++ cat ((a.outs.take i).map TOut.oct)).size ≤ 9000 := by
    have := cat_size_take (i := i) (f := TOut.oct) (k := 266) (l := a.outs) (fun a m => (O.ho a m).size) O.n3
    have h5 := @sized_size a.ins.length
    have h6 := @sized_size a.outs.length
    have h7 := Nat.le_trans (cat_size (f := TIn.oct) (k := 298) (l := a.ins) fun i m => (O.hi i m).size) (Nat.mul_le_mul_left 298 O.n2)
    walk_at "kk_size"
   rw [hcat]
   generalize ((le 4 a.ver ++ sized a.ins.length ++ cat (a.ins.map TIn.oct) ++ sized a.outs.length) ++ cat ((a.outs.take i).map TOut.oct)) = C at *
   clear hv hcat
   have jok := O.ho j jm
   have joz := jok.size
   have l4 := ltN (l2 _ (.head _))
   have l5 := ltN (l2 _ (.tail _ (.head _)))
   have l6 := ltN (l2 _ (.tail _ (.tail _ (.head _))))
   clear l2
   replace l3 := ltN l3
   k_steps
   walk_at "xl"
   k_steps
   have gj := HI.o0
   have gjd := HI.o1
   have gjs := HI.o2
   have gjsd := HI.o3
   refine x_meth (x_any ?_)
   k_steps
   (try dsimp only)
   walk_at "sy"
   k_steps
   walk_at "xm"
   show wpX _ _ (PySem.call _ [Value.ref _, Value.ref _] []) _ _ _
   refine useX2w (c := j.oct) (out_write (by assumption) (by walk_at "kk_st") (StrmAt.ofNews (by assumption) (by k_asm) (by k_mem) (by k_mem) (by k_mem)) (Fr.keep (by k_asm) _ _ gj) (Fr.keep (by k_asm) _ _ gjd) ⟨Fr.keep (by k_asm) _ _ gjs, Fr.keep (by k_asm) _ _ gjsd⟩ jok.hv (by walk_at "kk_size") jok.hc) (by k_asm) (by k_asm) (by k_mem) (by k_mem) (by walk_at "kk_num") (by walk_at "kk_num") ?_
   intro q t' h' tk' F' n0
   have N' := n0 _ _ (by k_upd) (by k_upd)
   clear n0
   k_steps
   walk_at "xnil"
   walk_at "r8"
   refine' ⟨_, _, _, _, rfl, wrP_mk (v := some (.ref j.x)) ?hm2_out ?hr2_out rfl ?hb2_out, F8, N8⟩
   case hm2_out =>
    walk_at "kmap"
   case hr2_out => (simp only [Array.size_append, Int.natCast_add]; done)
   case hb2_out => (simp only [Array.append_assoc]; done)
  case done =>
   intro m news h tk p9 F' N'
   refine hideP fun B9 k9 => ?_
   obtain ⟨v0, q, t0, hm, rfl⟩ := p9
   refine k9 ?_; clear k9
   clear F9 N9
   (try clear F N)
   have hE : ((le 4 a.ver ++ sized a.ins.length ++ cat (a.ins.map TIn.oct) ++ sized a.outs.length) ++ cat ((a.outs.take (a.outs.map fun i => Value.ref i.x).length).map TOut.oct)) = ((le 4 a.ver ++ sized a.ins.length ++ cat (a.ins.map TIn.oct) ++ sized a.outs.length) ++ cat (a.outs.map TOut.oct)) := by rw [List.take_of_length_le (by rw [List.length_map]; exact Nat.le_refl _)]
   rw [hE] at hm N'
   clear hE
   have F := fr_congr F' hm
   clear F' hm
   have hcz2 : (cat (a.outs.map TOut.oct)).size ≤ 5320 := Nat.le_trans (cat_size (f := TOut.oct) (k := 266) (l := a.outs) fun i m => (O.ho i m).size) (by omega)
   ((try k_steps); refine x_execs fun K9 hK9 => (x_if (x_truth (x_attr (x_any ?_)))))
   k_steps
   refine use_prop (C := 1061) (by k_asm) (by k_asm) (by assumption) (inst_base (by k_asm) gx gd') (by k_is) (by k_is) (by k_is) (by k_is) (by k_is) (by k_is) (tx_segwit (by assumption) (by walk_at "kk_st") (Has.fr HG (by k_asm))) (by walk_at "kk_num") (by walk_at "kk_num") ?_
   intro r h' tk' F' N' e1
   subst e1
   refine ⟨rfl, ?_⟩
   k_steps
   walk_at "xnil"
   walk_at "xl"
   k_steps
   refine x_meth (x_any ?_)
   k_steps
   walk_at "xs_arg1"
   walk_at "x_write"
   k_steps
   walk_at "xa"
   k_steps
   refine leaves (by k_asm) fun _ => fun e => hQ _ _ _ (ext_drop e S.hx (News.get (by k_asm) (by k_mem))) (wrote_end (News.get (by k_asm) (by k_mem)) (News.get (by k_asm) (by k_mem)) (by simp only [TTx.oct, Array.append_assoc]) (by simp only [TTx.oct, Array.size_append, Int.natCast_add, Int.add_assoc]))

end
end
section
section
variable {w : World} {hb : Heap} {mean : ExcName → Option Value} {mg mb : Str → Option Value} {s : Shared}
theorem tx_ser (G : Gd w hb mean mg mb) (st : St hb s.heap) {a : TTx} (H : Has (a.frag w) s.heap) (O : a.Ok) :
  DoesX w 60 (.ref 705) [.ref a.x] [] s [] (fun r _ => ∃ q, r = .bytes (a.oct) q) :=
 ser (fW := 965) (n := 50) G st ⟨by k_is, by k_is, by k_is, by k_is, by k_is, by k_is, _, _, _, _, by k_is⟩ H.1 H.2.1 rfl (by decide) (Nat.le_trans O.size (by decide)) (by decide) (by decide) fun k st' S => tx_write G st' S (H.up k) O (by decide)
end
end
section
section
variable {p : Program} {w : World} {A : Around} {E : Value → Shared → Prop} {env : Env}
theorem a_for {t iter : Expr} {body : List Stmt} {pos : Pos} {vs : List Value} {l : Addr} {s : Shared} {J : Addr → Nat → Shared → Prop} {Q : Flow → Shared → Prop} (hh : A.handled = none) (ht : ∀ it v, letOwnedTupleGo t (.ref it) v = pure ())
  (start : wpAny (model p w) A (eval iter env) (fun x s₁ => x = .ref l ∧ s₁.heap.IsList l vs.toArray ∧ J s₁.heap.objs.size 0 { s₁ with heap := s₁.heap.push (iterObj l 0) }) E s)
  (facts : ∀ it i s, J it i s → s.heap.IsListIter it l i ∧ s.heap.IsList l vs.toArray)
  (turn : ∀ it i v s h', J it i s → vs[i]? = some v → h'.IsListIter it l (i + 1) → Heap.SameBut it s.heap h' →
   wpAny (model p w) A (assign t env v) (fun _ s₂ => wpAny (model p w) A (execs body env) (fun f s₃ => match f with | .next | .cont => J it (i + 1) s₃ | .brk => Q .next s₃ | .ret v => Q (.ret v) s₃) (fun _ _ => False) s₂) (fun _ _ => False) { s with heap := h' })
  (done : ∀ it s h', J it vs.length s → (∀ b o, b ≠ it → s.heap.get? b = some o → h'.get? b = some o) → Q .next { s with heap := h' })
  (hs : ∀ x, foldedSetIterable iter env x = pure x := by intro _; rfl) :
  wpAny (model p w) A (exec (.For t iter body [] pos) env) Q E s :=
 b_for (b := false) hh ht start facts turn done hs
theorem a_forK {t iter : Expr} {body : List Stmt} {pos : Pos} {vs : List Value} {l : Addr} {s s₀ : Shared} {Q : Flow → Shared → Prop} {g : Heap} {L : Addr}
  (as : List Addr) (P : Nat → (Str → Option Value) → List (Addr × Obj) → Prop) (hh : A.handled = none) (ht : ∀ it v, letOwnedTupleGo t (.ref it) v = pure ()) (hg : g.IsList l vs.toArray)
  (start : wpAny (model p w) A (eval iter env) (LoopStart (P 0) g L l s₀) E s)
  (turn : ∀ i v m news it o h tk, vs[i]? = some v → P i m news → Fr g L h m → News g L h ((it, o) :: news) → (∀ p ∈ as, p < it) → L < it →
   wpAny (model p w) A (assign t env v) (fun _ s₂ => wpAny (model p w) A (execs body env) (fun f s₃ => match f with | .next | .cont => LoopEnd (P (i + 1)) g L it o s₀ s₃ | .brk => Q .next s₃ | .ret v => Q (.ret v) s₃) (fun _ _ => False) s₂) (fun _ _ => False) { s₀ with heap := h, toks := tk })
  (done : ∀ m news h tk, P vs.length m news → Fr g L h m → News g L h news → Q .next { s₀ with heap := h, toks := tk })
  (hA : ∀ i m news, P i m news → news.map (·.1) = as) (hs : ∀ x, foldedSetIterable iter env x = pure x := by intro _; rfl) : wpAny (model p w) A (exec (.For t iter body [] pos) env) Q E s := by
 refine hideP fun B9 k9 => ?_
 obtain ⟨ol, hol, hlc, hln, hld⟩ := hg
 refine k9 ?_; clear k9
 have isl : ∀ {h : Heap} {m : Str → Option Value}, Fr g L h m → h.IsList l vs.toArray := fun F => ⟨ol, F.keep _ _ hol, hlc, hln, hld⟩
 refine a_for (vs := vs) (l := l) (J := JK as P g L l s₀) hh ht (wpAny_mono start (fun x s₁ h => ?_) fun _ _ z => z) (fun it i s' h => ⟨h.at.1, isl h.at.2.choose_spec⟩) (fun it i v s' h' hJ hv hi hsb => ?_) (fun it s' h' hJ k => ?_) hs
 ·refine hideP fun B9 k9 => ?_
  obtain ⟨rfl, h, tk, m, news, rfl, hP, F, N⟩ := h
  refine k9 ?_; clear k9
  exact ⟨rfl, isl F, JK.start hA hP F N⟩
 ·refine hideP fun B9 k9 => ?_
  obtain ⟨m, news, o', tk, e, hP, F', N', l1, l2, fin⟩ := JK.next hA hJ hi hsb
  refine k9 ?_; clear k9
  rw [e]
  refine wpAny_mono (turn i v m news it o' h' tk hv hP F' N' l1 l2) (fun _ s₂ h₂ => wpAny_mono h₂ (fun f s₃ h₃ => ?_) fun _ _ z => z) fun _ _ z => z
  cases f with
  | next => exact fin _ h₃
  | cont => exact fin _ h₃
  | brk => exact h₃
  | ret v => exact h₃
 ·refine hideP fun B9 k9 => ?_
  obtain ⟨m, news, tk, e, hP, F', N'⟩ := JK.stop hA hJ k
  refine k9 ?_; clear k9
  rw [e]
  exact done m news h' tk hP F' N'
end
end
section
theorem le4_size {x : Int} : (le 4 x).size = 4 := le_size 4 x
def pointB (txid : Array UInt8) (vout : Nat) : Array UInt8 := txid.toList.reverse.toArray ++ le 4 vout
def TIn.point (a : TIn) : Array UInt8 := pointB a.txid a.vout
theorem TIn.Ok.psize {a : TIn} (o : a.Ok) : a.point.size ≤ 36 := by unfold TIn.point pointB; simp [le_size, o.hi]
def TIn.seqB (a : TIn) : Array UInt8 := le 4 a.seq
theorem TIn.ssize {a : TIn} : a.seqB.size ≤ 4 := by unfold TIn.seqB; rw [le_size]; exact Nat.le_refl _
def TTx.prevH (a : TTx) : Array UInt8 := dig (cat (a.ins.map TIn.point))
def TTx.seqH (a : TTx) : Array UInt8 := dig (cat (a.ins.map TIn.seqB))
def TTx.outH (a : TTx) : Array UInt8 := dig (cat (a.outs.map TOut.oct))
abbrev TTx.dictC (w : World) (a : TTx) (c1 c2 c3 : Value) : Obj := dictOf [ent w "version" a.k1 (.int (a.ver : Int) a.tv), ent w "locktime" a.k2 (.int (a.lock : Int) a.tl), ent w "vin" a.k3 (.ref a.vi), ent w "vout" a.k4 (.ref a.vo), ent w "_hash_prevouts" a.k5 c1, ent w "_hash_sequence" a.k6 c2, ent w "_hash_outputs" a.k7 c3, ent w "_hash_amounts" a.k8 .none, ent w "_hash_script_pubkeys" a.k9 .none] 9
def keptAs (c : Value) (b : Array UInt8) : Prop := c = .none ∨ ∃ t, c = .bytes b t
structure TTx.Kept (a : TTx) : Prop where
 h1 : keptAs a.c1 a.prevH
 h2 : keptAs a.c2 a.seqH
 h3 : keptAs a.c3 a.outH
def noTx (o : Obj) : Bool := !(keyOf o == some (Str.ofString "version")) && !(o.cls == .ref 1061)
theorem noTx_ne {o o' : Obj} (a : noTx o = true) (b : noTx o' = false) : o ≠ o' := fun e => by rw [e, b] at a; cases a
theorem TIn.noTx {w : World} (a : TIn) : (a.frag w).all (fun p => Kk.noTx p.2) = true := rfl
theorem TOut.noTx {w : World} (a : TOut) : (a.frag w).all (fun p => Kk.noTx p.2) = true := rfl
theorem TTx.noTxL {w : World} (a : TTx) : (a.low w).all (fun p => Kk.noTx p.2) = true := by
 unfold TTx.low
 rw [List.all_cons, List.all_cons, List.all_append, all_flatMap TIn.noTx, all_flatMap TOut.noTx]; rfl
theorem Has.subT {w : World} {h g : Heap} {a : TTx} {c1 c2 c3 : Value} {l : List (Addr × Obj)} (H : Has l h) (Hx : h.get? a.x = some (instObj 1061 a.d)) (Hd : h.get? a.d = some (a.dictC w c1 c2 c3)) (n : l.all (fun p => noTx p.2) = true)
  (sub : ∀ b' o, h.get? b' = some o → b' ∉ ([(a.x, instObj 1061 a.d), (a.d, a.dictC w c1 c2 c3)] : List (Addr × Obj)).map (·.1) → g.get? b' = some o) : Has l g := H.mono fun p m e => by
 have np := List.all_eq_true.mp n p m
 have h1 := ne_obj e Hx (noTx_ne np rfl)
 have h2 := ne_obj e Hd (noTx_ne np rfl)
 exact sub _ _ e (by simp [h1, h2])
theorem TTx.xd {w : World} {h : Heap} {a : TTx} {c1 c2 c3 : Value} (Hx : h.get? a.x = some (instObj 1061 a.d)) (Hd : h.get? a.d = some (a.dictC w c1 c2 c3)) : a.x ≠ a.d := ne_obj Hx Hd (ne_cls (by intro e; cases e))
def hP (w : World) (hx hd : Addr) (k : Nat) (x d : Addr) (o : Obj) (m₀ : Str → Option Value) (n : Str) (c : Array UInt8) (m : Str → Option Value) (news : List (Addr × Obj)) : Prop :=
 ∃ v t, (∀ y, m y = if y = n then v else m₀ y) ∧ news = [(hx, instObj 58 hd), (hd, dictOf [ent w "data" k (.bytes c t)] 1), (x, instObj 1061 d), (d, o)]
theorem hP_mk {w : World} {hx hd : Addr} {k : Nat} {x d : Addr} {o : Obj} {m₀ m : Str → Option Value} {n : Str} {c c' : Array UInt8} {news : List (Addr × Obj)} {v : Option Value} {t : Tok} (hm : ∀ y, m y = if y = n then v else m₀ y) (hn : news = [(hx, instObj 58 hd), (hd, dictOf [ent w "data" k (.bytes c' t)] 1), (x, instObj 1061 d), (d, o)]) (hc : c' = c) : hP w hx hd k x d o m₀ n c m news := by
 subst hc; exact ⟨v, t, hm, hn⟩
section
variable {w : World} {hb : Heap} {mean : ExcName → Option Value} {mg mb : Str → Option Value} {s : Shared}
theorem hl_sha0 (G : Gd w hb mean mg mb) (st : St hb s.heap) :
  Does w 6 (.ref 77) [] [] s [] (fun r h' => ∃ x d, r = .ref x ∧ s.heap.objs.size ≤ d ∧ d < x ∧ h'.get? x = some (instObj 58 d) ∧ ∃ k t', h'.get? d = some (dictOf [ent w "data" k (.bytes #[] t')] 1)) := by
 walk_at "ir"
 obtain ⟨tb, hB⟩ : ∃ tb, Binds1 w 77 s ⟨[], []⟩ [(Str.ofString "data", .bytes #[] tb)] := ⟨_, by walk_at "kk_binds1"⟩
 refine' enter (binds := [(Str.ofString "data", .bytes #[] tb)]) G st [] ?hW ?ho ?hcd ?hroom ?hbind ?hloc ?h ?hcell ?hco ?hgen ?hk
 case ho => k_is
 case hbind => exact hB.use (by k_is)
 case hcd => k_is
 case hroom => omega
 case hloc => exact locs rfl
 case hcell => decide
 case hco => rfl
 case hgen => rfl
 case hk => rfl
 case hW => intro p hp; cases hp
 walk_at "ig"
 clear l1
 k_steps
 refine leaves (by k_asm) fun _ => fun e => hQ _ _ _ e ⟨_, ?_, rfl, ?_, ?_, News.get (by k_asm) (by k_mem), ?_, ?_, News.get (by k_asm) (by k_mem)⟩
 all_goals omega
theorem hk27 : True := by
 k_with "call ref" => (k_here; (with_reducible show wpAny _ _ (PySem.call (Value.ref 77) _ _) _ _ _); (show wpAny _ _ (PySem.call (Value.ref 77) [] _) _ _ _); (refine use0o (hl_sha0 (by assumption) (by walk_at "kk_st")) (by k_asm) (by k_asm) (by walk_at "kk_num") (by walk_at "kk_num") ?_); intro x9 d9 k9 t'9 h'9 tk'9 F'9 N'9 l19 l29 lx9; (try k_lt l19))
 trivial
theorem hash_prev (G : Gd w hb mean mg mb) (st : St hb s.heap) {a : TTx} (H : Has (a.frag w) s.heap) (O : a.Ok) (K : keptAs a.c1 a.prevH) (nx : hb.get? a.x = none) (nd : hb.get? a.d = none) :
  DoesX w 60 (.ref 1006) [.ref a.x] [] s [a.d] (fun r h' => (∃ t, r = .bytes a.prevH t) ∧ ∃ t, h'.get? a.d = some (a.dictC w (.bytes a.prevH t) a.c2 a.c3)) := by
 rcases K with ec | ⟨tc, ec⟩
 ·have Hd : s.heap.get? a.d = some (a.dictC w .none a.c2 a.c3) := by rw [← ec]; exact H.2.1
  walk_at "ir"
  have hxd := TTx.xd H.t0 Hd
  refine' enterX (binds := [(Str.ofString "self", .ref a.x)]) G st [(a.x, instObj 1061 a.d), (a.d, a.dictC w .none a.c2 a.c3)] ?hW ?ho ?hcd ?hroom ?hbind ?hloc ?h ?hcell ?hco ?hgen ?hk
  walk_at "kk_enter"
  case hW => exact List.forall_mem_cons.mpr ⟨⟨H.t0, nx⟩, List.forall_mem_cons.mpr ⟨⟨Hd, nd⟩, fun _ h => nomatch h⟩⟩
  walk_at "ig"
  have HL := H.low.subT H.t0 Hd a.noTxL sub
  have hdx := Ne.symm hxd
  k_lt l1
  have gvi := HL.l0
  have gvo := HL.l1
  walk_at "xi"
  k_steps
  ((try k_steps); refine x_execs fun K9 hK9 => (x_any ?_))
  k_steps
  (try dsimp only)
  walk_at "r9"
  obtain ⟨hx, hd, kd, t0, N9, F9, o1, o2, o3, o4⟩ : ∃ (hx hd : Addr) (kd : Nat) (t0 : Tok), News g L _ [(hx, instObj 58 hd), (hd, dictOf [ent w "data" kd (.bytes #[] t0)] 1), (a.x, instObj 1061 a.d), (a.d, a.dictC w .none a.c2 a.c3)] ∧ Fr g L _ (fun y => if y = Str.ofString "h" then some (.ref hx) else [(Str.ofString "self", Value.ref a.x)].reverse.lookup y) ∧ @LT.lt Nat _ hd hx ∧ @LT.lt Nat _ L hd ∧ @LT.lt Nat _ a.x hd ∧ @LT.lt Nat _ a.d hd := ⟨_, _, _, _, N9, F9, by omega, by omega, by omega, by omega⟩
  ((try k_steps); refine x_execs fun K9 hK9 => (x_forK (g := g) (L := L) (s₀ := s) (vs := a.ins.map fun i => Value.ref i.x) (l := a.vi) [hx, hd, a.x, a.d] (fun i => hP w hx hd kd a.x a.d (a.dictC w .none a.c2 a.c3) (fun y => if y = Str.ofString "h" then some (.ref hx) else [(Str.ofString "self", Value.ref a.x)].reverse.lookup y) (Str.ofString "inp") (cat ((a.ins.take i).map TIn.point))) rfl (fun _ _ => rfl) ⟨_, gvi, rfl, _, rfl⟩ ?start ?turn ?done ?hA))
  case hA => rintro _ m news ⟨_, _, _, rfl⟩; rfl
  case start =>
   k_steps
   refine' ⟨rfl, _, _, _, _, rfl, hP_mk (v := none) ?hm rfl rfl, F9, N9⟩
   case hm => walk_at "kmap"
  case turn =>
   intro i v m news it o h tk hv p9 F' N' l2 l3
   refine hideP fun B9 k9 => ?_
   obtain ⟨v0, t1, hm, rfl⟩ := p9
   refine k9 ?_; clear k9
   clear F9 N9
   (try clear F N)
   have F := fr_congr F' hm
   clear F' hm
   rw [List.getElem?_map] at hv
   refine hideP fun B9 k9 => ?_
   obtain ⟨j, hj, rfl⟩ := Option.map_eq_some_iff.mp hv
   refine k9 ?_; clear k9
   have jm := List.mem_of_getElem? hj
   have HI := Has.inp HL jm
   have hcz : (cat ((a.ins.take i).map TIn.point)).size ≤ 9000 := by
    have := cat_size_take (i := i) (f := TIn.point) (k := 36) (l := a.ins) (fun a m => (O.hi a m).psize) O.n2
    omega
   rw [cat_take hj]
   generalize (cat ((a.ins.take i).map TIn.point)) = C at *
   clear hv
   have jok := O.hi j jm
   have l4 := ltN (l2 _ (.head _))
   have l5 := ltN (l2 _ (.tail _ (.head _)))
   have l6 := ltN (l2 _ (.tail _ (.tail _ (.head _))))
   have l7 := ltN (l2 _ (.tail _ (.tail _ (.tail _ (.head _)))))
   clear l2
   replace l3 := ltN l3
   have gj := HI.i0
   have gjd := HI.i1
   have j1 := jok.hv
   have j2 := jok.hq
   have j3 : j.txid.toList.reverse.toArray.size = 32 := by simp [jok.hi]
   have j4 := jok.hi
   k_steps
   walk_at "xa"
   k_steps
   walk_at "r8"
   refine' ⟨_, _, _, _, rfl, hP_mk (v := some (.ref j.x)) ?hm2 rfl ?hc2, F8, N8⟩
   case hm2 => walk_at "kmap"
   case hc2 => exact Array.append_assoc ..
  case done =>
   intro m news h tk p9 F' N'
   refine hideP fun B9 k9 => ?_
   obtain ⟨v0, t1, hm, rfl⟩ := p9
   refine k9 ?_; clear k9
   clear F9 N9
   (try clear F N)
   have hE : cat ((a.ins.take (a.ins.map fun i => Value.ref i.x).length).map TIn.point) = cat (a.ins.map TIn.point) := by rw [List.take_of_length_le (by rw [List.length_map]; exact Nat.le_refl _)]
   rw [hE] at N'
   clear hE
   have F := fr_congr F' hm
   clear F' hm
   have hcz : (cat (a.ins.map TIn.point)).size ≤ 9000 := by
    have := cat_size (f := TIn.point) (k := 36) (l := a.ins) (fun a m => (O.hi a m).psize)
    have := O.n2
    omega
   walk_at "xa"
   k_steps
   walk_at "xa"
   k_steps
   exact leaves (by k_asm) fun _ => fun e => hQ _ _ _ (ext_drop e H.t0 (News.get (by k_asm) (by k_mem))) ⟨⟨_, rfl⟩, _, News.get (by k_asm) (by k_mem)⟩
 ·have Hd : s.heap.get? a.d = some (a.dictC w (.bytes a.prevH tc) a.c2 a.c3) := by rw [← ec]; exact H.2.1
  walk_at "ir"
  have hxd := TTx.xd H.t0 Hd
  refine' enterX (binds := [(Str.ofString "self", .ref a.x)]) G st [(a.x, instObj 1061 a.d), (a.d, a.dictC w (.bytes a.prevH tc) a.c2 a.c3)] ?hW ?ho ?hcd ?hroom ?hbind ?hloc ?hh ?hcell ?hco ?hgen ?hk
  walk_at "kk_enter"
  case hW => exact List.forall_mem_cons.mpr ⟨⟨H.t0, nx⟩, List.forall_mem_cons.mpr ⟨⟨Hd, nd⟩, fun _ h => nomatch h⟩⟩
  walk_at "ig"
  have HL := H.low.subT H.t0 Hd a.noTxL sub
  have hdx := Ne.symm hxd
  k_lt l1
  have gvi := HL.l0
  have gvo := HL.l1
  walk_at "xa"
  k_steps
  exact leaves (by k_asm) fun _ => fun e => hQ _ _ _ (ext_drop e H.t0 (News.get (by k_asm) (by k_mem))) ⟨⟨_, rfl⟩, _, News.get (by k_asm) (by k_mem)⟩
theorem hash_seq (G : Gd w hb mean mg mb) (st : St hb s.heap) {a : TTx} (H : Has (a.frag w) s.heap) (O : a.Ok) (K : keptAs a.c2 a.seqH) (nx : hb.get? a.x = none) (nd : hb.get? a.d = none) :
  DoesX w 60 (.ref 1013) [.ref a.x] [] s [a.d] (fun r h' => (∃ t, r = .bytes a.seqH t) ∧ ∃ t, h'.get? a.d = some (a.dictC w a.c1 (.bytes a.seqH t) a.c3)) := by
 rcases K with ec | ⟨tc, ec⟩
 ·have Hd : s.heap.get? a.d = some (a.dictC w a.c1 .none a.c3) := by rw [← ec]; exact H.2.1
  walk_at "ir"
  have hxd := TTx.xd H.t0 Hd
  refine' enterX (binds := [(Str.ofString "self", .ref a.x)]) G st [(a.x, instObj 1061 a.d), (a.d, a.dictC w a.c1 .none a.c3)] ?hW ?ho ?hcd ?hroom ?hbind ?hloc ?h ?hcell ?hco ?hgen ?hk
  walk_at "kk_enter"
  case hW => exact List.forall_mem_cons.mpr ⟨⟨H.t0, nx⟩, List.forall_mem_cons.mpr ⟨⟨Hd, nd⟩, fun _ h => nomatch h⟩⟩
  walk_at "ig"
  have HL := H.low.subT H.t0 Hd a.noTxL sub
  have hdx := Ne.symm hxd
  k_lt l1
  have gvi := HL.l0
  have gvo := HL.l1
  walk_at "xi"
  k_steps
  ((try k_steps); refine x_execs fun K9 hK9 => (x_any ?_))
  k_steps
  (try dsimp only)
  walk_at "r9"
  obtain ⟨hx, hd, kd, t0, N9, F9, o1, o2, o3, o4⟩ : ∃ (hx hd : Addr) (kd : Nat) (t0 : Tok), News g L _ [(hx, instObj 58 hd), (hd, dictOf [ent w "data" kd (.bytes #[] t0)] 1), (a.x, instObj 1061 a.d), (a.d, a.dictC w a.c1 .none a.c3)] ∧ Fr g L _ (fun y => if y = Str.ofString "h" then some (.ref hx) else [(Str.ofString "self", Value.ref a.x)].reverse.lookup y) ∧ @LT.lt Nat _ hd hx ∧ @LT.lt Nat _ L hd ∧ @LT.lt Nat _ a.x hd ∧ @LT.lt Nat _ a.d hd := ⟨_, _, _, _, N9, F9, by omega, by omega, by omega, by omega⟩
  ((try k_steps); refine x_execs fun K9 hK9 => (x_forK (g := g) (L := L) (s₀ := s) (vs := a.ins.map fun i => Value.ref i.x) (l := a.vi) [hx, hd, a.x, a.d] (fun i => hP w hx hd kd a.x a.d (a.dictC w a.c1 .none a.c3) (fun y => if y = Str.ofString "h" then some (.ref hx) else [(Str.ofString "self", Value.ref a.x)].reverse.lookup y) (Str.ofString "inp") (cat ((a.ins.take i).map TIn.seqB))) rfl (fun _ _ => rfl) ⟨_, gvi, rfl, _, rfl⟩ ?start ?turn ?done ?hA))
  case hA => rintro _ m news ⟨_, _, _, rfl⟩; rfl
  case start =>
   k_steps
   refine' ⟨rfl, _, _, _, _, rfl, hP_mk (v := none) ?hm rfl rfl, F9, N9⟩
   case hm => walk_at "kmap"
  case turn =>
   intro i v m news it o h tk hv p9 F' N' l2 l3
   refine hideP fun B9 k9 => ?_
   obtain ⟨v0, t1, hm, rfl⟩ := p9
   refine k9 ?_; clear k9
   clear F9 N9
   (try clear F N)
   have F := fr_congr F' hm
   clear F' hm
   rw [List.getElem?_map] at hv
   refine hideP fun B9 k9 => ?_
   obtain ⟨j, hj, rfl⟩ := Option.map_eq_some_iff.mp hv
   refine k9 ?_; clear k9
   have jm := List.mem_of_getElem? hj
   have HI := Has.inp HL jm
   have hcz : (cat ((a.ins.take i).map TIn.seqB)).size ≤ 9000 := by
    have := cat_size_take (i := i) (f := TIn.seqB) (k := 4) (l := a.ins) (fun a m => TIn.ssize) O.n2
    omega
   rw [cat_take hj]
   generalize (cat ((a.ins.take i).map TIn.seqB)) = C at *
   clear hv
   have jok := O.hi j jm
   have l4 := ltN (l2 _ (.head _))
   have l5 := ltN (l2 _ (.tail _ (.head _)))
   have l6 := ltN (l2 _ (.tail _ (.tail _ (.head _))))
   have l7 := ltN (l2 _ (.tail _ (.tail _ (.tail _ (.head _)))))
   clear l2
   replace l3 := ltN l3
   have gj := HI.i0
   have gjd := HI.i1
   have j1 := jok.hv
   have j2 := jok.hq
   have j3 : j.txid.toList.reverse.toArray.size = 32 := by simp [jok.hi]
   have j4 := jok.hi
   k_steps
   walk_at "xa"
   k_steps
   walk_at "r8"
   refine' ⟨_, _, _, _, rfl, hP_mk (v := some (.ref j.x)) ?hm2 rfl ?hc2, F8, N8⟩
   case hm2 => walk_at "kmap"
   case hc2 => rfl
  case done =>
   intro m news h tk p9 F' N'
   refine hideP fun B9 k9 => ?_
   obtain ⟨v0, t1, hm, rfl⟩ := p9
   refine k9 ?_; clear k9
   clear F9 N9
   (try clear F N)
   have hE : cat ((a.ins.take (a.ins.map fun i => Value.ref i.x).length).map TIn.seqB) = cat (a.ins.map TIn.seqB) := by rw [List.take_of_length_le (by rw [List.length_map]; exact Nat.le_refl _)]
   rw [hE] at N'
   clear hE
   have F := fr_congr F' hm
   clear F' hm
   have hcz : (cat (a.ins.map TIn.seqB)).size ≤ 9000 := by
    have := cat_size (f := TIn.seqB) (k := 4) (l := a.ins) (fun a m => TIn.ssize)
    have := O.n2
    omega
   walk_at "xa"
   k_steps
   walk_at "xa"
   k_steps
   exact leaves (by k_asm) fun _ => fun e => hQ _ _ _ (ext_drop e H.t0 (News.get (by k_asm) (by k_mem))) ⟨⟨_, rfl⟩, _, News.get (by k_asm) (by k_mem)⟩
 ·have Hd : s.heap.get? a.d = some (a.dictC w a.c1 (.bytes a.seqH tc) a.c3) := by rw [← ec]; exact H.2.1
  walk_at "ir"
  have hxd := TTx.xd H.t0 Hd
  refine' enterX (binds := [(Str.ofString "self", .ref a.x)]) G st [(a.x, instObj 1061 a.d), (a.d, a.dictC w a.c1 (.bytes a.seqH tc) a.c3)] ?hW ?ho ?hcd ?hroom ?hbind ?hloc ?hh ?hcell ?hco ?hgen ?hk
  walk_at "kk_enter"
  case hW => exact List.forall_mem_cons.mpr ⟨⟨H.t0, nx⟩, List.forall_mem_cons.mpr ⟨⟨Hd, nd⟩, fun _ h => nomatch h⟩⟩
  walk_at "ig"
  have HL := H.low.subT H.t0 Hd a.noTxL sub
  have hdx := Ne.symm hxd
  k_lt l1
  have gvi := HL.l0
  have gvo := HL.l1
  walk_at "xa"
  k_steps
  exact leaves (by k_asm) fun _ => fun e => hQ _ _ _ (ext_drop e H.t0 (News.get (by k_asm) (by k_mem))) ⟨⟨_, rfl⟩, _, News.get (by k_asm) (by k_mem)⟩
theorem hash_out (G : Gd w hb mean mg mb) (st : St hb s.heap) {a : TTx} (H : Has (a.frag w) s.heap) (O : a.Ok) (K : keptAs a.c3 a.outH) (nx : hb.get? a.x = none) (nd : hb.get? a.d = none) :
  DoesX w 60 (.ref 1020) [.ref a.x] [] s [a.d] (fun r h' => (∃ t, r = .bytes a.outH t) ∧ ∃ t, h'.get? a.d = some (a.dictC w a.c1 a.c2 (.bytes a.outH t))) := by
 rcases K with ec | ⟨tc, ec⟩
 ·have Hd : s.heap.get? a.d = some (a.dictC w a.c1 a.c2 .none) := by rw [← ec]; exact H.2.1
  walk_at "ir"
  have hxd := TTx.xd H.t0 Hd
  refine' enterX (binds := [(Str.ofString "self", .ref a.x)]) G st [(a.x, instObj 1061 a.d), (a.d, a.dictC w a.c1 a.c2 .none)] ?hW ?ho ?hcd ?hroom ?hbind ?hloc ?h ?hcell ?hco ?hgen ?hk
  walk_at "kk_enter"
  case hW => exact List.forall_mem_cons.mpr ⟨⟨H.t0, nx⟩, List.forall_mem_cons.mpr ⟨⟨Hd, nd⟩, fun _ h => nomatch h⟩⟩
  walk_at "ig"
  have HL := H.low.subT H.t0 Hd a.noTxL sub
  have hdx := Ne.symm hxd
  k_lt l1
  have gvi := HL.l0
  have gvo := HL.l1
  walk_at "xi"
  k_steps
  ((try k_steps); refine x_execs fun K9 hK9 => (x_any ?_))
  k_steps
  (try dsimp only)
  walk_at "r9"
  obtain ⟨hx, hd, kd, t0, N9, F9, o1, o2, o3, o4⟩ : ∃ (hx hd : Addr) (kd : Nat) (t0 : Tok), News g L _ [(hx, instObj 58 hd), (hd, dictOf [ent w "data" kd (.bytes #[] t0)] 1), (a.x, instObj 1061 a.d), (a.d, a.dictC w a.c1 a.c2 .none)] ∧ Fr g L _ (fun y => if y = Str.ofString "h" then some (.ref hx) else [(Str.ofString "self", Value.ref a.x)].reverse.lookup y) ∧ @LT.lt Nat _ hd hx ∧ @LT.lt Nat _ L hd ∧ @LT.lt Nat _ a.x hd ∧ @LT.lt Nat _ a.d hd := ⟨_, _, _, _, N9, F9, by omega, by omega, by omega, by omega⟩
  ((try k_steps); refine x_execs fun K9 hK9 => (x_forK (g := g) (L := L) (s₀ := s) (vs := a.outs.map fun i => Value.ref i.x) (l := a.vo) [hx, hd, a.x, a.d] (fun i => hP w hx hd kd a.x a.d (a.dictC w a.c1 a.c2 .none) (fun y => if y = Str.ofString "h" then some (.ref hx) else [(Str.ofString "self", Value.ref a.x)].reverse.lookup y) (Str.ofString "out") (cat ((a.outs.take i).map TOut.oct))) rfl (fun _ _ => rfl) ⟨_, gvo, rfl, _, rfl⟩ ?start ?turn ?done ?hA))
  case hA => rintro _ m news ⟨_, _, _, rfl⟩; rfl
  case start =>
   k_steps
   refine' ⟨rfl, _, _, _, _, rfl, hP_mk (v := none) ?hm rfl rfl, F9, N9⟩
   case hm => walk_at "kmap"
  case turn =>
   intro i v m news it o h tk hv p9 F' N' l2 l3
   refine hideP fun B9 k9 => ?_
   obtain ⟨v0, t1, hm, rfl⟩ := p9
   refine k9 ?_; clear k9
   clear F9 N9
   (try clear F N)
   have F := fr_congr F' hm
   clear F' hm
   rw [List.getElem?_map] at hv
   refine hideP fun B9 k9 => ?_
   obtain ⟨j, hj, rfl⟩ := Option.map_eq_some_iff.mp hv
   refine k9 ?_; clear k9
   have jm := List.mem_of_getElem? hj
   have HI := Has.out HL jm
   have hcz : (cat ((a.outs.take i).map TOut.oct)).size ≤ 9000 := by
    have := cat_size_take (i := i) (f := TOut.oct) (k := 266) (l := a.outs) (fun a m => (O.ho a m).size) O.n3
    omega
   rw [cat_take hj]
   generalize (cat ((a.outs.take i).map TOut.oct)) = C at *
   clear hv
   have jok := O.ho j jm
   have l4 := ltN (l2 _ (.head _))
   have l5 := ltN (l2 _ (.tail _ (.head _)))
   have l6 := ltN (l2 _ (.tail _ (.tail _ (.head _))))
   have l7 := ltN (l2 _ (.tail _ (.tail _ (.tail _ (.head _)))))
   clear l2
   replace l3 := ltN l3
   have gj := HI.o0
   have gjd := HI.o1
   have gjs := HI.o2
   have gjsd := HI.o3
   have jz := jok.size
   k_steps
   walk_at "xj"
   k_steps
   (try dsimp only)
   walk_at "sx"
   k_steps
   walk_at "xc"
   refine useX0b (X := j.oct) (out_ser (by assumption) (by walk_at "kk_st") (Fr.keep (by k_asm) _ _ gj) (Fr.keep (by k_asm) _ _ gjd) ⟨Fr.keep (by k_asm) _ _ gjs, Fr.keep (by k_asm) _ _ gjsd⟩ jok.hv jok.hc) (by k_asm) (by k_asm) (by walk_at "kk_num") (by walk_at "kk_num") ?_
   intro t' h' tk' F' N'
   walk_at "xn"
   k_steps
   walk_at "xnil"
   walk_at "r8"
   refine' ⟨_, _, _, _, rfl, hP_mk (v := some (.ref j.x)) ?hm2 rfl ?hc2, F8, N8⟩
   case hm2 => walk_at "kmap"
   case hc2 => rfl
  case done =>
   intro m news h tk p9 F' N'
   refine hideP fun B9 k9 => ?_
   obtain ⟨v0, t1, hm, rfl⟩ := p9
   refine k9 ?_; clear k9
   clear F9 N9
   (try clear F N)
   have hE : cat ((a.outs.take (a.outs.map fun i => Value.ref i.x).length).map TOut.oct) = cat (a.outs.map TOut.oct) := by rw [List.take_of_length_le (by rw [List.length_map]; exact Nat.le_refl _)]
   rw [hE] at N'
   clear hE
   have F := fr_congr F' hm
   clear F' hm
   have hcz : (cat (a.outs.map TOut.oct)).size ≤ 9000 := by
    have := cat_size (f := TOut.oct) (k := 266) (l := a.outs) (fun a m => (O.ho a m).size)
    have := O.n3
    omega
   walk_at "xa"
   k_steps
   walk_at "xa"
   k_steps
   exact leaves (by k_asm) fun _ => fun e => hQ _ _ _ (ext_drop e H.t0 (News.get (by k_asm) (by k_mem))) ⟨⟨_, rfl⟩, _, News.get (by k_asm) (by k_mem)⟩
 ·have Hd : s.heap.get? a.d = some (a.dictC w a.c1 a.c2 (.bytes a.outH tc)) := by rw [← ec]; exact H.2.1
  walk_at "ir"
  have hxd := TTx.xd H.t0 Hd
  refine' enterX (binds := [(Str.ofString "self", .ref a.x)]) G st [(a.x, instObj 1061 a.d), (a.d, a.dictC w a.c1 a.c2 (.bytes a.outH tc))] ?hW ?ho ?hcd ?hroom ?hbind ?hloc ?hh ?hcell ?hco ?hgen ?hk
  walk_at "kk_enter"
  case hW => exact List.forall_mem_cons.mpr ⟨⟨H.t0, nx⟩, List.forall_mem_cons.mpr ⟨⟨Hd, nd⟩, fun _ h => nomatch h⟩⟩
  walk_at "ig"
  have HL := H.low.subT H.t0 Hd a.noTxL sub
  have hdx := Ne.symm hxd
  k_lt l1
  have gvi := HL.l0
  have gvo := HL.l1
  walk_at "xa"
  k_steps
  exact leaves (by k_asm) fun _ => fun e => hQ _ _ _ (ext_drop e H.t0 (News.get (by k_asm) (by k_mem))) ⟨⟨_, rfl⟩, _, News.get (by k_asm) (by k_mem)⟩
end
end
section
theorem item_map {w : World} {A : Around} {E Q : Value → Shared → Prop} {s : Shared} {value slice : PySem.Expr} {l : Addr} {α : Type} {f : α → Value} {vs : List α} {i : Nat} {u : Tok} {v : α} (hl : s.heap.IsList l (vs.map f).toArray) (hz : vs.length ≤ 1000000) (hx : vs[i]? = some v) (h : Q (f v) s)
  (hs : subscripted slice false (.ref l) (.int (i : Int) u) = operate [.ref l, .int (i : Int) u] (getItem (.ref l) (.int (i : Int) u)) := by with_unfolding_all rfl) :
  wpAny (model prog w) A (subscriptTail value slice (.ref l) (.int (i : Int) u)) Q E s := by
 have hi : i < vs.length := (List.getElem?_eq_some_iff.mp hx).1
 refine tail_any hl.typeIs slot_list_getitem.lookup (wpAny_getItem_list hl (by omega) (by omega) ?_ h) hs
 simp [List.getElem?_map, hx]
def shOf (k : Nat) : Nat := if k % 128 = 0 then 1 else k % 128
def SetCut (g : Heap) (L : Addr) (m₀ : Str → Option Value) (news : List (Addr × Obj)) (v : Int) (b : Bool) (s s' : Shared) : Prop :=
 ∃ q h' tk', s' = { s with heap := h', toks := tk' } ∧ Fr g L h' (fun y => if y = Str.ofString "sh" then some (.int v q) else if y = Str.ofString "anyonecanpay" then some (.bool b) else m₀ y) ∧ News g L h' news
theorem SetCut.mk {g : Heap} {L : Addr} {m₀ m : Str → Option Value} {news : List (Addr × Obj)} {v v' : Int} {b : Bool} {s : Shared} {q : Tok} {h' : Heap} {tk' : Nat} (hv : v = v') (F : Fr g L h' m) (hm : ∀ y, m y = (if y = Str.ofString "sh" then some (.int v' q) else if y = Str.ofString "anyonecanpay" then some (.bool b) else m₀ y)) (N : News g L h' news) :
  SetCut g L m₀ news v b s ⟨h', s.gens, s.drawn, tk', s.os⟩ := by
 subst hv; exact ⟨_, _, _, rfl, fr_congr F hm, N⟩
theorem SetCut.elim {g : Heap} {L : Addr} {m₀ : Str → Option Value} {news : List (Addr × Obj)} {v : Int} {b : Bool} {s s' : Shared} {B : Shared → Prop} (H : SetCut g L m₀ news v b s s')
  (k : ∀ q h' tk', Fr g L h' (fun y => if y = Str.ofString "sh" then some (.int v q) else if y = Str.ofString "anyonecanpay" then some (.bool b) else m₀ y) → News g L h' news → B ⟨h', s.gens, s.drawn, tk', s.os⟩) : B s' := by
 obtain ⟨q, h', tk', rfl, F, N⟩ := H; exact k _ _ _ F N
theorem set_sh {m₀ : Str → Option Value} {v0 v : Value} {b : Value} : ∀ y, (if y = Str.ofString "sh" then some v else if y = Str.ofString "anyonecanpay" then some b else if y = Str.ofString "sh" then some v0 else m₀ y) = (if y = Str.ofString "sh" then some v else if y = Str.ofString "anyonecanpay" then some b else m₀ y) := by
 intro y; split <;> rename_i e1
 ·rfl
 ·split <;> rename_i e2
  ·rfl
  ·rfl
theorem set_sw {m₀ : Str → Option Value} {v b : Value} : ∀ y, (if y = Str.ofString "anyonecanpay" then some b else if y = Str.ofString "sh" then some v else m₀ y) = (if y = Str.ofString "sh" then some v else if y = Str.ofString "anyonecanpay" then some b else m₀ y) := by
 intro y
 by_cases e1 : y = Str.ofString "sh"
 ·subst e1; rfl
 ·rw [if_neg e1, if_neg e1]
theorem set_sw3 {m₀ : Str → Option Value} {v v0 b : Value} : ∀ y, (if y = Str.ofString "sh" then some v else if y = Str.ofString "anyonecanpay" then some b else if y = Str.ofString "sh" then some v0 else m₀ y) = (if y = Str.ofString "sh" then some v else if y = Str.ofString "anyonecanpay" then some b else m₀ y) := set_sh
theorem sh_one {k : Nat} (h : ((k % 128 : Nat) : Int) = 0) : ((shOf k : Nat) : Int) = 1 := by unfold shOf; rw [if_pos (by omega)]; rfl
theorem sh_self {k : Nat} (h : ((k % 128 : Nat) : Int) ≠ 0) : ((shOf k : Nat) : Int) = ((k % 128 : Nat) : Int) := by unfold shOf; rw [if_neg (by omega)]
theorem x_cut4 {M : Model} {A : Around} {E : Value → Shared → Prop} {env : Env} {Q : Flow → Shared → Prop} {a b c d : Stmt} {r : List Stmt} {s : Shared} (P : Shared → Prop)
  (h : ∀ K : Shared → Prop, (∀ s', P s' → K s') → wpX M A (execs [a, b, c, d] env) (fun f s' => f = .next ∧ K s') (fun _ _ => False) s) (k : ∀ s', P s' → wpX M A (execs r env) Q E s') : wpX M A (execs (a :: b :: c :: d :: r) env) Q E s :=
 x_split (l := [a, b, c, d]) (x_mono (h P fun _ q => q) (fun f s' z => by obtain ⟨rfl, z⟩ := z; exact k s' z) fun _ _ z => z.elim)
def zero32 : Array UInt8 := #[0, 0, 0, 0, 0, 0, 0, 0, 0, 0, 0, 0, 0, 0, 0, 0, 0, 0, 0, 0, 0, 0, 0, 0, 0, 0, 0, 0, 0, 0, 0, 0]
abbrev sgM (hx ix : Addr) (tz qs : Tok) (sh : Int) (b : Bool) (m₀ : Str → Option Value) : Str → Option Value := fun y => if y = Str.ofString "h" then some (.ref hx) else if y = Str.ofString "zero" then some (.bytes zero32 tz) else if y = Str.ofString "inp" then some (.ref ix) else if y = Str.ofString "sh" then some (.int sh qs) else if y = Str.ofString "anyonecanpay" then some (.bool b) else m₀ y
def SgP (w : World) (g : Heap) (L hx hd : Addr) (kd : Nat) (M : Str → Option Value) (a : TTx) (C : Array UInt8) (s s' : Shared) : Prop :=
 ∃ h tk t c1 c2 c3, keptAs c1 a.prevH ∧ keptAs c2 a.seqH ∧ keptAs c3 a.outH ∧ s' = { s with heap := h, toks := tk } ∧ Fr g L h M ∧ News g L h [(hx, instObj 58 hd), (hd, dictOf [ent w "data" kd (.bytes C t)] 1), (a.x, instObj 1061 a.d), (a.d, a.dictC w c1 c2 c3)]
def SgB (w : World) (g : Heap) (L ix : Addr) (m₀ : Str → Option Value) (sh : Int) (b : Bool) (a : TTx) (C : Array UInt8) (s s' : Shared) : Prop :=
 ∃ (hx hd : Addr) (kd : Nat) (tz qs : Tok), @LT.lt Nat _ hd hx ∧ @LT.lt Nat _ L hd ∧ @LT.lt Nat _ a.x hd ∧ @LT.lt Nat _ a.d hd ∧ SgP w g L hx hd kd (sgM hx ix tz qs sh b m₀) a C s s'
section
variable {w : World} {g : Heap} {L hx hd ix : Addr} {kd : Nat} {M m₀ : Str → Option Value} {a : TTx} {C C' : Array UInt8} {s s' : Shared} {h : Heap} {tk : Nat} {t tz qs : Tok} {c1 c2 c3 : Value} {sh : Int} {b : Bool} {B : Shared → Prop}
theorem SgP.mk (hC : C = C') (e1 : keptAs c1 a.prevH) (e2 : keptAs c2 a.seqH) (e3 : keptAs c3 a.outH) (F : Fr g L h M) (N : News g L h [(hx, instObj 58 hd), (hd, dictOf [ent w "data" kd (.bytes C' t)] 1), (a.x, instObj 1061 a.d), (a.d, a.dictC w c1 c2 c3)]) : SgP w g L hx hd kd M a C s ⟨h, s.gens, s.drawn, tk, s.os⟩ := by
 subst hC; exact ⟨_, _, _, _, _, _, e1, e2, e3, rfl, F, N⟩
theorem SgP.elim (H : SgP w g L hx hd kd M a C s s') (k : ∀ h tk t c1 c2 c3, keptAs c1 a.prevH → keptAs c2 a.seqH → keptAs c3 a.outH → Fr g L h M → News g L h [(hx, instObj 58 hd), (hd, dictOf [ent w "data" kd (.bytes C t)] 1), (a.x, instObj 1061 a.d), (a.d, a.dictC w c1 c2 c3)] → B ⟨h, s.gens, s.drawn, tk, s.os⟩) : B s' := by
 obtain ⟨h, tk, t, c1, c2, c3, e1, e2, e3, rfl, F, N⟩ := H; exact k _ _ _ _ _ _ e1 e2 e3 F N
theorem SgB.mk (o1 : @LT.lt Nat _ hd hx) (o2 : @LT.lt Nat _ L hd) (o3 : @LT.lt Nat _ a.x hd) (o4 : @LT.lt Nat _ a.d hd) (e1 : keptAs c1 a.prevH) (e2 : keptAs c2 a.seqH) (e3 : keptAs c3 a.outH) (F : Fr g L h (sgM hx ix tz qs sh b m₀)) (N : News g L h [(hx, instObj 58 hd), (hd, dictOf [ent w "data" kd (.bytes C t)] 1), (a.x, instObj 1061 a.d), (a.d, a.dictC w c1 c2 c3)]) : SgB w g L ix m₀ sh b a C s ⟨h, s.gens, s.drawn, tk, s.os⟩ :=
 ⟨_, _, _, _, _, o1, o2, o3, o4, SgP.mk rfl e1 e2 e3 F N⟩
theorem SgB.elim (H : SgB w g L ix m₀ sh b a C s s') (k : ∀ hx hd kd tz qs s', @LT.lt Nat _ hd hx → @LT.lt Nat _ L hd → @LT.lt Nat _ a.x hd → @LT.lt Nat _ a.d hd → SgP w g L hx hd kd (sgM hx ix tz qs sh b m₀) a C s s' → B s') : B s' := by
 obtain ⟨hx, hd, kd, tz, qs, o1, o2, o3, o4, P⟩ := H; exact k _ _ _ _ _ _ o1 o2 o3 o4 P
end
theorem hk28 : True := by
 k_with "subscriptTail" => (k_here; (with_reducible show wpAny _ _ (subscriptTail _ _ (Value.ref _) (Value.int _ _)) _ _ _); (refine item_map (isl_baseN (by k_asm) (by assumption)) ?_ (by assumption) ?_ (by with_unfolding_all rfl)); first | exact Nat.le_trans (by assumption) (by decide) | omega)
 trivial
abbrev TTx.withC (a : TTx) (c1 c2 c3 : Value) : TTx := { a with c1 := c1, c2 := c2, c3 := c3 }
theorem TTx.Ok.withC {a : TTx} (O : a.Ok) {c1 c2 c3 : Value} : (a.withC c1 c2 c3).Ok := ⟨O.hv, O.hl, O.n1, O.n2, O.n3, O.hi, O.ho⟩
theorem Has.withC {w : World} {a : TTx} {c1 c2 c3 : Value} {h : Heap} (H : Has (a.low w) h) (hx : h.get? a.x = some (instObj 1061 a.d)) (hd : h.get? a.d = some (a.dictC w c1 c2 c3)) : Has ((a.withC c1 c2 c3).frag w) h := ⟨hx, hd, H⟩
theorem zero32_size : zero32.size = 32 := rfl
def sgA (a : TTx) (k : Nat) : Array UInt8 := if 128 ≤ k then zero32 else dig a.prevH
theorem sgA_size {a : TTx} {k : Nat} : (sgA a k).size = 32 := by unfold sgA; split <;> first | rfl | exact dig_size _
theorem hk29 : True := by
 k_with "call ref" => (k_here; (with_reducible show wpAny _ _ (PySem.call (Value.ref 77) _ _) _ _ _); (first | ((show wpAny _ _ (PySem.call (Value.ref 77) [Value.bytes _ _] _) _ _ _); refine use0o (hl_sha (by assumption) (by walk_at "kk_st")) (by k_asm) (by k_asm) (by walk_at "kk_num") (by walk_at "kk_num") ?_) | ((show wpAny _ _ (PySem.call (Value.ref 77) [] _) _ _ _); refine use0o (hl_sha0 (by assumption) (by walk_at "kk_st")) (by k_asm) (by k_asm) (by walk_at "kk_num") (by walk_at "kk_num") ?_)); intro x9 d9 k9 t'9 h'9 tk'9 F'9 N'9 l19 l29 lx9; (try k_lt l19))
 trivial
theorem kind_cases {k : Nat} (hk : k ∈ kinds) : k % 128 < 4 := (by decide +kernel : ∀ k ∈ kinds, k % 128 < 4) k hk
theorem kind_lt {k : Nat} (hk : k ∈ kinds) : k < 256 := (by decide +kernel : ∀ k ∈ kinds, k < 256) k hk
theorem sh_in {k : Nat} (h : ([2, 3].any fun x : Int => x == ((shOf k : Nat) : Int)) = true) : 2 ≤ k % 128 := by
 simp only [List.any_cons, List.any_nil, Bool.or_false, Bool.or_eq_true, beq_iff_eq] at h
 unfold shOf at h; split at h <;> omega
theorem sh_out {k : Nat} (hk : k ∈ kinds) (h : ([2, 3].any fun x : Int => x == ((shOf k : Nat) : Int)) = false) : k % 128 < 2 := by
 simp only [List.any_cons, List.any_nil, Bool.or_false, Bool.or_eq_false_iff, beq_eq_false_iff_ne] at h
 have := kind_cases hk
 unfold shOf at h; split at h <;> omega
def sgS (a : TTx) (k : Nat) : Array UInt8 := if 128 ≤ k ∨ 2 ≤ k % 128 then zero32 else dig a.seqH
theorem sgS_size {a : TTx} {k : Nat} : (sgS a k).size = 32 := by unfold sgS; split <;> first | rfl | exact dig_size _
def sgO (a : TTx) (k i : Nat) : Array UInt8 := if k % 128 < 2 then dig a.outH else match a.outs[i]? with
 | some o => if k % 128 = 3 then dig (dig o.oct) else zero32
 | none => zero32
theorem sgO_size {a : TTx} {k i : Nat} : (sgO a k i).size = 32 := by
 unfold sgO
 split
 ·exact dig_size _
 ·split
  ·split <;> first | rfl | exact dig_size _
  ·rfl
def TTx.newD (a : TTx) (i k v : Nat) (inp : TIn) (c : Array UInt8) : Array UInt8 := dig (dig (le 4 a.ver ++ sgA a k ++ sgS a k ++ inp.point ++ (sized c.size ++ c) ++ le 8 v ++ le 4 inp.seq ++ sgO a k i ++ le 4 a.lock ++ le 4 k))
theorem sgO_one {a : TTx} {k i : Nat} {o : TOut} (h : ((shOf k : Nat) : Int) = 3) (e : a.outs[i]? = some o) : sgO a k i = dig (dig o.oct) := by
 have h3 : k % 128 = 3 := by unfold shOf at h; split at h <;> omega
 unfold sgO; rw [if_neg (by omega), e]; dsimp only; rw [if_pos h3]
theorem sgO_out {a : TTx} {k i : Nat} (h2 : 2 ≤ k % 128) (h : ¬ ((i : Int) < (a.outs.length : Int))) : sgO a k i = zero32 := by
 unfold sgO; rw [if_neg (by omega), List.getElem?_eq_none (by omega)]
theorem sgO_none {a : TTx} {k i : Nat} (h2 : 2 ≤ k % 128) (h : ((shOf k : Nat) : Int) ≠ 3) : sgO a k i = zero32 := by
 have h3 : k % 128 ≠ 3 := by unfold shOf at h; split at h <;> omega
 unfold sgO; rw [if_neg (by omega)]; split
 ·rw [if_neg h3]
 ·rfl
section
variable {w : World} {hb : Heap} {mean : ExcName → Option Value} {mg mb : Str → Option Value} {s : Shared}
theorem sig_new (G : Gd w hb mean mg mb) (st : St hb s.heap) {a : TTx} (H : Has (a.frag w) s.heap) (O : a.Ok) (K : a.Kept) (nx : hb.get? a.x = none) (nd : hb.get? a.d = none) {i k v : Nat} {ti tk tv : Tok} {sc scd : Addr} {ks : Nat} {c : Array UInt8} {tc : Tok} (HS : Has (scrF w sc scd ks tc c) s.heap)
  (hk : k ∈ kinds) {inp : TIn} (hi : a.ins[i]? = some inp) (hv : v < 18446744073709551616) (hc : c.size ≤ 255) :
  DoesX w 80 (.ref 1050) [.ref a.x, .int (i : Int) ti, .ref sc, .int (v : Int) tv, .int (k : Int) tk] [] s [a.d] (fun r h' => (∃ t, r = .bytes (a.newD i k v inp c) t) ∧ ∃ c1 c2 c3, keptAs c1 a.prevH ∧ keptAs c2 a.seqH ∧ keptAs c3 a.outH ∧ h'.get? a.d = some (a.dictC w c1 c2 c3)) := by
 walk_at "ir"
 have Hd : s.heap.get? a.d = some (a.dictC w a.c1 a.c2 a.c3) := H.t1
 have hxd := TTx.xd H.t0 Hd
 refine' enterX (binds := [(Str.ofString "self", .ref a.x), (Str.ofString "input_index", .int (i : Int) ti), (Str.ofString "script_pubkey", .ref sc), (Str.ofString "value", .int (v : Int) tv), (Str.ofString "sighash", .int (k : Int) tk)]) G st [(a.x, instObj 1061 a.d), (a.d, a.dictC w a.c1 a.c2 a.c3)] ?hW ?ho ?hcd ?hroom ?hbind ?hloc ?h ?hcell ?hco ?hgen ?hk
 walk_at "kk_enter"
 case hW => exact List.forall_mem_cons.mpr ⟨⟨H.t0, nx⟩, List.forall_mem_cons.mpr ⟨⟨Hd, nd⟩, fun _ h => nomatch h⟩⟩
 walk_at "ig"
 have HL := H.low.subT H.t0 Hd a.noTxL sub
 have HSG := HS.subT H.1 Hd rfl sub
 have hdx := Ne.symm hxd
 k_lt l1
 have gvi := HL.l0
 have gvo := HL.l1
 have im := List.mem_of_getElem? hi
 have HI := Has.inp HL im
 have iok := O.hi inp im
 have hil : i < a.ins.length := (List.getElem?_eq_some_iff.mp hi).1
 have hn2 := O.n2
 refine x_cut3 (SetCut g L (fun y => [(Str.ofString "self", .ref a.x), (Str.ofString "input_index", .int (i : Int) ti), (Str.ofString "script_pubkey", .ref sc), (Str.ofString "value", .int (v : Int) tv), (Str.ofString "sighash", .int (k : Int) tk)].reverse.lookup y) [(a.x, instObj 1061 a.d), (a.d, a.dictC w a.c1 a.c2 a.c3)] (shOf k) (decide (128 ≤ k)) s) (fun K7 hK7 => ?_) ?_
 ·walk_at "xa"
  k_steps
  all_goals (rename Fr _ _ _ _ => F9)
  all_goals (rename News _ _ _ _ => N9)
  ·exact hK7 _ (SetCut.mk (sh_one (by assumption)) F9 (by first | exact set_sh | exact set_sw | exact fun y => rfl) (news_drop 2 N9))
  ·exact hK7 _ (SetCut.mk (sh_self (by assumption)) F9 (by first | exact set_sh | exact set_sw | exact fun y => rfl) (news_drop 2 N9))
 ·intro s' H9
  refine SetCut.elim H9 ?_
  clear H9 F N
  intro qs h' tk' F' N'
  have hver := O.hv
  refine x_cut4 (SgB w g L inp.x (fun y => [(Str.ofString "self", .ref a.x), (Str.ofString "input_index", .int (i : Int) ti), (Str.ofString "script_pubkey", .ref sc), (Str.ofString "value", .int (v : Int) tv), (Str.ofString "sighash", .int (k : Int) tk)].reverse.lookup y) (shOf k) (decide (128 ≤ k)) a (le 4 a.ver) s) (fun K7 hK7 => ?_) ?_
  ·walk_at "xa"
   k_steps
   walk_at "r9"
   rw [Array.empty_append] at N9
   refine hK7 _ (SgB.mk ?o1 ?o2 ?o3 ?o4 K.h1 K.h2 K.h3 F9 N9)
   all_goals omega
  ·clear N' F'
   have z1 := zero32_size
   have z2 := @sgA_size a k
   have z6 := @sgS_size a k
   have z7 := @sgO_size a k i
   have z8 := iok.psize
   have z9 := @sized_size c.size
   have y1 := iok.hv
   have y2 := iok.hq
   have y3 : inp.txid.toList.reverse.toArray.size = 32 := by simp [iok.hi]
   have y4 := iok.hi
   have gj0 := HI.i0
   have gjd0 := HI.i1
   have gsc := HSG.s0
   have gscd := HSG.s1
   have n3 := O.n3
   have y5 := O.hl
   have y6 := kind_lt hk
   have z3 : a.prevH.size = 32 := dig_size _
   have z4 : a.seqH.size = 32 := dig_size _
   have z5 : a.outH.size = 32 := dig_size _
   intro s' H9
   refine SgB.elim H9 ?_
   clear H9
   intro hx hd kd tz qs s' o1 o2 o3 o4 hsg
   refine x_cut1 (SgP w g L hx hd kd (sgM hx inp.x tz qs (shOf k) (decide (128 ≤ k)) (fun y => [(Str.ofString "self", .ref a.x), (Str.ofString "input_index", .int (i : Int) ti), (Str.ofString "script_pubkey", .ref sc), (Str.ofString "value", .int (v : Int) tv), (Str.ofString "sighash", .int (k : Int) tk)].reverse.lookup y)) a (le 4 a.ver ++ sgA a k) s) (fun K7 hK7 => ?_) fun s1 hsg1 => ?_
   ·refine SgP.elim hsg ?_
    intro h tk9 t c1 c2 c3 e1 e2 e3 F N
    walk_at "xi"
    k_steps
    ·walk_at "xa"
     k_steps
     walk_at "r9"
     walk_at "xnil"
     (first | refine And.intro rfl ?_ | skip)
     refine hK7 _ (SgP.mk (by rw [show sgA a k = zero32 from if_pos (by assumption)]) e1 e2 e3 F9 (by walk_at "nd"))
    ·skip
     walk_at "xj"
     k_steps
     (try dsimp only)
     walk_at "sz"
     k_steps
     (try dsimp only)
     walk_at "sx"
     k_steps
     walk_at "xc"
     refine useX1 (post := fun r h' => (∃ t, r = .bytes a.prevH t) ∧ ∃ t, h'.get? a.d = some (a.dictC w (.bytes a.prevH t) c2 c3)) (d := a.d) (hash_prev (a := a.withC c1 c2 c3) (by assumption) (by walk_at "kk_st") (Has.withC (Has.fr HL (by k_asm)) (News.get (by k_asm) (by k_mem)) (News.get (by k_asm) (by k_mem))) O.withC (by assumption) nx nd) (by k_asm) (by k_asm) (by k_mem) (by walk_at "kk_num") (by walk_at "kk_num") ?_
     intro K8 hK8 r h' tk' F' n0 p
     obtain ⟨⟨t', e1'⟩, t'', ed⟩ := p
     subst e1'
     have N' := n0 _ _ (by k_upd) ed
     clear n0
     refine hK8 _ _ _ ?_
     walk_at "xn"
     (try dsimp only)
     k_steps
     (try dsimp only)
     walk_at "xd"
     k_steps
     walk_at "xn"
     (try dsimp only)
     k_steps
     walk_at "r9"
     walk_at "xnil"
     (first | refine And.intro rfl ?_ | skip)
     refine hK7 _ (SgP.mk (by rw [show sgA a k = dig a.prevH from if_neg (by assumption)]) (.inr ⟨_, rfl⟩) e2 e3 F9 (by walk_at "nd"))
   clear hsg
   refine x_cut1 (SgP w g L hx hd kd (sgM hx inp.x tz qs (shOf k) (decide (128 ≤ k)) (fun y => [(Str.ofString "self", .ref a.x), (Str.ofString "input_index", .int (i : Int) ti), (Str.ofString "script_pubkey", .ref sc), (Str.ofString "value", .int (v : Int) tv), (Str.ofString "sighash", .int (k : Int) tk)].reverse.lookup y)) a (le 4 a.ver ++ sgA a k ++ sgS a k) s) (fun K7 hK7 => ?_) fun s2 hsg2 => ?_
   ·refine SgP.elim hsg1 ?_
    intro h tk9 t c1 c2 c3 e1 e2 e3 F N
    walk_at "xi"
    k_steps
    ·walk_at "xa"
     k_steps
     walk_at "r9"
     walk_at "xnil"
     (first | refine And.intro rfl ?_ | skip)
     refine hK7 _ (SgP.mk (by rw [show sgS a k = zero32 from if_pos (.inl (by assumption))]) e1 e2 e3 F9 (by walk_at "nd"))
    ·walk_at "xa"
     k_steps
     walk_at "r9"
     walk_at "xnil"
     (first | refine And.intro rfl ?_ | skip)
     refine hK7 _ (SgP.mk (by rw [show sgS a k = zero32 from if_pos (.inr (sh_in (by assumption)))]) e1 e2 e3 F9 (by walk_at "nd"))
    ·skip
     walk_at "xj"
     k_steps
     (try dsimp only)
     walk_at "sz"
     k_steps
     (try dsimp only)
     walk_at "sx"
     k_steps
     walk_at "xc"
     refine useX1 (post := fun r h' => (∃ t, r = .bytes a.seqH t) ∧ ∃ t, h'.get? a.d = some (a.dictC w c1 (.bytes a.seqH t) c3)) (d := a.d) (hash_seq (a := a.withC c1 c2 c3) (by assumption) (by walk_at "kk_st") (Has.withC (Has.fr HL (by k_asm)) (News.get (by k_asm) (by k_mem)) (News.get (by k_asm) (by k_mem))) O.withC (by assumption) nx nd) (by k_asm) (by k_asm) (by k_mem) (by walk_at "kk_num") (by walk_at "kk_num") ?_
     intro K8 hK8 r h' tk' F' n0 p
     obtain ⟨⟨t', e1'⟩, t'', ed⟩ := p
     subst e1'
     have N' := n0 _ _ (by k_upd) ed
     clear n0
     refine hK8 _ _ _ ?_
     walk_at "xn"
     (try dsimp only)
     k_steps
     (try dsimp only)
     walk_at "xd"
     k_steps
     walk_at "xn"
     (try dsimp only)
     k_steps
     walk_at "r9"
     walk_at "xnil"
     (first | refine And.intro rfl ?_ | skip)
     refine hK7 _ (SgP.mk (by rw [show sgS a k = dig a.seqH from if_neg (by have := sh_out hk (by assumption); omega)]) e1 (.inr ⟨_, rfl⟩) e3 F9 (by walk_at "nd"))
   clear hsg1
   refine x_cut2 (SgP w g L hx hd kd (sgM hx inp.x tz qs (shOf k) (decide (128 ≤ k)) (fun y => [(Str.ofString "self", .ref a.x), (Str.ofString "input_index", .int (i : Int) ti), (Str.ofString "script_pubkey", .ref sc), (Str.ofString "value", .int (v : Int) tv), (Str.ofString "sighash", .int (k : Int) tk)].reverse.lookup y)) a (le 4 a.ver ++ sgA a k ++ sgS a k ++ inp.point) s) (fun K7 hK7 => ?_) fun s3 hsg3 => ?_
   ·refine SgP.elim hsg2 ?_
    intro h tk9 t c1 c2 c3 e1 e2 e3 F N
    walk_at "xa"
    k_steps
    walk_at "r9"
    walk_at "xnil"
    (first | refine And.intro rfl ?_ | skip)
    refine hK7 _ (SgP.mk (by rw [show inp.point = inp.txid.toList.reverse.toArray ++ le 4 inp.vout from rfl, ← Array.append_assoc]) e1 e2 e3 F9 (by walk_at "nd"))
   clear hsg2
   refine x_cut1 (SgP w g L hx hd kd (sgM hx inp.x tz qs (shOf k) (decide (128 ≤ k)) (fun y => [(Str.ofString "self", .ref a.x), (Str.ofString "input_index", .int (i : Int) ti), (Str.ofString "script_pubkey", .ref sc), (Str.ofString "value", .int (v : Int) tv), (Str.ofString "sighash", .int (k : Int) tk)].reverse.lookup y)) a (le 4 a.ver ++ sgA a k ++ sgS a k ++ inp.point ++ (sized c.size ++ c)) s) (fun K7 hK7 => ?_) fun s4 hsg4 => ?_
   ·refine SgP.elim hsg3 ?_
    intro h tk9 t c1 c2 c3 e1 e2 e3 F N
    walk_at "xj"
    k_steps
    (try dsimp only)
    walk_at "sx"
    k_steps
    walk_at "xc"
    walk_at "x_ser"
    walk_at "xn"
    k_steps
    walk_at "r9"
    walk_at "xnil"
    (first | refine And.intro rfl ?_ | skip)
    refine hK7 _ (SgP.mk rfl e1 e2 e3 F9 (by walk_at "nd"))
   clear hsg3
   refine x_cut2 (SgP w g L hx hd kd (sgM hx inp.x tz qs (shOf k) (decide (128 ≤ k)) (fun y => [(Str.ofString "self", .ref a.x), (Str.ofString "input_index", .int (i : Int) ti), (Str.ofString "script_pubkey", .ref sc), (Str.ofString "value", .int (v : Int) tv), (Str.ofString "sighash", .int (k : Int) tk)].reverse.lookup y)) a (le 4 a.ver ++ sgA a k ++ sgS a k ++ inp.point ++ (sized c.size ++ c) ++ le 8 v ++ le 4 inp.seq) s) (fun K7 hK7 => ?_) fun s5 hsg5 => ?_
   ·refine SgP.elim hsg4 ?_
    intro h tk9 t c1 c2 c3 e1 e2 e3 F N
    walk_at "xa"
    k_steps
    walk_at "r9"
    walk_at "xnil"
    (first | refine And.intro rfl ?_ | skip)
    refine hK7 _ (SgP.mk rfl e1 e2 e3 F9 (by walk_at "nd"))
   clear hsg4
   refine x_cut1 (SgP w g L hx hd kd (sgM hx inp.x tz qs (shOf k) (decide (128 ≤ k)) (fun y => [(Str.ofString "self", .ref a.x), (Str.ofString "input_index", .int (i : Int) ti), (Str.ofString "script_pubkey", .ref sc), (Str.ofString "value", .int (v : Int) tv), (Str.ofString "sighash", .int (k : Int) tk)].reverse.lookup y)) a (le 4 a.ver ++ sgA a k ++ sgS a k ++ inp.point ++ (sized c.size ++ c) ++ le 8 v ++ le 4 inp.seq ++ sgO a k i) s) (fun K7 hK7 => ?_) fun s6 hsg6 => ?_
   ·refine SgP.elim hsg5 ?_
    intro h tk9 t c1 c2 c3 e1 e2 e3 F N
    walk_at "xi"
    k_steps
    ·walk_at "xi"
     k_steps
     ·have hio : i < a.outs.length := by omega
      obtain ⟨o, ho⟩ : ∃ o, a.outs[i]? = some o := ⟨a.outs[i]'hio, List.getElem?_eq_getElem hio⟩
      have ook := O.ho o (List.mem_of_getElem? ho)
      have oz := ook.size
      have HO9 := Has.out HL (List.mem_of_getElem? ho)
      have gj := HO9.o0
      have gjd := HO9.o1
      have gjs := HO9.o2
      have gjsd := HO9.o3
      walk_at "xj"
      k_steps
      (try dsimp only)
      walk_at "sz"
      k_steps
      (try dsimp only)
      walk_at "sz"
      k_steps
      (try dsimp only)
      walk_at "sx"
      k_steps
      walk_at "xc"
      refine useX0b (X := o.oct) (out_ser (by assumption) (by walk_at "kk_st") (Fr.keep (by k_asm) _ _ gj) (Fr.keep (by k_asm) _ _ gjd) ⟨Fr.keep (by k_asm) _ _ gjs, Fr.keep (by k_asm) _ _ gjsd⟩ ook.hv ook.hc) (by k_asm) (by k_asm) (by walk_at "kk_num") (by walk_at "kk_num") ?_
      intro t' h' tk' F' N'
      walk_at "xn"
      (try dsimp only)
      k_steps
      (try dsimp only)
      walk_at "xd"
      k_steps
      walk_at "xn"
      (try dsimp only)
      k_steps
      (try dsimp only)
      walk_at "xd"
      k_steps
      walk_at "xn"
      (try dsimp only)
      k_steps
      walk_at "r9"
      walk_at "xnil"
      (first | refine And.intro rfl ?_ | skip)
      refine hK7 _ (SgP.mk (by rw [sgO_one (by assumption) ho]) e1 e2 e3 F9 (by walk_at "nd"))
     ·walk_at "xa"
      k_steps
      walk_at "r9"
      walk_at "xnil"
      (first | refine And.intro rfl ?_ | skip)
      refine hK7 _ (SgP.mk (by rw [sgO_out (sh_in (by assumption)) (by omega)]) e1 e2 e3 F9 (by walk_at "nd"))
     ·walk_at "xa"
      k_steps
      walk_at "r9"
      walk_at "xnil"
      (first | refine And.intro rfl ?_ | skip)
      refine hK7 _ (SgP.mk (by rw [sgO_none (sh_in (by assumption)) (by assumption)]) e1 e2 e3 F9 (by walk_at "nd"))
    ·skip
     walk_at "xj"
     k_steps
     (try dsimp only)
     walk_at "sz"
     k_steps
     (try dsimp only)
     walk_at "sx"
     k_steps
     walk_at "xc"
     refine useX1 (post := fun r h' => (∃ t, r = .bytes a.outH t) ∧ ∃ t, h'.get? a.d = some (a.dictC w c1 c2 (.bytes a.outH t))) (d := a.d) (hash_out (a := a.withC c1 c2 c3) (by assumption) (by walk_at "kk_st") (Has.withC (Has.fr HL (by k_asm)) (News.get (by k_asm) (by k_mem)) (News.get (by k_asm) (by k_mem))) O.withC (by assumption) nx nd) (by k_asm) (by k_asm) (by k_mem) (by walk_at "kk_num") (by walk_at "kk_num") ?_
     intro K8 hK8 r h' tk' F' n0 p
     obtain ⟨⟨t', e1'⟩, t'', ed⟩ := p
     subst e1'
     have N' := n0 _ _ (by k_upd) ed
     clear n0
     refine hK8 _ _ _ ?_
     walk_at "xn"
     (try dsimp only)
     k_steps
     (try dsimp only)
     walk_at "xd"
     k_steps
     walk_at "xn"
     (try dsimp only)
     k_steps
     walk_at "r9"
     walk_at "xnil"
     (first | refine And.intro rfl ?_ | skip)
     refine hK7 _ (SgP.mk (by rw [show sgO a k i = dig a.outH from if_pos (sh_out hk (by assumption))]) e1 e2 (.inr ⟨_, rfl⟩) F9 (by walk_at "nd"))
   clear hsg5
   refine SgP.elim hsg6 ?_
   intro h tk9 t c1 c2 c3 e1 e2 e3 F N
   walk_at "xa"
   k_steps
   exact leaves (by k_asm) fun _ => fun e => hQ _ _ _ (ext_drop e H.t0 (News.get (by k_asm) (by k_mem))) ⟨⟨_, rfl⟩, c1, c2, c3, e1, e2, e3, News.get (by k_asm) (by k_mem)⟩
end
end
section
abbrev enumO (it : Addr) (i : Int) (old : Value) : Obj := { cls := .type "enumerate", dict := none, data := .fields #[.none, .bool false, .ref it, rawInt i, .none, old], slots := #[] }
def EnumStart (P : (Str → Option Value) → List (Addr × Obj) → Prop) (g : Heap) (L l : Addr) (s₀ : Shared) (x : Value) (s₁ : Shared) : Prop :=
 ∃ e it o h tk m news, x = .ref e ∧ s₁ = { s₀ with heap := h, toks := tk } ∧ P m news ∧ Fr g L h m ∧ News g L h ((e, enumO it 0 .none) :: (it, o) :: news) ∧ o.cls = .type "list_iterator" ∧ o.data = .fields #[.ref l, .int (0 : Nat) 0] ∧ e ≠ it ∧ (∀ p ∈ news, p.1 < it) ∧ @LT.lt Nat _ it e ∧ @LT.lt Nat _ L it
def LoopEnd2 (P : (Str → Option Value) → List (Addr × Obj) → Prop) (g : Heap) (L e : Addr) (oe : Obj) (it : Addr) (oi : Obj) (s₀ s₃ : Shared) : Prop :=
 ∃ h tk m news, s₃ = { s₀ with heap := h, toks := tk } ∧ P m news ∧ Fr g L h m ∧ News g L h ((e, oe) :: (it, oi) :: news)
section
variable {w : World} {A : Around} {E : Value → Shared → Prop} {env : Env}
theorem enum_K {s : Shared} {l : Addr} {vs : List Value} {g : Heap} {L : Addr} {m : Str → Option Value} {news : List (Addr × Obj)} {Q : Value → Shared → Prop} (F : Fr g L s.heap m) (N : News g L s.heap news) (hl : s.heap.IsList l vs.toArray)
  (h : ∀ e it o h', Fr g L h' m → News g L h' ((e, enumO it 0 .none) :: (it, o) :: news) → o.cls = .type "list_iterator" → o.data = .fields #[.ref l, .int (0 : Nat) 0] → e ≠ it → (∀ p ∈ news, p.1 < it) → @LT.lt Nat _ it e → @LT.lt Nat _ L it → Q (.ref e) { s with heap := h' }) :
  wpAny (model prog w) A (PySem.call (.type "enumerate") [.ref l]) Q E s := by
 refine call_enumerate_list hl fun h' he hi hz k => ?_
 obtain ⟨o, ho, hc, hd⟩ := hi
 refine h _ _ o h' (F.keeps k) (fun p hp => ?_) hc hd (Nat.succ_ne_self _) (fun p hp => Heap.lt_size (N p hp).1) (Nat.lt_succ_self _) F.ns.lt
 have fresh : ∀ a, s.heap.objs.size ≤ a → g.get? a = none := fun a ha => by
  cases q : g.get? a with
  | none => rfl
  | some o => exact absurd (Heap.lt_size (F.keep _ _ q)) (Nat.not_lt.mpr ha)
 have hL := F.ns.lt
 rcases List.mem_cons.mp hp with rfl | hp
 ·exact ⟨he, Nat.ne_of_gt (Nat.lt_succ_of_lt hL), fresh _ (Nat.le_succ _)⟩
 rcases List.mem_cons.mp hp with rfl | hp
 ·exact ⟨ho, Nat.ne_of_gt hL, fresh _ (Nat.le_refl _)⟩
 ·exact ⟨k _ _ (N p hp).1, (N p hp).2⟩
theorem b_loopE {b : Bool} {name : Str} {scope : Scope} {L ad : Addr} {cd : Value} {xi xv : Str} {pi pv pt : Pos} {x1 : Nat} {body : List Stmt} {vs : List Value} {l e it : Addr} {g : Heap} {s₀ : Shared} {Q : Flow → Shared → Prop} {as : List Addr} (P : Nat → (Str → Option Value) → List (Addr × Obj) → Prop) (hh : A.handled = none)
  (hk : scope.kind = .function) (hxi : (envOf name scope L ad cd).kindOf xi = some .local) (hxv : (envOf name scope L ad cd).kindOf xv = some .local)
  (hg : g.IsList l vs.toArray) (hei : e ≠ it) (hle : g.get? e = none) (hli : g.get? it = none) (has : ∀ p ∈ as, p < it) (hie : @LT.lt Nat _ it e) (hLi : @LT.lt Nat _ L it)
  (hA : ∀ i m news, P i m news → news.map (·.1) = as)
  (turn : ∀ i v m news oe oi h tk ti, vs[i]? = some v → P i m news → Fr g L h (fun y => if y = xv then some v else if y = xi then some (.int (i : Int) ti) else m y) → News g L h ((e, oe) :: (it, oi) :: news) →
   wpB b (model prog w) A (execs body (envOf name scope L ad cd)) (fun f s₃ => match f with | .next | .cont => LoopEnd2 (P (i + 1)) g L e oe it oi s₀ s₃ | .brk => Q .next s₃ | .ret v => Q (.ret v) s₃) (fun _ _ => False) { s₀ with heap := h, toks := tk })
  (done : ∀ m news h tk, P vs.length m news → Fr g L h m → News g L h news → Q .next { s₀ with heap := h, toks := tk }) :
  ∀ (k i : Nat) (h : Heap) (tk : Nat) (m : Str → Option Value) (news : List (Addr × Obj)) (old : Value) (oi : Obj), vs.length - i = k → i ≤ vs.length → P i m news → Fr g L h m → News g L h ((e, enumO it (i : Int) old) :: (it, oi) :: news) → oi.cls = .type "list_iterator" → oi.data = .fields #[.ref l, .int (i : Int) 0] →
   codeB b (model prog w) A (.forLoop (.Tuple [.Name xi pi, .Name xv pv] x1 pt) (.ref e) body [] (envOf name scope L ad cd)) (fun r s' => match r with | .ok f => Q f s' | .error _ => False) { s₀ with heap := h, toks := tk } := by
 intro k
 induction k with
 | zero =>
  intro i h tk m news old oi hkk hi hP F N hc hd
  have e1 : i = vs.length := Nat.le_antisymm hi (Nat.le_of_sub_eq_zero hkk)
  subst e1
  have hit : h.IsListIter it l vs.length := ⟨oi, (N _ (.tail _ (.head _))).1, hc, hd⟩
  have hl : h.IsList l vs.toArray := by obtain ⟨ol, hol, a, b, c⟩ := hg; exact ⟨ol, F.keep _ _ hol, a, b, c⟩
  refine b_tree rfl ?_
  rw [Around.under_of_weight (by rfl) (by rfl)]
  show wpB b _ _ ((forTurn (.Tuple [.Name xi pi, .Name xv pv] x1 pt) (.ref e) body [] (envOf name scope L ad cd)).onRaise _) _ _ _
  refine b_onRaise (b_mono (E := fun _ _ => False) ?_ (fun _ _ z => z) fun _ _ z => z.elim)
  unfold forTurn
  refine b_bind (b_stand (b_bind (b_onRaise (b_any (wpAny_pyNext_enum_end hh (N _ (.head _)).1 hit hl (by simp) fun h' he => ?_)))))
  refine b_pure ⟨rfl, b_tree rfl ?_⟩
  rw [Around.under_of_weight (by rfl) (by rfl)]
  show wpB b _ _ (Bind.bind (Sem.onRaise (execs [] (envOf name scope L ad cd)) _) (fun f => pure (Fin.done f))) _ _ _
  refine b_bind (b_onRaise (b_execs_nil (b_pure ?_)))
  have ne : ∀ q ∈ news, q.1 ≠ it := fun q hq => by
   have : q.1 ∈ as := by rw [← hA _ _ _ hP]; exact List.mem_map_of_mem hq
   exact Nat.ne_of_lt (has _ this)
  refine done m news h' tk hP (fr_but (W := [it]) F (fun a ha => ?_) fun b o hb q => he b o (by simpa using hb) q) fun q hq => ⟨he _ _ (ne q hq) (N q (.tail _ (.tail _ hq))).1, (N q (.tail _ (.tail _ hq))).2⟩
  rw [List.mem_singleton.mp ha]; exact (N _ (.tail _ (.head _))).2
 | succ k ih =>
  intro i h tk m news old oi hkk hi hP F N hc hd
  have hlt : i < vs.length := Nat.lt_of_sub_eq_succ hkk
  obtain ⟨v, hv⟩ : ∃ v, vs[i]? = some v := ⟨vs[i], List.getElem?_eq_getElem hlt⟩
  have hit : h.IsListIter it l i := ⟨oi, (N _ (.tail _ (.head _))).1, hc, hd⟩
  have hl : h.IsList l vs.toArray := by obtain ⟨ol, hol, a, b, c⟩ := hg; exact ⟨ol, F.keep _ _ hol, a, b, c⟩
  have he0 : h.get? e = some (enumO it (i : Int) old) := (N _ (.head _)).1
  have heH : e < h.objs.size := Heap.lt_size he0
  have hiH : it < h.objs.size := Heap.lt_size (N _ (.tail _ (.head _))).1
  have ne : ∀ q ∈ news, q.1 ≠ it := fun q hq => by
   have : q.1 ∈ as := by rw [← hA _ _ _ hP]; exact List.mem_map_of_mem hq
   exact Nat.ne_of_lt (has _ this)
  have nee : ∀ q ∈ news, q.1 ≠ e := fun q hq => by
   have : q.1 ∈ as := by rw [← hA _ _ _ hP]; exact List.mem_map_of_mem hq
   exact Nat.ne_of_lt (Nat.lt_trans (has _ this) hie)
  refine b_tree rfl ?_
  rw [Around.under_of_weight (by rfl) (by rfl)]
  show wpB b _ _ ((forTurn (.Tuple [.Name xi pi, .Name xv pv] x1 pt) (.ref e) body [] (envOf name scope L ad cd)).onRaise _) _ _ _
  refine b_onRaise (b_mono (E := fun _ _ => False) ?_ (fun _ _ z => z) fun _ _ z => z.elim)
  unfold forTurn
  refine b_bind (b_stand (b_bind (b_onRaise (b_any (wpAny_pyNext_enum_item he0 hit hl (by simpa using hv) hei fun h₁ heo hit₁ ht₁ hz₁ hk₁ => ?_)))))
  refine b_bind (b_any (wpAny_letOwnedTupleGo_enum heo fun h₂ he₂ hs₂ => ?_))
  replace hs₂ : Heap.SameBut e h₁ h₂ := hs₂
  have hz₂ : h₂.objs.size = h.objs.size + 1 := hs₂.1.trans hz₁
  have ht₂ : h₂.IsTuple h.objs.size #[.int (i : Int) tk, v] := ⟨_, (hs₂.2 _ (Nat.ne_of_gt heH)).trans ht₁, rfl, _, rfl⟩
  refine b_bind (b_any (wpAny_assign_Tuple hh ht₂ rfl rfl fun h₃ hx₃ => ?_))
  replace hx₃ : Heap.ExtBut h₂.objs.size h₂ h₃ := hx₃
  have up : ∀ b o, b < h.objs.size → h₂.get? b = some o → h₃.get? b = some o := fun b o hb x => hx₃ b o (by rw [hz₂]; exact Nat.ne_of_lt (Nat.lt_succ_of_lt hb)) x
  have ext : Ext [e, it] h h₃ := fun b o hb q => by
   have hbe : b ≠ e := fun z => hb (by simp [z])
   have hbi : b ≠ it := fun z => hb (by simp [z])
   exact up b o (Heap.lt_size q) (hs₂.extBut _ _ hbe (hk₁ b o hbe hbi q))
  have F₃ : Fr g L h₃ m := fr_but F (fun a ha => by
   rcases List.mem_cons.mp ha with rfl | ha
   ·exact (N _ (.head _)).2
   ·rw [List.mem_singleton.mp ha]; exact (N _ (.tail _ (.head _))).2) ext
  refine hideP fun B9 k9 => ?_
  obtain ⟨oi', ho', hc', hd'⟩ := hit₁
  refine k9 ?_; clear k9
  have N₃ : News g L h₃ ((e, enumO it ((i : Int) + 1) v) :: (it, oi') :: news) := by
   intro q hq
   rcases List.mem_cons.mp hq with rfl | hq
   ·exact ⟨up _ _ heH he₂, (N (e, enumO it (i : Int) old) (.head _)).2⟩
   rcases List.mem_cons.mp hq with rfl | hq
   ·exact ⟨up _ _ hiH (hs₂.extBut _ _ (Ne.symm hei) ho'), (N (it, oi) (.tail _ (.head _))).2⟩
   ·have := N q (.tail _ (.tail _ hq))
    exact ⟨ext _ _ (by simp [ne q hq, nee q hq]) this.1, this.2⟩
  show wpAny _ A (do holding [v] (assign (.Name xi pi) (envOf name scope L ad cd) (.int (i : Int) tk)); do holding [] (assign (.Name xv pv) (envOf name scope L ad cd) v); pure ()) _ _ _
  refine wpAny_bind (wpAny_holding (wpAny_assign_Name (stN F₃ N₃ (fun h₄ F₄ N₄ => ?_) hk hxi)))
  refine wpAny_bind (wpAny_holding (wpAny_assign_Name (stN F₄ N₄ (fun h₅ F₅ N₅ => wpAny_pure ?_) hk hxv)))
  refine b_bind (b_mono (turn i v m news _ _ h₅ _ tk hv hP F₅ N₅) (fun f s₃ h₃ => ?_) fun _ _ z => z)
  have fin : LoopEnd2 (P (i + 1)) g L e (enumO it ((i : Int) + 1) v) it oi' s₀ s₃ → codeB b (model prog w) A (.forLoop (.Tuple [.Name xi pi, .Name xv pv] x1 pt) (.ref e) body [] (envOf name scope L ad cd)) (fun r s' => match r with | .ok f => Q f s' | .error _ => False) s₃ := by
   rintro ⟨h', tk', m', news', rfl, hP', F', N'⟩
   exact ih (i + 1) h' tk' m' news' v oi' (by rw [Nat.sub_add_eq, hkk]; rfl) hlt hP' F' (by rw [show ((i + 1 : Nat) : Int) = (i : Int) + 1 from rfl]; exact N') hc' hd'
  cases f with
  | next => exact b_pure ⟨rfl, fin h₃⟩
  | cont => exact b_pure ⟨rfl, fin h₃⟩
  | brk => exact b_pure h₃
  | ret v => exact b_pure h₃
theorem b_forE {b : Bool} {name : Str} {scope : Scope} {L ad : Addr} {cd : Value} {xi xv : Str} {pi pv pt pos : Pos} {x1 : Nat} {iter : Expr} {body : List Stmt} {vs : List Value} {l : Addr} {g : Heap} {s s₀ : Shared} {Q : Flow → Shared → Prop} (as : List Addr) (P : Nat → (Str → Option Value) → List (Addr × Obj) → Prop) (hh : A.handled = none)
  (hk : scope.kind = .function) (hxi : (envOf name scope L ad cd).kindOf xi = some .local) (hxv : (envOf name scope L ad cd).kindOf xv = some .local)
  (hg : g.IsList l vs.toArray) (hA : ∀ i m news, P i m news → news.map (·.1) = as)
  (start : wpAny (model prog w) A (eval iter (envOf name scope L ad cd)) (EnumStart (P 0) g L l s₀) E s)
  (turn : ∀ i v m news e it oe oi h tk ti, vs[i]? = some v → P i m news → Fr g L h (fun y => if y = xv then some v else if y = xi then some (.int (i : Int) ti) else m y) → News g L h ((e, oe) :: (it, oi) :: news) → (∀ p ∈ as, p < it) → @LT.lt Nat _ it e → @LT.lt Nat _ L it →
   wpB b (model prog w) A (execs body (envOf name scope L ad cd)) (fun f s₃ => match f with | .next | .cont => LoopEnd2 (P (i + 1)) g L e oe it oi s₀ s₃ | .brk => Q .next s₃ | .ret v => Q (.ret v) s₃) (fun _ _ => False) { s₀ with heap := h, toks := tk })
  (done : ∀ m news h tk, P vs.length m news → Fr g L h m → News g L h news → Q .next { s₀ with heap := h, toks := tk })
  (hs : ∀ x, foldedSetIterable iter (envOf name scope L ad cd) x = pure x := by intro _; rfl) :
  wpB b (model prog w) A (exec (.For (.Tuple [.Name xi pi, .Name xv pv] x1 pt) iter body [] pos) (envOf name scope L ad cd)) Q E s := by
 rw [exec_For]
 refine b_bind (b_stand (b_bind (b_any (wpAny_mono start (fun x s₁ h₁ => ?_) fun _ _ z => z))))
 refine hideP fun B9 k9 => ?_
 obtain ⟨e, it, o, h, tk, m, news, rfl, rfl, hP, F, N, hc, hd, hei, hl1, hl2, hl3⟩ := h₁
 refine k9 ?_; clear k9
 have has : ∀ p ∈ as, p < it := fun p hp => by
  rw [← hA _ _ _ hP] at hp
  obtain ⟨q, hq, rfl⟩ := List.mem_map.mp hp
  exact hl1 q hq
 refine b_bind (b_any (wpAny_of_eq (hs _) ?_))
 refine b_bind (b_stand (b_bind (b_holding (b_any (wpAny_pyIter_enum (N _ (.head _)).1 ?_)))))
 unfold runOwn
 refine b_onRaise (b_run (b_codeMono (b_loopE (vs := vs) (l := l) (Q := Q) P hh hk hxi hxv hg hei (N _ (.head _)).2.2 (N _ (.tail _ (.head _))).2.2 has hl2 hl3 hA (fun i v m news oe oi h tk ti a b c d => turn i v m news e it oe oi h tk ti a b c d has hl2 hl3) done vs.length 0 h tk m news .none o rfl (Nat.zero_le _) hP F N hc hd) fun r s' z => ?_) (by intro x; cases x))
 cases r with
 | ok f => exact z
 | error e => exact z.elim
theorem x_forE {name : Str} {scope : Scope} {L ad : Addr} {cd : Value} {xi xv : Str} {pi pv pt pos : Pos} {x1 : Nat} {iter : Expr} {body : List Stmt} {vs : List Value} {l : Addr} {g : Heap} {s s₀ : Shared} {Q : Flow → Shared → Prop} (as : List Addr) (P : Nat → (Str → Option Value) → List (Addr × Obj) → Prop) (hh : A.handled = none)
  (hk : scope.kind = .function) (hxi : (envOf name scope L ad cd).kindOf xi = some .local) (hxv : (envOf name scope L ad cd).kindOf xv = some .local)
  (hg : g.IsList l vs.toArray) (hA : ∀ i m news, P i m news → news.map (·.1) = as)
  (start : wpAny (model prog w) A (eval iter (envOf name scope L ad cd)) (EnumStart (P 0) g L l s₀) E s)
  (turn : ∀ i v m news e it oe oi h tk ti, vs[i]? = some v → P i m news → Fr g L h (fun y => if y = xv then some v else if y = xi then some (.int (i : Int) ti) else m y) → News g L h ((e, oe) :: (it, oi) :: news) → (∀ p ∈ as, p < it) → @LT.lt Nat _ it e → @LT.lt Nat _ L it →
   wpX (model prog w) A (execs body (envOf name scope L ad cd)) (fun f s₃ => match f with | .next | .cont => LoopEnd2 (P (i + 1)) g L e oe it oi s₀ s₃ | .brk => Q .next s₃ | .ret v => Q (.ret v) s₃) (fun _ _ => False) { s₀ with heap := h, toks := tk })
  (done : ∀ m news h tk, P vs.length m news → Fr g L h m → News g L h news → Q .next { s₀ with heap := h, toks := tk })
  (hs : ∀ x, foldedSetIterable iter (envOf name scope L ad cd) x = pure x := by intro _; rfl) :
  wpX (model prog w) A (exec (.For (.Tuple [.Name xi pi, .Name xv pv] x1 pt) iter body [] pos) (envOf name scope L ad cd)) Q E s :=
 b_forE (b := true) as P hh hk hxi hxv hg hA start turn done hs
end
end
section
section
variable {w : World} {A : Around} {E : Value → Shared → Prop} {env : Env}
end
end
section
theorem ext_dropL {h h' : Heap} {a b x : Addr} {o : Obj} (e : Ext [a, b, x] h h') (hx : h.get? x = some o) (hx' : h'.get? x = some o) : Ext [a, b] h h' := fun c o' hc q => by
 by_cases z : c = x
 ·subst z; rw [hx] at q; rw [hx', q]
 ·exact e c o' (by simp at hc ⊢; exact ⟨hc.1, hc.2, z⟩) q
theorem fresh_ofW {W : List Addr} {g h h0 : Heap} {L x : Addr} {o : Obj} {news : List (Addr × Obj)} (sub : ∀ b o, h0.get? b = some o → b ∉ W → g.get? b = some o) (N : News g L h news) (hm : (x, o) ∈ news) (hx : x ∉ W) : h0.get? x = none := by
 cases q : h0.get? x with
 | none => rfl
 | some o' => have := (N _ hm).2.2; rw [sub _ _ q hx] at this; cases this
section
variable {w : World} {hb : Heap} {mean : ExcName → Option Value} {mg mb : Str → Option Value} {s : Shared}
theorem scr_init (G : Gd w hb mean mg mb) (st : St hb s.heap) {x d : Addr} {b : Array UInt8} {t : Tok} (hx : s.heap.get? x = some (instObj 843 d)) (hd : s.heap.get? d = some (dictOf [] 0)) (hn : hb.get? d = none) (hnx : hb.get? x = none) (hxd : @LT.lt Nat _ d x) :
  Does w 2 (.ref 770) [.ref x, .bytes b t] [] s [d] (fun r h' => r = .none ∧ ∃ k t', h'.get? d = some (dictOf [ent w "data" k (.bytes b t')] 1)) := by
 walk_at "ir"
 refine' enter (binds := [(Str.ofString "self", .ref x), (Str.ofString "data", .bytes b t)]) G st [(x, instObj 843 d), (d, dictOf [] 0)] ?hW ?ho ?hcd ?hroom ?hbind ?hloc ?h ?hcell ?hco ?hgen ?hk
 walk_at "kk_enter"
 case hW => exact List.forall_mem_cons.mpr ⟨⟨hx, hnx⟩, List.forall_mem_cons.mpr ⟨⟨hd, hn⟩, fun _ h => nomatch h⟩⟩
 walk_at "ig"
 k_lt l1
 k_steps
 refine leaves (by k_asm) fun _ => fun e => hQ _ _ _ (ext_drop e hx ?_) ⟨rfl, ?_, ?_, ?_⟩
 rotate_left 3
 all_goals exact News.get (by k_asm) (by k_mem)
theorem scr_new (G : Gd w hb mean mg mb) (st : St hb s.heap) {b : Array UInt8} {t : Tok} :
  Does w 4 (.ref 843) [.bytes b t] [] s [] (fun r h' => ∃ x d, r = .ref x ∧ s.heap.objs.size ≤ d ∧ d < x ∧ h'.get? x = some (instObj 843 d) ∧ ∃ k t', h'.get? d = some (dictOf [ent w "data" k (.bytes b t')] 1)) :=
 make_does G st (n := 2) (fI := 770) (pi := fun x d h' => ∃ k t', h'.get? d = some (dictOf [ent w "data" k (.bytes b t')] 1)) (by k_is) (by k_is) (by k_is) fun x d h' k _ l ex ed nx nd => scr_init G (s := { s with heap := h' }) (fun b o e => k _ _ (st b o e)) ex ed nd nx l
theorem hk30 : True := by
 k_with "call ref" => (k_here; (with_reducible show wpAny _ _ (PySem.call (Value.ref 843) _ _) _ _ _); (show wpAny _ _ (PySem.call (Value.ref 843) [Value.bytes _ _] _) _ _ _); (refine use0o (scr_new (by assumption) (by walk_at "kk_st")) (by k_asm) (by k_asm) (by walk_at "kk_num") (by walk_at "kk_num") ?_); intro x9 d9 k9 t'9 h'9 tk'9 F'9 N'9 l19 l29 lx9; (try k_lt l19))
 trivial
theorem out_init (G : Gd w hb mean mg mb) (st : St hb s.heap) {x d sp : Addr} {v : Int} {t : Tok} (hx : s.heap.get? x = some (instObj 1143 d)) (hd : s.heap.get? d = some (dictOf [] 0)) (hn : hb.get? d = none) (hnx : hb.get? x = none) (hxd : @LT.lt Nat _ d x) :
  Does w 2 (.ref 1123) [.ref x, .int v t, .ref sp] [] s [d] (fun r h' => r = .none ∧ ∃ k1 k2 t', h'.get? d = some (dictOf [ent w "value" k1 (.int v t'), ent w "script_pubkey" k2 (.ref sp)] 2)) := by
 walk_at "ir"
 refine' enter (binds := [(Str.ofString "self", .ref x), (Str.ofString "value", .int v t), (Str.ofString "script_pubkey", .ref sp)]) G st [(x, instObj 1143 d), (d, dictOf [] 0)] ?hW ?ho ?hcd ?hroom ?hbind ?hloc ?h ?hcell ?hco ?hgen ?hk
 walk_at "kk_enter"
 case hW => exact List.forall_mem_cons.mpr ⟨⟨hx, hnx⟩, List.forall_mem_cons.mpr ⟨⟨hd, hn⟩, fun _ h => nomatch h⟩⟩
 walk_at "ig"
 k_lt l1
 k_steps
 exact leaves (by k_asm) fun _ => fun e => hQ _ _ _ (ext_drop e hx (News.get (by k_asm) (by k_mem))) ⟨rfl, _, _, _, News.get (by k_asm) (by k_mem)⟩
theorem out_new (G : Gd w hb mean mg mb) (st : St hb s.heap) {v : Int} {sp : Addr} {t : Tok} :
  Does w 4 (.ref 1143) [.int v t, .ref sp] [] s [] (fun r h' => ∃ x d, r = .ref x ∧ s.heap.objs.size ≤ d ∧ d < x ∧ h'.get? x = some (instObj 1143 d) ∧ ∃ k1 k2 t', h'.get? d = some (dictOf [ent w "value" k1 (.int v t'), ent w "script_pubkey" k2 (.ref sp)] 2)) :=
 make_does G st (n := 2) (fI := 1123) (pi := fun x d h' => ∃ k1 k2 t', h'.get? d = some (dictOf [ent w "value" k1 (.int v t'), ent w "script_pubkey" k2 (.ref sp)] 2)) (by k_is) (by k_is) (by k_is) fun x d h' k _ l ex ed nx nd => out_init G (s := { s with heap := h' }) (fun b o e => k _ _ (st b o e)) ex ed nd nx l
theorem wit_init (G : Gd w hb mean mg mb) (st : St hb s.heap) {x d l : Addr} (hx : s.heap.get? x = some (instObj 888 d)) (hd : s.heap.get? d = some (dictOf [] 0)) (hn : hb.get? d = none) (hnx : hb.get? x = none) (hxd : @LT.lt Nat _ d x) (hl : s.heap.get? l = some (listOf #[] 0)) (hnl : hb.get? l = none) :
  Does w 4 (.ref 861) [.ref x, .ref l] [] s [d] (fun r h' => r = .none ∧ ∃ k l', @LT.lt Nat _ d l' ∧ h'.get? d = some (dictOf [ent w "items" k (.ref l')] 1) ∧ h'.get? l' = some listNil) := by
 walk_at "ir"
 have hlx : l ≠ x := ne_obj hl hx (ne_cls (by intro e; cases e))
 have hld : l ≠ d := ne_obj hl hd (ne_cls (by intro e; injection e; contradiction))
 have hxl := Ne.symm hlx
 have hdl := Ne.symm hld
 refine' enter (binds := [(Str.ofString "self", .ref x), (Str.ofString "items", .ref l)]) G st [(x, instObj 888 d), (d, dictOf [] 0), (l, listOf #[] 0)] ?hW ?ho ?hcd ?hroom ?hbind ?hloc ?h ?hcell ?hco ?hgen ?hk
 walk_at "kk_enter"
 case hW => exact List.forall_mem_cons.mpr ⟨⟨hx, hnx⟩, List.forall_mem_cons.mpr ⟨⟨hd, hn⟩, List.forall_mem_cons.mpr ⟨⟨hl, hnl⟩, fun _ h => nomatch h⟩⟩⟩
 walk_at "ig"
 have l9 : ∀ p ∈ [(x, instObj 888 d), (d, dictOf [] 0), (l, listOf #[] 0)], p.1 < L := l1
 k_lt l1
 k_steps
 have ex := News.get (by k_asm) (show (x, instObj 888 d) ∈ _ by k_mem)
 have el := News.get (by k_asm) (show (l, listOf #[] 0) ∈ _ by k_mem)
 (rename News _ _ _ _ => N9)
 refine leaves (by k_asm) fun _ => fun e => hQ _ _ _ (ext_drop (ext_dropL e hl el) hx ex) ⟨rfl, _, _, ?_, News.get N9 (by k_mem), News.get N9 (by k_mem)⟩
 omega
theorem wit_new (G : Gd w hb mean mg mb) (st : St hb s.heap) {l : Addr} (hl : s.heap.get? l = some (listOf #[] 0)) (hnl : hb.get? l = none) :
  Does w 6 (.ref 888) [.ref l] [] s [] (fun r h' => ∃ x d, r = .ref x ∧ s.heap.objs.size ≤ d ∧ d < x ∧ h'.get? x = some (instObj 888 d) ∧ ∃ k l', s.heap.objs.size ≤ l' ∧ h'.get? d = some (dictOf [ent w "items" k (.ref l')] 1) ∧ h'.get? l' = some listNil) := by
 refine make_does G st (n := 4) (fI := 861) (pi := fun x d h' => ∃ k l', s.heap.objs.size ≤ l' ∧ h'.get? d = some (dictOf [ent w "items" k (.ref l')] 1) ∧ h'.get? l' = some listNil) (by k_is) (by k_is) (by k_is) fun x d h' k0 ld l ex ed nx nd => ?_
 intro dp un fr gd R h1 h2 h3
 refine wit_init G (s := { s with heap := h' }) (fun b o e => k0 _ _ (st b o e)) ex ed nd nx l (k0 _ _ hl) hnl dp un fr gd R h1 h2 fun r h'' tk' e p => h3 r h'' tk' e ?_
 obtain ⟨rfl, k, l', q1, q2, q3⟩ := p
 exact ⟨rfl, k, l', Nat.le_of_lt (Nat.lt_of_le_of_lt ld q1), q2, q3⟩
theorem hk31 : True := by
 k_with "call ref" => (k_here; (with_reducible show wpAny _ _ (PySem.call (Value.ref 888) _ _) _ _ _); (show wpAny _ _ (PySem.call (Value.ref 888) [Value.ref _] _) _ _ _); (refine use0 (wit_new (by assumption) (by walk_at "kk_st") (News.get (by k_asm) (by k_mem)) (none_base (by assumption) (by k_asm) (by k_mem))) (by k_asm) (by k_asm) (by walk_at "kk_num") (by walk_at "kk_num") ?_); intro K8 hK8 r9 h'9 tk'9 F'9 n09 l19 l29 p9; obtain ⟨x9, d9, e19, ld9, lx9, ex9, k9, l'9, ll9, ed9, el9⟩ := p9; subst e19; (have nl9 : x9 ≠ l'9 := ne_obj ex9 el9 (ne_cls (by intro e9; cases e9))); (have nd9 : d9 ≠ l'9 := ne_obj ed9 el9 (ne_cls (by intro e9; injection e9; contradiction))); (have nl'9 := Ne.symm nl9); (have nd'9 := Ne.symm nd9); (have n19 := news_new (by k_asm) ld9 ed9 n09); (have n29 := news_new (by k_asm) (Nat.le_of_lt (Nat.lt_of_le_of_lt ld9 lx9)) ex9 n19); (have N'9 := news_new (by k_asm) ll9 el9 n29); clear n09 n19 n29; (replace lx9 := ltN lx9); (replace l29 := ltN l29); (try k_lt l19); (try dsimp only at l19); (try dsimp only at l29); (try dsimp only at ld9); (try dsimp only at ll9); (refine hK8 _ _ _ ?_))
 trivial
abbrev inDict (w : World) (k1 k2 k3 k4 k5 : Nat) (txid : Array UInt8) (vout : Int) (sc : Addr) (seq : Int) (wt : Addr) (t1 t2 t4 : Tok) : Obj := dictOf [ent w "txid" k1 (.bytes txid t1), ent w "vout" k2 (.int vout t2), ent w "script_sig" k3 (.ref sc), ent w "sequence" k4 (.int seq t4), ent w "witness" k5 (.ref wt)] 5
def InMade (w : World) (d : Addr) (txid : Array UInt8) (vout : Int) (sc : Addr) (seq : Int) (t1 t2 t4 : Tok) (h' : Heap) : Prop :=
 ∃ (k1 k2 k3 k4 k5 kw : Nat) (wt wd wl : Addr), h'.get? d = some (inDict w k1 k2 k3 k4 k5 txid vout sc seq wt t1 t2 t4) ∧ h'.get? wt = some (instObj 888 wd) ∧ h'.get? wd = some (dictOf [ent w "items" kw (.ref wl)] 1) ∧ h'.get? wl = some listNil ∧ @LT.lt Nat _ d wt ∧ @LT.lt Nat _ d wd ∧ @LT.lt Nat _ d wl
theorem in_init (G : Gd w hb mean mg mb) (st : St hb s.heap) {x d sc : Addr} {txid : Array UInt8} {vout seq : Int} {t1 t2 t4 : Tok} (hx : s.heap.get? x = some (instObj 1107 d)) (hd : s.heap.get? d = some (dictOf [] 0)) (hn : hb.get? d = none) (hnx : hb.get? x = none) (hxd : @LT.lt Nat _ d x) :
  Does w 10 (.ref 1078) [.ref x, .bytes txid t1, .int vout t2, .ref sc, .int seq t4] [] s [d] (fun r h' => r = .none ∧ InMade w d txid vout sc seq t1 t2 t4 h') := by
 walk_at "ir"
 refine' enter (binds := [(Str.ofString "self", .ref x), (Str.ofString "txid", .bytes txid t1), (Str.ofString "vout", .int vout t2), (Str.ofString "script_sig", .ref sc), (Str.ofString "sequence", .int seq t4), (Str.ofString "witness", .none)]) G st [(x, instObj 1107 d), (d, dictOf [] 0)] ?hW ?ho ?hcd ?hroom ?hbind ?hloc ?h ?hcell ?hco ?hgen ?hk
 walk_at "kk_enter"
 case hW => exact List.forall_mem_cons.mpr ⟨⟨hx, hnx⟩, List.forall_mem_cons.mpr ⟨⟨hd, hn⟩, fun _ h => nomatch h⟩⟩
 walk_at "ig"
 k_lt l1
 k_steps
 exact leaves (by k_asm) fun _ => fun e => hQ _ _ _ (ext_drop e hx (News.get (by k_asm) (by k_mem))) ⟨rfl, _, _, _, _, _, _, _, _, _, News.get (by k_asm) (by k_mem), News.get (by k_asm) (by k_mem), News.get (by k_asm) (by k_mem), News.get (by k_asm) (by k_mem), by omega, by omega, by omega⟩
theorem in_new (G : Gd w hb mean mg mb) (st : St hb s.heap) {sc : Addr} {txid : Array UInt8} {vout seq : Int} {t1 t2 t4 : Tok} :
  Does w 12 (.ref 1107) [.bytes txid t1, .int vout t2, .ref sc, .int seq t4] [] s [] (fun r h' => ∃ x d, r = .ref x ∧ s.heap.objs.size ≤ d ∧ d < x ∧ h'.get? x = some (instObj 1107 d) ∧ InMade w d txid vout sc seq t1 t2 t4 h') :=
 make_does G st (n := 10) (fI := 1078) (pi := fun x d h' => InMade w d txid vout sc seq t1 t2 t4 h') (by k_is) (by k_is) (by k_is) fun x d h' k _ l ex ed nx nd => in_init G (s := { s with heap := h' }) (fun b o e => k _ _ (st b o e)) ex ed nd nx l
end
end
section
abbrev txDict (w : World) (k1 k2 k3 k4 k5 k6 k7 k8 k9 : Nat) (ver : Int) (tv : Tok) (lock : Int) (tl : Tok) (vi vo : Addr) (c1 c2 c3 : Value) : Obj :=
 dictOf [ent w "version" k1 (.int ver tv), ent w "locktime" k2 (.int lock tl), ent w "vin" k3 (.ref vi), ent w "vout" k4 (.ref vo), ent w "_hash_prevouts" k5 c1, ent w "_hash_sequence" k6 c2, ent w "_hash_outputs" k7 c3, ent w "_hash_amounts" k8 .none, ent w "_hash_script_pubkeys" k9 .none] 9
abbrev txDict4 (w : World) (k1 k2 k3 k4 : Nat) (ver : Int) (tv : Tok) (lock : Int) (tl : Tok) (vi vo : Addr) : Obj :=
 dictOf [ent w "version" k1 (.int ver tv), ent w "locktime" k2 (.int lock tl), ent w "vin" k3 (.ref vi), ent w "vout" k4 (.ref vo)] 4
section
variable {w : World} {hb : Heap} {mean : ExcName → Option Value} {mg mb : Str → Option Value} {s : Shared}
theorem tx_clear (G : Gd w hb mean mg mb) (st : St hb s.heap) {x d vi vo : Addr} {k1 k2 k3 k4 k5 k6 k7 k8 k9 : Nat} {ver lock : Int} {tv tl : Tok} {c1 c2 c3 : Value} (hx : s.heap.get? x = some (instObj 1061 d)) (hd : s.heap.get? d = some (txDict w k1 k2 k3 k4 k5 k6 k7 k8 k9 ver tv lock tl vi vo c1 c2 c3)) (hn : hb.get? d = none) (hnx : hb.get? x = none) :
  Does w 2 (.ref 950) [.ref x] [] s [d] (fun r h' => r = .none ∧ h'.get? d = some (txDict w k1 k2 k3 k4 k5 k6 k7 k8 k9 ver tv lock tl vi vo .none .none .none)) := by
 walk_at "ir"
 have hxd : x ≠ d := ne_obj hx hd (ne_cls (by intro e; cases e))
 have hdx := Ne.symm hxd
 refine' enter (binds := [(Str.ofString "self", .ref x)]) G st [(x, instObj 1061 d), (d, txDict w k1 k2 k3 k4 k5 k6 k7 k8 k9 ver tv lock tl vi vo c1 c2 c3)] ?hW ?ho ?hcd ?hroom ?hbind ?hloc ?h ?hcell ?hco ?hgen ?hk
 walk_at "kk_enter"
 case hW => exact List.forall_mem_cons.mpr ⟨⟨hx, hnx⟩, List.forall_mem_cons.mpr ⟨⟨hd, hn⟩, fun _ h => nomatch h⟩⟩
 walk_at "ig"
 k_lt l1
 k_steps
 exact leaves (by k_asm) fun _ => fun e => hQ _ _ _ (ext_drop e hx (News.get (by k_asm) (by k_mem))) ⟨rfl, News.get (by k_asm) (by k_mem)⟩
theorem tx_clear4 (G : Gd w hb mean mg mb) (st : St hb s.heap) {x d vi vo : Addr} {k1 k2 k3 k4 : Nat} {ver lock : Int} {tv tl : Tok} (hx : s.heap.get? x = some (instObj 1061 d)) (hd : s.heap.get? d = some (txDict4 w k1 k2 k3 k4 ver tv lock tl vi vo)) (hn : hb.get? d = none) (hnx : hb.get? x = none) :
  Does w 2 (.ref 950) [.ref x] [] s [d] (fun r h' => r = .none ∧ ∃ k5 k6 k7 k8 k9, h'.get? d = some (txDict w k1 k2 k3 k4 k5 k6 k7 k8 k9 ver tv lock tl vi vo .none .none .none)) := by
 walk_at "ir"
 have hxd : x ≠ d := ne_obj hx hd (ne_cls (by intro e; cases e))
 have hdx := Ne.symm hxd
 refine' enter (binds := [(Str.ofString "self", .ref x)]) G st [(x, instObj 1061 d), (d, txDict4 w k1 k2 k3 k4 ver tv lock tl vi vo)] ?hW ?ho ?hcd ?hroom ?hbind ?hloc ?h ?hcell ?hco ?hgen ?hk
 walk_at "kk_enter"
 case hW => exact List.forall_mem_cons.mpr ⟨⟨hx, hnx⟩, List.forall_mem_cons.mpr ⟨⟨hd, hn⟩, fun _ h => nomatch h⟩⟩
 walk_at "ig"
 k_lt l1
 k_steps
 exact leaves (by k_asm) fun _ => fun e => hQ _ _ _ (ext_drop e hx (News.get (by k_asm) (by k_mem))) ⟨rfl, _, _, _, _, _, News.get (by k_asm) (by k_mem)⟩
theorem tx_init (G : Gd w hb mean mg mb) (st : St hb s.heap) {x d vi vo : Addr} {ver lock : Int} {tv tl : Tok} (hx : s.heap.get? x = some (instObj 1061 d)) (hd : s.heap.get? d = some (dictOf [] 0)) (hn : hb.get? d = none) (hnx : hb.get? x = none) (hxd : @LT.lt Nat _ d x) :
  Does w 6 (.ref 943) [.ref x, .int ver tv, .ref vi, .ref vo, .int lock tl] [] s [d] (fun r h' => r = .none ∧ ∃ k1 k2 k3 k4 k5 k6 k7 k8 k9, h'.get? d = some (txDict w k1 k2 k3 k4 k5 k6 k7 k8 k9 ver tv lock tl vi vo .none .none .none)) := by
 walk_at "ir"
 refine' enter (binds := [(Str.ofString "self", .ref x), (Str.ofString "version", .int ver tv), (Str.ofString "vin", .ref vi), (Str.ofString "vout", .ref vo), (Str.ofString "locktime", .int lock tl)]) G st [(x, instObj 1061 d), (d, dictOf [] 0)] ?hW ?ho ?hcd ?hroom ?hbind ?hloc ?h ?hcell ?hco ?hgen ?hk
 walk_at "kk_enter"
 case hW => exact List.forall_mem_cons.mpr ⟨⟨hx, hnx⟩, List.forall_mem_cons.mpr ⟨⟨hd, hn⟩, fun _ h => nomatch h⟩⟩
 walk_at "ig"
 k_lt l1
 k_steps
 refine use1 (d := d) (tx_clear4 (by assumption) (by walk_at "kk_st") (News.get (by k_asm) (by k_mem)) (News.get (by k_asm) (by k_mem)) hn hnx) (by k_asm) (by k_asm) (by k_mem) (by walk_at "kk_num") (by walk_at "kk_num") ?_
 intro K8 hK8 r h' tk' F' n0 p
 obtain ⟨e1, k5, k6, k7, k8, k9, ed⟩ := p
 subst e1
 have N' := n0 _ _ (by k_upd) ed
 clear n0
 refine hK8 _ _ _ ?_
 k_steps
 exact leaves (by k_asm) fun _ => fun e => hQ _ _ _ (ext_drop e hx (News.get (by k_asm) (by k_mem))) ⟨rfl, _, _, _, _, _, _, _, _, _, News.get (by k_asm) (by k_mem)⟩
theorem tx_new (G : Gd w hb mean mg mb) (st : St hb s.heap) {vi vo : Addr} {ver lock : Int} {tv tl : Tok} :
  Does w 8 (.ref 1061) [.int ver tv, .ref vi, .ref vo, .int lock tl] [] s [] (fun r h' => ∃ x d, r = .ref x ∧ s.heap.objs.size ≤ d ∧ d < x ∧ h'.get? x = some (instObj 1061 d) ∧ ∃ k1 k2 k3 k4 k5 k6 k7 k8 k9, h'.get? d = some (txDict w k1 k2 k3 k4 k5 k6 k7 k8 k9 ver tv lock tl vi vo .none .none .none)) :=
 make_does G st (n := 6) (fI := 943) (pi := fun x d h' => ∃ k1 k2 k3 k4 k5 k6 k7 k8 k9, h'.get? d = some (txDict w k1 k2 k3 k4 k5 k6 k7 k8 k9 ver tv lock tl vi vo .none .none .none)) (by k_is) (by k_is) (by k_is) fun x d h' k _ l ex ed nx nd => tx_init G (s := { s with heap := h' }) (fun b o e => k _ _ (st b o e)) ex ed nd nx l
end
end
section
def catI {α : Type} (f : Nat → α → Array UInt8) : Nat → List α → Array UInt8
 | _, [] => #[]
 | n, a :: r => f n a ++ catI f (n + 1) r
theorem catI_snoc {α : Type} (f : Nat → α → Array UInt8) (a : α) : ∀ (l : List α) (n : Nat), catI f n (l ++ [a]) = catI f n l ++ f (n + l.length) a
 | [], n => by show f n a ++ #[] = #[] ++ f (n + 0) a; simp
 | b :: l, n => by
  show f n b ++ catI f (n + 1) (l ++ [a]) = f n b ++ catI f (n + 1) l ++ f (n + (l.length + 1)) a
  rw [catI_snoc f a l (n + 1), Array.append_assoc, show n + 1 + l.length = n + (l.length + 1) by omega]
theorem catI_take {α : Type} {f : Nat → α → Array UInt8} {l : List α} {i : Nat} {a : α} (h : l[i]? = some a) : catI f 0 (l.take (i + 1)) = catI f 0 (l.take i) ++ f i a := by
 have hi : i < l.length := (List.getElem?_eq_some_iff.mp h).1
 rw [List.take_succ, h]
 show catI f 0 (l.take i ++ [a]) = _
 rw [catI_snoc, List.length_take, Nat.min_eq_left (Nat.le_of_lt hi), Nat.zero_add]
theorem catI_size {α : Type} {f : Nat → α → Array UInt8} {k : Nat} : ∀ {l : List α} {n : Nat}, (∀ n, ∀ a ∈ l, (f n a).size ≤ k) → (catI f n l).size ≤ k * l.length
 | [], _, _ => Nat.zero_le _
 | a :: l, n, h => by
  have h1 := h n a (.head _)
  have h2 := catI_size (l := l) (n := n + 1) fun n b m => h n b (.tail _ m)
  show (f n a ++ catI f (n + 1) l).size ≤ k * (l.length + 1)
  rw [Array.size_append, Nat.mul_succ]; omega
theorem catI_size_take {α : Type} {f : Nat → α → Array UInt8} {k n i : Nat} {l : List α} (h : ∀ n, ∀ a ∈ l, (f n a).size ≤ k) (hn : l.length ≤ n) : (catI f 0 (l.take i)).size ≤ k * n :=
 Nat.le_trans (catI_size fun n a m => h n a (List.mem_of_mem_take m)) (Nat.mul_le_mul_left _ (Nat.le_trans (by rw [List.length_take]; exact Nat.min_le_right _ _) hn))
def lgIn (i k : Nat) (c : Array UInt8) (j : Nat) (t : TIn) : Array UInt8 := if i = j then inB t.txid t.vout c t.seq else inB t.txid t.vout #[] (seqOf k t.seq)
theorem lgIn_size {i k j : Nat} {c : Array UInt8} {t : TIn} (o : t.Ok) (hc : c.size ≤ 255) : (lgIn i k c j t).size ≤ 298 := by
 unfold lgIn; split
 ·have := @inB_size t.txid c t.vout t.seq o.hi; omega
 ·have := @inB_size t.txid #[] t.vout (seqOf k t.seq) o.hi
  have e : (#[] : Array UInt8).size = 0 := rfl
  omega
def lgIns (a : TTx) (i k : Nat) (inp : TIn) (c : Array UInt8) : Array UInt8 := if 128 ≤ k then sized 1 ++ inB inp.txid inp.vout c inp.seq else sized a.ins.length ++ catI (lgIn i k c) 0 a.ins
def lgOuts (a : TTx) (k : Nat) : Array UInt8 := if k % 128 = 2 then sized 0 else if k % 128 = 3 then sized 1 ++ cat ((a.outs.take 1).map TOut.oct) else sized a.outs.length ++ cat (a.outs.map TOut.oct)
def TTx.oldD (a : TTx) (i k : Nat) (inp : TIn) (c : Array UInt8) : Array UInt8 := dig (dig (le 4 a.ver ++ lgIns a i k inp c ++ lgOuts a k ++ le 4 a.lock ++ le 4 k))
abbrev lgM (hx : Addr) (qs : Tok) (sh : Int) (b : Bool) (m₀ : Str → Option Value) : Str → Option Value := fun y => if y = Str.ofString "h" then some (.ref hx) else if y = Str.ofString "sh" then some (.int sh qs) else if y = Str.ofString "anyonecanpay" then some (.bool b) else m₀ y
abbrev lgX (v1 v2 v3 v4 : Option Value) (m : Str → Option Value) : Str → Option Value := fun y => if y = Str.ofString "out" then v1 else if y = Str.ofString "empty" then v2 else if y = Str.ofString "inp" then v3 else if y = Str.ofString "i" then v4 else m y
def LgP (w : World) (g : Heap) (L hx hd : Addr) (kd : Nat) (M : Str → Option Value) (C : Array UInt8) (s s' : Shared) : Prop :=
 ∃ h tk t m v1 v2 v3 v4, s' = { s with heap := h, toks := tk } ∧ Fr g L h m ∧ (∀ y, m y = lgX v1 v2 v3 v4 M y) ∧ News g L h [(hx, instObj 58 hd), (hd, dictOf [ent w "data" kd (.bytes C t)] 1)]
def LgB (w : World) (g : Heap) (L : Addr) (m₀ : Str → Option Value) (sh : Int) (b : Bool) (C : Array UInt8) (s s' : Shared) : Prop :=
 ∃ (hx hd : Addr) (kd : Nat) (qs : Tok), @LT.lt Nat _ hd hx ∧ @LT.lt Nat _ L hd ∧ LgP w g L hx hd kd (lgM hx qs sh b m₀) C s s'
section
variable {v v1 v2 v3 v4 : Option Value} {M m : Str → Option Value}
theorem lgX_none (h1 : M (Str.ofString "out") = none) (h2 : M (Str.ofString "empty") = none) (h3 : M (Str.ofString "inp") = none) (h4 : M (Str.ofString "i") = none) : ∀ y, M y = lgX none none none none M y := by
 intro y
 by_cases e1 : y = Str.ofString "out"
 ·subst e1; exact h1
 ·by_cases e2 : y = Str.ofString "empty"
  ·subst e2; exact h2
  ·by_cases e3 : y = Str.ofString "inp"
   ·subst e3; exact h3
   ·by_cases e4 : y = Str.ofString "i"
    ·subst e4; exact h4
    ·simp only [lgX, if_neg e1, if_neg e2, if_neg e3, if_neg e4]
theorem lgX_out (h : ∀ y, m y = lgX v1 v2 v3 v4 M y) : ∀ y, (if y = Str.ofString "out" then v else m y) = lgX v v2 v3 v4 M y := by
 intro y
 by_cases e1 : y = Str.ofString "out"
 ·rw [if_pos e1]; simp only [lgX, if_pos e1]
 ·rw [if_neg e1, h y]; simp only [lgX, if_neg e1]
theorem lgX_empty (h : ∀ y, m y = lgX v1 v2 v3 v4 M y) : ∀ y, (if y = Str.ofString "empty" then v else m y) = lgX v1 v v3 v4 M y := by
 intro y
 by_cases e1 : y = Str.ofString "empty"
 ·subst e1; rfl
 ·rw [if_neg e1, h y]; simp only [lgX, if_neg e1]
theorem lgX_inp (h : ∀ y, m y = lgX v1 v2 v3 v4 M y) : ∀ y, (if y = Str.ofString "inp" then v else m y) = lgX v1 v2 v v4 M y := by
 intro y
 by_cases e1 : y = Str.ofString "inp"
 ·subst e1; rfl
 ·rw [if_neg e1, h y]; simp only [lgX, if_neg e1]
theorem lgX_i (h : ∀ y, m y = lgX v1 v2 v3 v4 M y) : ∀ y, (if y = Str.ofString "i" then v else m y) = lgX v1 v2 v3 v M y := by
 intro y
 by_cases e1 : y = Str.ofString "i"
 ·subst e1; rfl
 ·rw [if_neg e1, h y]; simp only [lgX, if_neg e1]
end
section
variable {w : World} {g : Heap} {L hx hd : Addr} {kd : Nat} {M m m₀ : Str → Option Value} {C C' : Array UInt8} {s s' : Shared} {h : Heap} {tk : Nat} {t qs : Tok} {v1 v2 v3 v4 : Option Value} {sh : Int} {b : Bool} {B : Shared → Prop}
theorem LgP.mk (hC : C = C') (F : Fr g L h m) (hm : ∀ y, m y = lgX v1 v2 v3 v4 M y) (N : News g L h [(hx, instObj 58 hd), (hd, dictOf [ent w "data" kd (.bytes C' t)] 1)]) : LgP w g L hx hd kd M C s ⟨h, s.gens, s.drawn, tk, s.os⟩ := by
 subst hC; exact ⟨_, _, _, _, _, _, _, _, rfl, F, hm, N⟩
theorem LgP.elim (H : LgP w g L hx hd kd M C s s') (k : ∀ h tk t v1 v2 v3 v4, Fr g L h (lgX v1 v2 v3 v4 M) → News g L h [(hx, instObj 58 hd), (hd, dictOf [ent w "data" kd (.bytes C t)] 1)] → B ⟨h, s.gens, s.drawn, tk, s.os⟩) : B s' := by
 obtain ⟨h, tk, t, m, v1, v2, v3, v4, rfl, F, hm, N⟩ := H; exact k _ _ _ _ _ _ _ (fr_congr F hm) N
theorem LgB.mk (o1 : @LT.lt Nat _ hd hx) (o2 : @LT.lt Nat _ L hd) (F : Fr g L h m) (hm : ∀ y, m y = lgX v1 v2 v3 v4 (lgM hx qs sh b m₀) y) (N : News g L h [(hx, instObj 58 hd), (hd, dictOf [ent w "data" kd (.bytes C t)] 1)]) : LgB w g L m₀ sh b C s ⟨h, s.gens, s.drawn, tk, s.os⟩ :=
 ⟨_, _, _, _, o1, o2, LgP.mk rfl F hm N⟩
theorem LgB.elim (H : LgB w g L m₀ sh b C s s') (k : ∀ hx hd kd qs s', @LT.lt Nat _ hd hx → @LT.lt Nat _ L hd → LgP w g L hx hd kd (lgM hx qs sh b m₀) C s s' → B s') : B s' := by
 obtain ⟨hx, hd, kd, qs, o1, o2, P⟩ := H; exact k _ _ _ _ _ o1 o2 P
end
def lgLP (w : World) (hx hd : Addr) (kd : Nat) (M : Str → Option Value) (C : Array UInt8) (m : Str → Option Value) (news : List (Addr × Obj)) : Prop :=
 ∃ v1 v2 v3 v4 t, (∀ y, m y = lgX v1 v2 v3 v4 M y) ∧ news = [(hx, instObj 58 hd), (hd, dictOf [ent w "data" kd (.bytes C t)] 1)]
theorem lgLP_mk {w : World} {hx hd : Addr} {kd : Nat} {M m : Str → Option Value} {C C' : Array UInt8} {news : List (Addr × Obj)} {v1 v2 v3 v4 : Option Value} {t : Tok} (hm : ∀ y, m y = lgX v1 v2 v3 v4 M y) (hn : news = [(hx, instObj 58 hd), (hd, dictOf [ent w "data" kd (.bytes C' t)] 1)]) (hc : C' = C) : lgLP w hx hd kd M C m news := by
 subst hc; exact ⟨v1, v2, v3, v4, t, hm, hn⟩
theorem hk32 : True := by
 k_with "call ref" => (k_here; (with_reducible show wpAny _ _ (PySem.call (Value.ref 94) _ _) _ _ _); (show wpAny _ _ (PySem.call (Value.ref 94) [Value.int _ _] _) _ _ _); (first | refine use0b (to_bytes (n := 0) (by assumption) (by walk_at "kk_st") (by decide)) (by k_asm) (by k_asm) (by walk_at "kk_num") (by walk_at "kk_num") ?_ | refine use0b (to_bytes (n := 1) (by assumption) (by walk_at "kk_st") (by decide)) (by k_asm) (by k_asm) (by walk_at "kk_num") (by walk_at "kk_num") ?_); intro t'9 h'9 tk'9 F'9 N'9)
 k_with "call ref" => (k_here; (with_reducible show wpAny _ _ (PySem.call (Value.ref 1143) _ _) _ _ _); (show wpAny _ _ (PySem.call (Value.ref 1143) [Value.int _ _, Value.ref _] _) _ _ _); (refine use0 (out_new (by assumption) (by walk_at "kk_st")) (by k_asm) (by k_asm) (by walk_at "kk_num") (by walk_at "kk_num") ?_); intro K8 hK8 r9 h'9 tk'9 F'9 n09 l19 l29 p9; obtain ⟨x9, d9, e19, ld9, lx9, ex9, k19, k29, t'9, ed9⟩ := p9; subst e19; (have n19 := news_new (by k_asm) ld9 ed9 n09); (have N'9 := news_new (by k_asm) (Nat.le_of_lt (Nat.lt_of_le_of_lt ld9 lx9)) ex9 n19); clear n09 n19; (replace lx9 := ltN lx9); (replace l29 := ltN l29); (try k_lt l19); (try dsimp only at l19); (try dsimp only at l29); (try dsimp only at ld9); (refine hK8 _ _ _ ?_))
 k_with "call type:enumerate" => (k_here; (with_reducible show wpAny _ _ (PySem.call (Value.type _) [Value.ref _]) _ _ _); (refine enum_K (by k_asm) (by k_asm) (isl_baseN (by k_asm) (by assumption)) ?_); intro e9 it9 o9 h'9 F'9 N'9 e19 e29 e39 e49 e59 e69)
 trivial
theorem sh_is2 {k : Nat} (h : ((shOf k : Nat) : Int) = 2) : k % 128 = 2 := by unfold shOf at h; split at h <;> omega
theorem sh_is3 {k : Nat} (h : ((shOf k : Nat) : Int) = 3) : k % 128 = 3 := by unfold shOf at h; split at h <;> omega
theorem sh_is1 {k : Nat} (hk : k ∈ kinds) (h : ((shOf k : Nat) : Int) = 1) : k % 128 < 2 := by unfold shOf at h; split at h <;> omega
theorem sh_low {k : Nat} (hk : k ∈ kinds) : 1 ≤ shOf k ∧ shOf k ≤ 3 := by have := kind_cases hk; unfold shOf; split <;> omega
theorem lgIns_size {a : TTx} {i k : Nat} {inp : TIn} {c : Array UInt8} (O : a.Ok) (o : inp.Ok) (hc : c.size ≤ 255) : (lgIns a i k inp c).size ≤ 900 := by
 unfold lgIns
 have h1 := @inB_size inp.txid c inp.vout inp.seq o.hi
 have h2 := catI_size (f := lgIn i k c) (k := 298) (l := a.ins) (n := 0) fun n a m => lgIn_size (O.hi a m) hc
 have h3 := @sized_size 1
 have h4 := @sized_size a.ins.length
 have h5 := O.n2
 split <;> (simp only [Array.size_append]; omega)
theorem lgOuts_size {a : TTx} {k : Nat} (O : a.Ok) : (lgOuts a k).size ≤ 6000 := by
 unfold lgOuts
 have h1 := cat_size (f := TOut.oct) (k := 266) (l := a.outs) fun a m => (O.ho a m).size
 have h2 := cat_size_take (i := 1) (n := 20) (f := TOut.oct) (k := 266) (l := a.outs) (fun a m => (O.ho a m).size) O.n3
 have h3 := @sized_size 1
 have h4 := @sized_size a.outs.length
 have h5 := O.n3
 have h6 := @sized_size 0
 split
 ·omega
 ·split <;> (simp only [Array.size_append]; omega)
theorem lgOuts_one {a : TTx} {k : Nat} {o : TOut} (h : k % 128 = 3) (ho : a.outs[0]? = some o) : lgOuts a k = sized 1 ++ o.oct := by
 unfold lgOuts
 rw [if_neg (by omega), if_pos h, cat_take ho]
 simp [cat]
theorem sh_three {k i n : Nat} (h : k % 128 = 3 → i = 0 ∧ 0 < n) : ((shOf k : Nat) : Int) ≠ 3 ∨ (i : Int) < (n : Int) := by
 by_cases e : k % 128 = 3
 ·right; have := h e; omega
 ·left; unfold shOf; split <;> omega
section
variable {w : World} {hb : Heap} {mean : ExcName → Option Value} {mg mb : Str → Option Value} {s : Shared}
theorem sig_old (G : Gd w hb mean mg mb) (st : St hb s.heap) {a : TTx} (H : Has (a.frag w) s.heap) (O : a.Ok) {i k : Nat} {ti tk : Tok} {sc scd : Addr} {ks : Nat} {c : Array UInt8} {tc : Tok} (HS : Has (scrF w sc scd ks tc c) s.heap)
  (hk : k ∈ kinds) {inp : TIn} (hi : a.ins[i]? = some inp) (hc : c.size ≤ 255) (h3 : k % 128 = 3 → i = 0 ∧ 0 < a.outs.length) :
  DoesX w 80 (.ref 1058) [.ref a.x, .int (i : Int) ti, .ref sc, .int (k : Int) tk] [] s [] (fun r h' => ∃ t, r = .bytes (a.oldD i k inp c) t) := by
 walk_at "ir"
 refine' enterX (binds := [(Str.ofString "self", .ref a.x), (Str.ofString "input_index", .int (i : Int) ti), (Str.ofString "script_pubkey", .ref sc), (Str.ofString "sighash", .int (k : Int) tk)]) G st [] ?hW ?ho ?hcd ?hroom ?hbind ?hloc ?h ?hcell ?hco ?hgen ?hk
 walk_at "kk_enter"
 case hW => intro p hp; cases hp
 walk_at "ig"
 have HG := H.sub0 sub
 have HL := HG.low
 have HSG := HS.sub0 sub
 clear l1
 have gx := HG.t0
 have gd' := HG.t1
 have gvi := HL.l0
 have gvo := HL.l1
 have gsc := HSG.s0
 have gscd := HSG.s1
 have im := List.mem_of_getElem? hi
 have HI := Has.inp HL im
 have iok := O.hi inp im
 have hil : i < a.ins.length := (List.getElem?_eq_some_iff.mp hi).1
 have hn2 := O.n2
 have n3 := O.n3
 refine x_cut3 (SetCut g L (fun y => [(Str.ofString "self", .ref a.x), (Str.ofString "input_index", .int (i : Int) ti), (Str.ofString "script_pubkey", .ref sc), (Str.ofString "sighash", .int (k : Int) tk)].reverse.lookup y) [] (shOf k) (decide (128 ≤ k)) s) (fun K7 hK7 => ?_) ?_
 ·walk_at "xa"
  k_steps
  all_goals (rename Fr _ _ _ _ => F9)
  all_goals (rename News _ _ _ _ => N9)
  ·exact hK7 _ (SetCut.mk (sh_one (by assumption)) F9 (by first | exact set_sh | exact set_sw | exact fun y => rfl) (news_drop 2 N9))
  ·exact hK7 _ (SetCut.mk (sh_self (by assumption)) F9 (by first | exact set_sh | exact set_sw | exact fun y => rfl) (news_drop 2 N9))
 ·intro s' H9
  refine SetCut.elim H9 ?_
  clear H9 F N
  intro qs h' tk' F' N'
  have hver := O.hv
  have h3' : ((shOf k : Nat) : Int) ≠ 3 ∨ (i : Int) < (a.outs.length : Int) := sh_three h3
  refine x_cut3 (LgB w g L (fun y => [(Str.ofString "self", .ref a.x), (Str.ofString "input_index", .int (i : Int) ti), (Str.ofString "script_pubkey", .ref sc), (Str.ofString "sighash", .int (k : Int) tk)].reverse.lookup y) (shOf k) (decide (128 ≤ k)) (le 4 a.ver) s) (fun K7 hK7 => ?_) ?_
  ·walk_at "xa"
   k_steps
   all_goals (rename Fr _ _ _ _ => F9)
   all_goals (rename News _ _ _ _ => N9)
   all_goals rw [Array.empty_append] at N9
   ·refine' hK7 _ (LgB.mk (v1 := none) (v2 := none) (v3 := none) (v4 := none) ?o1 ?o2 F9 ?sg1 N9)
    case sg1 => repeat (first | exact fun _ => rfl | refine' lgX_out ?_ | refine' lgX_empty ?_ | refine' lgX_inp ?_ | refine' lgX_i ?_ | exact lgX_none rfl rfl rfl rfl)
    all_goals omega
   ·refine' hK7 _ (LgB.mk (v1 := none) (v2 := none) (v3 := none) (v4 := none) ?o3 ?o4 F9 ?sg2 N9)
    case sg2 => repeat (first | exact fun _ => rfl | refine' lgX_out ?_ | refine' lgX_empty ?_ | refine' lgX_inp ?_ | refine' lgX_i ?_ | exact lgX_none rfl rfl rfl rfl)
    all_goals omega
  ·clear N' F'
   have z1 := iok.psize
   have zb : (inB inp.txid inp.vout c inp.seq).size ≤ 43 + c.size := inB_size iok.hi
   have gj0 := HI.i0
   have gjd0 := HI.i1
   have z2 := @sized_size c.size
   have z3 := @sized_size 1
   have z4 := @sized_size a.ins.length
   have z5 := @sized_size a.outs.length
   have z6 := @sized_size 0
   have y5 := O.hl
   have zl1 := lgIns_size (i := i) (k := k) O iok hc
   have zl2 := lgOuts_size (k := k) O
   have y6 := kind_lt hk
   intro s' H9
   refine LgB.elim H9 ?_
   clear H9
   intro hx hd kd qs s' o1 o2 hsg
   refine x_cut1 (LgP w g L hx hd kd (lgM hx qs (shOf k) (decide (128 ≤ k)) (fun y => [(Str.ofString "self", .ref a.x), (Str.ofString "input_index", .int (i : Int) ti), (Str.ofString "script_pubkey", .ref sc), (Str.ofString "sighash", .int (k : Int) tk)].reverse.lookup y)) (le 4 a.ver ++ lgIns a i k inp c) s) (fun K7 hK7 => ?_) fun s1 hsg1 => ?_
   ·refine LgP.elim hsg ?_
    intro h tk9 t v1 v2 v3 v4 F N
    walk_at "xi"
    k_steps
    ·((try k_steps); refine x_execs fun K9 hK9 => (x_any ?_))
     k_steps
     (try dsimp only)
     walk_at "xj"
     k_steps
     (try dsimp only)
     walk_at "sx"
     k_steps
     (try dsimp only)
     walk_at "sy"
     k_steps
     walk_at "xm"
     show wpX _ _ (PySem.call (Value.ref 705) [Value.ref _, Value.ref _] []) _ _ _
     refine useX0b (X := (inB inp.txid inp.vout c inp.seq)) (in_ser1 (by assumption) (by walk_at "kk_st") (Has.fr HI (by k_asm)) (Has.fr HSG (by k_asm)) iok.hv iok.hq hc iok.hi) (by k_asm) (by k_asm) (by walk_at "kk_num") (by walk_at "kk_num") ?_
     intro t' h' tk' F' N'
     walk_at "xn"
     (try dsimp only)
     k_steps
     walk_at "r9"
     walk_at "xnil"
     (first | refine And.intro rfl ?_ | skip)
     refine' hK7 _ (LgP.mk (by rw [show lgIns a i k inp c = sized 1 ++ inB inp.txid inp.vout c inp.seq from if_pos (by assumption), ← Array.append_assoc]) F9 ?sgl1 (by walk_at "nd"))
     case sgl1 => repeat (first | exact fun _ => rfl | refine' lgX_out ?_ | refine' lgX_empty ?_ | refine' lgX_inp ?_ | refine' lgX_i ?_ | exact lgX_none rfl rfl rfl rfl)
    ·((try k_steps); refine x_execs fun K9 hK9 => (x_any ?_))
     k_steps
     (try dsimp only)
     walk_at "r9"
     have F := F9
     have N := N9
     ((try k_steps); refine x_execs fun K9 hK9 => (x_forE (g := g) (s₀ := s) (vs := a.ins.map fun i => Value.ref i.x) (l := a.vi) [hx, hd] (fun j => lgLP w hx hd kd (lgM hx qs (shOf k) (decide (128 ≤ k)) (fun y => [(Str.ofString "self", .ref a.x), (Str.ofString "input_index", .int (i : Int) ti), (Str.ofString "script_pubkey", .ref sc), (Str.ofString "sighash", .int (k : Int) tk)].reverse.lookup y)) (le 4 a.ver ++ sized a.ins.length ++ catI (lgIn i k c) 0 (a.ins.take j))) rfl rfl rfl rfl ⟨_, gvi, rfl, _, rfl⟩ ?hA ?start ?turn ?done))
     case hA => rintro _ m news ⟨_, _, _, _, _, _, rfl⟩; rfl
     case start =>
      k_steps
      walk_at "r8"
      exact ⟨_, _, _, _, _, _, _, rfl, rfl, lgLP_mk (v1 := v1) (v2 := v2) (v3 := v3) (v4 := v4) (fun y => rfl) rfl (by simp only [List.take_zero, catI, Array.append_empty]), F8, N8, by assumption, by assumption, by assumption, by assumption, by assumption, by assumption⟩
     case turn =>
      intro j v m news e it oe oi h tk' ti' hv p9 F' N' l2 l3 l4
      refine hideP fun B9 k9 => ?_
      obtain ⟨v1', v2', v3', v4', t1, hm, rfl⟩ := p9
      refine k9 ?_; clear k9
      clear F9 N9
      (try clear F N)
      have F := fr_congr (m' := fun y => if y = Str.ofString "inp" then some v else if y = Str.ofString "i" then some (.int (j : Int) ti') else lgX v1' v2' v3' v4' (lgM hx qs (shOf k) (decide (128 ≤ k)) (fun y => [(Str.ofString "self", .ref a.x), (Str.ofString "input_index", .int (i : Int) ti), (Str.ofString "script_pubkey", .ref sc), (Str.ofString "sighash", .int (k : Int) tk)].reverse.lookup y)) y) F' (fun y => by rw [hm y])
      clear F' hm
      rw [List.getElem?_map] at hv
      refine hideP fun B9 k9 => ?_
      obtain ⟨tj, hj, rfl⟩ := Option.map_eq_some_iff.mp hv
      refine k9 ?_; clear k9
      have jm := List.mem_of_getElem? hj
      have HJ := Has.inp HL jm
      have jok := O.hi tj jm
      have hcz : (catI (lgIn i k c) 0 (a.ins.take j)).size ≤ 298 * 3 := catI_size_take (fun n a m => lgIn_size (O.hi a m) hc) O.n2
      have hcat : le 4 a.ver ++ sized a.ins.length ++ catI (lgIn i k c) 0 (a.ins.take (j + 1)) = le 4 a.ver ++ sized a.ins.length ++ catI (lgIn i k c) 0 (a.ins.take j) ++ lgIn i k c j tj := by rw [catI_take hj]; simp only [Array.append_assoc]
      rw [hcat]
      clear hv hcat
      generalize catI (lgIn i k c) 0 (a.ins.take j) = CC at *
      have l5 := ltN (l2 _ (.head _))
      have l6 := ltN (l2 _ (.tail _ (.head _)))
      clear l2
      have gj := HJ.i0
      have gjd := HJ.i1
      have zi : (inB tj.txid tj.vout c tj.seq).size ≤ 43 + c.size := inB_size jok.hi
      have zj : (inB tj.txid tj.vout #[] (seqOf k tj.seq)).size ≤ 43 := inB_size (c := #[]) jok.hi
      walk_at "xi"
      k_steps
      ·walk_at "xj"
       k_steps
       (try dsimp only)
       walk_at "sx"
       k_steps
       (try dsimp only)
       walk_at "sy"
       k_steps
       walk_at "xm"
       show wpX _ _ (PySem.call (Value.ref 705) [Value.ref _, Value.ref _] []) _ _ _
       refine useX0b (X := (inB tj.txid tj.vout c tj.seq)) (in_ser1 (by assumption) (by walk_at "kk_st") (Has.fr HJ (by k_asm)) (Has.fr HSG (by k_asm)) jok.hv jok.hq hc jok.hi) (by k_asm) (by k_asm) (by walk_at "kk_num") (by walk_at "kk_num") ?_
       intro t' h' tk' F' N'
       walk_at "xn"
       (try dsimp only)
       k_steps
       walk_at "r9"
       walk_at "xnil"
       rw [show lgIn i k c j tj = inB tj.txid tj.vout c tj.seq from if_pos (by omega)]
       refine' ⟨_, _, _, _, rfl, lgLP_mk (v1 := v1') (v2 := v2') (v3 := some (.ref tj.x)) (v4 := some (.int (j : Int) ti')) ?sgl2 rfl rfl, F9, (by walk_at "nd")⟩
       case sgl2 => exact lgX_inp (lgX_i fun _ => rfl)
      ·walk_at "xj"
       k_steps
       (try dsimp only)
       walk_at "sx"
       k_steps
       (try dsimp only)
       walk_at "sy"
       k_steps
       refine x_more rfl (x_any ?_)
       k_steps
       walk_at "xm"
       (try dsimp only)
       show wpX _ _ (PySem.call (Value.ref 705) [Value.ref _, Value.ref _, Value.int _ _] []) _ _ _
       refine useX0b (X := (inB tj.txid tj.vout #[] (seqOf k tj.seq))) (in_ser2 (c := #[]) (by assumption) (by walk_at "kk_st") (Has.fr HJ (by k_asm)) ⟨News.get (by k_asm) (by k_mem), News.get (by k_asm) (by k_mem), trivial⟩ jok.hv jok.hq (by decide) jok.hi hk) (by k_asm) (by k_asm) (by walk_at "kk_num") (by walk_at "kk_num") ?_
       intro t' h' tk' F' N'
       walk_at "xn"
       (try dsimp only)
       k_steps
       walk_at "r9"
       walk_at "xnil"
       rw [show lgIn i k c j tj = inB tj.txid tj.vout #[] (seqOf k tj.seq) from if_neg (by omega)]
       refine' ⟨_, _, _, _, rfl, lgLP_mk (v1 := v1') (v2 := v2') (v3 := some (.ref tj.x)) (v4 := some (.int (j : Int) ti')) ?sgl3 rfl rfl, F9, (by walk_at "nd")⟩
       case sgl3 => exact lgX_inp (lgX_i fun _ => rfl)
     case done =>
      intro m news h tk' p9 F' N'
      refine hideP fun B9 k9 => ?_
      obtain ⟨v1', v2', v3', v4', t1, hm, rfl⟩ := p9
      refine k9 ?_; clear k9
      rw [List.take_of_length_le (by rw [List.length_map]; exact Nat.le_refl _)] at N'
      walk_at "xnil"
      refine And.intro rfl ?_
      exact hK7 _ (LgP.mk (by rw [show lgIns a i k inp c = sized a.ins.length ++ catI (lgIn i k c) 0 a.ins from if_neg (by assumption), ← Array.append_assoc]) F' hm N')
   clear hsg
   refine x_cut1 (LgP w g L hx hd kd (lgM hx qs (shOf k) (decide (128 ≤ k)) (fun y => [(Str.ofString "self", .ref a.x), (Str.ofString "input_index", .int (i : Int) ti), (Str.ofString "script_pubkey", .ref sc), (Str.ofString "sighash", .int (k : Int) tk)].reverse.lookup y)) (le 4 a.ver ++ lgIns a i k inp c ++ lgOuts a k) s) (fun K7 hK7 => ?_) fun s2 hsg2 => ?_
   ·refine LgP.elim hsg1 ?_
    intro h tk9 t v1 v2 v3 v4 F N
    walk_at "xi"
    k_steps
    ·walk_at "xa"
     k_steps
     walk_at "r9"
     walk_at "xnil"
     (first | refine And.intro rfl ?_ | skip)
     refine' hK7 _ (LgP.mk (by rw [show lgOuts a k = sized 0 from if_pos (sh_is2 (by assumption))]) F9 ?sgl4 (by walk_at "nd"))
     case sgl4 => repeat (first | exact fun _ => rfl | refine' lgX_out ?_ | refine' lgX_empty ?_ | refine' lgX_inp ?_ | refine' lgX_i ?_ | exact lgX_none rfl rfl rfl rfl)
    ·walk_at "xi"
     k_steps
     ·have hk3 : k % 128 = 3 := sh_is3 (by assumption)
      obtain ⟨rfl, hlen⟩ := h3 hk3
      obtain ⟨o, ho⟩ : ∃ o, a.outs[0]? = some o := ⟨a.outs[0]'hlen, List.getElem?_eq_getElem hlen⟩
      have ook := O.ho o (List.mem_of_getElem? ho)
      have oz := ook.size
      have HO9 := Has.out HL (List.mem_of_getElem? ho)
      have gj := HO9.o0
      have gjd := HO9.o1
      have gjs := HO9.o2
      have gjsd := HO9.o3
      ((try k_steps); refine x_execs fun K9 hK9 => (x_any ?_))
      k_steps
      (try dsimp only)
      walk_at "xk"
      k_steps
      walk_at "xc"
      refine useX0b (X := (outB 4294967295 #[])) (out_ser (v := 4294967295) (c := #[]) (by assumption) (by walk_at "kk_st") (News.get (by k_asm) (by k_mem)) (News.get (by k_asm) (by k_mem)) ⟨News.get (by k_asm) (by k_mem), News.get (by k_asm) (by k_mem)⟩ (by decide) (by decide)) (by k_asm) (by k_asm) (by walk_at "kk_num") (by walk_at "kk_num") ?_
      intro t' h' tk' F' N'
      (try dsimp only)
      k_steps
      ((try k_steps); refine x_execs fun K9 hK9 => (x_any ?_))
      k_steps
      (try dsimp only)
      walk_at "xj"
      k_steps
      (try dsimp only)
      walk_at "sx"
      k_steps
      walk_at "xc"
      refine useX0b (X := o.oct) (out_ser (by assumption) (by walk_at "kk_st") (Fr.keep (by k_asm) _ _ gj) (Fr.keep (by k_asm) _ _ gjd) ⟨Fr.keep (by k_asm) _ _ gjs, Fr.keep (by k_asm) _ _ gjsd⟩ ook.hv ook.hc) (by k_asm) (by k_asm) (by walk_at "kk_num") (by walk_at "kk_num") ?_
      intro t' h' tk' F' N'
      walk_at "xn"
      (try dsimp only)
      k_steps
      walk_at "r9"
      walk_at "xnil"
      (first | refine And.intro rfl ?_ | skip)
      refine' hK7 _ (LgP.mk (by rw [lgOuts_one hk3 ho, ← Array.append_assoc]) F9 ?sgl5 (by walk_at "nd"))
      case sgl5 => first | exact lgX_out (lgX_empty fun _ => rfl) | exact lgX_empty (lgX_out fun _ => rfl) | exact lgX_empty fun _ => rfl
     ·walk_at "xi"
      k_steps
      ·((try k_steps); refine x_execs fun K9 hK9 => (x_any ?_))
       k_steps
       (try dsimp only)
       walk_at "r9"
       have F := F9
       have N := N9
       ((try k_steps); refine x_execs fun K9 hK9 => (x_forK (g := g) (L := L) (s₀ := s) (vs := a.outs.map fun i => Value.ref i.x) (l := a.vo) [hx, hd] (fun j => lgLP w hx hd kd (lgM hx qs (shOf k) (decide (128 ≤ k)) (fun y => [(Str.ofString "self", .ref a.x), (Str.ofString "input_index", .int (i : Int) ti), (Str.ofString "script_pubkey", .ref sc), (Str.ofString "sighash", .int (k : Int) tk)].reverse.lookup y)) (le 4 a.ver ++ lgIns a i k inp c ++ sized a.outs.length ++ cat ((a.outs.take j).map TOut.oct))) rfl (fun _ _ => rfl) ⟨_, gvo, rfl, _, rfl⟩ ?start ?turn ?done ?hA))
       case hA => rintro _ m news ⟨_, _, _, _, _, _, rfl⟩; rfl
       case start =>
        k_steps
        walk_at "r8"
        exact ⟨rfl, _, _, _, _, rfl, lgLP_mk (v1 := v1) (v2 := v2) (v3 := v3) (v4 := v4) (fun y => rfl) rfl (by simp only [List.take_zero, List.map_nil, cat, Array.append_empty]), F8, N8⟩
       case turn =>
        intro j v m news it o h tk' hv p9 F' N' l2 l3
        refine hideP fun B9 k9 => ?_
        obtain ⟨v1', v2', v3', v4', t1, hm, rfl⟩ := p9
        refine k9 ?_; clear k9
        clear F9 N9
        (try clear F N)
        have F := fr_congr F' hm
        clear F' hm
        rw [List.getElem?_map] at hv
        refine hideP fun B9 k9 => ?_
        obtain ⟨tj, hj, rfl⟩ := Option.map_eq_some_iff.mp hv
        refine k9 ?_; clear k9
        have jm := List.mem_of_getElem? hj
        have jok := O.ho tj jm
        have hcz : (cat ((a.outs.take j).map TOut.oct)).size ≤ 266 * 20 := cat_size_take (fun a m => (O.ho a m).size) O.n3
        have hcat : le 4 a.ver ++ lgIns a i k inp c ++ sized a.outs.length ++ cat ((a.outs.take (j + 1)).map TOut.oct) = le 4 a.ver ++ lgIns a i k inp c ++ sized a.outs.length ++ cat ((a.outs.take j).map TOut.oct) ++ tj.oct := by rw [cat_take hj]; simp only [Array.append_assoc]
        rw [hcat]
        clear hv hcat
        generalize cat ((a.outs.take j).map TOut.oct) = CC at *
        have l5 := ltN (l2 _ (.head _))
        have l6 := ltN (l2 _ (.tail _ (.head _)))
        clear l2
        have HO9 := Has.out HL jm
        have gj := HO9.o0
        have gjd := HO9.o1
        have gjs := HO9.o2
        have gjsd := HO9.o3
        have jz := jok.size
        k_steps
        walk_at "xj"
        k_steps
        (try dsimp only)
        walk_at "sx"
        k_steps
        walk_at "xc"
        refine useX0b (X := tj.oct) (out_ser (by assumption) (by walk_at "kk_st") (Fr.keep (by k_asm) _ _ gj) (Fr.keep (by k_asm) _ _ gjd) ⟨Fr.keep (by k_asm) _ _ gjs, Fr.keep (by k_asm) _ _ gjsd⟩ jok.hv jok.hc) (by k_asm) (by k_asm) (by walk_at "kk_num") (by walk_at "kk_num") ?_
        intro t' h' tk' F' N'
        walk_at "xn"
        (try dsimp only)
        k_steps
        walk_at "r9"
        walk_at "xnil"
        refine' ⟨_, _, _, _, rfl, lgLP_mk (v1 := some (.ref tj.x)) (v2 := v2') (v3 := v3') (v4 := v4') ?sgx rfl rfl, F9, N9⟩
        case sgx => exact lgX_out fun _ => rfl
       case done =>
        intro m news h tk' p9 F' N'
        refine hideP fun B9 k9 => ?_
        obtain ⟨v1', v2', v3', v4', t1, hm, rfl⟩ := p9
        refine k9 ?_; clear k9
        rw [List.take_of_length_le (by rw [List.length_map]; exact Nat.le_refl _)] at N'
        walk_at "xnil"
        refine And.intro rfl ?_
        exact hK7 _ (LgP.mk (by rw [show lgOuts a k = sized a.outs.length ++ cat (a.outs.map TOut.oct) from by have := sh_is1 hk (by assumption); unfold lgOuts; rw [if_neg (by omega), if_neg (by omega)], ← Array.append_assoc]) F' hm N')
      ·exfalso
       have := sh_low hk
       omega
   clear hsg1
   refine LgP.elim hsg2 ?_
   intro h tk9 t v1 v2 v3 v4 F N
   walk_at "xa"
   k_steps
   exact leaves (by k_asm) fun _ => fun e => hQ _ _ _ e ⟨_, rfl⟩
end
end
section
open PySem.Spec
theorem slice_no_idx : typeLookup (.type "slice") "__index__" = pure none := by rw [typeLookup_type, builtinLookup_eq_fast]; kernel_rfl
section
variable {p : Program} {w : World} {A : Around} {E : Value → Shared → Prop} {s : Shared} {b : Array UInt8} {t : Tok} {g : Heap} {L : Addr} {m : Str → Option Value} {news : List (Addr × Obj)} {value slice : PySem.Expr}
theorem pick_all (b : Array UInt8) : (List.range b.size).filterMap (b[·]?) = b.toList := by
 have h := pick_run b 0 b.size
 have e : (List.range b.size).map (0 + ·) = List.range b.size := by
  rw [show ((0 + ·) : Nat → Nat) = id from funext fun k => Nat.zero_add k, List.map_id]
 rw [e, List.drop_zero, List.take_of_length_le (by rw [Array.length_toList]; exact Nat.le_refl _)] at h
 exact h
theorem sliced_rev (b : Array UInt8) : Builtin.Bytes.sliced b ((b.size : Int) - 1) (-1) (-1) = b.toList.reverse.toArray := by
 unfold Builtin.Bytes.sliced
 rw [krv_sliceRange, krv_range, List.filterMap_reverse, pick_all]
theorem meets_rev (b : Array UInt8) (t u : Tok) (a : Addr) :
  Meets (Builtin.«bytes.__getitem__» ⟨[.bytes b t, .ref a], []⟩) (fun _ R s => s.heap.IsSliceOf a .none .none (.int (-1) u) ∧ b.size ≤ sizeLine ∧ ∀ t' k, R (.ok (.ret (.bytes b.toList.reverse.toArray t'))) { s with toks := k }) := by
 refine .of_wp fun prog w A R s hS => ?_
 obtain ⟨⟨o, ho, hc, hd⟩, hsz, h⟩ := hS
 have hT : s.TypeIs (.ref a) "slice" := ⟨o, ho, hc⟩
 show wpAny _ _ (Builtin.Bytes.payload (.bytes b t) >>= fun r => _) _ _ s
 refine wpAny_bind (wpAny_of_eq (a := b) rfl ?_)
 show wpAny _ _ (Builtin.Bytes.subscript? (.ref a) >>= fun r => _) _ _ s
 refine wpAny_bind ?_
 unfold Builtin.Bytes.subscript?
 refine wpAny_bind (wpAny_specialOf hT slice_no_idx (wpAny_pure ?_))
 refine wpAny_bind (wpAny_typeOf hT ?_)
 show wpAny _ _ (Builtin.Bytes.sliceParts (.ref a) >>= fun r => _) _ _ s
 refine wpAny_bind ?_
 unfold Builtin.Bytes.sliceParts
 dsimp only
 refine wpAny_bind (wpAny_field (x := .int (-1) u) ho hd rfl ?_)
 refine wpAny_bind ?_
 refine bm_if_false rfl ?_
 refine wpAny_bind (wpAny_specialOf (typeIs_int _ _ _) FBa.int_index ?_)
 refine bm_if_false rfl ?_
 refine wpAny_bind (wpAny_of_eq (rfl : asIndex (.int (-1) u) = pure (-1)) (wpAny_pure ?_))
 refine bm_if_false rfl ?_
 refine wpAny_bind (wpAny_field (x := .none) ho hd rfl ?_)
 refine wpAny_bind (wpAny_of_eq (a := Value.none) rfl ?_)
 refine wpAny_bind (wpAny_field (x := .none) ho hd rfl ?_)
 refine wpAny_bind (wpAny_of_eq (a := Value.none) rfl ?_)
 refine wpAny_pure ?_
 refine wpAny_bind (wpAny_of_eq (sliceIndices_raw none none (some (-1)) b.size (by decide)) ?_)
 rw [krv_bounds]
 dsimp only
 refine bm_if_false ?_ ?_
 ·have : ((-1 : Int) == 1) = false := rfl
  simp [this]
 rw [sliced_rev]
 refine wpAny_bind (wpAny_mkBytes (wpAny_pure ⟨_, rfl, h _ _⟩) ?_)
 rw [List.size_toArray, List.length_reverse, Array.length_toList]; exact hsz
theorem rev_cut {u : Tok} {Q : Value → Shared → Prop} (hF : Fr g L s.heap m) (hN : News g L s.heap news) (hz : b.size ≤ 16777216)
  (h : ∀ h' t' k, Fr g L h' m → News g L h' news → Q (.bytes b.toList.reverse.toArray t') { s with heap := h', toks := k })
  (hs : subscripted slice false (.bytes b t) (.ref s.heap.objs.size) = operate [.ref s.heap.objs.size, .bytes b t] (getItem (.bytes b t) (.ref s.heap.objs.size)) := by with_unfolding_all rfl)
  (ht : ∀ r, letTemporaryGo value (.bytes b t) r = pure () := by intro _; with_unfolding_all rfl) :
  wpAny (model p w) A (subscriptTail value slice (.bytes b t) (.ref s.heap.objs.size)) Q E { s with heap := s.heap.push { cls := .type "slice", data := .fields #[.none, .none, .int (-1) u] } } :=
 tail_of_ItemOn ⟨"bytes", _, FB.slot_bytes_getitem.lookup, typeIs_bytes _ _ _, getItem_meets (typeIs_bytes _ _ _) (by decide) FB.slot_bytes_getitem FB.entry_bytes_getitem (FB.args_bytes_getitem_2 _ _) (meets_rev b t u _)
  ⟨Heap.IsSliceOf.new _ _ _ _, by rw [sizeLine_eq]; exact hz, fun t' k => h _ _ _ (hF.push _) (News.pushKeep hN _)⟩⟩ hs ht
end
end
section
theorem isl_arr {g h : Heap} {L l : Addr} {m : Str → Option Value} {vs : Array Value} {n : Nat} (F : Fr g L h m) (e : g.get? l = some (listOf vs n)) : h.IsList l vs := ⟨_, F.keep _ _ e, rfl, _, rfl⟩
theorem item_lit {w : World} {A : Around} {E Q : Value → Shared → Prop} {s : Shared} {value slice : PySem.Expr} {l : Addr} {items : List Value} {k : Int} {u : Tok} {v : Value} (hl : s.heap.IsList l items.toArray) (h0 : 0 ≤ k) (hhi : k < 2 ^ 63) (hx : items[k.toNat]? = some v) (h : Q v s)
  (hs : subscripted slice false (.ref l) (.int k u) = operate [.ref l, .int k u] (getItem (.ref l) (.int k u)) := by with_unfolding_all rfl) :
  wpAny (model prog w) A (subscriptTail value slice (.ref l) (.int k u)) Q E s :=
 tail_any hl.typeIs slot_list_getitem.lookup (wpAny_getItem_list hl h0 hhi (by simpa using hx) h) hs
theorem hk33 : True := by
 k_with "subscriptTail" => (k_here; (with_reducible show wpAny _ _ (subscriptTail _ _ (Value.ref _) (Value.int _ _)) _ _ _); (refine item_lit (isl_arr (by k_asm) (by assumption)) (by decide) (by decide) (by rfl) ?_ (by with_unfolding_all rfl)))
 k_with "subscriptTail" => (k_here; (with_reducible show wpAny _ _ (subscriptTail _ (PySem.Expr.Slice none none (some _) _) (Value.bytes _ _) (Value.ref _)) _ _ _); (with_reducible rename Fr _ _ _ _ => F'9); (with_reducible rename News _ _ _ _ => N'9); (refine rev_cut (s := ⟨_, _, _, _, _⟩) F'9 N'9 (by walk_at "kk_size") ?_); intro _ _ _ _ _)
 trivial
structure SRow where
 a : Addr
 n : Nat
 t1 : Tok
 t2 : Tok
 t3 : Tok
 t4 : Tok
 txid : Array UInt8
 vout : Nat
 scr : Array UInt8
 seq : Nat
def SRow.obj (r : SRow) : Obj := listOf #[.bytes r.txid r.t1, .int (r.vout : Int) r.t2, .bytes r.scr r.t3, .int (r.seq : Int) r.t4] r.n
structure SOut where
 a : Addr
 n : Nat
 t1 : Tok
 t2 : Tok
 val : Nat
 scr : Array UInt8
def SOut.obj (r : SOut) : Obj := listOf #[.int (r.val : Int) r.t1, .bytes r.scr r.t2] r.n
structure SRow.Ok (a : SRow) : Prop where
 hv : a.vout < 4294967296
 hq : a.seq < 4294967296
 hc : a.scr.size ≤ 255
 hi : a.txid.size = 32
structure SOut.Ok (a : SOut) : Prop where
 hv : a.val < 18446744073709551616
 hc : a.scr.size ≤ 255
def SRow.oct (a : SRow) : Array UInt8 := inB a.txid a.vout a.scr a.seq
def SOut.oct (a : SOut) : Array UInt8 := outB a.val a.scr
theorem SRow.Ok.size {a : SRow} (o : a.Ok) : a.oct.size ≤ 298 := by have := @inB_size a.txid a.scr a.vout a.seq o.hi; have := o.hc; unfold SRow.oct; omega
theorem SOut.Ok.size {a : SOut} (o : a.Ok) : a.oct.size ≤ 266 := by have := @outB_size a.val a.scr; have := o.hc; unfold SOut.oct; omega
def kindL : List Nat := [1, 2, 3, 0, 129, 130, 131, 128, 4, 132, 255, 257]
def filledB (n : Int) : Array UInt8 := (List.replicate ([0, 22, 253, 252].getD ((n.fdiv 251).fmod 4).toNat 0) ((n.fmod 251).toNat.toUInt8)).toArray
theorem filled_0 {n : Int} (h : (n.fdiv 251).fmod 4 = 0) : filledB n = #[] := by unfold filledB; rw [h]; rfl
theorem filled_1 {n : Int} (h : (n.fdiv 251).fmod 4 = 1) : filledB n = (List.replicate 22 ((n.fmod 251).toNat.toUInt8)).toArray := by unfold filledB; rw [h]; rfl
theorem filled_2 {n : Int} (h : (n.fdiv 251).fmod 4 = 2) : filledB n = (List.replicate 253 ((n.fmod 251).toNat.toUInt8)).toArray := by unfold filledB; rw [h]; rfl
theorem filled_3 {n : Int} (h : (n.fdiv 251).fmod 4 = 3) : filledB n = (List.replicate 252 ((n.fmod 251).toNat.toUInt8)).toArray := by unfold filledB; rw [h]; rfl
theorem four_of {q : Int} (a : 0 ≤ q) (b : q < 4) : q = 0 ∨ q = 1 ∨ q = 2 ∨ q = 3 := by
 obtain ⟨n, rfl⟩ := Int.eq_ofNat_of_zero_le a
 exact (by decide : ∀ m : Fin 4, (m.1 : Int) = 0 ∨ (m.1 : Int) = 1 ∨ (m.1 : Int) = 2 ∨ (m.1 : Int) = 3) ⟨n, Int.ofNat_lt.mp (show ((n : Nat) : Int) < ((4 : Nat) : Int) from b)⟩
theorem filled_size (n : Int) : (filledB n).size ≤ 255 := by
 have h0 := Int.fmod_nonneg_of_pos (n.fdiv 251) (b := 4) (by decide)
 have h1 := Int.fmod_lt_of_pos (n.fdiv 251) (b := 4) (by decide)
 have := four_of h0 h1
 rcases this with h | h | h | h
 ·rw [filled_0 h]; decide
 ·rw [filled_1 h, List.size_toArray, List.length_replicate]; decide
 ·rw [filled_2 h, List.size_toArray, List.length_replicate]; decide
 ·rw [filled_3 h, List.size_toArray, List.length_replicate]; decide
section
variable {w : World} {hb : Heap} {mean : ExcName → Option Value} {mg mb : Str → Option Value} {s : Shared}
theorem law_four (G : Gd w hb mean mg mb) (st : St hb s.heap) {v : Nat} {t : Tok} (hv : v < 4294967296) :
  Does w 2 (.ref 1166) [.int (v : Int) t] [] s [] (fun r _ => ∃ q, r = .bytes (le 4 v) q) := by
 walk_at "ir"
 refine' enter (binds := [(Str.ofString "number", .int (v : Int) t)]) G st [] ?hW ?ho ?hcd ?hroom ?hbind ?hloc ?h ?hcell ?hco ?hgen ?hk
 walk_at "kk_enter"
 case hW => intro p hp; cases hp
 walk_at "ig"
 clear l1
 k_steps
 exact leaves (by k_asm) fun _ => fun e => hQ _ _ _ e ⟨_, rfl⟩
theorem hk34 : True := by
 k_with "call ref" => (k_here; (with_reducible show wpAny _ _ (PySem.call (Value.ref 1166) _ _) _ _ _); (show wpAny _ _ (PySem.call (Value.ref 1166) [Value.int _ _] _) _ _ _); (refine use0b (law_four (by assumption) (by walk_at "kk_st") (by first | assumption | omega)) (by k_asm) (by k_asm) (by walk_at "kk_num") (by walk_at "kk_num") ?_); intro t'9 h'9 tk'9 F'9 N'9)
 trivial
theorem law_sized (G : Gd w hb mean mg mb) (st : St hb s.heap) {b : Array UInt8} {t : Tok} (hz : b.size ≤ 255) :
  Does w 4 (.ref 1173) [.bytes b t] [] s [] (fun r _ => ∃ q, r = .bytes (sized b.size ++ b) q) := by
 walk_at "ir"
 refine' enter (binds := [(Str.ofString "octets", .bytes b t)]) G st [] ?hW ?ho ?hcd ?hroom ?hbind ?hloc ?h ?hcell ?hco ?hgen ?hk
 walk_at "kk_enter"
 case hW => intro p hp; cases hp
 walk_at "ig"
 clear l1
 k_steps
 ·exact leaves (by k_asm) fun _ => fun e => hQ _ _ _ e ⟨_, by rw [sized_lt (by omega)]⟩
 ·exact leaves (by k_asm) fun _ => fun e => hQ _ _ _ e ⟨_, by rw [← sized_ge (n := b.size) (by omega)]⟩
theorem law_point (G : Gd w hb mean mg mb) (st : St hb s.heap) {r : SRow} (H : s.heap.get? r.a = some r.obj) (O : r.Ok) :
  Does w 6 (.ref 1187) [.ref r.a] [] s [] (fun v _ => ∃ q, v = .bytes (pointB r.txid r.vout) q) := by
 walk_at "ir"
 refine' enter (binds := [(Str.ofString "row", .ref r.a)]) G st [] ?hW ?ho ?hcd ?hroom ?hbind ?hloc ?h ?hcell ?hco ?hgen ?hk
 walk_at "kk_enter"
 case hW => intro p hp; cases hp
 walk_at "ig"
 clear l1
 have gr := sub _ _ H (by simp)
 unfold SRow.obj at gr
 have y1 := O.hv
 have y2 := O.hi
 have y3 : r.txid.toList.reverse.toArray.size = 32 := by simp [O.hi]
 k_steps
 exact leaves (by k_asm) fun _ => fun e => hQ _ _ _ e ⟨_, rfl⟩
theorem law_filled (G : Gd w hb mean mg mb) (st : St hb s.heap) {n : Int} {t : Tok} (hn : True) :
  Does w 6 (.ref 1180) [.int n t] [] s [] (fun v _ => ∃ q, v = .bytes (filledB n) q) := by
 walk_at "ir"
 refine' enter (binds := [(Str.ofString "number", .int n t)]) G st [] ?hW ?ho ?hcd ?hroom ?hbind ?hloc ?h ?hcell ?hco ?hgen ?hk
 walk_at "kk_enter"
 case hW => intro p hp; cases hp
 walk_at "ig"
 clear l1
 have q0 := Int.fmod_nonneg_of_pos n (b := 251) (by decide)
 have q1 := Int.fmod_lt_of_pos n (b := 251) (by decide)
 k_steps
 ·exact leaves (by k_asm) fun _ => fun e => hQ _ _ _ e ⟨_, by rw [filled_0 (by assumption)]⟩
 ·exact leaves (by k_asm) fun _ => fun e => hQ _ _ _ e ⟨_, by rw [filled_1 (by assumption)]; rfl⟩
 ·exact leaves (by k_asm) fun _ => fun e => hQ _ _ _ e ⟨_, by rw [filled_2 (by assumption)]; rfl⟩
 ·exact leaves (by k_asm) fun _ => fun e => hQ _ _ _ e ⟨_, by rw [filled_3 (by assumption)]; rfl⟩
theorem hk35 : True := by
 k_with "call ref" => (k_here; (with_reducible show wpAny _ _ (PySem.call (Value.ref 1173) _ _) _ _ _); (show wpAny _ _ (PySem.call (Value.ref 1173) [Value.bytes _ _] _) _ _ _); (refine use0b (law_sized (by assumption) (by walk_at "kk_st") (by first | assumption | omega)) (by k_asm) (by k_asm) (by walk_at "kk_num") (by walk_at "kk_num") ?_); intro t'9 h'9 tk'9 F'9 N'9)
 k_with "call ref" => (k_here; (with_reducible show wpAny _ _ (PySem.call (Value.ref 1180) _ _) _ _ _); (show wpAny _ _ (PySem.call (Value.ref 1180) [Value.int _ _] _) _ _ _); (refine use0b (law_filled (by assumption) (by walk_at "kk_st") trivial) (by k_asm) (by k_asm) (by walk_at "kk_num") (by walk_at "kk_num") ?_); intro t'9 h'9 tk'9 F'9 N'9)
 trivial
theorem law_out (G : Gd w hb mean mg mb) (st : St hb s.heap) {r : SOut} (H : s.heap.get? r.a = some r.obj) (O : r.Ok) :
  Does w 8 (.ref 1194) [.ref r.a] [] s [] (fun v _ => ∃ q, v = .bytes r.oct q) := by
 walk_at "ir"
 refine' enter (binds := [(Str.ofString "row", .ref r.a)]) G st [] ?hW ?ho ?hcd ?hroom ?hbind ?hloc ?h ?hcell ?hco ?hgen ?hk
 walk_at "kk_enter"
 case hW => intro p hp; cases hp
 walk_at "ig"
 clear l1
 have gr := sub _ _ H (by simp)
 unfold SOut.obj at gr
 have y1 := O.hv
 have y2 := O.hc
 have y3 := @sized_size r.scr.size
 k_steps
 exact leaves (by k_asm) fun _ => fun e => hQ _ _ _ e ⟨_, rfl⟩
theorem law_types (G : Gd w hb mean mg mb) (st : St hb s.heap)  :
  Does w 2 (.ref 1152) [] [] s [] (fun v h' => ∃ l n ts, v = .ref l ∧ s.heap.get? l = none ∧ List.length ts = 12 ∧ h'.get? l = some (listOf (((kindL.zip ts).map fun p : Nat × Tok => Value.int (p.1 : Int) p.2).toArray) n)) := by
 walk_at "ir"
 refine' enter (binds := []) G st [] ?hW ?ho ?hcd ?hroom ?hbind ?hloc ?h ?hcell ?hco ?hgen ?hk
 walk_at "kk_enter"
 case hW => intro p hp; cases hp
 walk_at "ig"
 clear l1
 k_steps
 (rename News _ _ _ _ => N9)
 exact leaves (by k_asm) fun _ => fun e => hQ _ _ _ e ⟨_, 0, [_, _, _, _, _, _, _, _, _, _, _, _], rfl, fresh_of sub N9 (.head _), rfl, News.get N9 (.head _)⟩
end
end
section
def EltEnd (P : List Value → List (Addr × Obj) → Prop) (g : Heap) (C I : Addr) (oI : Obj) (D : Addr) (ys : List Value) (n : Nat) (s₀ : Shared) (y : Value) (s₃ : Shared) : Prop :=
 ∃ h tk m rest, s₃ = { s₀ with heap := h, toks := tk } ∧ Fr g C h m ∧ News g C h ((I, oI) :: (D, listOf ys.toArray n) :: rest) ∧ (∀ p ∈ rest, p.1 ≠ I ∧ p.1 ≠ D) ∧ P (ys ++ [y]) rest
def CompStart (g : Heap) (L l : Addr) (m : Str → Option Value) (news : List (Addr × Obj)) (s₀ : Shared) (xv : Value) (s₁ : Shared) : Prop :=
 xv = .ref l ∧ ∃ h tk, s₁ = { s₀ with heap := h, toks := tk } ∧ Fr g L h m ∧ News g L h news
section
variable {w : World} {A : Around} {E : Value → Shared → Prop} {env : Env}
theorem comp_core {elt iter : Expr} {x : Str} {px : Pos} {scope : Scope} {pos : Pos} {vs : List Value} {l I D C : Addr} {s₀ : Shared} {hB h₁ : Heap} {tk : Nat} {m₁ : Str → Option Value} {R : Result → Shared → Prop} (P : Nat → List Value → List (Addr × Obj) → Prop)
  (hh : A.handled = none) (hP0 : P 0 [] []) (hPl : ∀ i ys rest, P i ys rest → ys.length = i) (hkind : scope.kind = .function) (hx : scope.names.lookup x = some .local)
  (hl : hB.IsList l vs.toArray) (hz : vs.length ≤ 100000) (hI : I = hB.objs.size) (hD : D = hB.objs.size + 1) (hC : C = hB.objs.size + 2)
  (ns₁ : h₁.Ns C m₁) (old : ∀ b o, hB.get? b = some o → h₁.get? b = some o) (hI1 : h₁.get? I = some (iterObj l 0)) (hD1 : h₁.get? D = some (listOf ([] : List Value).toArray 0))
  (turn : ∀ (i : Nat) (v : Value) (oI : Obj) (ys : List Value) (n : Nat) (rest : List (Addr × Obj)) (h : Heap) (tk : Nat) (m' : Str → Option Value) (E' : Value → Shared → Prop), vs[i]? = some v → P i ys rest → Fr hB C h (fun y => if y = x then some v else m' y) → News hB C h ((I, oI) :: (D, listOf ys.toArray n) :: rest) → (∀ p ∈ rest, p.1 ≠ I ∧ p.1 ≠ D) →
   wpAny (model prog w) A (eval elt (compEnv scope C env)) (EltEnd (P (i + 1)) hB C I oI D ys n s₀) E' { s₀ with heap := h, toks := tk })
  (fin : ∀ ys n rest h' h₂ m' tk' oI, P vs.length ys rest → Fr hB C h' m' → News hB C h' ((I, oI) :: (D, listOf ys.toArray n) :: rest) → (∀ p ∈ rest, p.1 ≠ I ∧ p.1 ≠ D) → Heap.ExtBut I h' h₂ → R (.ok .next) { s₀ with heap := h₂, toks := tk' }) :
  codeAny (model prog w) A (.compStart (.ListComp elt [⟨.Name x px, iter, [], 0⟩] scope pos) 0 (.ref I) (.ref D) (compEnv scope C env)) R { s₀ with heap := h₁, toks := tk } := by
 obtain ⟨ol, hlB, hlc, hln, hld⟩ := hl
 have hDI : D ≠ I := by rw [hD, hI]; exact Nat.succ_ne_self _
 have hDC : D ≠ C := by rw [hD, hC]; exact Nat.ne_of_lt (Nat.lt_succ_self _)
 have hIC : I ≠ C := by rw [hI, hC]; exact Nat.ne_of_lt (Nat.lt_succ_of_lt (Nat.lt_succ_self _))
 have nB : ∀ a, hB.objs.size ≤ a → hB.get? a = none := fun a ha => by
  cases q : hB.get? a with
  | none => rfl
  | some o => exact absurd (Heap.lt_size q) (Nat.not_lt.mpr ha)
 have loop : codeAny (model prog w) A (.compLoop (.ListComp elt [⟨.Name x px, iter, [], 0⟩] scope pos) 0 (.ref I) (.ref D) (compEnv scope C env)) R { s₀ with heap := h₁, toks := tk } := by
  refine codeAny_compLoop_list (fun k s' => ∃ i h' tk' m' ys n oI rest, k = vs.length + 1 - i ∧ i ≤ vs.length ∧ s' = { s₀ with heap := h', toks := tk' } ∧ P i ys rest ∧ Fr hB C h' m' ∧ News hB C h' ((I, oI) :: (D, listOf ys.toArray n) :: rest) ∧ oI.cls = .type "list_iterator" ∧ oI.data = .fields #[.ref l, .int (i : Int) 0] ∧ (∀ p ∈ rest, p.1 ≠ I ∧ p.1 ≠ D)) ?_ (vs.length + 1)
   ⟨0, h₁, tk, _, [], 0, iterObj l 0, [], rfl, Nat.zero_le _, rfl, hP0, ⟨ns₁, old, by rw [hC]; exact Nat.le_succ_of_le (Nat.le_succ _)⟩, ?_, rfl, rfl, fun _ h => nomatch h⟩
  ·rintro k s' ⟨i, h', tk', m', ys, n, oI, rest, rfl, hi, rfl, hP, F', N', hoc, hod, hr⟩
   have hit : h'.IsListIter I l i := ⟨oI, (N' _ (.head _)).1, hoc, hod⟩
   have hl' : h'.IsList l vs.toArray := ⟨ol, F'.keep _ _ hlB, hlc, hln, hld⟩
   cases hv : vs[i]? with
   | none =>
    have hge : vs.length ≤ i := List.getElem?_eq_none_iff.mp hv
    have hie : i = vs.length := Nat.le_antisymm hi hge
    subst hie
    exact wpAny_pyNext_list_end hh hit hl' (by simpa using hv) fun h₂ he₂ => fin ys n rest h' h₂ m' tk' oI hP F' N' hr he₂
   | some v =>
    have hlt : i < vs.length := (List.getElem?_eq_some_iff.mp hv).1
    refine wpAny_pyNext_list_item hit hl' (by simpa using hv) fun h₂ hit₂ hs₂ => ?_
    refine hideP fun B9 k9 => ?_
    obtain ⟨oI', ho', hoc', hod'⟩ := hit₂
    refine k9 ?_; clear k9
    have F2 : Fr hB C h₂ m' := fr_but (W := [I]) F' (fun a ha => by rw [List.mem_singleton.mp ha]; exact (N' _ (.head _)).2) fun b o hb q => hs₂.extBut b o (by simpa using hb) q
    have N2 : News hB C h₂ ((I, oI') :: (D, listOf ys.toArray n) :: rest) := by
     intro q hq
     rcases List.mem_cons.mp hq with rfl | hq
     ·exact ⟨ho', (N' (I, oI) (.head _)).2⟩
     rcases List.mem_cons.mp hq with rfl | hq
     ·exact ⟨hs₂.extBut _ _ hDI (N' (D, listOf ys.toArray n) (.tail _ (.head _))).1, (N' (D, listOf ys.toArray n) (.tail _ (.head _))).2⟩
     ·exact ⟨hs₂.extBut _ _ (hr q hq).1 (N' q (.tail _ (.tail _ hq))).1, (N' q (.tail _ (.tail _ hq))).2⟩
    refine wpAny_assign_Name (wpAny_storeName_local (by simpa [compEnv, Env.kindOf] using hx) F2.ns (fun h₃ hn₃ hs₃ => ?_) (by simp [compEnv, hkind]))
    have F3 : Fr hB C h₃ (fun y => if y = x then some v else m' y) := F2.set hn₃ hs₃
    have N3 := N2.set hs₃
    refine wpAny_mono (turn i v oI' ys n rest h₃ _ m' _ hv hP F3 N3 hr) (fun y s₃ hy => ?_) fun _ _ e => e
    refine hideP fun B9 k9 => ?_
    obtain ⟨h₄, tk₄, m₄, rest', rfl, F4, N4, hr', hP'⟩ := hy
    refine k9 ?_; clear k9
    have hys := hPl _ _ _ hP
    refine append_at (hsz := by rw [List.size_toArray, sizeLine_eq]; omega) (N4 _ (.tail _ (.head _))).1 fun h₅ hs₅ ho₅ => ?_
    refine ⟨vs.length + 1 - (i + 1), Nat.sub_lt_sub_left (Nat.lt_succ_of_lt hlt) (Nat.lt_succ_self _), i + 1, h₅, tk₄, m₄, ys ++ [y], n + 1, oI', rest', rfl, hlt, rfl, hP', F4.change hs₅ (Ne.symm hDC).symm (nB _ (by rw [hD]; exact Nat.le_succ _)), ?_, hoc', hod', hr'⟩
    intro q hq
    rcases List.mem_cons.mp hq with rfl | hq
    ·exact ⟨hs₅.extBut _ _ (Ne.symm hDI) (N4 (I, oI') (.head _)).1, (N4 (I, oI') (.head _)).2⟩
    rcases List.mem_cons.mp hq with rfl | hq
    ·refine ⟨?_, (N4 (D, listOf ys.toArray n) (.tail _ (.head _))).2⟩
     show h₅.get? D = _
     rw [ho₅]; simp
    ·exact ⟨hs₅.extBut _ _ (hr' q hq).2 (N4 q (.tail _ (.tail _ hq))).1, (N4 q (.tail _ (.tail _ hq))).2⟩
  ·intro q hq
   rcases List.mem_cons.mp hq with rfl | hq
   ·exact ⟨hI1, hIC, nB _ (Nat.le_of_eq hI.symm)⟩
   rcases List.mem_cons.mp hq with rfl | hq
   ·exact ⟨hD1, hDC, nB _ (by rw [hD]; exact Nat.le_succ _)⟩
   ·cases hq
 exact codeAny_compStart_list loop (wpAny_pyIter_listiter ⟨_, hI1, rfl, rfl⟩ loop)
theorem comp_news {g hB h' h₃ : Heap} {L I D C : Addr} {m m' : Str → Option Value} {news rest : List (Addr × Obj)} {ys : List Value} {n : Nat} {oI : Obj} (F : Fr g L hB m) (N : News g L hB news) (hI : I = hB.objs.size) (hD : D = hB.objs.size + 1) (hC : C = hB.objs.size + 2)
  (F' : Fr hB C h' m') (N' : News hB C h' ((I, oI) :: (D, listOf ys.toArray n) :: rest)) (hr : ∀ p ∈ rest, p.1 ≠ I ∧ p.1 ≠ D) (up : ∀ b o, b ≠ L → b ≠ C → b ≠ I → h'.get? b = some o → h₃.get? b = some o) :
  News g L h₃ ((D, listOf ys.toArray n) :: (rest ++ news)) ∧ (∀ p ∈ news, p.1 < D) ∧ @LT.lt Nat _ L D ∧ (∀ p ∈ rest, p.1 ≠ D) ∧ (∀ p ∈ rest, ∀ q ∈ news, p.1 ≠ q.1) := by
 have hDI : D ≠ I := by rw [hD, hI]; exact Nat.succ_ne_self _
 have hDC : D ≠ C := by rw [hD, hC]; exact Nat.ne_of_lt (Nat.lt_succ_self _)
 have gn : ∀ a, hB.get? a = none → g.get? a = none := fun a ha => by
  cases z : g.get? a with
  | none => rfl
  | some o => have := F.keep _ _ z; rw [ha] at this; cases this
 have nL : ∀ a, hB.get? a = none → a ≠ L := fun a ha z => by
  obtain ⟨oL, _, _, hL, _⟩ := F.ns
  rw [z, hL] at ha; cases ha
 refine ⟨fun q hq => ?_, fun p hp => ?_, ?_, fun p hp => (hr p hp).2, fun p hp q hq z => ?_⟩
 ·rcases List.mem_cons.mp hq with rfl | hq
  ·have z := N' (D, listOf ys.toArray n) (.tail _ (.head _))
   exact ⟨up _ _ (nL _ z.2.2) hDC hDI z.1, nL _ z.2.2, gn _ z.2.2⟩
  rcases List.mem_append.mp hq with hq | hq
  ·have z := N' q (.tail _ (.tail _ hq))
   exact ⟨up _ _ (nL _ z.2.2) z.2.1 (hr q hq).1 z.1, nL _ z.2.2, gn _ z.2.2⟩
  ·have z := N q hq
   have lt := Heap.lt_size z.1
   exact ⟨up _ _ z.2.1 (by rw [hC]; exact Nat.ne_of_lt (Nat.lt_succ_of_lt (Nat.lt_succ_of_lt lt))) (by rw [hI]; exact Nat.ne_of_lt lt) (F'.keep _ _ z.1), z.2⟩
 ·rw [hD]; exact Nat.lt_succ_of_lt (Heap.lt_size (N p hp).1)
 ·rw [hD]; exact Nat.lt_succ_of_lt F.ns.lt
 ·have z1 := (N' p (.tail _ (.tail _ hp))).2.2
  rw [z, (N q hq).1] at z1; cases z1
theorem a_comp {elt iter : Expr} {x : Str} {px : Pos} {scope : Scope} {pos : Pos} {vs : List Value} {l : Addr} {g : Heap} {L : Addr} {m : Str → Option Value} {news : List (Addr × Obj)} {s s₀ : Shared} {Q : Value → Shared → Prop} {h9 : Heap} (_F9 : Fr g L h9 m) (_N9 : News g L h9 news) (P : Nat → List Value → List (Addr × Obj) → Prop)
  (hh : A.handled = none) (hP0 : P 0 [] []) (hPl : ∀ i ys rest, P i ys rest → ys.length = i)
  (hfree : ∀ y ∈ scope.names, y.2 ≠ .free) (hcell : ∀ y ∈ scope.names, y.2 ≠ .cell) (hkind : scope.kind = .function)
  (hnames : ∀ y ∈ scope.names, y.2 = .local → scope.names.lookup y.1 = some .local) (hx : scope.names.lookup x = some .local)
  (hg : ∀ h, Fr g L h m → News g L h news → h.IsList l vs.toArray) (hz : vs.length ≤ 100000)
  (start : wpAny (model prog w) A (eval iter env) (CompStart g L l m news s₀) E s)
  (turn : ∀ (i : Nat) (v : Value) (C I : Addr) (oI : Obj) (D : Addr) (ys : List Value) (n : Nat) (rest : List (Addr × Obj)) (hB h : Heap) (tk : Nat) (m' : Str → Option Value) (E' : Value → Shared → Prop), vs[i]? = some v → P i ys rest → Fr hB C h (fun y => if y = x then some v else m' y) → News hB C h ((I, oI) :: (D, listOf ys.toArray n) :: rest) → @LT.lt Nat _ I D → @LT.lt Nat _ D C → (∀ b o, g.get? b = some o → hB.get? b = some o) → (∀ p ∈ news, hB.get? p.1 = some p.2) → (∀ p ∈ rest, p.1 ≠ I ∧ p.1 ≠ D) →
   wpAny (model prog w) A (eval elt (compEnv scope C env)) (EltEnd (P (i + 1)) hB C I oI D ys n s₀) E' { s₀ with heap := h, toks := tk })
  (done : ∀ (D : Addr) (ys : List Value) (n : Nat) (rest : List (Addr × Obj)) (h : Heap) (tk : Nat), P vs.length ys rest → Fr g L h m → News g L h ((D, listOf ys.toArray n) :: (rest ++ news)) → (∀ p ∈ news, p.1 < D) → @LT.lt Nat _ L D → (∀ p ∈ rest, p.1 ≠ D) → (∀ p ∈ rest, ∀ q ∈ news, p.1 ≠ q.1) → Q (.ref D) { s₀ with heap := h, toks := tk })
  (hs : ∀ x, foldedSetIterable iter env x = pure x := by intro _; rfl) :
  wpAny (model prog w) A (eval (.ListComp elt [⟨.Name x px, iter, [], 0⟩] scope pos) env) Q E s := by
 refine wpAny_ListComp hfree hkind hnames (wpAny_mono start (fun xv s₁ h₁ => ?_) fun _ _ e => e) hs
 refine hideP fun B9 k9 => ?_
 obtain ⟨rfl, hB, tk, rfl, F, N⟩ := h₁
 obtain ⟨ol, hlB, hlc, hln, hld⟩ := hg hB F N
 refine k9 ?_; clear k9
 have hl : hB.IsList l vs.toArray := ⟨ol, hlB, hlc, hln, hld⟩
 refine wpAny_pyIter_list hl (wpAny_newObj_type (hd := by size_fits) (wpAny_newFunctionEnv hcell (by intro y hy; simp at hy) (fun h₁ hns₁ hsb₁ => ?_) hkind))
 dsimp only at hns₁ hsb₁ ⊢
 generalize hH1 : hB.push { cls := .type "list_iterator", data := .fields #[.ref l, .int 0 0] } = H1 at hns₁ hsb₁ ⊢
 have hD : H1.objs.size = hB.objs.size + 1 := by rw [← hH1, Heap.size_push]
 generalize hH2 : H1.push { cls := .type "list", dict := none, data := .seq ([] : List Value).toArray } = H2 at hns₁ hsb₁ ⊢
 have hC : H2.objs.size = hB.objs.size + 2 := by rw [← hH2, Heap.size_push, hD]
 have hDI : H1.objs.size ≠ hB.objs.size := by rw [hD]; exact Nat.succ_ne_self _
 have hDC : H1.objs.size ≠ H2.objs.size := by rw [hD, hC]; exact Nat.ne_of_lt (Nat.lt_succ_self _)
 have hIC : hB.objs.size ≠ H2.objs.size := by rw [hC]; exact Nat.ne_of_lt (Nat.lt_succ_of_lt (Nat.lt_succ_self _))
 have below : ∀ b, b < hB.objs.size → b ≠ H2.objs.size ∧ b ≠ hB.objs.size ∧ b ≠ H1.objs.size := fun b hb =>
  ⟨by rw [hC]; exact Nat.ne_of_lt (Nat.lt_succ_of_lt (Nat.lt_succ_of_lt hb)), Nat.ne_of_lt hb, by rw [hD]; exact Nat.ne_of_lt (Nat.lt_succ_of_lt hb)⟩
 have old : ∀ b o, hB.get? b = some o → h₁.get? b = some o := fun b o e =>
  hsb₁.extBut b o (below b (Heap.lt_size e)).1 (Heap.get?_push_of_some _ (hH2 ▸ Heap.get?_push_of_some _ (hH1 ▸ Heap.get?_push_of_some _ e)))
 have hI1 : h₁.get? hB.objs.size = some (iterObj l 0) := hsb₁.extBut _ _ hIC (Heap.get?_push_of_some _ (hH2 ▸ Heap.get?_push_of_some _ (hH1 ▸ Heap.get?_push_size _ rfl)))
 have hD1 : h₁.get? H1.objs.size = some (listOf ([] : List Value).toArray 0) := hsb₁.extBut _ _ hDC (Heap.get?_push_of_some _ (hH2 ▸ Heap.get?_push_size _ rfl))
 refine comp_core (P := P) (I := hB.objs.size) (D := H1.objs.size) (C := H2.objs.size) hh hP0 hPl hkind hx hl hz rfl hD hC hns₁ old hI1 hD1 (fun i v oI ys n rest h tk m' E' hv hP F' N' hr => turn i v _ _ oI _ ys n rest hB h tk m' E' hv hP F' N' (by rw [hD]; exact Nat.lt_succ_self _) (by rw [hC, hD]; exact Nat.lt_succ_self _) F.keep (fun p hp => (N p hp).1) hr) fun ys n rest h' h₂ m' tk' oI hP F' N' hr he₂ => ?_
 refine ⟨m', F'.ns.extBut he₂ (Ne.symm hIC), fun h₃ hs₃ => ?_⟩
 have up : ∀ b o, b ≠ H2.objs.size → b ≠ hB.objs.size → h'.get? b = some o → h₃.get? b = some o := fun b o h1 h2 e => hs₃.extBut b o h1 (he₂ b o h2 e)
 refine hideP fun B9 k9 => ?_
 obtain ⟨a1, a2, a3, a4, a5⟩ := comp_news F N rfl hD hC F' N' hr fun b o _ h1 h2 e => up b o h1 h2 e
 refine k9 ?_; clear k9
 exact done H1.objs.size ys n rest h₃ tk' hP (F.keeps fun b o e => up b o (below b (Heap.lt_size e)).1 (below b (Heap.lt_size e)).2.1 (F'.keep _ _ e)) a1 a2 a3 a4 a5
end
end
section
def CompStartG (Z : List Value → List (Addr × Obj) → Prop) (g : Heap) (L : Addr) (m : Str → Option Value) (s₀ : Shared) (xv : Value) (s₁ : Shared) : Prop :=
 ∃ l vs news, Z vs news ∧ xv = .ref l ∧ ∃ h tk, s₁ = { s₀ with heap := h, toks := tk } ∧ Fr g L h m ∧ News g L h news ∧ h.IsList l vs.toArray ∧ vs.length ≤ 100000
section
variable {w : World} {A : Around} {E : Value → Shared → Prop} {env : Env}
theorem a_compG {elt iter : Expr} {x yv : Str} {px py spos : Pos} {scope : Scope} {pos : Pos} {g : Heap} {L : Addr} {m : Str → Option Value} {s s₀ : Shared} {Q : Flow → Shared → Prop} {h9 : Heap} (_F9 : Fr g L h9 m) (Z : List Value → List (Addr × Obj) → Prop) (P : List Value → Nat → List Value → List (Addr × Obj) → Prop)
  (hsw : swapsWith (.ListComp elt [⟨.Name x px, iter, [], 0⟩] scope pos) (some (.Name yv py)) spos.line env = pure true) (hy : env.kindOf yv = some .local) (hp : (env.scope.kind == .class || (env.scope.kind == .module && env.locals != env.globals)) = false) (hL : env.locals = L)
  (hh : A.handled = none) (hP0 : ∀ vs news, Z vs news → P vs 0 [] []) (hPl : ∀ vs i ys rest, P vs i ys rest → ys.length = i)
  (hfree : ∀ y ∈ scope.names, y.2 ≠ .free) (hcell : ∀ y ∈ scope.names, y.2 ≠ .cell) (hkind : scope.kind = .function)
  (hnames : ∀ y ∈ scope.names, y.2 = .local → scope.names.lookup y.1 = some .local) (hx : scope.names.lookup x = some .local)
  (start : wpAny (model prog w) A (eval iter env) (CompStartG Z g L m s₀) E s)
  (turn : ∀ (vs : List Value) (news : List (Addr × Obj)) (i : Nat) (v : Value) (C I : Addr) (oI : Obj) (D : Addr) (ys : List Value) (n : Nat) (rest : List (Addr × Obj)) (hB h : Heap) (tk : Nat) (m' : Str → Option Value) (E' : Value → Shared → Prop), Z vs news → vs[i]? = some v → P vs i ys rest → Fr hB C h (fun y => if y = x then some v else m' y) → News hB C h ((I, oI) :: (D, listOf ys.toArray n) :: rest) → @LT.lt Nat _ I D → @LT.lt Nat _ D C → (∀ b o, g.get? b = some o → hB.get? b = some o) → (∀ p ∈ news, hB.get? p.1 = some p.2) → (∀ p ∈ rest, p.1 ≠ I ∧ p.1 ≠ D) →
   wpAny (model prog w) A (eval elt (compEnv scope C env)) (EltEnd (P vs (i + 1)) hB C I oI D ys n s₀) E' { s₀ with heap := h, toks := tk })
  (done : ∀ (vs : List Value) (news : List (Addr × Obj)) (D : Addr) (ys : List Value) (n : Nat) (rest : List (Addr × Obj)) (h : Heap) (tk : Nat), Z vs news → P vs vs.length ys rest → Fr g L h (fun z => if z = yv then some (.ref D) else m z) → News g L h ((D, listOf ys.toArray n) :: (rest ++ news)) → (∀ p ∈ news, p.1 < D) → @LT.lt Nat _ L D → (∀ p ∈ rest, p.1 ≠ D) → (∀ p ∈ rest, ∀ q ∈ news, p.1 ≠ q.1) → Q .next { s₀ with heap := h, toks := tk })
  (hs : ∀ x, foldedSetIterable iter env x = pure x := by intro _; rfl) :
  wpAny (model prog w) A (exec (.Assign [.Name yv py] (.ListComp elt [⟨.Name x px, iter, [], 0⟩] scope pos) spos) env) Q E s := by
 subst hL
 rw [exec_Assign_Name_used _ _ _ _ hsw]
 refine wpAny_bind (wpAny_standAt (wpAny_bind ?_))
 show wpAny _ A (do let _ ← comprehension (.ListComp elt [⟨.Name x px, iter, [], 0⟩] scope pos) scope env _ (newList []) false (eval iter env) (some (assign (.Name yv py) env))) _ _ s
 refine wpAny_bind (wpAny_mono (wpAny_comprehension_use (Q := fun _ s' => Q .next s') rfl hs hfree hkind hnames (wpAny_mono start (fun xv s₁ h₁ => ?_) fun _ _ e => e)) (fun _ s' hq => wpAny_pure (wpAny_pure hq)) fun _ _ e => e)
 refine hideP fun B9 k9 => ?_
 obtain ⟨l, vs, news, hZ, rfl, hB, tk, rfl, F, N, hlI, hz⟩ := h₁
 obtain ⟨ol, hlB, hlc, hln, hld⟩ := hlI
 refine k9 ?_; clear k9
 have hl : hB.IsList l vs.toArray := ⟨ol, hlB, hlc, hln, hld⟩
 refine wpAny_pyIter_list hl (wpAny_newObj_type (hd := by size_fits) (wpAny_newFunctionEnv hcell (by intro y hy; simp at hy) (fun h₁ hns₁ hsb₁ => ?_) hkind))
 dsimp only at hns₁ hsb₁ ⊢
 generalize hH1 : hB.push { cls := .type "list_iterator", data := .fields #[.ref l, .int 0 0] } = H1 at hns₁ hsb₁ ⊢
 have hD : H1.objs.size = hB.objs.size + 1 := by rw [← hH1, Heap.size_push]
 generalize hH2 : H1.push { cls := .type "list", dict := none, data := .seq ([] : List Value).toArray } = H2 at hns₁ hsb₁ ⊢
 have hC : H2.objs.size = hB.objs.size + 2 := by rw [← hH2, Heap.size_push, hD]
 have hDI : H1.objs.size ≠ hB.objs.size := by rw [hD]; exact Nat.succ_ne_self _
 have hDC : H1.objs.size ≠ H2.objs.size := by rw [hD, hC]; exact Nat.ne_of_lt (Nat.lt_succ_self _)
 have hIC : hB.objs.size ≠ H2.objs.size := by rw [hC]; exact Nat.ne_of_lt (Nat.lt_succ_of_lt (Nat.lt_succ_self _))
 have below : ∀ b, b < hB.objs.size → b ≠ H2.objs.size ∧ b ≠ hB.objs.size ∧ b ≠ H1.objs.size := fun b hb =>
  ⟨by rw [hC]; exact Nat.ne_of_lt (Nat.lt_succ_of_lt (Nat.lt_succ_of_lt hb)), Nat.ne_of_lt hb, by rw [hD]; exact Nat.ne_of_lt (Nat.lt_succ_of_lt hb)⟩
 have old : ∀ b o, hB.get? b = some o → h₁.get? b = some o := fun b o e =>
  hsb₁.extBut b o (below b (Heap.lt_size e)).1 (Heap.get?_push_of_some _ (hH2 ▸ Heap.get?_push_of_some _ (hH1 ▸ Heap.get?_push_of_some _ e)))
 have hI1 : h₁.get? hB.objs.size = some (iterObj l 0) := hsb₁.extBut _ _ hIC (Heap.get?_push_of_some _ (hH2 ▸ Heap.get?_push_of_some _ (hH1 ▸ Heap.get?_push_size _ rfl)))
 have hD1 : h₁.get? H1.objs.size = some (listOf ([] : List Value).toArray 0) := hsb₁.extBut _ _ hDC (Heap.get?_push_of_some _ (hH2 ▸ Heap.get?_push_size _ rfl))
 refine comp_core (P := P vs) (I := hB.objs.size) (D := H1.objs.size) (C := H2.objs.size) hh (hP0 _ _ hZ) (hPl vs) hkind hx hl hz rfl hD hC hns₁ old hI1 hD1 (fun i v oI ys n rest h tk m' E' hv hP F' N' hr => turn vs news i v _ _ oI _ ys n rest hB h tk m' E' hZ hv hP F' N' (by rw [hD]; exact Nat.lt_succ_self _) (by rw [hC, hD]; exact Nat.lt_succ_self _) F.keep (fun p hp => (N p hp).1) hr) fun ys n rest h' h₂ m' tk' oI hP F' N' hr he₂ => ?_
 have ns2 := F'.ns.extBut he₂ (Ne.symm hIC)
 have LC : env.locals ≠ H2.objs.size := (below _ F.ns.lt).1
 have up2 : ∀ b o, hB.get? b = some o → h₂.get? b = some o := fun b o e => he₂ b o (below b (Heap.lt_size e)).2.1 (F'.keep _ _ e)
 have F2 : Fr g env.locals h₂ m := F.keeps up2
 refine wpAny_assign_Name (wpAny_storeName_local hy F2.ns (fun h₅ hn₅ hs₅ => ?_) hp)
 have F5 : Fr g env.locals h₅ (fun z => if z = yv then some (.ref H1.objs.size) else m z) := F2.set hn₅ hs₅
 refine ⟨m', ns2.sameBut hs₅ (Ne.symm LC), fun h₃ hs₃ => ?_⟩
 replace hs₃ : Heap.SameBut H2.objs.size h₅ h₃ := hs₃
 have up : ∀ b o, b ≠ env.locals → b ≠ H2.objs.size → b ≠ hB.objs.size → h'.get? b = some o → h₃.get? b = some o := fun b o h0 h1 h2 e => hs₃.extBut b o h1 (hs₅.extBut b o h0 (he₂ b o h2 e))
 have F6 : Fr g env.locals h₃ (fun z => if z = yv then some (.ref H1.objs.size) else m z) := fr_but (W := [H2.objs.size]) F5 (fun a ha => by
  rw [List.mem_singleton.mp ha]
  refine ⟨Ne.symm LC, ?_⟩
  cases z : g.get? H2.objs.size with
  | none => rfl
  | some o => exact absurd rfl (below _ (Heap.lt_size (F.keep _ _ z))).1) fun b o hb q => hs₃.extBut b o (by simpa using hb) q
 refine hideP fun B9 k9 => ?_
 obtain ⟨a1, a2, a3, a4, a5⟩ := comp_news F N rfl hD hC F' N' hr up
 refine k9 ?_; clear k9
 exact done vs news H1.objs.size ys n rest h₃ _ hZ hP F6 a1 a2 a3 a4 a5
end
end
section
section
variable {w : World} {A : Around} {E : Value → Shared → Prop} {env : Env}
theorem a_compS {elt iter : Expr} {x yv : Str} {px py spos : Pos} {scope : Scope} {pos : Pos} {vs : List Value} {l : Addr} {g : Heap} {L : Addr} {m : Str → Option Value} {news : List (Addr × Obj)} {s s₀ : Shared} {Q : Flow → Shared → Prop} {h9 : Heap} (_F9 : Fr g L h9 m) (_N9 : News g L h9 news) (P : Nat → List Value → List (Addr × Obj) → Prop)
  (hsw : swapsWith (.ListComp elt [⟨.Name x px, iter, [], 0⟩] scope pos) (some (.Name yv py)) spos.line env = pure true) (hy : env.kindOf yv = some .local) (hp : (env.scope.kind == .class || (env.scope.kind == .module && env.locals != env.globals)) = false) (hL : env.locals = L)
  (hh : A.handled = none) (hP0 : P 0 [] []) (hPl : ∀ i ys rest, P i ys rest → ys.length = i)
  (hfree : ∀ y ∈ scope.names, y.2 ≠ .free) (hcell : ∀ y ∈ scope.names, y.2 ≠ .cell) (hkind : scope.kind = .function)
  (hnames : ∀ y ∈ scope.names, y.2 = .local → scope.names.lookup y.1 = some .local) (hx : scope.names.lookup x = some .local)
  (hg : ∀ h, Fr g L h m → News g L h news → h.IsList l vs.toArray) (hz : vs.length ≤ 100000)
  (start : wpAny (model prog w) A (eval iter env) (CompStart g L l m news s₀) E s)
  (turn : ∀ (i : Nat) (v : Value) (C I : Addr) (oI : Obj) (D : Addr) (ys : List Value) (n : Nat) (rest : List (Addr × Obj)) (hB h : Heap) (tk : Nat) (m' : Str → Option Value) (E' : Value → Shared → Prop), vs[i]? = some v → P i ys rest → Fr hB C h (fun y => if y = x then some v else m' y) → News hB C h ((I, oI) :: (D, listOf ys.toArray n) :: rest) → @LT.lt Nat _ I D → @LT.lt Nat _ D C → (∀ b o, g.get? b = some o → hB.get? b = some o) → (∀ p ∈ news, hB.get? p.1 = some p.2) → (∀ p ∈ rest, p.1 ≠ I ∧ p.1 ≠ D) →
   wpAny (model prog w) A (eval elt (compEnv scope C env)) (EltEnd (P (i + 1)) hB C I oI D ys n s₀) E' { s₀ with heap := h, toks := tk })
  (done : ∀ (D : Addr) (ys : List Value) (n : Nat) (rest : List (Addr × Obj)) (h : Heap) (tk : Nat), P vs.length ys rest → Fr g L h (fun z => if z = yv then some (.ref D) else m z) → News g L h ((D, listOf ys.toArray n) :: (rest ++ news)) → (∀ p ∈ news, p.1 < D) → @LT.lt Nat _ L D → (∀ p ∈ rest, p.1 ≠ D) → (∀ p ∈ rest, ∀ q ∈ news, p.1 ≠ q.1) → Q .next { s₀ with heap := h, toks := tk })
  (hs : ∀ x, foldedSetIterable iter env x = pure x := by intro _; rfl) :
  wpAny (model prog w) A (exec (.Assign [.Name yv py] (.ListComp elt [⟨.Name x px, iter, [], 0⟩] scope pos) spos) env) Q E s := 
 a_compG _F9 (fun vs' news' => vs' = vs ∧ news' = news) (fun _ => P) hsw hy hp hL hh (fun _ _ _ => hP0) (fun _ => hPl) hfree hcell hkind hnames hx
  (wpAny_mono start (fun xv s₁ h₁ => by obtain ⟨rfl, h, tk, rfl, F, N⟩ := h₁; exact ⟨l, vs, news, ⟨rfl, rfl⟩, rfl, h, tk, rfl, F, N, hg h F N, hz⟩) fun _ _ e => e)
  (fun vs' news' i v C I oI D ys n rest hB h tk m' E' hZ => by obtain ⟨rfl, rfl⟩ := hZ; exact turn i v C I oI D ys n rest hB h tk m' E')
  (fun vs' news' D ys n rest h tk hZ => by obtain ⟨rfl, rfl⟩ := hZ; exact done D ys n rest h tk) hs
end
end
section
open PySem.Spec
namespace FBj
theorem slot : Slot "bytes" "join" "bytes.join" :=
 .of (owner := "bytes") (n := "join") (by rw [typeLookup_type, builtinLookup_eq_fast]; kernel_rfl) (by decide +kernel) (by decide +kernel) (by decide +kernel)
  (by first | exact .inl (by decide +kernel) | exact .inr (by decide +kernel)) (by rw [isSubtype_type]; kernel_rfl)
theorem entry : entryFor table "bytes.join" = some Builtin.«bytes.join» := by first | exact entryFor_of_fast (by kernel_rfl) | exact entryFor_of_tree (by kernel_rfl)
theorem args (a b : Value) : argsOk "bytes.join" ⟨[a, b], []⟩ := by unfold argsOk; kernel_rfl
end FBj
section
variable {p : Program} {w : World} {A : Around} {E : Value → Shared → Prop} {s : Shared}
theorem take_bytes {id : String} {c : Array UInt8} {t : Tok} {flags : Int} {Q : Option (Array UInt8 × Option Value) → Shared → Prop} (h : Q (some (c, none)) s) : wpAny (model p w) A (Builtin.Bytes.takeBufferQuiet? id (.bytes c t) flags) Q E s := by
 have hT := typeIs_bytes s c t
 unfold Builtin.Bytes.takeBufferQuiet?
 refine wpAny_bind (wpAny_attempt ?_)
 unfold Builtin.Bytes.takeBuffer? Builtin.Bytes.slotIsOwn
 refine wpAny_bind (wpAny_specialOf hT FBa.has_buffer ?_)
 refine wpAny_bind (wpAny_bind (wpAny_specialOf hT FBa.has_buffer ?_))
 refine bm_if_false (by decide +kernel) ?_
 refine wpAny_isInstance (T := "bytes") (b := true) hT (by rw [show ("bytes.__buffer__".dropRight ("__buffer__".length + 1)) = "bytes" by decide +kernel]; exact F.bm_sub) ?_
 refine bm_if_false rfl ?_
 refine wpAny_bind (wpAny_specialOf hT FBa.has_buffer ?_)
 dsimp only
 refine wpAny_bind (buffer_bytes ?_)
 refine wpAny_pure ?_
 exact wpAny_pure h
theorem forIn_inv {M : Model} {β : Type} {n : Nat} {f : Nat → β → Sem (ForInStep β)} (S : Nat → β) (hstep : ∀ i, i < n → wpAny M A (f i (S i)) (fun r s' => r = .yield (S (i + 1)) ∧ s' = s) E s) :
  ∀ k i, i + k = n → wpAny M A (forIn (List.range' i k) (S i) f) (fun r s' => r = S n ∧ s' = s) E s := by
 intro k
 induction k with
 | zero =>
  intro i e
  have : i = n := by omega
  subst this
  rw [List.range'_zero, List.forIn_nil]
  exact wpAny_pure ⟨rfl, rfl⟩
 | succ k ih =>
  intro i e
  rw [List.range'_succ, List.forIn_cons]
  refine wpAny_bind (wpAny_mono (hstep i (by omega)) (fun r s' z => ?_) fun _ _ z => z)
  obtain ⟨rfl, rfl⟩ := z
  exact ih (i + 1) (by omega)
def jcat : List (Array UInt8) → Array UInt8
 | [] => #[]
 | a :: r => a ++ jcat r
theorem joined_cat (ps : List (Array UInt8)) : Builtin.Bytes.joined #[] ps = jcat ps := by
 unfold Builtin.Bytes.joined
 have go : ∀ (l : List (Array UInt8)) (k : Nat) (acc : Array UInt8), (l.zipIdx k).foldl (fun out (p : Array UInt8 × Nat) => (if p.2 > 0 then out ++ #[] else out) ++ p.1) acc = acc ++ jcat l := by
  intro l
  induction l with
  | nil => intro k acc; show acc = acc ++ #[]; simp
  | cons a l ih =>
   intro k acc
   rw [List.zipIdx_cons, List.foldl_cons, ih]
   show (if k > 0 then acc ++ #[] else acc) ++ a ++ jcat l = acc ++ (a ++ jcat l)
   rw [Array.append_assoc]
   split <;> simp
 have := go ps 0 #[]
 simpa using this
theorem jcat_size : ∀ ps : List (Array UInt8 × Tok), (jcat (ps.map (·.1))).size = ps.foldl (fun n q => n + q.1.size) 0 := by
 have go : ∀ (l : List (Array UInt8 × Tok)) (k : Nat), l.foldl (fun n q => n + q.1.size) k = k + (jcat (l.map (·.1))).size := by
  intro l
  induction l with
  | nil => intro k; rfl
  | cons a l ih =>
   intro k
   rw [List.foldl_cons, ih]
   show k + a.1.size + _ = k + (a.1 ++ jcat (l.map (·.1))).size
   rw [Array.size_append, Nat.add_assoc]
 intro ps
 rw [go, Nat.zero_add]
theorem too_long_eq (ps : List (Array UInt8 × Tok)) (k : Nat) : Array.foldl (fun x1 (x2 : Array UInt8) => x1 + x2.size) k (ps.map (·.1)).toArray = ps.foldl (fun n q => n + q.1.size) k := by
 rw [← Array.foldl_toList]; simp [List.foldl_map]
theorem let_go {ts : List (Value × Option Value)} {keep : List Value} {Q : Unit → Shared → Prop} (hw : ∀ x ∈ ts, x.2 = none) (h : Q () s) : wpAny (model p w) A (Builtin.Bytes.joinLetGo ts keep) Q E s := by
 induction ts with
 | nil => exact wpAny_pure h
 | cons x r ih =>
  obtain ⟨x, u⟩ := x
  have : u = none := hw _ (.head _)
  subst this
  refine wpAny_bind (wpAny_letGo ?_)
  exact ih fun y hy => hw y (.tail _ hy)
theorem join_bytes {D : Addr} {sep : Tok} {ps : List (Array UInt8 × Tok)} {Q : Value → Shared → Prop} (hl : s.heap.IsList D (ps.map fun q => Value.bytes q.1 q.2).toArray) (hz : ps.foldl (fun n q => n + q.1.size) 0 ≤ 16777216) (h : ∀ t k, Q (.bytes (jcat (ps.map (·.1))) t) { s with toks := k }) :
  wpAny (model p w) A (call (.builtin "bytes.join") [.bytes #[] sep, .ref D]) Q E s := by
 refine wpAny_call_entry FBj.slot (typeIs_bytes s #[] sep) FBj.entry ?_ (FBj.args _ _)
 have hls := hl
 obtain ⟨o, ho, hc, hn, hd⟩ := hl
 have items : ∀ {P : Option (Array Value) → Shared → Prop} {A' : Around} {E' : Value → Shared → Prop}, P (some (ps.map fun q => Value.bytes q.1 q.2).toArray) s → wpAny (model p w) A' (seqItems? (.ref D)) P E' s := fun hp => by
  exact wpAny_seqItems ho hd hp
 unfold Builtin.«bytes.join» Builtin.Bytes.joinM
 refine wpAny_bind (wpAny_of_eq (a := (Value.bytes #[] sep, Value.ref D)) rfl ?_)
 dsimp only
 refine bm_if_true rfl ?_
 refine wpAny_bind ?_
 unfold Builtin.Bytes.joinItems
 refine wpAny_bind (wpAny_typeOf (T := "list") hls.typeIs ?_)
 refine bm_if_true rfl ?_
 refine wpAny_pure ?_
 refine wpAny_bind (items ?_)
 dsimp only
 refine bm_if_true rfl ?_
 have run : ∀ {P : Array (Array UInt8) × List (Value × Option Value) → Shared → Prop} {f : Nat → Array (Array UInt8) × List (Value × Option Value) → Sem (ForInStep (Array (Array UInt8) × List (Value × Option Value)))},
   (∀ i (hi : i < ps.length) {P' : ForInStep (Array (Array UInt8) × List (Value × Option Value)) → Shared → Prop}, P' (.yield (((ps.take (i + 1)).map (·.1)).toArray, (ps.take (i + 1)).map fun q => (Value.bytes q.1 q.2, none))) s → wpAny (model p w) A.in1 (f i (((ps.take i).map (·.1)).toArray, (ps.take i).map fun q => (Value.bytes q.1 q.2, none))) P' E s) →
   P ((ps.map (·.1)).toArray, ps.map fun q => (Value.bytes q.1 q.2, none)) s → wpAny (model p w) A.in1 (forIn [:(ps.map fun q => Value.bytes q.1 q.2).toArray.size] ((#[], []) : Array (Array UInt8) × List (Value × Option Value)) f) P E s := by
  intro P f hf hP
  rw [Std.Legacy.Range.forIn_eq_forIn_range']
  have e : (ps.map fun q => Value.bytes q.1 q.2).toArray.size = ps.length := by simp
  rw [e]
  have z := forIn_inv (E := E) (A := A.in1) (M := model p w) (s := s) (n := ps.length) (f := f) (fun i => (((ps.take i).map (·.1)).toArray, (ps.take i).map fun q => (Value.bytes q.1 q.2, (none : Option Value)))) (fun i hi => hf i hi ⟨rfl, rfl⟩) ps.length 0 (by omega)
  refine wpAny_mono (by simpa [Std.Legacy.Range.size] using z) (fun r s' q => ?_) fun _ _ q => q
  obtain ⟨rfl, rfl⟩ := q
  simpa using hP
 have body : ∀ (hne : ps.length ≠ 1), True := fun _ => trivial
 rcases ps with _ | ⟨q, _ | ⟨q₂, r⟩⟩
 ·refine wpAny_bind (run (fun i hi P' hP' => absurd hi (Nat.not_lt_zero _)) ?_)
  dsimp only
  refine wpAny_bind (wpAny_of_eq (a := (#[] : Array UInt8)) rfl ?_)
  refine bm_if_false ?_ ?_
  ·unfold Builtin.Bytes.tooLong
   rw [decide_eq_false_iff_not, sizeLine_eq, too_long_eq, show (#[] : Array UInt8).size = 0 from rfl, Nat.zero_mul]
   omega
  rw [joined_cat]
  refine wpAny_bind (m := mkBytes _) (wpAny_mkBytes (wpAny_bind (wpAny_holding (wpAny_point (wpAny_bind (let_go ?_ (wpAny_pure ⟨_, rfl, h _ _⟩)))))) ?_)
  ·intro x hx
   obtain ⟨q, _, rfl⟩ := List.mem_map.mp hx
   rfl
  ·rw [jcat_size, sizeLine_eq]; exact hz
 ·refine wpAny_bind (m := typeOf (Value.bytes q.1 q.2)) (wpAny_typeOf (typeIs_bytes _ _ _) ?_)
  refine bm_if_true rfl ?_
  refine wpAny_bind (wpAny_rule ?_)
  refine wpAny_pure ⟨_, rfl, ?_⟩
  have := h q.2 s.toks
  rw [show jcat (List.map (·.1) [q]) = q.1 from by show q.1 ++ #[] = q.1; simp] at this
  exact this
 ·refine wpAny_bind (run (fun i hi P' hP' => ?_) ?_)
  ·dsimp only
   refine wpAny_bind (items ?_)
   dsimp only
   generalize hps : q :: q₂ :: r = ps at *
   have hx : (List.map (fun q : Array UInt8 × Tok => Value.bytes q.1 q.2) ps).toArray.getD i Value.none = Value.bytes (ps[i]).1 (ps[i]).2 := by
    simp [Array.getD, hi]
   rw [hx]
   refine bm_if_false ?_ ?_
   ·rw [Bool.or_eq_false_iff]
    refine ⟨rfl, ?_⟩
    rw [List.any_map]
    exact List.any_eq_false.mpr fun x _ => Bool.false_ne_true
   refine wpAny_bind (wpAny_holding (take_bytes ?_))
   dsimp only
   refine wpAny_bind (items ?_)
   dsimp only
   refine bm_if_false (by simp) ?_
   refine wpAny_pure ?_
   have e1 : ps.take (i + 1) = ps.take i ++ [ps[i]] := by rw [List.take_succ, List.getElem?_eq_getElem hi]; rfl
   rw [e1, List.map_append, List.map_append] at hP'
   rw [List.push_toArray]
   exact hP'
  ·dsimp only
   refine wpAny_bind (wpAny_of_eq (a := (#[] : Array UInt8)) rfl ?_)
   refine bm_if_false ?_ ?_
   ·unfold Builtin.Bytes.tooLong
    rw [decide_eq_false_iff_not, sizeLine_eq, too_long_eq, show (#[] : Array UInt8).size = 0 from rfl, Nat.zero_mul]
    omega
   rw [joined_cat]
   refine wpAny_bind (m := mkBytes _) (wpAny_mkBytes (wpAny_bind (wpAny_holding (wpAny_point (wpAny_bind (let_go ?_ (wpAny_pure ⟨_, rfl, h _ _⟩)))))) ?_)
   ·intro x hx
    obtain ⟨q, _, rfl⟩ := List.mem_map.mp hx
    rfl
   ·rw [jcat_size, sizeLine_eq]; exact hz
end
end
section
def StopC (P : Prop) : Prop := P
theorem stopC {P : Prop} (h : StopC P) : P := h
theorem a_exec1 {M : Model} {A : Around} {E : Value → Shared → Prop} {s : Shared} {env : Env} {st : Stmt} {rest : List Stmt} {Q : Flow → Shared → Prop}
  (h : wpAny M A (exec st env) (fun f s' => match f with | .next => StopC (wpAny M A (execs rest env) Q E s') | f => Q f s') E s) : wpAny M A (execs (st :: rest) env) Q E s := by
 rw [execs_cons]
 refine wpAny_bind (wpAny_mono h (fun f s' h' => ?_) fun _ _ x => x)
 cases f <;> first | exact h' | exact wpAny_pure h'
theorem ldC {M : Model} {A : Around} {E : Value → Shared → Prop} {s : Shared} {g : Heap} {C : Addr} {m : Str → Option Value} {scope : Scope} {env : Env} {x : Str} {pos : Pos} {v : Value} {Q : Value → Shared → Prop} (F : Fr g C s.heap m) (hv : m x = some v) (h : Q v s)
  (hk : (compEnv scope C env).scope.kind = .function) (hl : (compEnv scope C env).kindOf x = some .local) (hd : (x == ("__debug__" : Str)) = false) : wpAny M A (eval (.Name x pos) (compEnv scope C env)) Q E s := wpAny_Name (wpAny_loadName_local hk hl F.ns hv h) hd
theorem hk36 : True := by
 k_with "eval ListComp" => (k_here; refine stopC ?_)
 k_with "eval Name" => (k_here; k_inBlock; (with_reducible rename Fr _ _ _ _ => kF9); (refine ldC kF9 (by with_unfolding_all rfl) ?_ (by with_unfolding_all rfl) (by with_unfolding_all rfl) (by decide)))
 trivial
theorem cat_jcat : ∀ l : List (Array UInt8), jcat l = cat l
 | [] => rfl
 | a :: l => by show a ++ jcat l = a ++ cat l; rw [cat_jcat l]
def bytesP {α : Type} (f : α → Array UInt8) (l : List α) (i : Nat) (ys : List Value) (rest : List (Addr × Obj)) : Prop := rest = [] ∧ ∃ ts : List Tok, ts.length = i ∧ ys = (((l.take i).map f).zip ts).map fun q : Array UInt8 × Tok => Value.bytes q.1 q.2
theorem bytesP_len {α : Type} {f : α → Array UInt8} {l : List α} {i : Nat} {ys : List Value} {rest : List (Addr × Obj)} (hi : i ≤ l.length) (h : bytesP f l i ys rest) : ys.length = i := by
 obtain ⟨_, ts, ht, rfl⟩ := h
 simp [ht, Nat.min_eq_left hi]
theorem bytesP_snoc {α : Type} {f : α → Array UInt8} {l : List α} {i : Nat} {ys : List Value} {rest : List (Addr × Obj)} {a : α} {t : Tok} (ha : l[i]? = some a) (h : bytesP f l i ys rest) : bytesP f l (i + 1) (ys ++ [.bytes (f a) t]) [] := by
 obtain ⟨_, ts, ht, rfl⟩ := h
 have hi : i < l.length := (List.getElem?_eq_some_iff.mp ha).1
 refine ⟨rfl, ts ++ [t], by simp [ht], ?_⟩
 rw [List.take_succ, ha]
 simp only [Option.toList_some, List.map_append, List.map_cons, List.map_nil]
 rw [List.zip_append (by simp [ht, Nat.min_eq_left (Nat.le_of_lt hi)])]
 simp
def laidB (ver : Nat) (ri : List SRow) (ro : List SOut) (lock : Nat) : Array UInt8 := le 4 ver ++ sized ri.length ++ cat (ri.map SRow.oct) ++ sized ro.length ++ cat (ro.map SOut.oct) ++ le 4 lock
def ldP (m₀ : Str → Option Value) (C : Array UInt8) (m : Str → Option Value) (news : List (Addr × Obj)) : Prop := news = [] ∧ ∃ v t, ∀ y, m y = if y = Str.ofString "octets" then some (.bytes C t) else if y = Str.ofString "row" then v else m₀ y
theorem hk37 : True := by
 k_with "call ref" => (k_here; (with_reducible show wpAny _ _ (PySem.call (Value.ref 1187) _ _) _ _ _); (show wpAny _ _ (PySem.call (Value.ref 1187) [Value.ref _] _) _ _ _); (refine use0b (law_point (by assumption) (by walk_at "kk_st") (Fr.keep (by k_asm) _ _ (by assumption)) (by assumption)) (by k_asm) (by k_asm) (by walk_at "kk_num") (by walk_at "kk_num") ?_); intro t'9 h'9 tk'9 F'9 N'9)
 k_with "call ref" => (k_here; (with_reducible show wpAny _ _ (PySem.call (Value.ref 1194) _ _) _ _ _); (show wpAny _ _ (PySem.call (Value.ref 1194) [Value.ref _] _) _ _ _); (refine use0b (law_out (by assumption) (by walk_at "kk_st") (Fr.keep (by k_asm) _ _ (by assumption)) (by assumption)) (by k_asm) (by k_asm) (by walk_at "kk_num") (by walk_at "kk_num") ?_); intro t'9 h'9 tk'9 F'9 N'9)
 trivial
theorem join_type : typeOf (.builtin "bytes.join") = pure (.type "method_descriptor") := by show builtinType _ = _; rw [builtinType_eq_fast]; kernel_rfl
theorem join_method {M : Model} {A : Around} {E : Value → Shared → Prop} {s : Shared} {b : Array UInt8} {t : Tok} {pl : Sem Bool} {Q : Value × List Value → Shared → Prop} (h : Q (.builtin "bytes.join", [.bytes b t]) s) : wpAny M A (getMethod (.bytes b t) (PySem.Str.ofString "join") pl) Q E s :=
 getMethod_builtin (typeIs_bytes s b t) FB.plainAttrs_bytes FBj.slot join_type (by intro a e; cases e) h
theorem hk38 : True := by
 k_with "getMethod bytes" => (k_here; (with_reducible refine join_method ?_))
 trivial
theorem isl_news {g h : Heap} {L l : Addr} {vs : List Value} {n : Nat} {news : List (Addr × Obj)} (N : News g L h news) (m : (l, listOf vs.toArray n) ∈ news) : h.IsList l vs.toArray := ⟨_, (N _ m).1, rfl, _, rfl⟩
theorem join_P {w : World} {A : Around} {E Q : Value → Shared → Prop} {s : Shared} {D : Addr} {sep : Tok} {α : Type} {f : α → Array UInt8} {l : List α} {ys : List Value} {rest : List (Addr × Obj)} {k : Nat} (hl : s.heap.IsList D ys.toArray) (hP : bytesP f l l.length ys rest) (hk : ∀ a ∈ l, (f a).size ≤ k) (hz : k * l.length ≤ 1000000) (h : ∀ t tk, Q (.bytes (cat (l.map f)) t) { s with toks := tk }) :
  wpAny (model prog w) A (PySem.call (.builtin "bytes.join") [.bytes #[] sep, .ref D]) Q E s := by
 obtain ⟨_, ts, ht, rfl⟩ := hP
 rw [List.take_length] at hl
 have e : ((l.map f).zip ts).map (·.1) = l.map f := by
  rw [List.map_fst_zip]; simp [ht]
 refine join_bytes hl ?_ ?_
 ·rw [← jcat_size, e, cat_jcat]
  have := cat_size (f := f) (k := k) (l := l) hk
  omega
 ·rw [e, cat_jcat]; exact h
theorem hk39 : True := by
 k_with "call builtin:bytes.join" => (k_here; (show wpAny _ _ (PySem.call (Value.builtin "bytes.join") [Value.bytes _ _, Value.ref _] _) _ _ _); (refine join_P (isl_news (by k_asm) (by k_mem)) (by assumption) (by assumption) (by omega) ?_); intro _ _)
 trivial
section
variable {w : World} {hb : Heap} {mean : ExcName → Option Value} {mg mb : Str → Option Value} {s : Shared}
theorem law_laid (G : Gd w hb mean mg mb) (st : St hb s.heap) {sa ia oa : Addr} {ver lock n ni no : Nat} {tv tl : Tok} {v1 v2 : Value} {ri : List SRow} {ro : List SOut} (hs : s.heap.get? sa = some (listOf #[.int (ver : Int) tv, v1, v2, .int (lock : Int) tl] n))
  (hi : s.heap.get? ia = some (listOf (ri.map fun r => Value.ref r.a).toArray ni)) (ho : s.heap.get? oa = some (listOf (ro.map fun r => Value.ref r.a).toArray no))
  (HI : ∀ r ∈ ri, s.heap.get? r.a = some r.obj ∧ r.Ok) (HO : ∀ r ∈ ro, s.heap.get? r.a = some r.obj ∧ r.Ok) (hv : ver < 4294967296) (hl : lock < 4294967296) (li : ri.length ≤ 3) (lo : ro.length ≤ 20) :
  Does w 20 (.ref 1199) [.ref sa, .ref ia, .ref oa] [] s [] (fun r _ => ∃ q, r = .bytes (laidB ver ri ro lock) q) := by
 walk_at "ir"
 refine' enter (binds := [(Str.ofString "state", .ref sa), (Str.ofString "ins", .ref ia), (Str.ofString "outs", .ref oa)]) G st [] ?hW ?ho ?hcd ?hroom ?hbind ?hloc ?h ?hcell ?hco ?hgen ?hk
 walk_at "kk_enter"
 case hW => intro p hp; cases hp
 walk_at "ig"
 clear l1
 have gs := sub _ _ hs (by simp)
 have gi := sub _ _ hi (by simp)
 have go := sub _ _ ho (by simp)
 have e1 : #[((ri.length : Nat) : Int).toNat.toUInt8] = sized ri.length := sized_lt (by omega)
 have e2 : #[((ro.length : Nat) : Int).toNat.toUInt8] = sized ro.length := sized_lt (by omega)
 have z1 := @sized_size ri.length
 have z2 := @sized_size ro.length
 refine a_exec1 ?_
 k_steps
 walk_at "r9"
 refine a_exec1 (st := Stmt.For ..) (a_forK (g := g) (L := L) (s₀ := s) (vs := ri.map fun r => Value.ref r.a) (l := ia) [] (fun i => ldP (fun y => [(Str.ofString "state", .ref sa), (Str.ofString "ins", .ref ia), (Str.ofString "outs", .ref oa)].reverse.lookup y) (le 4 ver ++ sized ri.length ++ cat ((ri.take i).map SRow.oct))) rfl (fun _ _ => rfl) ⟨_, gi, rfl, _, rfl⟩ ?start ?turn ?done ?hA)
 case hA => rintro _ m news ⟨rfl, _⟩; rfl
 case start =>
  k_steps
  (try dsimp +zetaDelta only at F9)
  rw [e1] at F9
  refine' ⟨rfl, _, _, _, [], rfl, ⟨rfl, none, _, ?hm0⟩, F9, fun p hp => nomatch hp⟩
  case hm0 =>
   simp only [List.take_zero, List.map_nil, cat, Array.append_empty]
   intro y
   (try dsimp +zetaDelta only)
   by_cases e1 : y = Str.ofString "octets"
   ·subst e1; rfl
   ·by_cases e2 : y = Str.ofString "row"
    ·subst e2; rfl
    ·(simp only [if_neg e1, if_neg e2]; try rfl)
 case turn =>
  intro j v m news it o h tk' hv' p9 F' N' l2 l3
  refine hideP fun B9 k9 => ?_
  obtain ⟨rfl, v0, t1, hm⟩ := p9
  refine k9 ?_; clear k9
  clear F9 N9
  (try clear F N)
  have F := fr_congr F' hm
  clear F' hm
  rw [List.getElem?_map] at hv'
  refine hideP fun B9 k9 => ?_
  obtain ⟨tj, hj, rfl⟩ := Option.map_eq_some_iff.mp hv'
  refine k9 ?_; clear k9
  obtain ⟨hg0, jok⟩ := HI tj (List.mem_of_getElem? hj)
  have hcz : (cat ((ri.take j).map SRow.oct)).size ≤ 298 * 3 := cat_size_take (fun a m => (HI a m).2.size) li
  rw [cat_take hj]
  generalize cat ((ri.take j).map SRow.oct) = CC at *
  clear hv'
  have gj := sub _ _ hg0 (by simp)
  have gj2 := gj
  unfold SRow.obj at gj2
  have y1 := jok.hq
  have y2 := @sized_size tj.scr.size
  have y3 := jok.hc
  have y4 : (pointB tj.txid tj.vout).size = 36 := by unfold pointB; simp [le_size, jok.hi]
  k_steps
  walk_at "r8"
  refine' ⟨_, _, _, [], rfl, ⟨rfl, some (.ref tj.a), _, ?hm1⟩, F8, N8⟩
  case hm1 =>
   rw [show le 4 ver ++ sized ri.length ++ (CC ++ tj.oct) = le 4 ver ++ sized ri.length ++ CC ++ pointB tj.txid tj.vout ++ (sized tj.scr.size ++ tj.scr) ++ le 4 tj.seq from by unfold SRow.oct inB pointB; simp only [Array.append_assoc]]
   intro y
   (try dsimp +zetaDelta only)
   by_cases e1 : y = Str.ofString "octets"
   ·subst e1; rfl
   ·by_cases e2 : y = Str.ofString "row"
    ·subst e2; rfl
    ·(simp only [if_neg e1, if_neg e2]; try rfl)
 case done =>
  intro m news h tk' p9 F' N'
  refine hideP fun B9 k9 => ?_
  obtain ⟨rfl, v0, t1, hm⟩ := p9
  refine k9 ?_; clear k9
  rw [List.take_of_length_le (by rw [List.length_map]; exact Nat.le_refl _)] at hm
  clear F9 N9
  (try clear F N)
  have F := fr_congr F' hm
  clear F' hm
  have hcz : (cat (ri.map SRow.oct)).size ≤ 298 * 3 := Nat.le_trans (cat_size (f := SRow.oct) (k := 298) (l := ri) fun a m => (HI a m).2.size) (by omega)
  have hcz2 : (cat (ro.map SOut.oct)).size ≤ 266 * 20 := Nat.le_trans (cat_size (f := SOut.oct) (k := 266) (l := ro) fun a m => (HO a m).2.size) (by omega)
  change wpAny _ _ (execs _ _) _ _ _
  refine a_exec1 ?_
  k_steps
  change wpAny _ _ (execs _ _) _ _ _
  k_steps
  walk_at "r9"
  (try dsimp +zetaDelta only at F9)
  rw [e2] at F9
  change wpAny _ _ (eval _ _) _ _ _
  refine a_comp F9 N9 (s₀ := s) (vs := ro.map fun r => Value.ref r.a) (l := oa) (fun i ys rest => i ≤ ro.length ∧ bytesP SOut.oct ro i ys rest) rfl ⟨Nat.zero_le _, rfl, [], rfl, rfl⟩ (fun i ys rest z => bytesP_len z.1 z.2) (by decide) (by decide) rfl (by decide) (by decide) (fun h F _ => ⟨_, F.keep _ _ go, rfl, _, rfl⟩) (by rw [List.length_map]; first | exact Nat.le_trans (by assumption) (by decide) | omega) ?cstart ?cturn ?cdone
  case cstart =>
   k_steps
   exact ⟨rfl, _, _, rfl, by k_asm, by k_asm⟩
  case cturn =>
   intro i v C I oI D ys n' rest hB h' tk'' m' E' hv' p9 F' N' l2 l3 kg kn hr
   refine hideP fun B9 k9 => ?_
   obtain ⟨hle, hP⟩ := p9
   refine k9 ?_; clear k9
   rw [List.getElem?_map] at hv'
   refine hideP fun B9 k9 => ?_
   obtain ⟨tj, hj, rfl⟩ := Option.map_eq_some_iff.mp hv'
   refine k9 ?_; clear k9
   obtain ⟨hg0, jok⟩ := HO tj (List.mem_of_getElem? hj)
   have hlt : i < ro.length := (List.getElem?_eq_some_iff.mp hj).1
   have hr0 : rest = [] := hP.1
   subst hr0
   clear F9 N9 kn hr
   (try clear N)
   have gj := kg _ _ (sub _ _ hg0 (by simp))
   have X2 := Frag.In.keeps X kg
   have T2 := T.keeps kg
   have stg2 : St hb hB := fun b o e => kg b o (stg b o e)
   k_steps
   walk_at "r8"
   exact ⟨_, _, _, [], rfl, F8, N8, (fun _ h => nomatch h), hlt, bytesP_snoc hj hP⟩
  case cdone =>
   intro D ys n' rest h' tk'' p9 F' N' l2 l3 l4 l5
   refine hideP fun B9 k9 => ?_
   obtain ⟨_, hP⟩ := p9
   refine k9 ?_; clear k9
   rw [List.length_map] at hP
   have hr0 : rest = [] := hP.1
   subst hr0
   rw [List.nil_append] at N'
   have hk8 : ∀ a ∈ ro, (SOut.oct a).size ≤ 266 := fun a m => (HO a m).2.size
   clear F9 N9
   k_steps
   exact leaves (by k_asm) fun _ => fun e => hQ _ _ _ e ⟨_, by rw [e2]; unfold laidB; rfl⟩
end
end
section
theorem eq_nil {w : World} {A : Around} {E Q : Value → Shared → Prop} {s : Shared} {l b : Addr} {vs : List Value} (hl : s.heap.IsList l vs.toArray) (hb : s.heap.IsList b ([] : List Value).toArray) (hu : A.units < cLine) (h : Q (.bool (decide (vs = []))) s) :
  wpAny (model prog w) A (compareOp .Eq (.ref l) (.ref b)) Q E s := by
 refine cmp_ofEq ?_
 cases vs with
 | nil => exact SeqAt.RcAt.lists (e := fun _ => true) hl hb rfl hu (fun j h1 => absurd h1 (Nat.not_lt_zero _)) prog w E Q h
 | cons v vs => exact SeqAt.RcAt.lists_lengths hl hb (by simp) hu prog w E Q h
theorem pick_one {vs : List Value} {i : Nat} : slicePick vs.toArray (some (i : Int)) (some ((i : Int) + 1)) none = ((vs.drop i).take 1).toArray := by
 unfold slicePick
 rw [sliceBounds_plain]
 dsimp only
 rw [sliceRange_one, pick_run]
 have e : clipAt vs.toArray.size ((i : Int) + 1) = min (i + 1) vs.toArray.size := clipAt_nat vs.toArray.size (i + 1)
 show (List.take (clipAt vs.toArray.size ((i : Int) + 1) - clipAt vs.toArray.size (i : Int)) (vs.toArray.toList.drop (clipAt vs.toArray.size (i : Int)))).toArray = _
 rw [e, clipAt_nat]
 by_cases h : i < vs.length
 ·rw [show min i vs.toArray.size = i by simp; omega, show min (i + 1) vs.toArray.size - i = 1 by simp; omega]
 ·rw [List.drop_eq_nil_of_le (by simp; omega), List.drop_eq_nil_of_le (as := vs) (i := i) (by omega)]
  simp
structure SSt where
 a : Addr
 n : Nat
 ia : Addr
 ni : Nat
 oa : Addr
 no : Nat
 tv : Tok
 tl : Tok
 ver : Nat
 lock : Nat
 ins : List SRow
 outs : List SOut
structure SSt.Here (S : SSt) (h : Heap) : Prop where
 hs : h.get? S.a = some (listOf #[.int (S.ver : Int) S.tv, .ref S.ia, .ref S.oa, .int (S.lock : Int) S.tl] S.n)
 hi : h.get? S.ia = some (listOf (S.ins.map fun r => Value.ref r.a).toArray S.ni)
 ho : h.get? S.oa = some (listOf (S.outs.map fun r => Value.ref r.a).toArray S.no)
 hI : ∀ r ∈ S.ins, h.get? r.a = some r.obj
 hO : ∀ r ∈ S.outs, h.get? r.a = some r.obj
structure SSt.Ok (S : SSt) : Prop where
 hv : S.ver < 4294967296
 hl : S.lock < 4294967296
 n1 : 1 ≤ S.ins.length
 n2 : S.ins.length ≤ 3
 n3 : S.outs.length ≤ 20
 hi : ∀ r ∈ S.ins, r.Ok
 ho : ∀ r ∈ S.outs, r.Ok
theorem SSt.Here.up {S : SSt} {h h' : Heap} (H : S.Here h) (k : ∀ b o, h.get? b = some o → h'.get? b = some o) : S.Here h' := ⟨k _ _ H.hs, k _ _ H.hi, k _ _ H.ho, fun r m => k _ _ (H.hI r m), fun r m => k _ _ (H.hO r m)⟩
def BoolP (g : Heap) (L : Addr) (m : Str → Option Value) (news : List (Addr × Obj)) (x : Bool) (s : Shared) (v : Bool) (s' : Shared) : Prop := ∃ h tk, v = x ∧ s' = { s with heap := h, toks := tk } ∧ Fr g L h m ∧ News g L h news
def outsOf (S : SSt) (i k : Nat) : List SOut := if k % 128 < 2 then S.outs else if k % 128 = 3 then (S.outs.drop i).take 1 else []
def nB (k : Nat) (x : Array UInt8) : Array UInt8 := if 127 < k then zero32 else x
def nwP (S : SSt) (k : Nat) : Array UInt8 := if 127 < k then zero32 else dig (dig (cat (S.ins.map fun r => pointB r.txid r.vout)))
def nwQ (S : SSt) (k : Nat) : Array UInt8 := if 127 < k ∨ 1 < k % 128 then zero32 else dig (dig (cat (S.ins.map fun r => le 4 (r.seq : Int))))
def nwO (S : SSt) (i k : Nat) : Array UInt8 := if 1 < k % 128 ∧ outsOf S i k = [] then zero32 else dig (dig (cat ((outsOf S i k).map SOut.oct)))
theorem nwP_size {S : SSt} {k : Nat} : (nwP S k).size = 32 := by unfold nwP; split; exact rfl; exact dig_size _
theorem nwQ_size {S : SSt} {k : Nat} : (nwQ S k).size = 32 := by unfold nwQ; split; exact rfl; exact dig_size _
theorem nwO_size {S : SSt} {i k : Nat} : (nwO S i k).size = 32 := by unfold nwO; split; exact rfl; exact dig_size _
def newB (S : SSt) (i k v : Nat) (row : SRow) (c : Array UInt8) : Array UInt8 :=
 dig (dig (cat [le 4 (S.ver : Int), nwP S k, nwQ S k, pointB row.txid row.vout ++ (sized c.size ++ c) ++ le 8 (v : Int) ++ le 4 (row.seq : Int), nwO S i k, le 4 (S.lock : Int) ++ le 4 (k : Int)]))
theorem outs_sub {S : SSt} {i k : Nat} {a : SOut} (m : a ∈ outsOf S i k) : a ∈ S.outs := by
 unfold outsOf at m
 split at m
 ·exact m
 ·split at m
  ·exact List.mem_of_mem_drop (List.mem_of_mem_take m)
  ·cases m
theorem outs_len {S : SSt} {i k : Nat} : (outsOf S i k).length ≤ S.outs.length := by
 unfold outsOf
 split
 ·exact Nat.le_refl _
 ·split
  ·exact Nat.le_trans (List.length_take_le' _ _) (by rw [List.length_drop]; exact Nat.sub_le _ _)
  ·exact Nat.zero_le _
theorem cat6 (a b c d e f : Array UInt8) : (cat [a, b, c, d, e, f]).size = a.size + (b.size + (c.size + (d.size + (e.size + f.size)))) := by
 show (a ++ (b ++ (c ++ (d ++ (e ++ (f ++ #[])))))).size = _
 simp only [Array.size_append, Array.append_empty]
theorem le_size4 (v : Nat) : (le 4 (v : Int)).size = 4 := le_size _ _
theorem le_size8 (v : Nat) : (le 8 (v : Int)).size = 8 := le_size _ _
theorem hk40 : True := by
 k_with "sum9" => with_reducible first | assumption | exact Nat.le_of_eq (by assumption) | exact Nat.le_refl 0 | exact Nat.add_le_add (by walk_at "sum9") (by walk_at "sum9")
 k_with "compareOp Eq ref ref" => (k_here; (with_reducible show wpAny _ _ (compareOp CmpOp.Eq (Value.ref _) (Value.ref _)) _ _ _); first | (refine eq_nil (isl_news (by k_asm) (by k_mem)) (isl_news (vs := []) (by k_asm) (by k_mem)) (by walk_at "kk_num") ?_))
 k_with "subscriptTail" => (k_here; (with_reducible show wpAny _ _ (subscriptTail _ (PySem.Expr.Slice (some _) (some _) none _) (Value.ref _) (Value.ref _)) _ _ _); (with_reducible rename Fr _ _ _ _ => F'9); (with_reducible rename News _ _ _ _ => N'9); (refine stopC ?_))
 k_with "eval IfExp" => (k_here; refine stopC ?_)
 trivial
theorem slice_any {w : World} {A : Around} {E : Value → Shared → Prop} {s : Shared} {g : Heap} {L : Addr} {m : Str → Option Value} {news : List (Addr × Obj)} {value slice : PySem.Expr} {l : Addr} {vs : List Value} {i : Nat} {t1 t2 : Tok} {Q : Value → Shared → Prop}
  (F : Fr g L s.heap m) (N : News g L s.heap news) (hl : s.heap.IsList l vs.toArray) (hz : vs.length ≤ 1000000)
  (h : ∀ D h', Fr g L h' m → News g L h' ((D, listOf ((vs.drop i).take 1).toArray 0) :: news) → (∀ p ∈ news, p.1 < D) → Q (.ref D) { s with heap := h' })
  (hs : subscripted slice false (.ref l) (.ref s.heap.objs.size) = operate [.ref s.heap.objs.size, .ref l] (getItem (.ref l) (.ref s.heap.objs.size)) := by with_unfolding_all rfl) :
  wpAny (model prog w) A (subscriptTail value slice (.ref l) (.ref s.heap.objs.size)) Q E { s with heap := s.heap.push { cls := .type "slice", data := .fields #[.int (i : Int) t1, .int ((i : Int) + 1) t2, .none] } } := by
 refine tail_any (Heap.IsList.typeIs (s := { s with heap := s.heap.push _ }) (hl.push _)) slot_list_getitem.lookup (wpAny_getItem_list_slice (hl.push _) (Heap.IsSliceOf.new ..) (.int _ _) (.int _ _) .none (by simp) ?_ (by rw [List.size_toArray, sizeLine_eq]; omega)) hs
 rw [pick_one]
 have F1 := F.push ({ cls := .type "slice", data := .fields #[.int (i : Int) t1, .int ((i : Int) + 1) t2, .none] } : Obj)
 have N1 : News g L _ news := News.pushKeep N ({ cls := .type "slice", data := .fields #[.int (i : Int) t1, .int ((i : Int) + 1) t2, .none] } : Obj)
 exact h _ _ (F1.push _) (N1.push F1 _) fun p hp => Heap.lt_size (N1 p hp).1
theorem a_ifexp {M : Model} {A : Around} {E : Value → Shared → Prop} {s : Shared} {env : Env} {test body orelse : PySem.Expr} {pos : Pos} {Q : Value → Shared → Prop}
  (h : wpAny M A (isTrue test env (eval test env)) (fun b s₁ => if b then wpAny M A (eval body env) Q E s₁ else wpAny M A (eval orelse env) Q E s₁) E s) : wpAny M A (eval (.IfExp test body orelse pos) env) Q E s := by
 rw [eval_IfExp]
 refine wpAny_bind (wpAny_mono h (fun b s₁ h₁ => ?_) fun _ _ z => z)
 cases b <;> exact h₁
theorem isl_rest {g h : Heap} {L oa : Addr} {m : Str → Option Value} {rest : List (Addr × Obj)} {vs : List Value} {p : Addr × Obj} (hOL : ∀ h m, Fr g L h m → News g L h rest → h.IsList oa vs.toArray) (F : Fr g L h m) (N : News g L h (p :: rest)) : h.IsList oa vs.toArray := hOL _ _ F (news_sub N fun _ m => .tail _ m)
theorem hk41 : True := by
 k_with "compareOp Eq ref ref" => (k_here; (with_reducible show wpAny _ _ (compareOp CmpOp.Eq (Value.ref _) (Value.ref _)) _ _ _); (refine eq_nil (isl_rest (by assumption) (by k_asm) (by k_asm)) (isl_news (vs := []) (by k_asm) (by k_mem)) (by walk_at "kk_num") ?_))
 k_with "call ref" => (k_here; (with_reducible show wpAny _ _ (PySem.call (Value.ref 1159) _ _) _ _ _); (show wpAny _ _ (PySem.call (Value.ref 1159) [Value.bytes _ _] _) _ _ _); (refine use0b (law_digest (by assumption) (by walk_at "kk_st") (by walk_at "kk_size")) (by k_asm) (by k_asm) (by walk_at "kk_num") (by walk_at "kk_num") ?_); intro t'9 h'9 tk'9 F'9 N'9)
 trivial
theorem a_mid {α : Type} {M : Model} {A : Around} {E : Value → Shared → Prop} {s : Shared} {t : Sem α} {Q : α → Shared → Prop} (P : α → Shared → Prop) (h : ∀ K : α → Shared → Prop, (∀ v s', P v s' → K v s') → wpAny M A t K (fun _ _ => False) s) (k : ∀ v s', P v s' → Q v s') : wpAny M A t Q E s := wpAny_mono (h P fun _ _ q => q) k fun _ _ z => z.elim
def BytP (g : Heap) (L : Addr) (m : Str → Option Value) (news : List (Addr × Obj)) (x : Array UInt8) (s : Shared) (v : Value) (s' : Shared) : Prop := ∃ t h tk, v = .bytes x t ∧ s' = { s with heap := h, toks := tk } ∧ Fr g L h m ∧ News g L h news
abbrev nwM (oa : Addr) (ra : Addr) (tn tb : Tok) (base : Int) (m₀ : Str → Option Value) : Str → Option Value := fun y => if y = Str.ofString "outs" then some (.ref oa) else if y = Str.ofString "row" then some (.ref ra) else if y = Str.ofString "none" then some (.bytes zero32 tn) else if y = Str.ofString "base" then some (.int base tb) else m₀ y
def NwCut (g : Heap) (L : Addr) (ra : Addr) (base : Int) (m₀ : Str → Option Value) (lo : List SOut) (s s' : Shared) : Prop :=
 ∃ h tk rest oa tn tb, s' = { s with heap := h, toks := tk } ∧ Fr g L h (nwM oa ra tn tb base m₀) ∧ News g L h rest ∧ (∀ h m, Fr g L h m → News g L h rest → h.IsList oa (lo.map fun r => Value.ref r.a).toArray)
theorem a_cut {M : Model} {A : Around} {E : Value → Shared → Prop} {env : Env} {Q : Flow → Shared → Prop} {a : Stmt} {r : List Stmt} {s : Shared} (P : Shared → Prop)
  (h : ∀ K : Shared → Prop, (∀ s', P s' → K s') → wpAny M A (exec a env) (fun f s' => f = .next ∧ K s') (fun _ _ => False) s) (k : ∀ s', P s' → wpAny M A (execs r env) Q E s') : wpAny M A (execs (a :: r) env) Q E s := by
 rw [execs_cons]
 refine wpAny_bind (wpAny_mono (h P fun _ q => q) (fun f s' z => ?_) fun _ _ z => z.elim)
 obtain ⟨rfl, z⟩ := z
 exact k s' z
section
variable {g h : Heap} {L : Addr} {m : Str → Option Value} {news : List (Addr × Obj)} {x x' : Array UInt8} {b b' : Bool} {s s' : Shared} {v : Value} {t : Tok} {tk : Nat}
theorem BytP.mk (hx : x = x') (F : Fr g L h m) (N : News g L h news) : BytP g L m news x s (.bytes x' t) ⟨h, s.gens, s.drawn, tk, s.os⟩ := by subst hx; exact ⟨_, _, _, rfl, rfl, F, N⟩
theorem BoolP.mk (hx : b' = b) (F : Fr g L h m) (N : News g L h news) : BoolP g L m news b s b' ⟨h, s.gens, s.drawn, tk, s.os⟩ := ⟨_, _, hx, rfl, F, N⟩
theorem NwCut.elim {ra : Addr} {base : Int} {m₀ : Str → Option Value} {lo : List SOut} {B : Shared → Prop} (H : NwCut g L ra base m₀ lo s s')
  (k : ∀ h tk rest oa tn tb, Fr g L h (nwM oa ra tn tb base m₀) → News g L h rest → (∀ h m, Fr g L h m → News g L h rest → h.IsList oa (lo.map fun r => Value.ref r.a).toArray) → B ⟨h, s.gens, s.drawn, tk, s.os⟩) : B s' := by
 obtain ⟨h, tk, rest, oa, tn, tb, rfl, F, N, l⟩ := H; exact k _ _ _ _ _ _ F N l
end
theorem fmod_kind (k : Nat) : ((k : Int).fmod 128) = ((k % 128 : Nat) : Int) := by rw [Int.fmod_eq_emod_of_nonneg _ (by decide)]; rfl
section
variable {w : World} {hb : Heap} {mean : ExcName → Option Value} {mg mb : Str → Option Value} {s : Shared}
theorem law_new (G : Gd w hb mean mg mb) (st : St hb s.heap) {S : SSt} (H : S.Here s.heap) (O : S.Ok) {i k v : Nat} {ti tc tv tk : Tok} {c : Array UInt8} {row : SRow} (hk : k ∈ kinds) (hr : S.ins[i]? = some row) (hv : v < 18446744073709551616) (hc : c.size ≤ 255) :
  Does w 30 (.ref 1211) [.ref S.a, .int (i : Int) ti, .bytes c tc, .int (v : Int) tv, .int (k : Int) tk] [] s [] (fun r _ => ∃ q, r = .bytes (newB S i k v row c) q) := by
 walk_at "ir"
 refine' enter (binds := [(Str.ofString "state", .ref S.a), (Str.ofString "place", .int (i : Int) ti), (Str.ofString "code", .bytes c tc), (Str.ofString "value", .int (v : Int) tv), (Str.ofString "kind", .int (k : Int) tk)]) G st [] ?hW ?ho ?hcd ?hroom ?hbind ?hloc ?h ?hcell ?hco ?hgen ?hk
 walk_at "kk_enter"
 case hW => intro p hp; cases hp
 walk_at "ig"
 clear l1
 have HG := H.up fun b o e => sub b o e (by simp)
 have gs := HG.hs
 have gi := HG.hi
 have go := HG.ho
 have hm := kind_cases hk
 have n2 := O.n2
 have n3 := O.n3
 have hver := O.hv
 have hlk := O.hl
 have hk2 := kind_lt hk
 refine a_exec1 ?_
 k_steps
 change wpAny _ _ (execs _ _) _ _ _
 refine a_exec1 ?_
 k_steps
 change wpAny _ _ (execs _ _) _ _ _
 refine a_exec1 ?_
 k_steps
 change wpAny _ _ (execs _ _) _ _ _
 refine a_cut (NwCut g L row.a (k % 128 : Nat) (fun y => [(Str.ofString "state", .ref S.a), (Str.ofString "place", .int (i : Int) ti), (Str.ofString "code", .bytes c tc), (Str.ofString "value", .int (v : Int) tv), (Str.ofString "kind", .int (k : Int) tk)].reverse.lookup y) (outsOf S i k) s) (fun K7 hK7 => ?_) ?_
 ·have hfm := fmod_kind k
  k_steps
  change wpAny _ _ (eval _ _) _ _ _
  refine a_ifexp ?_
  k_steps
  ·(rename Fr _ _ _ _ => F9)
   (try dsimp +zetaDelta only at F9)
   rw [hfm] at F9
   refine hK7 _ ⟨_, _, [], S.oa, _, _, rfl, F9, News.nil, fun h m F _ => ?_⟩
   rw [show outsOf S i k = S.outs from if_pos (by omega)]
   exact ⟨_, F.keep _ _ go, rfl, _, rfl⟩
  ·change wpAny _ _ (eval _ _) _ _ _
   refine a_ifexp ?_
   k_steps
   ·change wpAny _ _ _ _ _ _
    refine slice_any (s := ⟨_, _, _, _, _⟩) (by k_asm) (by k_asm) (isl_baseN (by k_asm) go) (by rw [List.length_map]; first | exact Nat.le_trans (by assumption) (by decide) | omega) ?_ (by with_unfolding_all rfl)
    intro D h' F' N' l2
    dsimp only
    k_steps
    walk_at "r9"
    (try dsimp +zetaDelta only at F9)
    rw [hfm] at F9
    refine hK7 _ ⟨_, _, _, D, _, _, rfl, F9, N9, fun h m F N => ?_⟩
    rw [show outsOf S i k = (S.outs.drop i).take 1 from by unfold outsOf; rw [if_neg (by omega), if_pos (by omega)], List.map_take, List.map_drop]
    exact isl_news N (.head _)
   ·trivial
   ·walk_at "r9"
    (try dsimp +zetaDelta only at F9)
    rw [hfm] at F9
    refine hK7 _ ⟨_, _, _, _, _, _, rfl, F9, N9, fun h m F N => ?_⟩
    rw [show outsOf S i k = [] from by unfold outsOf; rw [if_neg (by omega), if_neg (by omega)]]
    exact isl_news (vs := []) N (.head _)
 ·intro s' H9
  refine NwCut.elim H9 ?_
  clear H9
  intro h' tk' rest oa tn tb F' N' hOL
  change wpAny _ _ (execs _ _) _ _ _
  have hrl : row ∈ S.ins := List.mem_of_getElem? hr
  have rok := O.hi row hrl
  have grow := HG.hI row hrl
  have hoo : ∀ a ∈ outsOf S i k, g.get? a.a = some a.obj ∧ a.Ok := fun a m => ⟨HG.hO a (outs_sub m), O.ho a (outs_sub m)⟩
  have hol := @outs_len S i k
  refine a_exec1 ?_
  k_steps
  change wpAny _ _ (eval _ _) _ _ _
  walk_at "r9"
  have HK : ∀ a ∈ S.ins, ((fun r : SRow => pointB r.txid r.vout) a).size ≤ 36 := fun a m => by have := (O.hi a m).hi; unfold pointB; simp [le_size, this]
  walk_at "r9"
  refine a_mid (BytP g L (nwM oa row.a tn tb (k % 128 : Nat) (fun y => [(Str.ofString "state", .ref S.a), (Str.ofString "place", .int (i : Int) ti), (Str.ofString "code", .bytes c tc), (Str.ofString "value", .int (v : Int) tv), (Str.ofString "kind", .int (k : Int) tk)].reverse.lookup y)) rest (nwP S k) s) (fun K6 hK6 => ?_) ?_
  ·refine a_ifexp ?_
   k_steps
   ·skip
    walk_at "r8"
    exact hK6 _ _ (BytP.mk (by rw [show nwP S k = _ from if_pos (by omega)]) F8 (by first | exact N8 | exact news_drop 1 N8 | exact news_drop 2 N8 | exact news_drop 3 N8))
   ·k_steps
    change wpAny _ _ (eval _ _) _ _ _
    (rename Fr _ _ _ _ => F7)
    (rename News _ _ _ _ => N7)
    refine a_comp F7 N7 (s₀ := s) (vs := S.ins.map fun r => Value.ref r.a) (l := S.ia) (fun q ys rst => q ≤ S.ins.length ∧ bytesP (fun r : SRow => pointB r.txid r.vout) S.ins q ys rst) rfl ⟨Nat.zero_le _, rfl, [], rfl, rfl⟩ (fun q ys rst z => bytesP_len z.1 z.2) (by decide) (by decide) rfl (by decide) (by decide) (fun h F _ => ⟨_, F.keep _ _ gi, rfl, _, rfl⟩) (by rw [List.length_map]; first | exact Nat.le_trans (by assumption) (by decide) | omega) ?csa ?cta ?cda
    case csa =>
     k_steps
     exact ⟨rfl, _, _, rfl, by k_asm, by k_asm⟩
    case cta =>
     intro j v' C I oI D ys n' rst hB h' tk'' m' E' hv' p9 F' N' l2 l3 kg kn hr'
     refine hideP fun B9 k9 => ?_
     obtain ⟨hle, hP⟩ := p9
     refine k9 ?_; clear k9
     rw [List.getElem?_map] at hv'
     refine hideP fun B9 k9 => ?_
     obtain ⟨tj, hj, rfl⟩ := Option.map_eq_some_iff.mp hv'
     refine k9 ?_; clear k9
     have hjm := List.mem_of_getElem? hj
     have hlt : j < S.ins.length := (List.getElem?_eq_some_iff.mp hj).1
     have hr0 : rst = [] := hP.1
     subst hr0
     clear F7 N7 kn hr'
     obtain jok := O.hi tj hjm
     have gj := kg _ _ (HG.hI tj hjm)
     have gj2 := gj
     unfold SRow.obj at gj2
     have y1 := jok.hq
     have X2 := Frag.In.keeps X kg
     have T2 := T.keeps kg
     have stg2 : St hb hB := fun b o e => kg b o (stg b o e)
     k_steps
     walk_at "r8"
     exact ⟨_, _, _, [], rfl, F8, N8, (fun _ h => nomatch h), hlt, bytesP_snoc hj hP⟩
    case cda =>
     intro D ys n' rst h' tk'' p9 F' N' l2 l3 l4 l5
     refine hideP fun B9 k9 => ?_
     obtain ⟨_, hP⟩ := p9
     refine k9 ?_; clear k9
     rw [List.length_map] at hP
     have hr0 : rst = [] := hP.1
     subst hr0
     rw [List.nil_append] at N'
     have hk8 : ∀ a ∈ S.ins, (((fun r : SRow => pointB r.txid r.vout)) a).size ≤ 36 := HK
     have hz8 := cat_size (f := (fun r : SRow => pointB r.txid r.vout)) (k := 36) (l := S.ins) hk8
     clear F7 N7
     k_steps
     walk_at "r8"
     exact hK6 _ _ (BytP.mk (by rw [show nwP S k = _ from if_neg (by omega)]) F8 (by first | exact N8 | exact news_drop 1 N8 | exact news_drop 2 N8 | exact news_drop 3 N8))
  ·intro v' s' p9
   refine hideP fun B9 k9 => ?_
   obtain ⟨t', h', tk', rfl, rfl, F', N'⟩ := p9
   refine k9 ?_; clear k9
   clear F9 N9
   k_steps
   change wpAny _ _ (eval _ _) _ _ _
   walk_at "r9"
   refine a_mid (BytP g L (nwM oa row.a tn tb (k % 128 : Nat) (fun y => [(Str.ofString "state", .ref S.a), (Str.ofString "place", .int (i : Int) ti), (Str.ofString "code", .bytes c tc), (Str.ofString "value", .int (v : Int) tv), (Str.ofString "kind", .int (k : Int) tk)].reverse.lookup y)) rest (nwQ S k) s) (fun K6 hK6 => ?_) ?_
   ·refine a_ifexp ?_
    k_steps
    ·skip
     walk_at "r8"
     exact hK6 _ _ (BytP.mk (by rw [show nwQ S k = _ from if_pos (.inl (by omega))]) F8 (by first | exact N8 | exact news_drop 1 N8 | exact news_drop 2 N8 | exact news_drop 3 N8))
    ·skip
     walk_at "r8"
     exact hK6 _ _ (BytP.mk (by rw [show nwQ S k = _ from if_pos (.inr (by omega))]) F8 (by first | exact N8 | exact news_drop 1 N8 | exact news_drop 2 N8 | exact news_drop 3 N8))
    ·k_steps
     change wpAny _ _ (eval _ _) _ _ _
     (rename Fr _ _ _ _ => F7)
     (rename News _ _ _ _ => N7)
     refine a_comp F7 N7 (s₀ := s) (vs := S.ins.map fun r => Value.ref r.a) (l := S.ia) (fun q ys rst => q ≤ S.ins.length ∧ bytesP (fun r : SRow => le 4 (r.seq : Int)) S.ins q ys rst) rfl ⟨Nat.zero_le _, rfl, [], rfl, rfl⟩ (fun q ys rst z => bytesP_len z.1 z.2) (by decide) (by decide) rfl (by decide) (by decide) (fun h F _ => ⟨_, F.keep _ _ gi, rfl, _, rfl⟩) (by rw [List.length_map]; first | exact Nat.le_trans (by assumption) (by decide) | omega) ?csb ?ctb ?cdb
     case csb =>
      k_steps
      exact ⟨rfl, _, _, rfl, by k_asm, by k_asm⟩
     case ctb =>
      intro j v' C I oI D ys n' rst hB h' tk'' m' E' hv' p9 F' N' l2 l3 kg kn hr'
      refine hideP fun B9 k9 => ?_
      obtain ⟨hle, hP⟩ := p9
      refine k9 ?_; clear k9
      rw [List.getElem?_map] at hv'
      refine hideP fun B9 k9 => ?_
      obtain ⟨tj, hj, rfl⟩ := Option.map_eq_some_iff.mp hv'
      refine k9 ?_; clear k9
      have hjm := List.mem_of_getElem? hj
      have hlt : j < S.ins.length := (List.getElem?_eq_some_iff.mp hj).1
      have hr0 : rst = [] := hP.1
      subst hr0
      clear F7 N7 kn hr'
      obtain jok := O.hi tj hjm
      have gj := kg _ _ (HG.hI tj hjm)
      have gj2 := gj
      unfold SRow.obj at gj2
      have y1 := jok.hq
      have X2 := Frag.In.keeps X kg
      have T2 := T.keeps kg
      have stg2 : St hb hB := fun b o e => kg b o (stg b o e)
      k_steps
      walk_at "r8"
      exact ⟨_, _, _, [], rfl, F8, N8, (fun _ h => nomatch h), hlt, bytesP_snoc hj hP⟩
     case cdb =>
      intro D ys n' rst h' tk'' p9 F' N' l2 l3 l4 l5
      refine hideP fun B9 k9 => ?_
      obtain ⟨_, hP⟩ := p9
      refine k9 ?_; clear k9
      rw [List.length_map] at hP
      have hr0 : rst = [] := hP.1
      subst hr0
      rw [List.nil_append] at N'
      have hk8 : ∀ a ∈ S.ins, (((fun r : SRow => le 4 (r.seq : Int))) a).size ≤ 36 := fun a m => by rw [le_size]; decide
      have hz8 := cat_size (f := (fun r : SRow => le 4 (r.seq : Int))) (k := 36) (l := S.ins) hk8
      clear F7 N7
      k_steps
      walk_at "r8"
      exact hK6 _ _ (BytP.mk (by rw [show nwQ S k = _ from if_neg (by omega)]) F8 (by first | exact N8 | exact news_drop 1 N8 | exact news_drop 2 N8 | exact news_drop 3 N8))
   ·intro v' s' p9
    refine hideP fun B9 k9 => ?_
    obtain ⟨t', h', tk', rfl, rfl, F', N'⟩ := p9
    refine k9 ?_; clear k9
    clear F9 N9
    have w1 := rok.hv
    have w2 := rok.hq
    have w3 := @sized_size c.size
    have w4 : (pointB row.txid row.vout).size = 36 := by unfold pointB; simp [le_size, rok.hi]
    have grow2 := grow
    unfold SRow.obj at grow2
    k_steps
    change wpAny _ _ (eval _ _) _ _ _
    walk_at "r9"
    refine a_mid (BytP g L (nwM oa row.a tn tb (k % 128 : Nat) (fun y => [(Str.ofString "state", .ref S.a), (Str.ofString "place", .int (i : Int) ti), (Str.ofString "code", .bytes c tc), (Str.ofString "value", .int (v : Int) tv), (Str.ofString "kind", .int (k : Int) tk)].reverse.lookup y)) rest (nwO S i k) s) (fun K6 hK6 => ?_) ?_
    ·refine a_ifexp ?_
     refine a_mid (BoolP g L (nwM oa row.a tn tb (k % 128 : Nat) (fun y => [(Str.ofString "state", .ref S.a), (Str.ofString "place", .int (i : Int) ti), (Str.ofString "code", .bytes c tc), (Str.ofString "value", .int (v : Int) tv), (Str.ofString "kind", .int (k : Int) tk)].reverse.lookup y)) rest (decide (1 < k % 128 ∧ outsOf S i k = [])) s) (fun K6 hK6 => ?_) ?_
     ·k_steps
      ·walk_at "r8"
       exact hK6 _ _ (BoolP.mk (decide_eq_true ⟨by omega, List.map_eq_nil_iff.mp (by assumption)⟩).symm F8 (by first | exact N8 | exact news_drop 1 N8 | exact news_drop 2 N8 | exact news_drop 3 N8))
      ·walk_at "r8"
       exact hK6 _ _ (BoolP.mk (decide_eq_false fun z => absurd (List.map_eq_nil_iff.mpr z.2) (by assumption)).symm F8 (by first | exact N8 | exact news_drop 1 N8 | exact news_drop 2 N8 | exact news_drop 3 N8))
      ·walk_at "r8"
       exact hK6 _ _ (BoolP.mk (decide_eq_false fun z => by omega).symm F8 (by first | exact N8 | exact news_drop 1 N8 | exact news_drop 2 N8 | exact news_drop 3 N8))
     ·intro b s' p9
      refine hideP fun B9 k9 => ?_
      obtain ⟨h', tk', rfl, rfl, F', N'⟩ := p9
      refine k9 ?_; clear k9
      clear F9 N9
      by_cases hd : 1 < k % 128 ∧ outsOf S i k = []
      ·rw [decide_eq_true hd, if_pos rfl]
       k_steps
       walk_at "r8"
       exact hK6 _ _ (BytP.mk (by rw [show nwO S i k = _ from if_pos hd]) F8 (by first | exact N8 | exact news_drop 1 N8 | exact news_drop 2 N8 | exact news_drop 3 N8))
      ·rw [decide_eq_false hd, if_neg Bool.false_ne_true]
       k_steps
       change wpAny _ _ (eval _ _) _ _ _
       (rename Fr _ _ _ _ => F7)
       (rename News _ _ _ _ => N7)
       refine a_comp F7 N7 (s₀ := s) (vs := (outsOf S i k).map fun r => Value.ref r.a) (l := oa) (fun q ys rst => q ≤ (outsOf S i k).length ∧ bytesP SOut.oct (outsOf S i k) q ys rst) rfl ⟨Nat.zero_le _, rfl, [], rfl, rfl⟩ (fun q ys rst z => bytesP_len z.1 z.2) (by decide) (by decide) rfl (by decide) (by decide) (fun h F N => hOL _ _ F N) (by rw [List.length_map]; first | exact Nat.le_trans (by assumption) (by decide) | omega) ?csc ?ctc ?cdc
       case csc =>
        k_steps
        exact ⟨rfl, _, _, rfl, by k_asm, by k_asm⟩
       case ctc =>
        intro j v' C I oI D ys n' rst hB h' tk'' m' E' hv' p9 F' N' l2 l3 kg kn hr'
        refine hideP fun B9 k9 => ?_
        obtain ⟨hle, hP⟩ := p9
        refine k9 ?_; clear k9
        rw [List.getElem?_map] at hv'
        refine hideP fun B9 k9 => ?_
        obtain ⟨tj, hj, rfl⟩ := Option.map_eq_some_iff.mp hv'
        refine k9 ?_; clear k9
        have hjm := List.mem_of_getElem? hj
        have hlt : j < (outsOf S i k).length := (List.getElem?_eq_some_iff.mp hj).1
        have hr0 : rst = [] := hP.1
        subst hr0
        clear F7 N7 kn hr'
        obtain ⟨go1, jok⟩ := hoo tj hjm
        have gj := kg _ _ go1
        have gj2 := gj
        unfold SOut.obj at gj2
        have X2 := Frag.In.keeps X kg
        have T2 := T.keeps kg
        have stg2 : St hb hB := fun b o e => kg b o (stg b o e)
        k_steps
        walk_at "r8"
        exact ⟨_, _, _, [], rfl, F8, N8, (fun _ h => nomatch h), hlt, bytesP_snoc hj hP⟩
       case cdc =>
        intro D ys n' rst h' tk'' p9 F' N' l2 l3 l4 l5
        refine hideP fun B9 k9 => ?_
        obtain ⟨_, hP⟩ := p9
        refine k9 ?_; clear k9
        rw [List.length_map] at hP
        have hr0 : rst = [] := hP.1
        subst hr0
        rw [List.nil_append] at N'
        have hk8 : ∀ a ∈ (outsOf S i k), ((SOut.oct) a).size ≤ 266 := fun a m => (hoo a m).2.size
        have hz8 := cat_size (f := SOut.oct) (k := 266) (l := (outsOf S i k)) hk8
        clear F7 N7
        k_steps
        walk_at "r8"
        exact hK6 _ _ (BytP.mk (by rw [show nwO S i k = _ from if_neg hd]) F8 (by first | exact N8 | exact news_drop 1 N8 | exact news_drop 2 N8 | exact news_drop 3 N8))
    ·intro v' s' p9
     refine hideP fun B9 k9 => ?_
     obtain ⟨t', h', tk', rfl, rfl, F', N'⟩ := p9
     refine k9 ?_; clear k9
     clear F9 N9
     have z1 := @nwP_size S k
     have z2 := @nwQ_size S k
     have z3 := @nwO_size S i k
     have z4 := le_size4 S.ver
     have z5 := le_size4 S.lock
     have z6 := le_size4 k
     have z7 := le_size4 row.seq
     have z8 := le_size8 v
     k_steps
     change wpAny _ _ (execs _ _) _ _ _
     refine a_exec1 ?_
     k_steps
     refine join_bytes (ps := [(le 4 (S.ver : Int), _), (nwP S k, _), (nwQ S k, _), (pointB row.txid row.vout ++ (sized c.size ++ c) ++ le 8 (v : Int) ++ le 4 (row.seq : Int), _), (nwO S i k, _), (le 4 (S.lock : Int) ++ le 4 (k : Int), _)]) (isl_news (by k_asm) (.head _)) ?_ ?_
     ·simp only [List.foldl, Array.size_append]
      exact Nat.le_trans (by walk_at "sum9") (by decide)
     intro _ _
     rw [cat_jcat]
     dsimp only [List.map]
     have zc : (cat [le 4 (S.ver : Int), nwP S k, nwQ S k, pointB row.txid row.vout ++ (sized c.size ++ c) ++ le 8 (v : Int) ++ le 4 (row.seq : Int), nwO S i k, le 4 (S.lock : Int) ++ le 4 (k : Int)]).size ≤ 1000 := by
      rw [cat6]
      simp only [Array.size_append]
      exact Nat.le_trans (by walk_at "sum9") (by decide)
     k_steps
     exact leaves (by k_asm) fun _ => fun e => hQ _ _ _ e ⟨_, by unfold newB; rfl⟩
end
end
section
def LoopEnd3 (P : (Str → Option Value) → List (Addr × Obj) → Prop) (g : Heap) (L e : Addr) (oe : Obj) (it : Addr) (oi : Obj) (s₀ s₃ : Shared) : Prop :=
 ∃ h tk m news, s₃ = { s₀ with heap := h, toks := tk } ∧ P m news ∧ Fr g L h m ∧ News g L h ((e, oe) :: (it, oi) :: news) ∧ ∀ q ∈ news, q.1 ≠ e ∧ q.1 ≠ it
section
variable {w : World} {A : Around} {E : Value → Shared → Prop} {env : Env}
theorem a_loopA {name : Str} {scope : Scope} {L ad : Addr} {cd : Value} {xi xv : Str} {pi pv pt : Pos} {x1 : Nat} {body : List Stmt} {vs : List Value} {l e it : Addr} {g : Heap} {s₀ : Shared} {Q : Flow → Shared → Prop} (P : Nat → (Str → Option Value) → List (Addr × Obj) → Prop) (hh : A.handled = none)
  (hk : scope.kind = .function) (hxi : (envOf name scope L ad cd).kindOf xi = some .local) (hxv : (envOf name scope L ad cd).kindOf xv = some .local)
  (hg : g.IsList l vs.toArray) (hei : e ≠ it) (hle : g.get? e = none) (hli : g.get? it = none) (hie : @LT.lt Nat _ it e) (hLi : @LT.lt Nat _ L it)
  (turn : ∀ i v m news oe oi h tk ti, vs[i]? = some v → P i m news → Fr g L h (fun y => if y = xv then some v else if y = xi then some (.int (i : Int) ti) else m y) → News g L h ((e, oe) :: (it, oi) :: news) → (∀ q ∈ news, q.1 ≠ e ∧ q.1 ≠ it) →
   wpAny (model prog w) A (execs body (envOf name scope L ad cd)) (fun f s₃ => match f with | .next | .cont => LoopEnd3 (P (i + 1)) g L e oe it oi s₀ s₃ | .brk => Q .next s₃ | .ret v => Q (.ret v) s₃) (fun _ _ => False) { s₀ with heap := h, toks := tk })
  (done : ∀ m news h tk, P vs.length m news → Fr g L h m → News g L h news → Q .next { s₀ with heap := h, toks := tk }) :
  ∀ (k i : Nat) (h : Heap) (tk : Nat) (m : Str → Option Value) (news : List (Addr × Obj)) (old : Value) (oi : Obj), vs.length - i = k → i ≤ vs.length → P i m news → Fr g L h m → News g L h ((e, enumO it (i : Int) old) :: (it, oi) :: news) → oi.cls = .type "list_iterator" → oi.data = .fields #[.ref l, .int (i : Int) 0] → (∀ q ∈ news, q.1 ≠ e ∧ q.1 ≠ it) →
   codeAny (model prog w) A (.forLoop (.Tuple [.Name xi pi, .Name xv pv] x1 pt) (.ref e) body [] (envOf name scope L ad cd)) (fun r s' => match r with | .ok f => Q f s' | .error _ => False) { s₀ with heap := h, toks := tk } := by
 intro k
 induction k with
 | zero =>
  intro i h tk m news old oi hkk hi hP F N hc hd hr
  have e1 : i = vs.length := Nat.le_antisymm hi (Nat.le_of_sub_eq_zero hkk)
  subst e1
  have hit : h.IsListIter it l vs.length := ⟨oi, (N _ (.tail _ (.head _))).1, hc, hd⟩
  have hl : h.IsList l vs.toArray := by obtain ⟨ol, hol, a, b, c⟩ := hg; exact ⟨ol, F.keep _ _ hol, a, b, c⟩
  refine codeAny_of_tree ?_
  rw [Around.under_of_weight (by rfl) (by rfl)]
  show wpAny _ _ ((forTurn (.Tuple [.Name xi pi, .Name xv pv] x1 pt) (.ref e) body [] (envOf name scope L ad cd)).onRaise _) _ _ _
  refine wpAny_onRaise (wpAny_mono (E := fun _ _ => False) ?_ (fun _ _ z => z) fun _ _ z => z.elim)
  unfold forTurn
  refine wpAny_bind (wpAny_standAt (wpAny_bind (wpAny_onRaise ((wpAny_pyNext_enum_end hh (N _ (.head _)).1 hit hl (by simp) fun h' he => ?_)))))
  refine wpAny_pure ⟨rfl, codeAny_of_tree ?_⟩
  rw [Around.under_of_weight (by rfl) (by rfl)]
  show wpAny _ _ (Bind.bind (Sem.onRaise (execs [] (envOf name scope L ad cd)) _) (fun f => pure (Fin.done f))) _ _ _
  refine wpAny_bind (wpAny_onRaise (wpAny_execs_nil (wpAny_pure ?_)))
  have ne : ∀ q ∈ news, q.1 ≠ it := fun q hq => (hr q hq).2
  refine done m news h' tk hP (fr_but (W := [it]) F (fun a ha => ?_) fun b o hb q => he b o (by simpa using hb) q) fun q hq => ⟨he _ _ (ne q hq) (N q (.tail _ (.tail _ hq))).1, (N q (.tail _ (.tail _ hq))).2⟩
  rw [List.mem_singleton.mp ha]; exact (N _ (.tail _ (.head _))).2
 | succ k ih =>
  intro i h tk m news old oi hkk hi hP F N hc hd hr
  have hlt : i < vs.length := Nat.lt_of_sub_eq_succ hkk
  obtain ⟨v, hv⟩ : ∃ v, vs[i]? = some v := ⟨vs[i], List.getElem?_eq_getElem hlt⟩
  have hit : h.IsListIter it l i := ⟨oi, (N _ (.tail _ (.head _))).1, hc, hd⟩
  have hl : h.IsList l vs.toArray := by obtain ⟨ol, hol, a, b, c⟩ := hg; exact ⟨ol, F.keep _ _ hol, a, b, c⟩
  have he0 : h.get? e = some (enumO it (i : Int) old) := (N _ (.head _)).1
  have heH : e < h.objs.size := Heap.lt_size he0
  have hiH : it < h.objs.size := Heap.lt_size (N _ (.tail _ (.head _))).1
  have ne : ∀ q ∈ news, q.1 ≠ it := fun q hq => (hr q hq).2
  have nee : ∀ q ∈ news, q.1 ≠ e := fun q hq => (hr q hq).1
  refine codeAny_of_tree ?_
  rw [Around.under_of_weight (by rfl) (by rfl)]
  show wpAny _ _ ((forTurn (.Tuple [.Name xi pi, .Name xv pv] x1 pt) (.ref e) body [] (envOf name scope L ad cd)).onRaise _) _ _ _
  refine wpAny_onRaise (wpAny_mono (E := fun _ _ => False) ?_ (fun _ _ z => z) fun _ _ z => z.elim)
  unfold forTurn
  refine wpAny_bind (wpAny_standAt (wpAny_bind (wpAny_onRaise ((wpAny_pyNext_enum_item he0 hit hl (by simpa using hv) hei fun h₁ heo hit₁ ht₁ hz₁ hk₁ => ?_)))))
  refine wpAny_bind ((wpAny_letOwnedTupleGo_enum heo fun h₂ he₂ hs₂ => ?_))
  replace hs₂ : Heap.SameBut e h₁ h₂ := hs₂
  have hz₂ : h₂.objs.size = h.objs.size + 1 := hs₂.1.trans hz₁
  have ht₂ : h₂.IsTuple h.objs.size #[.int (i : Int) tk, v] := ⟨_, (hs₂.2 _ (Nat.ne_of_gt heH)).trans ht₁, rfl, _, rfl⟩
  refine wpAny_bind ((wpAny_assign_Tuple hh ht₂ rfl rfl fun h₃ hx₃ => ?_))
  replace hx₃ : Heap.ExtBut h₂.objs.size h₂ h₃ := hx₃
  have up : ∀ b o, b < h.objs.size → h₂.get? b = some o → h₃.get? b = some o := fun b o hb x => hx₃ b o (by rw [hz₂]; exact Nat.ne_of_lt (Nat.lt_succ_of_lt hb)) x
  have ext : Ext [e, it] h h₃ := fun b o hb q => by
   have hbe : b ≠ e := fun z => hb (by simp [z])
   have hbi : b ≠ it := fun z => hb (by simp [z])
   exact up b o (Heap.lt_size q) (hs₂.extBut _ _ hbe (hk₁ b o hbe hbi q))
  have F₃ : Fr g L h₃ m := fr_but F (fun a ha => by
   rcases List.mem_cons.mp ha with rfl | ha
   ·exact (N _ (.head _)).2
   ·rw [List.mem_singleton.mp ha]; exact (N _ (.tail _ (.head _))).2) ext
  refine hideP fun B9 k9 => ?_
  obtain ⟨oi', ho', hc', hd'⟩ := hit₁
  refine k9 ?_; clear k9
  have N₃ : News g L h₃ ((e, enumO it ((i : Int) + 1) v) :: (it, oi') :: news) := by
   intro q hq
   rcases List.mem_cons.mp hq with rfl | hq
   ·exact ⟨up _ _ heH he₂, (N (e, enumO it (i : Int) old) (.head _)).2⟩
   rcases List.mem_cons.mp hq with rfl | hq
   ·exact ⟨up _ _ hiH (hs₂.extBut _ _ (Ne.symm hei) ho'), (N (it, oi) (.tail _ (.head _))).2⟩
   ·have := N q (.tail _ (.tail _ hq))
    exact ⟨ext _ _ (by simp [ne q hq, nee q hq]) this.1, this.2⟩
  show wpAny _ A (do holding [v] (assign (.Name xi pi) (envOf name scope L ad cd) (.int (i : Int) tk)); do holding [] (assign (.Name xv pv) (envOf name scope L ad cd) v); pure ()) _ _ _
  refine wpAny_bind (wpAny_holding (wpAny_assign_Name (stN F₃ N₃ (fun h₄ F₄ N₄ => ?_) hk hxi)))
  refine wpAny_bind (wpAny_holding (wpAny_assign_Name (stN F₄ N₄ (fun h₅ F₅ N₅ => wpAny_pure ?_) hk hxv)))
  refine wpAny_bind (wpAny_mono (turn i v m news _ _ h₅ _ tk hv hP F₅ N₅ hr) (fun f s₃ h₃ => ?_) fun _ _ z => z)
  have fin : LoopEnd3 (P (i + 1)) g L e (enumO it ((i : Int) + 1) v) it oi' s₀ s₃ → codeAny (model prog w) A (.forLoop (.Tuple [.Name xi pi, .Name xv pv] x1 pt) (.ref e) body [] (envOf name scope L ad cd)) (fun r s' => match r with | .ok f => Q f s' | .error _ => False) s₃ := by
   rintro ⟨h', tk', m', news', rfl, hP', F', N', hr'⟩
   exact ih (i + 1) h' tk' m' news' v oi' (by rw [Nat.sub_add_eq, hkk]; rfl) hlt hP' F' (by rw [show ((i + 1 : Nat) : Int) = (i : Int) + 1 from rfl]; exact N') hc' hd' hr'
  cases f with
  | next => exact wpAny_pure ⟨rfl, fin h₃⟩
  | cont => exact wpAny_pure ⟨rfl, fin h₃⟩
  | brk => exact wpAny_pure h₃
  | ret v => exact wpAny_pure h₃
theorem a_forA {name : Str} {scope : Scope} {L ad : Addr} {cd : Value} {xi xv : Str} {pi pv pt pos : Pos} {x1 : Nat} {iter : Expr} {body : List Stmt} {vs : List Value} {l : Addr} {g : Heap} {s s₀ : Shared} {Q : Flow → Shared → Prop} (P : Nat → (Str → Option Value) → List (Addr × Obj) → Prop) (hh : A.handled = none)
  (hk : scope.kind = .function) (hxi : (envOf name scope L ad cd).kindOf xi = some .local) (hxv : (envOf name scope L ad cd).kindOf xv = some .local)
  (hg : g.IsList l vs.toArray)
  (start : wpAny (model prog w) A (eval iter (envOf name scope L ad cd)) (EnumStart (P 0) g L l s₀) E s)
  (turn : ∀ i v m news e it oe oi h tk ti, vs[i]? = some v → P i m news → Fr g L h (fun y => if y = xv then some v else if y = xi then some (.int (i : Int) ti) else m y) → News g L h ((e, oe) :: (it, oi) :: news) → (∀ q ∈ news, q.1 ≠ e ∧ q.1 ≠ it) → @LT.lt Nat _ it e → @LT.lt Nat _ L it →
   wpAny (model prog w) A (execs body (envOf name scope L ad cd)) (fun f s₃ => match f with | .next | .cont => LoopEnd3 (P (i + 1)) g L e oe it oi s₀ s₃ | .brk => Q .next s₃ | .ret v => Q (.ret v) s₃) (fun _ _ => False) { s₀ with heap := h, toks := tk })
  (done : ∀ m news h tk, P vs.length m news → Fr g L h m → News g L h news → Q .next { s₀ with heap := h, toks := tk })
  (hs : ∀ x, foldedSetIterable iter (envOf name scope L ad cd) x = pure x := by intro _; rfl) :
  wpAny (model prog w) A (exec (.For (.Tuple [.Name xi pi, .Name xv pv] x1 pt) iter body [] pos) (envOf name scope L ad cd)) Q E s := by
 rw [exec_For]
 refine wpAny_bind (wpAny_standAt (wpAny_bind ((wpAny_mono start (fun x s₁ h₁ => ?_) fun _ _ z => z))))
 refine hideP fun B9 k9 => ?_
 obtain ⟨e, it, o, h, tk, m, news, rfl, rfl, hP, F, N, hc, hd, hei, hl1, hl2, hl3⟩ := h₁
 refine k9 ?_; clear k9
 have hr : ∀ q ∈ news, q.1 ≠ e ∧ q.1 ≠ it := fun q hq => ⟨Nat.ne_of_lt (Nat.lt_trans (hl1 q hq) hl2), Nat.ne_of_lt (hl1 q hq)⟩
 refine wpAny_bind ((wpAny_of_eq (hs _) ?_))
 refine wpAny_bind (wpAny_standAt (wpAny_bind (wpAny_holding ((wpAny_pyIter_enum (N _ (.head _)).1 ?_)))))
 unfold runOwn
 refine wpAny_onRaise (wpAny_run (codeAny_mono (a_loopA (vs := vs) (l := l) (Q := Q) P hh hk hxi hxv hg hei (N _ (.head _)).2.2 (N _ (.tail _ (.head _))).2.2 hl2 hl3 (fun i v m news oe oi h tk ti a b c d hr => turn i v m news e it oe oi h tk ti a b c d hr hl2 hl3) done vs.length 0 h tk m news .none o rfl (Nat.zero_le _) hP F N hc hd hr) fun r s' z => ?_))
 cases r with
 | ok f => exact z
 | error e => exact z.elim
end
end
section
def oldRow (i k : Nat) (c : Array UInt8) (j : Nat) (r : SRow) : List (Array UInt8) := if j = i then [inB r.txid r.vout c r.seq] else if k < 128 then [inB r.txid r.vout #[] (if k % 128 < 2 then r.seq else 0)] else []
def olds (i k : Nat) (c : Array UInt8) : Nat → List SRow → List (Array UInt8)
 | _, [] => []
 | n, r :: l => oldRow i k c n r ++ olds i k c (n + 1) l
theorem olds_snoc (i k : Nat) (c : Array UInt8) (r : SRow) : ∀ (l : List SRow) (n : Nat), olds i k c n (l ++ [r]) = olds i k c n l ++ oldRow i k c (n + l.length) r
 | [], n => by show oldRow i k c n r ++ [] = [] ++ oldRow i k c (n + 0) r; simp
 | a :: l, n => by
  show oldRow i k c n a ++ olds i k c (n + 1) (l ++ [r]) = (oldRow i k c n a ++ olds i k c (n + 1) l) ++ oldRow i k c (n + (l.length + 1)) r
  rw [olds_snoc i k c r l (n + 1), List.append_assoc, show n + 1 + l.length = n + (l.length + 1) by omega]
theorem olds_take {i k : Nat} {c : Array UInt8} {l : List SRow} {j : Nat} {r : SRow} (h : l[j]? = some r) : olds i k c 0 (l.take (j + 1)) = olds i k c 0 (l.take j) ++ oldRow i k c j r := by
 have hj : j < l.length := (List.getElem?_eq_some_iff.mp h).1
 rw [List.take_succ, h]
 show olds i k c 0 (l.take j ++ [r]) = _
 rw [olds_snoc, List.length_take, Nat.min_eq_left (Nat.le_of_lt hj), Nat.zero_add]
def oldOuts (S : SSt) (k : Nat) : List SOut := if k % 128 = 2 then [] else if k % 128 = 3 then S.outs.take 1 else S.outs
def oldB (S : SSt) (i k : Nat) (c : Array UInt8) : Array UInt8 :=
 dig (dig (le 4 (S.ver : Int) ++ sized (olds i k c 0 S.ins).length ++ cat (olds i k c 0 S.ins) ++ sized (oldOuts S k).length ++ cat ((oldOuts S k).map SOut.oct) ++ le 4 (S.lock : Int) ++ le 4 (k : Int)))
abbrev odM (v0 v1 : Option Value) (insA : Addr) (base : Int) (tb : Tok) (m₀ : Str → Option Value) : Str → Option Value := fun y => if y = Str.ofString "row" then v0 else if y = Str.ofString "k" then v1 else if y = Str.ofString "ins" then some (.ref insA) else if y = Str.ofString "base" then some (.int base tb) else m₀ y
def OdP (insA : Addr) (base : Int) (tb : Tok) (m₀ : Str → Option Value) (octs : List (Array UInt8)) (j : Nat) (m : Str → Option Value) (news : List (Addr × Obj)) : Prop :=
 ∃ v0 v1 n rest, ∃ rows : List SRow, (∀ y, m y = odM v0 v1 insA base tb m₀ y) ∧ news = (insA, listOf (rows.map fun r => Value.ref r.a).toArray n) :: rest ∧ (∀ p ∈ rest, @LT.lt Nat _ insA p.1) ∧ (∀ r ∈ rows, (r.a, r.obj) ∈ rest ∧ r.Ok) ∧ rows.length ≤ j ∧ rows.map SRow.oct = octs
theorem hk42 : True := by
 k_with "call type:enumerate" => (k_here; (with_reducible show wpAny _ _ (PySem.call (Value.type _) [Value.ref _]) _ _ _); (refine enum_K (by k_asm) (by k_asm) (isl_baseN (by k_asm) (by assumption)) ?_); intro e9 it9 o9 h'9 F'9 N'9 e19 e29 e39 e49 e59 e69)
 k_with "call builtin:list.append" => (k_here; refine stopC ?_)
 trivial
theorem append_row {w : World} {A : Around} {E Q : Value → Shared → Prop} {s : Shared} {g : Heap} {L D : Addr} {m : Str → Option Value} {p1 p2 p3 : Addr × Obj} {ys : List Value} {n : Nat} {rest : List (Addr × Obj)} {v : Value}
  (F : Fr g L s.heap m) (N : News g L s.heap (p1 :: p2 :: p3 :: (D, listOf ys.toArray n) :: rest)) (d1 : p1.1 ≠ D) (d2 : p2.1 ≠ D) (d3 : p3.1 ≠ D) (dr : ∀ p ∈ rest, p.1 ≠ D) (hz : ys.length ≤ 100)
  (h : ∀ h', Fr g L h' m → News g L h' (p1 :: p2 :: p3 :: (D, listOf (ys ++ [v]).toArray (n + 1)) :: rest) → Q .none { s with heap := h' }) :
  wpAny (model prog w) A (PySem.call (.builtin "list.append") [.ref D, v]) Q E s := by
 have md : (D, listOf ys.toArray n) ∈ p1 :: p2 :: p3 :: (D, listOf ys.toArray n) :: rest := .tail _ (.tail _ (.tail _ (.head _)))
 refine append_at (hsz := by rw [List.size_toArray, sizeLine_eq]; omega) (N _ md).1 fun h' hs ho => h h' (F.change hs (N _ md).2.1 (N _ md).2.2) ?_
 have up : ∀ p ∈ p1 :: p2 :: p3 :: (D, listOf ys.toArray n) :: rest, p.1 ≠ D → h'.get? p.1 = some p.2 ∧ p.1 ≠ L ∧ g.get? p.1 = none := fun p hp hd => ⟨hs.extBut _ _ hd (N p hp).1, (N p hp).2⟩
 intro q hq
 rcases List.mem_cons.mp hq with rfl | hq
 ·exact up _ (.head _) d1
 rcases List.mem_cons.mp hq with rfl | hq
 ·exact up _ (.tail _ (.head _)) d2
 rcases List.mem_cons.mp hq with rfl | hq
 ·exact up _ (.tail _ (.tail _ (.head _))) d3
 rcases List.mem_cons.mp hq with rfl | hq
 ·refine ⟨?_, (N _ md).2⟩
  rw [ho]; simp
 ·exact up _ (.tail _ (.tail _ (.tail _ (.tail _ hq)))) (dr _ hq)
theorem pick_first {vs : List Value} : slicePick vs.toArray none (some (1 : Int)) none = (vs.take 1).toArray := by
 rw [slicePick_plain]
 show (List.take (clipAt vs.toArray.size ((1 : Nat) : Int) - 0) (vs.drop 0)).toArray = _
 rw [clipAt_nat]
 cases vs with
 | nil => rfl
 | cons v vs => simp [Nat.min_eq_left (Nat.succ_le_succ (Nat.zero_le vs.length))]
theorem slice_first {w : World} {A : Around} {E : Value → Shared → Prop} {s : Shared} {g : Heap} {L : Addr} {m : Str → Option Value} {news : List (Addr × Obj)} {value slice : PySem.Expr} {l : Addr} {vs : List Value} {t2 : Tok} {Q : Value → Shared → Prop}
  (F : Fr g L s.heap m) (N : News g L s.heap news) (hl : s.heap.IsList l vs.toArray) (hz : vs.length ≤ 1000000)
  (h : ∀ D h', Fr g L h' m → News g L h' ((D, listOf (vs.take 1).toArray 0) :: news) → (∀ p ∈ news, p.1 < D) → Q (.ref D) { s with heap := h' })
  (hs : subscripted slice false (.ref l) (.ref s.heap.objs.size) = operate [.ref s.heap.objs.size, .ref l] (getItem (.ref l) (.ref s.heap.objs.size)) := by with_unfolding_all rfl) :
  wpAny (model prog w) A (subscriptTail value slice (.ref l) (.ref s.heap.objs.size)) Q E { s with heap := s.heap.push { cls := .type "slice", data := .fields #[.none, .int (1 : Int) t2, .none] } } := by
 refine tail_any (Heap.IsList.typeIs (s := { s with heap := s.heap.push _ }) (hl.push _)) slot_list_getitem.lookup (wpAny_getItem_list_slice (hl.push _) (Heap.IsSliceOf.new ..) .none (.int _ _) .none (by simp) ?_ (by rw [List.size_toArray, sizeLine_eq]; omega)) hs
 rw [pick_first]
 have F1 := F.push ({ cls := .type "slice", data := .fields #[.none, .int (1 : Int) t2, .none] } : Obj)
 have N1 : News g L _ news := News.pushKeep N ({ cls := .type "slice", data := .fields #[.none, .int (1 : Int) t2, .none] } : Obj)
 exact h _ _ (F1.push _) (N1.push F1 _) fun p hp => Heap.lt_size (N1 p hp).1
theorem odM_set {v w : Value} {v0 v1 : Option Value} {insA : Addr} {base : Int} {tb : Tok} {m₀ m : Str → Option Value} (hm : ∀ y, m y = odM v0 v1 insA base tb m₀ y) : ∀ y, (if y = Str.ofString "row" then some v else if y = Str.ofString "k" then some w else m y) = odM (some v) (some w) insA base tb m₀ y :=
 m2_a (m2_b (by decide) hm)
def OdCut (g : Heap) (L : Addr) (M : Str → Option Value) (led : List (Addr × Obj)) (lo : List SOut) (s s' : Shared) : Prop :=
 ∃ h tk oa no rst, s' = { s with heap := h, toks := tk } ∧ Fr g L h (fun y => if y = Str.ofString "outs" then some (.ref oa) else M y) ∧ News g L h rst ∧ (∀ p ∈ led, p ∈ rst) ∧ (∀ h m, Fr g L h m → News g L h rst → h.get? oa = some (listOf (lo.map fun r => Value.ref r.a).toArray no))
theorem laidB_size {ver lock : Nat} {ri : List SRow} {ro : List SOut} (HI : ∀ r ∈ ri, r.Ok) (HO : ∀ r ∈ ro, r.Ok) (li : ri.length ≤ 3) (lo : ro.length ≤ 20) : (laidB ver ri ro lock).size ≤ 10000 := by
 have h1 := Nat.le_trans (cat_size (f := SRow.oct) (k := 298) (l := ri) fun a m => (HI a m).size) (Nat.mul_le_mul_left 298 li)
 have h2 := Nat.le_trans (cat_size (f := SOut.oct) (k := 266) (l := ro) fun a m => (HO a m).size) (Nat.mul_le_mul_left 266 lo)
 have h3 := @sized_size ri.length
 have h4 := @sized_size ro.length
 unfold laidB
 walk_at "kk_size"
theorem oldO_sub {S : SSt} {k : Nat} {a : SOut} (m : a ∈ oldOuts S k) : a ∈ S.outs := by
 unfold oldOuts at m
 split at m
 ·cases m
 ·split at m
  ·exact List.mem_of_mem_take m
  ·exact m
theorem oldO_len {S : SSt} {k : Nat} : (oldOuts S k).length ≤ S.outs.length := by
 unfold oldOuts
 split
 ·exact Nat.zero_le _
 ·split
  ·exact List.length_take_le' _ _
  ·exact Nat.le_refl _
theorem hk43 : True := by
 k_with "subscriptTail" => (k_here; (with_reducible show wpAny _ _ (subscriptTail _ (PySem.Expr.Slice none (some _) none _) (Value.ref _) (Value.ref _)) _ _ _); (with_reducible rename Fr _ _ _ _ => F'9); (with_reducible rename News _ _ _ _ => N'9); (refine stopC ?_))
 k_with "call ref" => (k_here; (with_reducible show wpAny _ _ (PySem.call (Value.ref 1199) _ _) _ _ _); (refine stopC ?_))
 trivial
theorem od_add {g h : Heap} {L insA e it : Addr} {oe oi : Obj} {n j : Nat} {base : Int} {tb : Tok} {m₀ : Str → Option Value} {v0 v1 : Option Value} {rest : List (Addr × Obj)} {rows : List SRow} {octs octs' : List (Array UInt8)} {s₀ : Shared} {tk : Nat} (r : SRow) (ok : r.Ok)
  (F : Fr g L h (odM v0 v1 insA base tb m₀)) (N : News g L h ((r.a, r.obj) :: (e, oe) :: (it, oi) :: (insA, listOf ((rows.map fun r : SRow => Value.ref r.a) ++ [Value.ref r.a]).toArray (n + 1)) :: rest))
  (hr : ∀ q ∈ (insA, listOf (rows.map fun r : SRow => Value.ref r.a).toArray n) :: rest, q.1 ≠ e ∧ q.1 ≠ it) (q1 : e < r.a) (q2 : it < r.a) (q3 : @LT.lt Nat _ insA r.a) (hlt : ∀ p ∈ rest, @LT.lt Nat _ insA p.1) (hrows : ∀ r ∈ rows, (r.a, r.obj) ∈ rest ∧ r.Ok) (hlen : rows.length ≤ j) (ho : rows.map SRow.oct = octs) (ho' : octs' = octs ++ [r.oct]) :
  LoopEnd3 (OdP insA base tb m₀ octs' (j + 1)) g L e oe it oi s₀ { s₀ with heap := h, toks := tk } := by
 refine ⟨_, _, _, (insA, listOf ((rows ++ [r]).map fun r => Value.ref r.a).toArray (n + 1)) :: (r.a, r.obj) :: rest, rfl, ⟨v0, v1, n + 1, _, rows ++ [r], fun _ => rfl, rfl, ?_, ?_, by rw [List.length_append]; show rows.length + 1 ≤ j + 1; omega, by rw [List.map_append, ho, ho']; rfl⟩, F, ?_, ?_⟩
 ·intro p hp
  rcases List.mem_cons.mp hp with rfl | hp
  ·exact q3
  ·exact hlt p hp
 ·intro x hx
  rcases List.mem_append.mp hx with hx | hx
  ·exact ⟨.tail _ (hrows x hx).1, (hrows x hx).2⟩
  ·rw [List.mem_singleton.mp hx]; exact ⟨.head _, ok⟩
 ·intro p hp
  rw [List.map_append] at hp
  rcases List.mem_cons.mp hp with rfl | hp
  ·exact N _ (.tail _ (.head _))
  rcases List.mem_cons.mp hp with rfl | hp
  ·exact N _ (.tail _ (.tail _ (.head _)))
  rcases List.mem_cons.mp hp with rfl | hp
  ·exact N (insA, listOf ((rows.map fun r : SRow => Value.ref r.a) ++ [Value.ref r.a]).toArray (n + 1)) (.tail _ (.tail _ (.tail _ (.head _))))
  rcases List.mem_cons.mp hp with rfl | hp
  ·exact N _ (.head _)
  ·exact N _ (.tail _ (.tail _ (.tail _ (.tail _ hp))))
 ·intro p hp
  rcases List.mem_cons.mp hp with rfl | hp
  ·exact hr (insA, listOf (rows.map fun r : SRow => Value.ref r.a).toArray n) (.head _)
  rcases List.mem_cons.mp hp with rfl | hp
  ·exact ⟨Ne.symm (Nat.ne_of_lt q1), Ne.symm (Nat.ne_of_lt q2)⟩
  ·exact hr _ (.tail _ hp)
section
variable {w : World} {hb : Heap} {mean : ExcName → Option Value} {mg mb : Str → Option Value} {s : Shared}
theorem law_old (G : Gd w hb mean mg mb) (st : St hb s.heap) {S : SSt} (H : S.Here s.heap) (O : S.Ok) {i k : Nat} {ti tc tk : Tok} {c : Array UInt8} (hk : k ∈ kinds) (hi : i < S.ins.length) (hc : c.size ≤ 255) :
  Does w 30 (.ref 1206) [.ref S.a, .int (i : Int) ti, .bytes c tc, .int (k : Int) tk] [] s [] (fun r _ => ∃ q, r = .bytes (oldB S i k c) q) := by
 walk_at "ir"
 refine' enter (binds := [(Str.ofString "state", .ref S.a), (Str.ofString "place", .int (i : Int) ti), (Str.ofString "code", .bytes c tc), (Str.ofString "kind", .int (k : Int) tk)]) G st [] ?hW ?ho ?hcd ?hroom ?hbind ?hloc ?h ?hcell ?hco ?hgen ?hk
 walk_at "kk_enter"
 case hW => intro p hp; cases hp
 walk_at "ig"
 clear l1
 have HG := H.up fun b o e => sub b o e (by simp)
 have gs := HG.hs
 have gi := HG.hi
 have go := HG.ho
 have hm := kind_cases hk
 have n2 := O.n2
 have n3 := O.n3
 have hver := O.hv
 have hlk := O.hl
 have hk2 := kind_lt hk
 have hfm := fmod_kind k
 refine a_exec1 ?_
 k_steps
 change wpAny _ _ (execs _ _) _ _ _
 refine a_exec1 ?_
 k_steps
 change wpAny _ _ (execs _ _) _ _ _
 walk_at "r9"
 (try dsimp +zetaDelta only at F9)
 rw [hfm] at F9
 obtain ⟨insA, tb, F9, N9⟩ : ∃ insA tb, Fr g L _ (odM none none insA (k % 128 : Nat) tb (fun y => [(Str.ofString "state", .ref S.a), (Str.ofString "place", .int (i : Int) ti), (Str.ofString "code", .bytes c tc), (Str.ofString "kind", .int (k : Int) tk)].reverse.lookup y)) ∧ News g L _ [(insA, listOf #[] 0)] := ⟨_, _, fr_congr F9 (m2_n rfl rfl), N9⟩
 refine a_exec1 (st := Stmt.For ..) (a_forA (g := g) (L := L) (s₀ := s) (vs := S.ins.map fun r => Value.ref r.a) (l := S.ia) (fun j => OdP insA (k % 128 : Nat) tb (fun y => [(Str.ofString "state", .ref S.a), (Str.ofString "place", .int (i : Int) ti), (Str.ofString "code", .bytes c tc), (Str.ofString "kind", .int (k : Int) tk)].reverse.lookup y) (olds i k c 0 (S.ins.take j)) j) rfl rfl rfl rfl ⟨_, gi, rfl, _, rfl⟩ ?start ?turn ?done)
 case start =>
  k_steps
  walk_at "r8"
  exact ⟨_, _, _, _, _, _, _, rfl, rfl, ⟨none, none, _, [], [], fun _ => rfl, rfl, (fun _ h => nomatch h), (fun _ h => nomatch h), Nat.le_refl _, rfl⟩, F8, N8, by assumption, by assumption, by assumption, by assumption, by assumption, by assumption⟩
 case turn =>
  rintro j v m news e it oe oi h tk' ti' hv ⟨v0, v1, n, rest, rows, hm, rfl, hlt, hrows, hlen, hoct⟩ F' N' hr hie hLi
  clear F9 N9
  (try clear F N)
  have F := fr_congr F' (odM_set hm)
  clear F' hm
  rw [List.getElem?_map] at hv
  obtain ⟨tj, hj, rfl⟩ := Option.map_eq_some_iff.mp hv
  have jm := List.mem_of_getElem? hj
  have jlt : j < S.ins.length := (List.getElem?_eq_some_iff.mp hj).1
  have jok := O.hi tj jm
  have gj := HG.hI tj jm
  unfold SRow.obj at gj
  have de : e ≠ insA := Ne.symm (hr _ (.head _)).1
  have di : it ≠ insA := Ne.symm (hr _ (.head _)).2
  have dr : ∀ p ∈ rest, p.1 ≠ insA := fun p hp => Ne.symm (Nat.ne_of_lt (hlt p hp))
  have hz : (rows.map fun r => Value.ref r.a).length ≤ 100 := by rw [List.length_map]; first | exact Nat.le_trans (by assumption) (by decide) | omega
  k_steps
  ·have eij : j = i := by omega
   walk_at "r8"
   (rename _ ∧ _ ∧ _ ∧ AllLt _ _ => lq)
   change wpAny _ _ (PySem.call (Value.builtin "list.append") _) _ _ _
   refine append_row F8 N8 (Ne.symm (Nat.ne_of_lt lq.2.2.1)) de di dr hz ?_
   intro h' F' N'
   clear F8 N8
   k_steps
   walk_at "r8"
   refine od_add ⟨_, 0, _, _, _, _, tj.txid, tj.vout, c, tj.seq⟩ ⟨jok.hv, jok.hq, hc, jok.hi⟩ F8 N8 hr lq.1 lq.2.1 lq.2.2.1 hlt hrows hlen hoct ?_
   rw [olds_take hj]; unfold oldRow; rw [if_pos eij]; rfl
  ·have nij : j ≠ i := by omega
   have ek : k < 128 := by omega
   change wpAny _ _ (eval _ _) _ _ _
   refine a_ifexp ?_
   k_steps
   ·walk_at "r8"
    (rename _ ∧ _ ∧ _ ∧ AllLt _ _ => lq)
    change wpAny _ _ (PySem.call (Value.builtin "list.append") _) _ _ _
    refine append_row F8 N8 (Ne.symm (Nat.ne_of_lt lq.2.2.1)) de di dr hz ?_
    intro h' F' N'
    clear F8 N8
    k_steps
    walk_at "r8"
    refine od_add ⟨_, 0, _, _, _, _, tj.txid, tj.vout, #[], tj.seq⟩ ⟨jok.hv, jok.hq, Nat.zero_le _, jok.hi⟩ F8 N8 hr lq.1 lq.2.1 lq.2.2.1 hlt hrows hlen hoct ?_
    rw [olds_take hj]; unfold oldRow; rw [if_neg nij, if_pos ek, if_pos (by omega)]; rfl
   ·walk_at "r8"
    (rename _ ∧ _ ∧ _ ∧ AllLt _ _ => lq)
    change wpAny _ _ (PySem.call (Value.builtin "list.append") _) _ _ _
    refine append_row F8 N8 (Ne.symm (Nat.ne_of_lt lq.2.2.1)) de di dr hz ?_
    intro h' F' N'
    clear F8 N8
    k_steps
    walk_at "r8"
    refine od_add ⟨_, 0, _, _, _, _, tj.txid, tj.vout, #[], 0⟩ ⟨jok.hv, Nat.zero_lt_succ _, Nat.zero_le _, jok.hi⟩ F8 N8 hr lq.1 lq.2.1 lq.2.2.1 hlt hrows hlen hoct ?_
    rw [olds_take hj]; unfold oldRow; rw [if_neg nij, if_pos ek, if_neg (by omega)]; rfl
  ·have nij : j ≠ i := by omega
   walk_at "r8"
   refine ⟨_, _, _, _, rfl, ⟨_, _, _, rest, rows, fun _ => rfl, rfl, hlt, hrows, by omega, ?_⟩, F8, N8, hr⟩
   rw [hoct, olds_take hj]
   unfold oldRow
   rw [if_neg nij, if_neg (by omega), List.append_nil]
 case done =>
  rintro m news h tk' ⟨v0, v1, n, rest, rows, hm, rfl, hlt, hrows, hlen, hoct⟩ F' N'
  rw [List.length_map] at hlen
  rw [List.length_map, List.take_length] at hoct
  clear F9 N9
  (try clear F N)
  have F := fr_congr F' hm
  clear F' hm
  change wpAny _ _ (execs _ _) _ _ _
  refine a_cut (OdCut g L (odM v0 v1 insA (k % 128 : Nat) tb (fun y => [(Str.ofString "state", .ref S.a), (Str.ofString "place", .int (i : Int) ti), (Str.ofString "code", .bytes c tc), (Str.ofString "kind", .int (k : Int) tk)].reverse.lookup y)) ((insA, listOf (rows.map fun r => Value.ref r.a).toArray n) :: rest) (oldOuts S k) s) (fun K7 hK7 => ?_) ?_
  ·k_steps
   change wpAny _ _ (eval _ _) _ _ _
   refine a_ifexp ?_
   k_steps
   ·trivial
   ·walk_at "r9"
    refine hK7 _ ⟨_, _, _, 0, _, rfl, F9, N9, fun p m => .tail _ m, fun h m F N => ?_⟩
    rw [show oldOuts S k = [] from if_pos (by omega)]
    exact (N _ (.head _)).1
   ·change wpAny _ _ (eval _ _) _ _ _
    refine a_ifexp ?_
    k_steps
    ·change wpAny _ _ _ _ _ _
     refine slice_first (s := ⟨_, _, _, _, _⟩) (by k_asm) (by k_asm) (isl_baseN (by k_asm) go) (by rw [List.length_map]; first | exact Nat.le_trans (by assumption) (by decide) | omega) ?_ (by with_unfolding_all rfl)
     intro D h' F' N' l2
     dsimp only
     k_steps
     walk_at "r9"
     refine hK7 _ ⟨_, _, D, 0, _, rfl, F9, N9, fun p m => .tail _ m, fun h m F N => ?_⟩
     rw [show oldOuts S k = S.outs.take 1 from by unfold oldOuts; rw [if_neg (by omega), if_pos (by omega)], List.map_take]
     exact (N _ (.head _)).1
    ·walk_at "r9"
     refine hK7 _ ⟨_, _, S.oa, S.no, _, rfl, F9, N9, fun p m => m, fun h m F N => ?_⟩
     rw [show oldOuts S k = S.outs from by unfold oldOuts; rw [if_neg (by omega), if_neg (by omega)]]
     exact F.keep _ _ go
  ·rintro s' ⟨h', tk', oa, no, rst, rfl, F', N', hsub, hOL⟩
   (try clear F N)
   have hol := @oldO_len S k
   change wpAny _ _ (execs _ _) _ _ _
   k_steps
   walk_at "r8"
   change wpAny _ _ (PySem.call (Value.ref 1199) _ _) _ _ _
   have li : rows.length ≤ 3 := by omega
   have lo : (oldOuts S k).length ≤ 20 := by omega
   refine use0b (law_laid (by assumption) (by walk_at "kk_st") (F8.keep _ _ gs) (N8 (insA, listOf (rows.map fun r => Value.ref r.a).toArray n) (hsub _ (.head _))).1 (hOL _ _ F8 N8) (fun r m => ⟨(N8 _ (hsub _ (.tail _ (hrows r m).1))).1, (hrows r m).2⟩) (fun r m => ⟨F8.keep _ _ (HG.hO r (oldO_sub m)), O.ho r (oldO_sub m)⟩) hver hlk li lo) (by k_asm) (by k_asm) (by walk_at "kk_num") (by walk_at "kk_num") ?_
   intro t' h' tk' F' N'
   have zl : (laidB S.ver rows (oldOuts S k) S.lock).size ≤ 10000 := laidB_size (fun r m => (hrows r m).2) (fun r m => O.ho r (oldO_sub m)) li lo
   k_steps
   have ezz : oldB S i k c = dig (dig (laidB S.ver rows (oldOuts S k) S.lock ++ le 4 (k : Int))) := by
    unfold oldB laidB
    rw [hoct, show (olds i k c 0 S.ins).length = rows.length from by rw [← hoct, List.length_map]]
   exact leaves (by k_asm) fun _ => fun e => hQ _ _ _ e ⟨_, by rw [ezz]⟩
end
end
section
/-! the plain law: what the program reckons and what the law lays are the same octets -/
abbrev TIn.dat (t : TIn) : Array UInt8 × Nat × Array UInt8 × Nat := (t.txid, t.vout, t.scr, t.seq)
abbrev SRow.dat (t : SRow) : Array UInt8 × Nat × Array UInt8 × Nat := (t.txid, t.vout, t.scr, t.seq)
abbrev TOut.dat (t : TOut) : Nat × Array UInt8 := (t.val, t.scr)
abbrev SOut.dat (t : SOut) : Nat × Array UInt8 := (t.val, t.scr)
structure Agree (a : TTx) (S : SSt) : Prop where
 hv : a.ver = S.ver
 hl : a.lock = S.lock
 hi : a.ins.map TIn.dat = S.ins.map SRow.dat
 ho : a.outs.map TOut.dat = S.outs.map SOut.dat
section
variable {a : TTx} {S : SSt}
theorem Agree.inF (A : Agree a S) {β : Type} (F : Array UInt8 × Nat × Array UInt8 × Nat → β) : a.ins.map (fun t => F t.dat) = S.ins.map (fun t => F t.dat) := by
 have := congrArg (List.map F) A.hi
 rwa [List.map_map, List.map_map] at this
theorem Agree.outF (A : Agree a S) {β : Type} (F : Nat × Array UInt8 → β) : a.outs.map (fun t => F t.dat) = S.outs.map (fun t => F t.dat) := by
 have := congrArg (List.map F) A.ho
 rwa [List.map_map, List.map_map] at this
theorem Agree.inLen (A : Agree a S) : a.ins.length = S.ins.length := by simpa using congrArg List.length A.hi
theorem Agree.outLen (A : Agree a S) : a.outs.length = S.outs.length := by simpa using congrArg List.length A.ho
theorem Agree.octI (A : Agree a S) : a.ins.map TIn.oct = S.ins.map SRow.oct := A.inF fun d => inB d.1 d.2.1 d.2.2.1 d.2.2.2
theorem Agree.octO (A : Agree a S) : a.outs.map TOut.oct = S.outs.map SOut.oct := A.outF fun d => outB d.1 d.2
theorem Agree.points (A : Agree a S) : a.ins.map TIn.point = S.ins.map fun r => pointB r.txid r.vout := A.inF fun d => pointB d.1 d.2.1
theorem Agree.seqs (A : Agree a S) : a.ins.map TIn.seqB = S.ins.map fun r => le 4 (r.seq : Int) := A.inF fun d => le 4 (d.2.2.2 : Int)
theorem Agree.at (A : Agree a S) {i : Nat} {row : SRow} (h : S.ins[i]? = some row) : ∃ t, a.ins[i]? = some t ∧ t.dat = row.dat := by
 have := congrArg (fun l => l[i]?) A.hi
 simp only [List.getElem?_map, h, Option.map_some] at this
 obtain ⟨t, h1, h2⟩ := Option.map_eq_some_iff.mp this
 exact ⟨t, h1, h2⟩
theorem Agree.inOk (A : Agree a S) (O : S.Ok) : ∀ i ∈ a.ins, i.Ok := fun t m => by
 have : t.dat ∈ S.ins.map SRow.dat := by rw [← A.hi]; exact List.mem_map_of_mem m
 obtain ⟨r, hr, e⟩ := List.mem_map.mp this
 have o := O.hi r hr
 injection e with e1 e
 injection e with e2 e
 injection e with e3 e4
 exact ⟨e2 ▸ o.hv, e4 ▸ o.hq, e3 ▸ o.hc, e1 ▸ o.hi⟩
theorem Agree.outOk (A : Agree a S) (O : S.Ok) : ∀ i ∈ a.outs, i.Ok := fun t m => by
 have : t.dat ∈ S.outs.map SOut.dat := by rw [← A.ho]; exact List.mem_map_of_mem m
 obtain ⟨r, hr, e⟩ := List.mem_map.mp this
 have o := O.ho r hr
 injection e with e1 e2
 exact ⟨e1 ▸ o.hv, e2 ▸ o.hc⟩
theorem Agree.ok (A : Agree a S) (O : S.Ok) : a.Ok :=
 ⟨A.hv ▸ O.hv, A.hl ▸ O.hl, A.inLen ▸ O.n1, A.inLen ▸ O.n2, A.outLen ▸ O.n3, A.inOk O, A.outOk O⟩
theorem oct_eq (A : Agree a S) : a.oct = laidB S.ver S.ins S.outs S.lock := by
 unfold TTx.oct laidB
 rw [A.hv, A.hl, A.octI, A.octO, A.inLen, A.outLen]
 simp only [Array.append_assoc]
theorem sgA_eq (A : Agree a S) {k : Nat} : sgA a k = nwP S k := by
 unfold sgA nwP TTx.prevH
 rw [A.points]
 by_cases h : 128 ≤ k
 ·rw [if_pos h, if_pos (by omega)]
 ·rw [if_neg h, if_neg (by omega)]
theorem sgS_eq (A : Agree a S) {k : Nat} : sgS a k = nwQ S k := by
 unfold sgS nwQ TTx.seqH
 rw [A.seqs]
 by_cases h : 128 ≤ k ∨ 2 ≤ k % 128
 ·rw [if_pos h, if_pos (by omega)]
 ·rw [if_neg h, if_neg (by omega)]
theorem sgO_eq (A : Agree a S) {k i : Nat} : sgO a k i = nwO S i k := by
 unfold sgO nwO outsOf TTx.outH
 by_cases h : k % 128 < 2
 ·rw [if_pos h, if_pos h, if_neg (by omega), A.octO]
 ·rw [if_neg h, if_neg h]
  have e := congrArg (fun l => l[i]?) A.octO
  simp only [List.getElem?_map] at e
  by_cases h3 : k % 128 = 3
  ·rw [if_pos h3]
   cases ho : S.outs[i]? with
   | none =>
    rw [ho] at e
    have e' : a.outs[i]? = none := by simpa using e
    have hd : S.outs.drop i = [] := List.drop_eq_nil_of_le (List.getElem?_eq_none_iff.mp ho)
    rw [e', hd, if_pos ⟨by omega, rfl⟩]
   | some o =>
    rw [ho] at e
    obtain ⟨t, ht, et⟩ := Option.map_eq_some_iff.mp e
    obtain ⟨hi, hg⟩ := List.getElem?_eq_some_iff.mp ho
    have hd : (S.outs.drop i).take 1 = [o] := by
     rw [List.drop_eq_getElem_cons hi, hg]; rfl
    rw [ht, hd, if_neg (by simp)]
    dsimp only
    rw [if_pos h3, et]
    show _ = dig (dig (o.oct ++ #[]))
    rw [Array.append_empty]
  ·rw [if_neg h3, if_pos ⟨by omega, rfl⟩]
   split
   ·rw [if_neg h3]
   ·rfl
theorem newD_eq (A : Agree a S) {i k v : Nat} {inp : TIn} {row : SRow} {c : Array UInt8} (h : inp.dat = row.dat) : a.newD i k v inp c = newB S i k v row c := by
 injection h with e1 e
 injection e with e2 e
 injection e with e3 e4
 unfold TTx.newD newB
 rw [sgA_eq A, sgS_eq A, sgO_eq A, A.hv, A.hl]
 unfold TIn.point
 rw [e1, e2, e4]
 show _ = dig (dig (_ ++ (_ ++ (_ ++ (_ ++ (_ ++ (_ ++ #[])))))))
 simp only [Array.append_assoc, Array.append_empty]
theorem olds_all {i k : Nat} {c : Array UInt8} (hk : k < 128) : ∀ (l : List SRow) (m : List TIn) (n : Nat), m.map TIn.dat = l.map SRow.dat → (olds i k c n l).length = l.length ∧ cat (olds i k c n l) = catI (lgIn i k c) n m := by
 intro l
 induction l with
 | nil => intro m n h; cases m with
  | nil => exact ⟨rfl, rfl⟩
  | cons t m => simp at h
 | cons r l ih => intro m n h; cases m with
  | nil => simp at h
  | cons t m =>
   injection h with h1 h2
   obtain ⟨q1, q2⟩ := ih m (n + 1) h2
   injection h1 with e1 e
   injection e with e2 e
   injection e with e3 e4
   have key : oldRow i k c n r = [lgIn i k c n t] := by
    unfold oldRow lgIn seqOf
    rw [e1, e2, e4, Nat.mod_eq_of_lt hk]
    by_cases hn : n = i
    ·rw [if_pos hn, if_pos hn.symm]
    ·rw [if_neg hn, if_neg (Ne.symm hn), if_pos hk]
   show (oldRow i k c n r ++ olds i k c (n + 1) l).length = _ ∧ cat (oldRow i k c n r ++ olds i k c (n + 1) l) = lgIn i k c n t ++ catI (lgIn i k c) (n + 1) m
   rw [key]
   exact ⟨by simp [q1], by show lgIn i k c n t ++ cat (olds i k c (n + 1) l) = _; rw [q2]⟩
theorem olds_none {i k : Nat} {c : Array UInt8} (hk : ¬ k < 128) : ∀ (l : List SRow) (n : Nat), i < n → olds i k c n l = [] := by
 intro l
 induction l with
 | nil => intro _ _; rfl
 | cons r l ih =>
  intro n h
  show oldRow i k c n r ++ olds i k c (n + 1) l = []
  rw [ih (n + 1) (Nat.lt_succ_of_lt h)]
  unfold oldRow
  rw [if_neg (Nat.ne_of_gt h), if_neg hk]; rfl
theorem olds_one {i k : Nat} {c : Array UInt8} (hk : ¬ k < 128) {row : SRow} : ∀ (l : List SRow) (n : Nat), n ≤ i → l[i - n]? = some row → olds i k c n l = [inB row.txid row.vout c row.seq] := by
 intro l
 induction l with
 | nil => intro n _ h; simp at h
 | cons r l ih =>
  intro n hn h
  show oldRow i k c n r ++ olds i k c (n + 1) l = _
  by_cases e : n = i
  ·subst e
   rw [Nat.sub_self] at h
   injection h with h
   subst h
   rw [olds_none hk l (n + 1) (Nat.lt_succ_self _)]
   unfold oldRow
   rw [if_pos rfl]; rfl
  ·have hs := Nat.lt_of_le_of_ne hn e
   rw [sub_step hs, List.getElem?_cons_succ] at h
   rw [ih (n + 1) hs h]
   unfold oldRow
   rw [if_neg e, if_neg hk]; rfl
theorem oldD_eq (A : Agree a S) {i k : Nat} {inp : TIn} {row : SRow} {c : Array UInt8} (hk : k ∈ kinds) (hr : S.ins[i]? = some row) (h : inp.dat = row.dat) (h3 : k % 128 = 3 → 0 < S.outs.length) : a.oldD i k inp c = oldB S i k c := by
 have hk4 := kind_cases hk
 unfold TTx.oldD oldB
 have e1 : lgIns a i k inp c = sized (olds i k c 0 S.ins).length ++ cat (olds i k c 0 S.ins) := by
  unfold lgIns
  by_cases hh : 128 ≤ k
  ·rw [if_pos hh, olds_one (by omega) S.ins 0 (Nat.zero_le _) hr]
   injection h with e1 e
   injection e with e2 e
   injection e with e3 e4
   rw [e1, e2, e4]
   show _ = sized 1 ++ (_ ++ #[])
   rw [Array.append_empty]
  ·rw [if_neg hh]
   obtain ⟨q1, q2⟩ := olds_all (i := i) (c := c) (k := k) (by omega) S.ins a.ins 0 A.hi
   rw [q1, q2, A.inLen]
 have e2 : lgOuts a k = sized (oldOuts S k).length ++ cat ((oldOuts S k).map SOut.oct) := by
  unfold lgOuts oldOuts
  by_cases h2 : k % 128 = 2
  ·rw [if_pos h2, if_pos h2]
   show _ = sized 0 ++ #[]
   rw [Array.append_empty]
  ·rw [if_neg h2, if_neg h2]
   by_cases h3' : k % 128 = 3
   ·rw [if_pos h3', if_pos h3', List.length_take, Nat.min_eq_left (h3 h3'), List.map_take, List.map_take, A.octO]
   ·rw [if_neg h3', if_neg h3', A.outLen, A.octO]
 rw [e1, e2, A.hv, A.hl]
 simp only [Array.append_assoc]
end
end
section
abbrev keys (l : List (Addr × Obj)) : List Addr := l.map (·.1)
theorem nd_inj {p q : Addr × Obj} {l : List (Addr × Obj)} : (keys l).Nodup → p ∈ l → q ∈ l → p.1 = q.1 → p = q := by
 induction l with
 | nil => intro _ hp; cases hp
 | cons x l ih =>
  intro nd hp hq e
  obtain ⟨n1, n2⟩ := List.nodup_cons.mp (show (x.1 :: keys l).Nodup from nd)
  rcases List.mem_cons.mp hp with hp | hp
  ·rcases List.mem_cons.mp hq with hq | hq
   ·rw [hp, hq]
   ·exact absurd (show x.1 ∈ keys l by rw [← hp, e]; exact List.mem_map_of_mem hq) n1
  ·rcases List.mem_cons.mp hq with hq | hq
   ·exact absurd (show x.1 ∈ keys l by rw [← hq, ← e]; exact List.mem_map_of_mem hp) n1
   ·exact ih n2 hp hq e
def Sub (W : List Addr) (l' l : List (Addr × Obj)) : Prop := ∀ p ∈ l', p ∈ l ∨ p.1 ∈ W
theorem Sub.same {W : List Addr} {l : List (Addr × Obj)} : Sub W l l := fun _ m => .inl m
theorem Sub.app {W : List Addr} {a a' b b' : List (Addr × Obj)} (x : Sub W a' a) (y : Sub W b' b) : Sub W (a' ++ b') (a ++ b) := fun p m => by
 rcases List.mem_append.mp m with m | m
 ·exact (x p m).imp (List.mem_append_left _) id
 ·exact (y p m).imp (List.mem_append_right _) id
theorem Sub.cons {W : List Addr} {p : Addr × Obj} {b b' : List (Addr × Obj)} (y : Sub W b' b) : Sub W (p :: b') (p :: b) := fun q m => by
 rcases List.mem_cons.mp m with rfl | m
 ·exact .inl (.head _)
 ·exact (y q m).imp (.tail _) id
theorem Sub.turn {W : List Addr} {p p' : Addr × Obj} {b b' : List (Addr × Obj)} (h : p'.1 ∈ W) (y : Sub W b' b) : Sub W (p' :: b') (p :: b) := fun q m => by
 rcases List.mem_cons.mp m with rfl | m
 ·exact .inr h
 ·exact (y q m).imp (.tail _) id
theorem Sub.drop {W : List Addr} {p : Addr × Obj} {b b' : List (Addr × Obj)} (y : Sub W b' b) : Sub W b' (p :: b) := fun q m => (y q m).imp (.tail _) id
theorem Sub.nil {W : List Addr} {b : List (Addr × Obj)} : Sub W [] b := fun _ h => nomatch h
theorem Has.turn {h h' : Heap} {l l' : List (Addr × Obj)} {W V : List Addr} (H : Has l h) (nd : (keys l').Nodup) (e : Ext W h h') (wv : ∀ a ∈ W, a ∈ V) (hV : ∀ a ∈ V, ∃ o, (a, o) ∈ l' ∧ h'.get? a = some o) (sub : Sub V l' l) : Has l' h' :=
 Has.of fun p m => by
  by_cases q : p.1 ∈ V
  ·obtain ⟨o, m', g⟩ := hV _ q
   have := nd_inj nd m m' rfl
   rw [this]; exact g
  ·rcases sub p m with x | x
   ·exact e _ _ (fun z => q (wv _ z)) (H.get x)
   ·exact absurd x q
def SSt.frag (S : SSt) : List (Addr × Obj) :=
 (S.a, listOf #[.int (S.ver : Int) S.tv, .ref S.ia, .ref S.oa, .int (S.lock : Int) S.tl] S.n) :: (S.ia, listOf (S.ins.map fun r => Value.ref r.a).toArray S.ni) :: (S.oa, listOf (S.outs.map fun r => Value.ref r.a).toArray S.no) ::
  (S.ins.map (fun r => (r.a, r.obj)) ++ S.outs.map (fun r => (r.a, r.obj)))
theorem SSt.here {S : SSt} {h : Heap} (H : Has S.frag h) : S.Here h := by
 obtain ⟨h1, h2, h3, h4⟩ := H
 exact ⟨h1, h2, h3, fun r m => (Has.left h4).get (p := (r.a, r.obj)) (List.mem_map_of_mem (f := fun r : SRow => (r.a, r.obj)) m), fun r m => (Has.right h4).get (p := (r.a, r.obj)) (List.mem_map_of_mem (f := fun r : SOut => (r.a, r.obj)) m)⟩
def PF (w : World) (a : TTx) (S : SSt) : List (Addr × Obj) := S.frag ++ a.frag w
structure Two (w : World) (a : TTx) (S : SSt) (h : Heap) : Prop where
 H : Has (PF w a S) h
 nd : (keys (PF w a S)).Nodup
 A : Agree a S
 O : S.Ok
 K : a.Kept
theorem Two.here {w : World} {a : TTx} {S : SSt} {h : Heap} (T : Two w a S h) : S.Here h := SSt.here (Has.left T.H)
theorem Two.tx {w : World} {a : TTx} {S : SSt} {h : Heap} (T : Two w a S h) : Has (a.frag w) h := Has.right T.H
theorem Two.ok {w : World} {a : TTx} {S : SSt} {h : Heap} (T : Two w a S h) : a.Ok := T.A.ok T.O
theorem keys_append (a b : List (Addr × Obj)) : keys (a ++ b) = keys a ++ keys b := List.map_append
theorem keys_withC {w : World} {a : TTx} {S : SSt} {c1 c2 c3 : Value} : keys (PF w (a.withC c1 c2 c3) S) = keys (PF w a S) := by unfold PF; rw [keys_append, keys_append]; rfl
end
section
def madeI (w : World) (S : SSt) (i : Nat) (ys : List Value) (rest : List (Addr × Obj)) : Prop := i ≤ S.ins.length ∧ ∃ ts : List TIn, ys = ts.map (fun t => Value.ref t.x) ∧ ts.map TIn.dat = (S.ins.take i).map SRow.dat ∧ (∀ p ∈ ts.flatMap (TIn.frag w), p ∈ rest) ∧ (keys (ts.flatMap (TIn.frag w))).Nodup
theorem madeI_len {w : World} {S : SSt} {i : Nat} {ys : List Value} {rest : List (Addr × Obj)} (h : madeI w S i ys rest) : ys.length = i := by
 obtain ⟨hi, ts, rfl, e, _⟩ := h
 have := congrArg List.length e
 simp only [List.length_map, List.length_take] at this ⊢
 omega
theorem madeI_snoc {w : World} {S : SSt} {i : Nat} {ys : List Value} {rest rest' : List (Addr × Obj)} {r : SRow} {H : Nat} (t : TIn) (hr : S.ins[i]? = some r) (h : madeI w S i ys rest) (hd : t.dat = r.dat) (h1 : ∀ p ∈ rest, p ∈ rest') (h2 : ∀ p ∈ t.frag w, p ∈ rest') (h3 : (keys (t.frag w)).Nodup) (h4 : ∀ p ∈ rest, @LT.lt Nat _ p.1 H) (h5 : ∀ p ∈ t.frag w, @LE.le Nat _ H p.1) : madeI w S (i + 1) (ys ++ [.ref t.x]) rest' := by
 obtain ⟨hi, ts, rfl, e, hf, nd⟩ := h
 refine ⟨(List.getElem?_eq_some_iff.mp hr).1, ts ++ [t], by rw [List.map_append]; rfl, ?_, fun p m => ?_, ?_⟩
 ·rw [List.take_succ, hr, List.map_append, List.map_append, e]
  show _ ++ [t.dat] = _ ++ [r.dat]
  rw [hd]
 ·rw [List.flatMap_append] at m
  rcases List.mem_append.mp m with m | m
  ·exact h1 _ (hf _ m)
  ·exact h2 _ (by simpa using m)
 ·rw [List.flatMap_append, keys_append, show keys ([t].flatMap (TIn.frag w)) = keys (t.frag w) by simp]
  refine List.nodup_append.mpr ⟨nd, h3, fun a ha b hb e => ?_⟩
  obtain ⟨p, hp, rfl⟩ := List.mem_map.mp ha
  obtain ⟨q, hq, rfl⟩ := List.mem_map.mp hb
  exact absurd (h4 p (hf p hp)) (Nat.not_lt.mpr (e ▸ h5 q hq))
def madeO (w : World) (S : SSt) (i : Nat) (ys : List Value) (rest : List (Addr × Obj)) : Prop := i ≤ S.outs.length ∧ ∃ ts : List TOut, ys = ts.map (fun t => Value.ref t.x) ∧ ts.map TOut.dat = (S.outs.take i).map SOut.dat ∧ (∀ p ∈ ts.flatMap (TOut.frag w), p ∈ rest) ∧ (keys (ts.flatMap (TOut.frag w))).Nodup
theorem madeO_len {w : World} {S : SSt} {i : Nat} {ys : List Value} {rest : List (Addr × Obj)} (h : madeO w S i ys rest) : ys.length = i := by
 obtain ⟨hi, ts, rfl, e, _⟩ := h
 have := congrArg List.length e
 simp only [List.length_map, List.length_take] at this ⊢
 omega
theorem madeO_snoc {w : World} {S : SSt} {i : Nat} {ys : List Value} {rest rest' : List (Addr × Obj)} {r : SOut} {H : Nat} (t : TOut) (hr : S.outs[i]? = some r) (h : madeO w S i ys rest) (hd : t.dat = r.dat) (h1 : ∀ p ∈ rest, p ∈ rest') (h2 : ∀ p ∈ t.frag w, p ∈ rest') (h3 : (keys (t.frag w)).Nodup) (h4 : ∀ p ∈ rest, @LT.lt Nat _ p.1 H) (h5 : ∀ p ∈ t.frag w, @LE.le Nat _ H p.1) : madeO w S (i + 1) (ys ++ [.ref t.x]) rest' := by
 obtain ⟨hi, ts, rfl, e, hf, nd⟩ := h
 refine ⟨(List.getElem?_eq_some_iff.mp hr).1, ts ++ [t], by rw [List.map_append]; rfl, ?_, fun p m => ?_, ?_⟩
 ·rw [List.take_succ, hr, List.map_append, List.map_append, e]
  show _ ++ [t.dat] = _ ++ [r.dat]
  rw [hd]
 ·rw [List.flatMap_append] at m
  rcases List.mem_append.mp m with m | m
  ·exact h1 _ (hf _ m)
  ·exact h2 _ (by simpa using m)
 ·rw [List.flatMap_append, keys_append, show keys ([t].flatMap (TOut.frag w)) = keys (t.frag w) by simp]
  refine List.nodup_append.mpr ⟨nd, h3, fun a ha b hb e => ?_⟩
  obtain ⟨p, hp, rfl⟩ := List.mem_map.mp ha
  obtain ⟨q, hq, rfl⟩ := List.mem_map.mp hb
  exact absurd (h4 p (hf p hp)) (Nat.not_lt.mpr (e ▸ h5 q hq))
theorem allLt_mem {H : Nat} : ∀ {l : List (Addr × Obj)}, AllLt H l → ∀ p ∈ l, @LT.lt Nat _ p.1 H
 | [], _, _, m => nomatch m
 | _ :: _, h, p, m => by
  rcases List.mem_cons.mp m with m | m
  ·rw [m]; exact h.1
  ·exact allLt_mem h.2 p m
theorem elt_end {hB h : Heap} {C I D : Addr} {oI : Obj} {ys : List Value} {n tk : Nat} {m : Str → Option Value} {s₀ : Shared} {y : Value} {P : List Value → List (Addr × Obj) → Prop} {frag rst big : List (Addr × Obj)} {H : Nat} (F : Fr hB C h m) (N : News hB C h big)
  (mI : (I, oI) ∈ big) (mD : (D, listOf ys.toArray n) ∈ big) (mf : ∀ p ∈ frag, p ∈ big) (mr : ∀ p ∈ rst, p ∈ big) (hr : ∀ p ∈ rst, p.1 ≠ I ∧ p.1 ≠ D) (cI : @LT.lt Nat _ I H) (cD : @LT.lt Nat _ D H) (lo : ∀ p ∈ frag, @LE.le Nat _ H p.1) (hP : P (ys ++ [y]) (frag ++ rst)) :
  EltEnd P hB C I oI D ys n s₀ y { s₀ with heap := h, toks := tk } := by
 refine ⟨h, tk, m, frag ++ rst, rfl, F, fun p hp => N p ?_, fun p hp => ?_, hP⟩
 ·rcases List.mem_cons.mp hp with rfl | hp
  ·exact mI
  rcases List.mem_cons.mp hp with rfl | hp
  ·exact mD
  exact (List.mem_append.mp hp).elim (mf p) (mr p)
 ·exact (List.mem_append.mp hp).elim (fun q => ⟨Nat.ne_of_gt (Nat.lt_of_lt_of_le cI (lo p q)), Nat.ne_of_gt (Nat.lt_of_lt_of_le cD (lo p q))⟩) (hr p)
theorem nd4 {x d sx sd : Nat} (a1 : sd < sx) (a2 : sx < d) (b1 : d < x) : [x, d, sx, sd].Nodup :=
 have c1 := Nat.lt_trans a2 b1
 .cons (List.forall_mem_cons.mpr ⟨Nat.ne_of_gt b1, List.forall_mem_cons.mpr ⟨Nat.ne_of_gt c1, List.forall_mem_cons.mpr ⟨Nat.ne_of_gt (Nat.lt_trans a1 c1), fun _ h => nomatch h⟩⟩⟩)
 (.cons (List.forall_mem_cons.mpr ⟨Nat.ne_of_gt a2, List.forall_mem_cons.mpr ⟨Nat.ne_of_gt (Nat.lt_trans a1 a2), fun _ h => nomatch h⟩⟩)
 (.cons (List.forall_mem_cons.mpr ⟨Nat.ne_of_gt a1, fun _ h => nomatch h⟩) (.cons (fun _ h => nomatch h) .nil)))
theorem nd7 {x d sx sd wt wd wl : Nat} (a1 : sd < sx) (a2 : sx < d) (b1 : d < x) (b2 : d < wt) (b3 : d < wd) (b4 : d < wl) (e1 : x ≠ wt) (e2 : x ≠ wd) (e3 : x ≠ wl) (e4 : wt ≠ wd) (e5 : wt ≠ wl) (e6 : wd ≠ wl) : [x, d, sx, sd, wt, wd, wl].Nodup :=
 have c0 := Nat.lt_trans a1 a2
 have s1 : ∀ {q : Nat}, d < q → sx < q := fun h => Nat.lt_trans a2 h
 have s2 : ∀ {q : Nat}, d < q → sd < q := fun h => Nat.lt_trans c0 h
 .cons (List.forall_mem_cons.mpr ⟨Nat.ne_of_gt b1, List.forall_mem_cons.mpr ⟨Nat.ne_of_gt (s1 b1), List.forall_mem_cons.mpr ⟨Nat.ne_of_gt (s2 b1), List.forall_mem_cons.mpr ⟨e1, List.forall_mem_cons.mpr ⟨e2, List.forall_mem_cons.mpr ⟨e3, fun _ h => nomatch h⟩⟩⟩⟩⟩⟩)
 (.cons (List.forall_mem_cons.mpr ⟨Nat.ne_of_gt a2, List.forall_mem_cons.mpr ⟨Nat.ne_of_gt c0, List.forall_mem_cons.mpr ⟨Nat.ne_of_lt b2, List.forall_mem_cons.mpr ⟨Nat.ne_of_lt b3, List.forall_mem_cons.mpr ⟨Nat.ne_of_lt b4, fun _ h => nomatch h⟩⟩⟩⟩⟩)
 (.cons (List.forall_mem_cons.mpr ⟨Nat.ne_of_gt a1, List.forall_mem_cons.mpr ⟨Nat.ne_of_lt (s1 b2), List.forall_mem_cons.mpr ⟨Nat.ne_of_lt (s1 b3), List.forall_mem_cons.mpr ⟨Nat.ne_of_lt (s1 b4), fun _ h => nomatch h⟩⟩⟩⟩)
 (.cons (List.forall_mem_cons.mpr ⟨Nat.ne_of_lt (s2 b2), List.forall_mem_cons.mpr ⟨Nat.ne_of_lt (s2 b3), List.forall_mem_cons.mpr ⟨Nat.ne_of_lt (s2 b4), fun _ h => nomatch h⟩⟩⟩)
 (.cons (List.forall_mem_cons.mpr ⟨e4, List.forall_mem_cons.mpr ⟨e5, fun _ h => nomatch h⟩⟩) (.cons (List.forall_mem_cons.mpr ⟨e6, fun _ h => nomatch h⟩) (.cons (fun _ h => nomatch h) .nil))))))
theorem madeI_end {w : World} {S : SSt} {j n tk H H2 : Nat} {ys : List Value} {rst : List (Addr × Obj)} {hB h : Heap} {C I D x d sx sd wt wd wl : Addr} {oI : Obj} {m : Str → Option Value} {r : SRow} {s₀ : Shared} {k1 k2 k3 k4 k5 ks kw : Nat} {ts : Tok}
  (hj : S.ins[j]? = some r) (hP : madeI w S j ys rst) (F : Fr hB C h m)
  (N : News hB C h ((x, instObj 1107 d) :: (d, inDict w k1 k2 k3 k4 k5 r.txid (r.vout : Int) sx (r.seq : Int) wt r.t1 r.t2 r.t4) :: (wt, instObj 888 wd) :: (wd, dictOf [ent w "items" kw (.ref wl)] 1) :: (wl, listNil) :: (sx, instObj 843 sd) :: (sd, dictOf [ent w "data" ks (.bytes r.scr ts)] 1) :: (I, oI) :: (D, listOf ys.toArray n) :: rst))
  (hr : ∀ p ∈ rst, p.1 ≠ I ∧ p.1 ≠ D) (r1 : @LT.lt Nat _ I H ∧ @LT.lt Nat _ D H ∧ AllLt H rst) (r2 : @LT.lt Nat _ sx H2 ∧ @LT.lt Nat _ sd H2 ∧ @LT.lt Nat _ I H2 ∧ @LT.lt Nat _ D H2 ∧ AllLt H2 rst) (a0 : @LE.le Nat _ H sd) (a1 : @LT.lt Nat _ sd sx) (a3 : @LE.le Nat _ H2 d) (b1 : @LT.lt Nat _ d x) (b2 : @LT.lt Nat _ d wt) (b3 : @LT.lt Nat _ d wd) (b4 : @LT.lt Nat _ d wl)
  : EltEnd (fun ys rst => madeI w S (j + 1) ys rst) hB C I oI D ys n s₀ (.ref x) { s₀ with heap := h, toks := tk } := by
 have g1 := (N _ (.head _)).1
 have g2 := (N _ (.tail _ (.tail _ (.head _)))).1
 have g3 := (N _ (.tail _ (.tail _ (.tail _ (.head _))))).1
 have g4 := (N _ (.tail _ (.tail _ (.tail _ (.tail _ (.head _)))))).1
 have hsx := Nat.le_of_lt (Nat.lt_of_le_of_lt a0 a1)
 have sxd := Nat.lt_of_lt_of_le r2.1 a3
 have hd := Nat.le_of_lt (Nat.lt_of_le_of_lt hsx sxd)
 have up : ∀ {q : Nat}, d < q → H ≤ q := fun z => Nat.le_of_lt (Nat.lt_of_le_of_lt hd z)
 have lo : ∀ p ∈ TIn.frag w ⟨x, d, sx, sd, wt, wd, wl, k1, k2, k3, k4, k5, ks, kw, r.t1, r.t2, r.t4, ts, r.txid, r.vout, r.scr, r.seq⟩, @LE.le Nat _ H p.1 := List.forall_mem_cons.mpr ⟨up b1, List.forall_mem_cons.mpr ⟨hd, List.forall_mem_cons.mpr ⟨hsx, List.forall_mem_cons.mpr ⟨a0, List.forall_mem_cons.mpr ⟨up b2, List.forall_mem_cons.mpr ⟨up b3, List.forall_mem_cons.mpr ⟨up b4, fun _ h => nomatch h⟩⟩⟩⟩⟩⟩⟩
 exact elt_end (frag := TIn.frag w ⟨x, d, sx, sd, wt, wd, wl, k1, k2, k3, k4, k5, ks, kw, r.t1, r.t2, r.t4, ts, r.txid, r.vout, r.scr, r.seq⟩) (rst := rst) F N (List.mem_of_getElem? (i := 7) rfl) (List.mem_of_getElem? (i := 8) rfl) (List.forall_mem_cons.mpr ⟨List.mem_of_getElem? (i := 0) rfl, List.forall_mem_cons.mpr ⟨List.mem_of_getElem? (i := 1) rfl, List.forall_mem_cons.mpr ⟨List.mem_of_getElem? (i := 5) rfl, List.forall_mem_cons.mpr ⟨List.mem_of_getElem? (i := 6) rfl, List.forall_mem_cons.mpr ⟨List.mem_of_getElem? (i := 2) rfl, List.forall_mem_cons.mpr ⟨List.mem_of_getElem? (i := 3) rfl, List.forall_mem_cons.mpr ⟨List.mem_of_getElem? (i := 4) rfl, fun _ h => nomatch h⟩⟩⟩⟩⟩⟩⟩) (fun p m => List.mem_of_mem_drop (i := 9) m) hr r1.1 r1.2.1 lo
  (madeI_snoc (H := H) _ hj hP rfl (fun p m => List.mem_append_right _ m) (fun p m => List.mem_append_left _ m) (nd7 a1 sxd b1 b2 b3 b4 (ne_obj g1 g2 (ne_inst (by decide))) (ne_obj g1 g3 (ne_cls (by intro e; cases e))) (ne_obj g1 g4 (ne_cls (by intro e; cases e))) (ne_obj g2 g3 (ne_cls (by intro e; cases e))) (ne_obj g2 g4 (ne_cls (by intro e; cases e))) (ne_obj g3 g4 (ne_cls (by intro e; injection e; contradiction)))) (allLt_mem r1.2.2) lo)
theorem madeO_end {w : World} {S : SSt} {j n tk H H2 : Nat} {ys : List Value} {rst : List (Addr × Obj)} {hB h : Heap} {C I D x d sx sd : Addr} {oI : Obj} {m : Str → Option Value} {r : SOut} {s₀ : Shared} {k1 k2 ks : Nat} {t1 ts : Tok}
  (hj : S.outs[j]? = some r) (hP : madeO w S j ys rst) (F : Fr hB C h m)
  (N : News hB C h ((x, instObj 1143 d) :: (d, dictOf [ent w "value" k1 (.int (r.val : Int) t1), ent w "script_pubkey" k2 (.ref sx)] 2) :: (sx, instObj 843 sd) :: (sd, dictOf [ent w "data" ks (.bytes r.scr ts)] 1) :: (I, oI) :: (D, listOf ys.toArray n) :: rst))
  (hr : ∀ p ∈ rst, p.1 ≠ I ∧ p.1 ≠ D) (r1 : @LT.lt Nat _ I H ∧ @LT.lt Nat _ D H ∧ AllLt H rst) (r2 : @LT.lt Nat _ sx H2 ∧ @LT.lt Nat _ sd H2 ∧ @LT.lt Nat _ I H2 ∧ @LT.lt Nat _ D H2 ∧ AllLt H2 rst) (a0 : @LE.le Nat _ H sd) (a1 : @LT.lt Nat _ sd sx) (a3 : @LE.le Nat _ H2 d) (b1 : @LT.lt Nat _ d x)
  : EltEnd (fun ys rst => madeO w S (j + 1) ys rst) hB C I oI D ys n s₀ (.ref x) { s₀ with heap := h, toks := tk } := by
 have hsx := Nat.le_of_lt (Nat.lt_of_le_of_lt a0 a1)
 have sxd := Nat.lt_of_lt_of_le r2.1 a3
 have hd := Nat.le_of_lt (Nat.lt_of_le_of_lt hsx sxd)
 have lo : ∀ p ∈ TOut.frag w ⟨x, d, sx, sd, k1, k2, ks, t1, ts, r.val, r.scr⟩, @LE.le Nat _ H p.1 := List.forall_mem_cons.mpr ⟨Nat.le_of_lt (Nat.lt_of_le_of_lt hd b1), List.forall_mem_cons.mpr ⟨hd, List.forall_mem_cons.mpr ⟨hsx, List.forall_mem_cons.mpr ⟨a0, fun _ h => nomatch h⟩⟩⟩⟩
 exact elt_end (frag := TOut.frag w ⟨x, d, sx, sd, k1, k2, ks, t1, ts, r.val, r.scr⟩) (rst := rst) F N (List.mem_of_getElem? (i := 4) rfl) (List.mem_of_getElem? (i := 5) rfl) (List.forall_mem_cons.mpr ⟨List.mem_of_getElem? (i := 0) rfl, List.forall_mem_cons.mpr ⟨List.mem_of_getElem? (i := 1) rfl, List.forall_mem_cons.mpr ⟨List.mem_of_getElem? (i := 2) rfl, List.forall_mem_cons.mpr ⟨List.mem_of_getElem? (i := 3) rfl, fun _ h => nomatch h⟩⟩⟩⟩) (fun p m => List.mem_of_mem_drop (i := 6) m) hr r1.1 r1.2.1 lo
  (madeO_snoc (H := H) _ hj hP rfl (fun p m => List.mem_append_right _ m) (fun p m => List.mem_append_left _ m) (nd4 a1 sxd b1) (allLt_mem r1.2.2) lo)
theorem hk44 : True := by
 k_with "call ref" => (k_here; (with_reducible show wpAny _ _ (PySem.call (Value.ref 1143) _ _) _ _ _); (show wpAny _ _ (PySem.call (Value.ref 1143) [Value.int _ _, Value.ref _] _) _ _ _); (refine use0 (out_new (by assumption) (by walk_at "kk_st")) (by k_asm) (by k_asm) (by walk_at "kk_num") (by walk_at "kk_num") ?_); intro K8 hK8 r9 h'9 tk'9 F'9 n09 l19 l29 p9; obtain ⟨x9, d9, e19, ld9, lx9, ex9, k19, k29, t'9, ed9⟩ := p9; subst e19; (have n19 := news_new (by k_asm) ld9 ed9 n09); (have N'9 := news_new (by k_asm) (Nat.le_of_lt (Nat.lt_of_le_of_lt ld9 lx9)) ex9 n19); clear n09 n19; (replace lx9 := ltN lx9); (replace l29 := ltN l29); (try k_lt l19); (try dsimp only at l19); (try dsimp only at l29); (try dsimp only at ld9); (refine hK8 _ _ _ ?_))
 k_with "call ref" => (k_here; (with_reducible show wpAny _ _ (PySem.call (Value.ref 1107) _ _) _ _ _); (show wpAny _ _ (PySem.call (Value.ref 1107) [Value.bytes _ _, Value.int _ _, Value.ref _, Value.int _ _] _) _ _ _); (refine use0 (in_new (by assumption) (by walk_at "kk_st")) (by k_asm) (by k_asm) (by walk_at "kk_num") (by walk_at "kk_num") ?_); intro K8 hK8 r9 h'9 tk'9 F'9 n09 l19 l29 p9; obtain ⟨x9, d9, e19, ld9, lx9, ex9, k19, k29, k39, k49, k59, kw9, wt9, wd9, wl9, ed9, ewt9, ewd9, ewl9, g19, g29, g39⟩ := p9; subst e19; (have n19 := news_new (by k_asm) (Nat.le_of_lt (Nat.lt_of_le_of_lt ld9 g39)) ewl9 n09); (have n29 := news_new (by k_asm) (Nat.le_of_lt (Nat.lt_of_le_of_lt ld9 g29)) ewd9 n19); (have n39 := news_new (by k_asm) (Nat.le_of_lt (Nat.lt_of_le_of_lt ld9 g19)) ewt9 n29); (have n49 := news_new (by k_asm) ld9 ed9 n39); (have N'9 := news_new (by k_asm) (Nat.le_of_lt (Nat.lt_of_le_of_lt ld9 lx9)) ex9 n49); clear n09 n19 n29 n39 n49; (replace lx9 := ltN lx9); (replace l29 := ltN l29); (replace g19 := ltN g19); (replace g29 := ltN g29); (replace g39 := ltN g39); (try k_lt l19); (try dsimp only at l19); (try dsimp only at l29); (try dsimp only at ld9); (refine hK8 _ _ _ ?_))
 k_with "call ref" => (k_here; (with_reducible show wpAny _ _ (PySem.call (Value.ref 1061) _ _) _ _ _); (show wpAny _ _ (PySem.call (Value.ref 1061) [Value.int _ _, Value.ref _, Value.ref _, Value.int _ _] _) _ _ _); (refine use0 (tx_new (by assumption) (by walk_at "kk_st")) (by k_asm) (by k_asm) (by walk_at "kk_num") (by walk_at "kk_num") ?_); intro K8 hK8 r9 h'9 tk'9 F'9 n09 l19 l29 p9; obtain ⟨x9, d9, e19, ld9, lx9, ex9, k19, k29, k39, k49, k59, k69, k79, k89, k99, ed9⟩ := p9; subst e19; (have n19 := news_new (by k_asm) ld9 ed9 n09); (have N'9 := news_new (by k_asm) (Nat.le_of_lt (Nat.lt_of_le_of_lt ld9 lx9)) ex9 n19); clear n09 n19; (replace lx9 := ltN lx9); (replace l29 := ltN l29); (try k_lt l19); (try dsimp only at l19); (try dsimp only at l29); (try dsimp only at ld9); (refine hK8 _ _ _ ?_))
 trivial
theorem fresh_mem {g h h0 : Heap} {L : Addr} {news : List (Addr × Obj)} {p : Addr × Obj} (sub : ∀ b o, h0.get? b = some o → g.get? b = some o) (N : News g L h news) (hm : p ∈ news) : h0.get? p.1 = none := by
 cases q : h0.get? p.1 with
 | none => rfl
 | some o' => have := (N _ hm).2.2; rw [sub _ _ q] at this; cases this
def MadeTx (w : World) (S : SSt) (h0 : Heap) (r : Value) (h' : Heap) : Prop := ∃ a : TTx, r = .ref a.x ∧ Has (a.frag w) h' ∧ Agree a S ∧ a.c1 = .none ∧ a.c2 = .none ∧ a.c3 = .none ∧ (keys (a.frag w)).Nodup ∧ ∀ p ∈ a.frag w, h0.get? p.1 = none
theorem madeTx_end {w : World} {S : SSt} {s : Shared} {g h : Heap} {L x d D1 D2 : Addr} {n1 n2 H : Nat} {k1 k2 k3 k4 k5 k6 k7 k8 k9 : Nat} {ti : List TIn} {to : List TOut} {rs1 rs2 : List (Addr × Obj)}
  (sub0 : ∀ b o, s.heap.get? b = some o → g.get? b = some o) (ei : ti.map TIn.dat = S.ins.map SRow.dat) (eo : to.map TOut.dat = S.outs.map SOut.dat) (fi : ∀ p ∈ ti.flatMap (TIn.frag w), p ∈ rs1) (fo : ∀ p ∈ to.flatMap (TOut.frag w), p ∈ rs2) (ndi : (keys (ti.flatMap (TIn.frag w))).Nodup) (ndo : (keys (to.flatMap (TOut.frag w))).Nodup)
  (N : News g L h ((x, instObj 1061 d) :: (d, txDict w k1 k2 k3 k4 k5 k6 k7 k8 k9 (S.ver : Int) S.tv (S.lock : Int) S.tl D1 D2 .none .none .none) :: (D2, listOf (to.map fun t => Value.ref t.x).toArray n2) :: (rs2 ++ (D1, listOf (ti.map fun t => Value.ref t.x).toArray n1) :: rs1)))
  (p3 : ∀ p ∈ rs1, p.1 ≠ D1) (q1 : ∀ p ∈ (D1, listOf (ti.map fun t => Value.ref t.x).toArray n1) :: rs1, @LT.lt Nat _ p.1 D2) (q3 : ∀ p ∈ rs2, p.1 ≠ D2) (q4 : ∀ p ∈ rs2, ∀ q ∈ (D1, listOf (ti.map fun t => Value.ref t.x).toArray n1) :: rs1, p.1 ≠ q.1)
  (l1 : @LT.lt Nat _ D2 H ∧ AllLt H (rs2 ++ (D1, listOf (ti.map fun t => Value.ref t.x).toArray n1) :: rs1)) (ld : @LE.le Nat _ H d) (lx : @LT.lt Nat _ d x) : MadeTx w S s.heap (.ref x) h := by
 have lo : ∀ p ∈ (D2, listOf (to.map fun t => Value.ref t.x).toArray n2) :: (rs2 ++ (D1, listOf (ti.map fun t => Value.ref t.x).toArray n1) :: rs1), @LT.lt Nat _ p.1 H := fun p hp => by
  rcases List.mem_cons.mp hp with hp | hp
  ·rw [hp]; exact l1.1
  ·exact allLt_mem l1.2 p hp
 have m1 : ∀ p ∈ rs1, p ∈ (D2, listOf (to.map fun t => Value.ref t.x).toArray n2) :: (rs2 ++ (D1, listOf (ti.map fun t => Value.ref t.x).toArray n1) :: rs1) := fun p m => .tail _ (List.mem_append_right _ (.tail _ m))
 have m2 : ∀ p ∈ rs2, p ∈ (D2, listOf (to.map fun t => Value.ref t.x).toArray n2) :: (rs2 ++ (D1, listOf (ti.map fun t => Value.ref t.x).toArray n1) :: rs1) := fun p m => .tail _ (List.mem_append_left _ m)
 have md : (D1, listOf (ti.map fun t => Value.ref t.x).toArray n1) ∈ (D2, listOf (to.map fun t => Value.ref t.x).toArray n2) :: (rs2 ++ (D1, listOf (ti.map fun t => Value.ref t.x).toArray n1) :: rs1) := .tail _ (List.mem_append_right _ (.head _))
 let a : TTx := ⟨x, d, D1, D2, n1, n2, k1, k2, k3, k4, k5, k6, k7, k8, k9, S.tv, S.tl, S.ver, S.lock, ti, to, .none, .none, .none⟩
 have mem : ∀ p ∈ a.frag w, p ∈ (x, instObj 1061 d) :: (d, txDict w k1 k2 k3 k4 k5 k6 k7 k8 k9 (S.ver : Int) S.tv (S.lock : Int) S.tl D1 D2 .none .none .none) :: (D2, listOf (to.map fun t => Value.ref t.x).toArray n2) :: (rs2 ++ (D1, listOf (ti.map fun t => Value.ref t.x).toArray n1) :: rs1) := fun p hp => by
  rcases List.mem_cons.mp hp with hp | hp
  ·rw [hp]; exact .head _
  rcases List.mem_cons.mp hp with hp | hp
  ·rw [hp]; exact .tail _ (.head _)
  rcases List.mem_cons.mp hp with hp | hp
  ·rw [hp]; exact .tail _ (.tail _ md)
  rcases List.mem_cons.mp hp with hp | hp
  ·rw [hp]; exact .tail _ (.tail _ (.head _))
  rcases List.mem_append.mp hp with hp | hp
  ·exact .tail _ (.tail _ (m1 _ (fi _ hp)))
  ·exact .tail _ (.tail _ (m2 _ (fo _ hp)))
 refine ⟨a, rfl, Has.of fun p m => (N p (mem p m)).1, ⟨rfl, rfl, ei, eo⟩, rfl, rfl, rfl, ?_, fun p m => fresh_mem sub0 N (mem p m)⟩
 have kI : ∀ b ∈ keys (ti.flatMap (TIn.frag w)), ∃ p ∈ rs1, p.1 = b := fun b hb => by
  obtain ⟨p, hp, e⟩ := List.mem_map.mp hb
  exact ⟨p, fi p hp, e⟩
 have kO : ∀ b ∈ keys (to.flatMap (TOut.frag w)), ∃ p ∈ rs2, p.1 = b := fun b hb => by
  obtain ⟨p, hp, e⟩ := List.mem_map.mp hb
  exact ⟨p, fo p hp, e⟩
 have hi : ∀ b ∈ D1 :: D2 :: (keys (ti.flatMap (TIn.frag w)) ++ keys (to.flatMap (TOut.frag w))), @LT.lt Nat _ b H := fun b hb => by
  rcases List.mem_cons.mp hb with hb | hb
  ·rw [hb]; exact lo _ md
  rcases List.mem_cons.mp hb with hb | hb
  ·rw [hb]; exact lo _ (.head _)
  rcases List.mem_append.mp hb with hb | hb
  ·obtain ⟨p, hp, e⟩ := kI b hb
   rw [← e]; exact lo _ (m1 _ hp)
  ·obtain ⟨p, hp, e⟩ := kO b hb
   rw [← e]; exact lo _ (m2 _ hp)
 show (x :: d :: D1 :: D2 :: keys (ti.flatMap (TIn.frag w) ++ to.flatMap (TOut.frag w))).Nodup
 rw [keys_append]
 refine List.nodup_cons.mpr ⟨fun hm => ?_, List.nodup_cons.mpr ⟨fun hm => ?_, List.nodup_cons.mpr ⟨fun hm => ?_, List.nodup_cons.mpr ⟨fun hm => ?_, List.nodup_append.mpr ⟨ndi, ndo, fun b hb c hc e => ?_⟩⟩⟩⟩⟩
 ·rcases List.mem_cons.mp hm with e | hm
  ·exact absurd lx (by rw [e]; exact Nat.lt_irrefl _)
  ·exact absurd (hi x hm) (Nat.not_lt.mpr (Nat.le_of_lt (Nat.lt_of_le_of_lt ld lx)))
 ·exact absurd (hi d hm) (Nat.not_lt.mpr ld)
 ·rcases List.mem_cons.mp hm with e | hm
  ·exact absurd (q1 _ (.head _)) (by rw [e]; exact Nat.lt_irrefl _)
  rcases List.mem_append.mp hm with hm | hm
  ·obtain ⟨p, hp, e⟩ := kI _ hm
   exact p3 p hp e
  ·obtain ⟨p, hp, e⟩ := kO _ hm
   exact q4 p hp _ (.head _) e
 ·rcases List.mem_append.mp hm with hm | hm
  ·obtain ⟨p, hp, e⟩ := kI _ hm
   exact absurd (q1 p (.tail _ hp)) (by rw [e]; exact Nat.lt_irrefl _)
  ·obtain ⟨p, hp, e⟩ := kO _ hm
   exact q3 p hp e
 ·obtain ⟨p, hp, e1⟩ := kI b hb
  obtain ⟨q, hq, e2⟩ := kO c hc
  exact q4 q hq p (.tail _ hp) (by rw [e1, e2, e])
section
variable {w : World} {hb : Heap} {mean : ExcName → Option Value} {mg mb : Str → Option Value} {s : Shared}
theorem law_made (G : Gd w hb mean mg mb) (st : St hb s.heap) {S : SSt} (H : S.Here s.heap) (O : S.Ok) :
  Does w 30 (.ref 1216) [.ref S.a] [] s [] (MadeTx w S s.heap) := by
 walk_at "ir"
 refine' enter (binds := [(Str.ofString "state", .ref S.a)]) G st [] ?hW ?ho ?hcd ?hroom ?hbind ?hloc ?h ?hcell ?hco ?hgen ?hk
 walk_at "kk_enter"
 case hW => intro p hp; cases hp
 walk_at "ig"
 clear l1
 have sub0 : ∀ b o, s.heap.get? b = some o → g.get? b = some o := fun b o e => sub b o e (by simp)
 have HG := H.up sub0
 have gs := HG.hs
 have gi := HG.hi
 have go := HG.ho
 have n2 := O.n2
 have n3 := O.n3
 have F7 := F
 have N7 := N
 refine a_exec1 (a_compS F7 N7 (s₀ := s) (vs := S.ins.map fun r => Value.ref r.a) (l := S.ia) (fun q ys rst => madeI w S q ys rst) rfl ⟨Nat.zero_le _, [], rfl, rfl, (fun _ h => nomatch h), List.nodup_nil⟩ (fun q ys rst z => madeI_len z) (by decide) (by decide) rfl (by decide) (by decide) (fun h F _ => ⟨_, F.keep _ _ gi, rfl, _, rfl⟩) (by rw [List.length_map]; first | exact Nat.le_trans (by assumption) (by decide) | omega) ?csa ?cta ?cda (hsw := by with_unfolding_all rfl) (hy := by with_unfolding_all rfl) (hp := by with_unfolding_all rfl) (hL := rfl))
 case csa =>
  k_steps
  exact ⟨rfl, _, _, rfl, by k_asm, by k_asm⟩
 case cta =>
  rintro j v' C I oI D ys n' rst hB h' tk'' m' E' hv' hP F' N' l2 l3 kg kn hr'
  rw [List.getElem?_map] at hv'
  obtain ⟨tj, hj, rfl⟩ := Option.map_eq_some_iff.mp hv'
  have hjm := List.mem_of_getElem? hj
  clear F7 N7 kn
  (try clear F N)
  have jok := O.hi tj hjm
  have gj := kg _ _ (HG.hI tj hjm)
  unfold SRow.obj at gj
  have X2 := Frag.In.keeps X kg
  have T2 := T.keeps kg
  have stg2 : St hb hB := fun b o e => kg b o (stg b o e)
  k_steps
  walk_at "r8"

  change EltEnd _ _ _ _ _ _ _ _ _ _ _
  refine madeI_end hj hP F8 N8 hr' (by assumption) (by assumption) (Nat.le_refl _) (by assumption) (by assumption) (by assumption) (by assumption) (by assumption) (by assumption)
 case cda =>
  rintro D1 ys1 n1 rs1 h1 tk1 hP1 F1 N1 p1 p2 p3 p4
  rw [List.length_map] at hP1
  rw [List.append_nil] at N1
  clear F7 N7 p1 p4
  (try clear F N)
  have F7 := F1
  have N7 := N1
  change wpAny _ _ (execs _ _) _ _ _
  refine a_exec1 (a_compS F7 N7 (s₀ := s) (vs := S.outs.map fun r => Value.ref r.a) (l := S.oa) (fun q ys rst => madeO w S q ys rst) rfl ⟨Nat.zero_le _, [], rfl, rfl, (fun _ h => nomatch h), List.nodup_nil⟩ (fun q ys rst z => madeO_len z) (by decide) (by decide) rfl (by decide) (by decide) (fun h F _ => ⟨_, F.keep _ _ go, rfl, _, rfl⟩) (by rw [List.length_map]; first | exact Nat.le_trans (by assumption) (by decide) | omega) ?csb ?ctb ?cdb (hsw := by with_unfolding_all rfl) (hy := by with_unfolding_all rfl) (hp := by with_unfolding_all rfl) (hL := rfl))
  case csb =>
   clear F1 N1
   k_steps
   exact ⟨rfl, _, _, rfl, by k_asm, by k_asm⟩
  case ctb =>
   clear F1 N1
   rintro j v' C I oI D ys n' rst hB h' tk'' m' E' hv' hP F' N' l2 l3 kg kn hr'
   rw [List.getElem?_map] at hv'
   obtain ⟨tj, hj, rfl⟩ := Option.map_eq_some_iff.mp hv'
   have hjm := List.mem_of_getElem? hj
   clear F7 N7 kn
   (try clear F N)
   have jok := O.ho tj hjm
   have gj := kg _ _ (HG.hO tj hjm)
   unfold SOut.obj at gj
   have X2 := Frag.In.keeps X kg
   have T2 := T.keeps kg
   have stg2 : St hb hB := fun b o e => kg b o (stg b o e)
   k_steps
   walk_at "r8"

   change EltEnd _ _ _ _ _ _ _ _ _ _ _
   refine madeO_end hj hP F8 N8 hr' (by assumption) (by assumption) (Nat.le_refl _) (by assumption) (by assumption) (by assumption)
  case cdb =>
   rintro D2 ys2 n2 rs2 h2 tk2 hP2 F2 N2 q1 q2 q3 q4
   rw [List.length_map] at hP2
   clear F7 N7 F1 N1
   obtain ⟨_, ti, rfl, ei, fi, ndi⟩ := hP1
   obtain ⟨_, to, rfl, eo, fo, ndo⟩ := hP2
   rw [List.take_length] at ei eo
   change wpAny _ _ (execs _ _) _ _ _
   k_steps
   walk_at "r8"
   exact leaves F8 fun _ => fun e => hQ _ _ _ e (madeTx_end sub0 ei eo fi fo ndi ndo N8 p3 q1 q3 q4 (by assumption) (by assumption) (by assumption))
end
end
section
def LoopEndG (P : (Str → Option Value) → List (Addr × Obj) → Prop) (g : Heap) (L it : Addr) (o : Obj) (s₀ s₃ : Shared) : Prop :=
 ∃ h tk m news, s₃ = { s₀ with heap := h, toks := tk } ∧ P m news ∧ Fr g L h m ∧ News g L h ((it, o) :: news) ∧ ∀ q ∈ news, q.1 ≠ it
def LoopStartG (P : Addr → List Value → (Str → Option Value) → List (Addr × Obj) → Prop) (g : Heap) (L : Addr) (s₀ : Shared) (x : Value) (s₁ : Shared) : Prop :=
 ∃ l vs, x = .ref l ∧ ∃ h tk m news, s₁ = { s₀ with heap := h, toks := tk } ∧ P l vs m news ∧ Fr g L h m ∧ News g L h news
def JG (P : Nat → (Str → Option Value) → List (Addr × Obj) → Prop) (g : Heap) (L l : Addr) (s₀ : Shared) (it : Addr) (i : Nat) (s' : Shared) : Prop :=
 ∃ h tk m news o, s' = { s₀ with heap := h, toks := tk } ∧ P i m news ∧ Fr g L h m ∧ News g L h ((it, o) :: news) ∧ h.IsListIter it l i ∧ (∀ q ∈ news, q.1 ≠ it) ∧ L < it ∧ g.get? it = none
section
variable {P : Nat → (Str → Option Value) → List (Addr × Obj) → Prop} {g h' : Heap} {L l it : Addr} {s₀ s' : Shared} {i : Nat}
theorem JG.start {h : Heap} {tk : Nat} {m : Str → Option Value} {news : List (Addr × Obj)} (hP : P 0 m news) (F : Fr g L h m) (N : News g L h news) : JG P g L l s₀ h.objs.size 0 { s₀ with heap := h.push (iterObj l 0), toks := tk } :=
 ⟨h.push (iterObj l 0), tk, m, news, iterObj l 0, rfl, hP, F.push _, N.push F _, ⟨_, Heap.get?_push_size _ rfl, rfl, rfl⟩, fun q hq => Nat.ne_of_lt (Heap.lt_size (N q hq).1), F.ns.lt, (N.push F (iterObj l 0) rfl (h.objs.size, iterObj l 0) (.head _)).2.2⟩
theorem JG.at (H : JG P g L l s₀ it i s') : s'.heap.IsListIter it l i ∧ ∃ m news, P i m news ∧ Fr g L s'.heap m ∧ News g L s'.heap news := by
 refine hideP fun B9 k9 => ?_
 obtain ⟨h, tk, m, news, o, rfl, hP, F, N, hi, l1, l2, gi⟩ := H
 refine k9 ?_; clear k9
 exact ⟨hi, m, news, hP, F, news_drop 1 N⟩
theorem JG.next (H : JG P g L l s₀ it i s') (hi : h'.IsListIter it l (i + 1)) (hsb : Heap.SameBut it s'.heap h') :
  ∃ m news o' tk, { s' with heap := h' } = { s₀ with heap := h', toks := tk } ∧ P i m news ∧ Fr g L h' m ∧ News g L h' ((it, o') :: news) ∧ (∀ q ∈ news, q.1 ≠ it) ∧ L < it ∧ ∀ s₃, LoopEndG (P (i + 1)) g L it o' s₀ s₃ → JG P g L l s₀ it (i + 1) s₃ := by
 refine hideP fun B9 k9 => ?_
 obtain ⟨h, tk, m, news, o, rfl, hP, F, N, hi0, l1, l2, gi⟩ := H
 obtain ⟨o', ho', hoc, hod⟩ := hi
 refine k9 ?_; clear k9
 refine ⟨m, news, o', tk, rfl, hP, JK.fr F l2 gi hsb.extBut, fun q hq => ?_, l1, l2, fun s₃ H => ?_⟩
 ·rcases List.mem_cons.mp hq with rfl | hq
  ·exact ⟨ho', Nat.ne_of_gt l2, gi⟩
  ·have := N q (.tail _ hq)
   exact ⟨hsb.extBut _ _ (l1 q hq) this.1, this.2⟩
 ·refine hideP fun B9 k9 => ?_
  obtain ⟨h'', tk'', m'', news'', rfl, hP'', F'', N'', l1'⟩ := H
  refine k9 ?_; clear k9
  exact ⟨h'', tk'', m'', news'', o', rfl, hP'', F'', N'', ⟨o', (N'' (it, o') (.head _)).1, hoc, hod⟩, l1', l2, gi⟩
theorem JG.stop (H : JG P g L l s₀ it i s') (k : ∀ b o, b ≠ it → s'.heap.get? b = some o → h'.get? b = some o) :
  ∃ m news tk, { s' with heap := h' } = { s₀ with heap := h', toks := tk } ∧ P i m news ∧ Fr g L h' m ∧ News g L h' news := by
 refine hideP fun B9 k9 => ?_
 obtain ⟨h, tk, m, news, o, rfl, hP, F, N, hi0, l1, l2, gi⟩ := H
 refine k9 ?_; clear k9
 exact ⟨m, news, tk, rfl, hP, JK.fr F l2 gi k, fun q hq => ⟨k _ _ (l1 q hq) (N q (.tail _ hq)).1, (N q (.tail _ hq)).2⟩⟩
end
section
variable {p : Program} {w : World} {A : Around} {E : Value → Shared → Prop} {env : Env}
theorem b_forL {b : Bool} {t iter : Expr} {body : List Stmt} {pos : Pos} {s : Shared} {J : Addr → List Value → Addr → Nat → Shared → Prop} {Q : Flow → Shared → Prop} (hh : A.handled = none) (ht : ∀ it v, letOwnedTupleGo t (.ref it) v = pure ())
  (start : wpAny (model p w) A (eval iter env) (fun x s₁ => ∃ l vs, x = .ref l ∧ s₁.heap.IsList l vs.toArray ∧ J l vs s₁.heap.objs.size 0 { s₁ with heap := s₁.heap.push (iterObj l 0) }) E s)
  (facts : ∀ l vs it i s, J l vs it i s → s.heap.IsListIter it l i ∧ s.heap.IsList l vs.toArray)
  (turn : ∀ l vs it i v s h', J l vs it i s → vs[i]? = some v → h'.IsListIter it l (i + 1) → Heap.SameBut it s.heap h' →
   wpAny (model p w) A (assign t env v) (fun _ s₂ => wpB b (model p w) A (execs body env) (fun f s₃ => match f with | .next | .cont => J l vs it (i + 1) s₃ | .brk => Q .next s₃ | .ret v => Q (.ret v) s₃) (fun _ _ => False) s₂) (fun _ _ => False) { s with heap := h' })
  (done : ∀ l vs it s h', J l vs it vs.length s → (∀ b o, b ≠ it → s.heap.get? b = some o → h'.get? b = some o) → Q .next { s with heap := h' })
  (hs : ∀ x, foldedSetIterable iter env x = pure x := by intro _; rfl) :
  wpB b (model p w) A (exec (.For t iter body [] pos) env) Q E s := by
 rw [exec_For]
 refine b_bind (b_stand (b_bind (b_any (wpAny_mono start (fun x s₁ h₁ => ?_) fun _ _ z => z))))
 refine hideP fun B9 k9 => ?_
 obtain ⟨l, vs, rfl, hl, hJ⟩ := h₁
 refine k9 ?_; clear k9
 refine b_bind (b_any (wpAny_of_eq (hs _) ?_))
 refine b_bind (b_stand (b_bind (b_holding (b_any (wpAny_pyIter_list hl ?_)))))
 unfold runOwn
 refine b_onRaise (b_run (b_codeMono (b_loop (vs := vs) (l := l) (J := J l vs s₁.heap.objs.size) hh (ht _) (facts _ _ _) (turn _ _ _) (done _ _ _) vs.length 0 _ rfl (Nat.zero_le _) hJ) fun r s' z => ?_))
 cases r with
 | ok f => exact z
 | error e => exact z.elim
theorem a_forL {t iter : Expr} {body : List Stmt} {pos : Pos} {s : Shared} {J : Addr → List Value → Addr → Nat → Shared → Prop} {Q : Flow → Shared → Prop} (hh : A.handled = none) (ht : ∀ it v, letOwnedTupleGo t (.ref it) v = pure ())
  (start : wpAny (model p w) A (eval iter env) (fun x s₁ => ∃ l vs, x = .ref l ∧ s₁.heap.IsList l vs.toArray ∧ J l vs s₁.heap.objs.size 0 { s₁ with heap := s₁.heap.push (iterObj l 0) }) E s)
  (facts : ∀ l vs it i s, J l vs it i s → s.heap.IsListIter it l i ∧ s.heap.IsList l vs.toArray)
  (turn : ∀ l vs it i v s h', J l vs it i s → vs[i]? = some v → h'.IsListIter it l (i + 1) → Heap.SameBut it s.heap h' →
   wpAny (model p w) A (assign t env v) (fun _ s₂ => wpAny (model p w) A (execs body env) (fun f s₃ => match f with | .next | .cont => J l vs it (i + 1) s₃ | .brk => Q .next s₃ | .ret v => Q (.ret v) s₃) (fun _ _ => False) s₂) (fun _ _ => False) { s with heap := h' })
  (done : ∀ l vs it s h', J l vs it vs.length s → (∀ b o, b ≠ it → s.heap.get? b = some o → h'.get? b = some o) → Q .next { s with heap := h' })
  (hs : ∀ x, foldedSetIterable iter env x = pure x := by intro _; rfl) :
  wpAny (model p w) A (exec (.For t iter body [] pos) env) Q E s :=
 b_forL (b := false) hh ht start facts turn done hs
theorem x_forL {t iter : Expr} {body : List Stmt} {pos : Pos} {s : Shared} {J : Addr → List Value → Addr → Nat → Shared → Prop} {Q : Flow → Shared → Prop} (hh : A.handled = none) (ht : ∀ it v, letOwnedTupleGo t (.ref it) v = pure ())
  (start : wpAny (model p w) A (eval iter env) (fun x s₁ => ∃ l vs, x = .ref l ∧ s₁.heap.IsList l vs.toArray ∧ J l vs s₁.heap.objs.size 0 { s₁ with heap := s₁.heap.push (iterObj l 0) }) E s)
  (facts : ∀ l vs it i s, J l vs it i s → s.heap.IsListIter it l i ∧ s.heap.IsList l vs.toArray)
  (turn : ∀ l vs it i v s h', J l vs it i s → vs[i]? = some v → h'.IsListIter it l (i + 1) → Heap.SameBut it s.heap h' →
   wpAny (model p w) A (assign t env v) (fun _ s₂ => wpX (model p w) A (execs body env) (fun f s₃ => match f with | .next | .cont => J l vs it (i + 1) s₃ | .brk => Q .next s₃ | .ret v => Q (.ret v) s₃) (fun _ _ => False) s₂) (fun _ _ => False) { s with heap := h' })
  (done : ∀ l vs it s h', J l vs it vs.length s → (∀ b o, b ≠ it → s.heap.get? b = some o → h'.get? b = some o) → Q .next { s with heap := h' })
  (hs : ∀ x, foldedSetIterable iter env x = pure x := by intro _; rfl) :
  wpX (model p w) A (exec (.For t iter body [] pos) env) Q E s :=
 b_forL (b := true) hh ht start facts turn done hs
theorem a_forG {t iter : Expr} {body : List Stmt} {pos : Pos} {s s₀ : Shared} {Q : Flow → Shared → Prop} {g : Heap} {L : Addr}
  (P : Addr → List Value → Nat → (Str → Option Value) → List (Addr × Obj) → Prop) (hh : A.handled = none) (ht : ∀ it v, letOwnedTupleGo t (.ref it) v = pure ()) (hg : ∀ l vs i m news h, P l vs i m news → Fr g L h m → News g L h news → h.IsList l vs.toArray)
  (start : wpAny (model p w) A (eval iter env) (LoopStartG (fun l vs => P l vs 0) g L s₀) E s)
  (turn : ∀ l vs i v m news it o h tk, vs[i]? = some v → P l vs i m news → Fr g L h m → News g L h ((it, o) :: news) → (∀ q ∈ news, q.1 ≠ it) → L < it →
   wpAny (model p w) A (assign t env v) (fun _ s₂ => wpAny (model p w) A (execs body env) (fun f s₃ => match f with | .next | .cont => LoopEndG (P l vs (i + 1)) g L it o s₀ s₃ | .brk => Q .next s₃ | .ret v => Q (.ret v) s₃) (fun _ _ => False) s₂) (fun _ _ => False) { s₀ with heap := h, toks := tk })
  (done : ∀ l vs m news h tk, P l vs vs.length m news → Fr g L h m → News g L h news → Q .next { s₀ with heap := h, toks := tk })
  (hs : ∀ x, foldedSetIterable iter env x = pure x := by intro _; rfl) : wpAny (model p w) A (exec (.For t iter body [] pos) env) Q E s := by
 refine a_forL (J := fun l vs it i s' => JG (P l vs) g L l s₀ it i s') hh ht (wpAny_mono start (fun x s₁ h => ?_) fun _ _ z => z) (fun l vs it i s' h => ?_) (fun l vs it i v s' h' hJ hv hi hsb => ?_) (fun l vs it s' h' hJ k => ?_) hs
 ·refine hideP fun B9 k9 => ?_
  obtain ⟨l, vs, rfl, h, tk, m, news, rfl, hP, F, N⟩ := h
  refine k9 ?_; clear k9
  exact ⟨l, vs, rfl, hg _ _ _ _ _ _ hP F N, JG.start hP F N⟩
 ·refine hideP fun B9 k9 => ?_
  obtain ⟨a, m, news, hP, F, N⟩ := h.at
  refine k9 ?_; clear k9
  exact ⟨a, hg _ _ _ _ _ _ hP F N⟩
 ·refine hideP fun B9 k9 => ?_
  obtain ⟨m, news, o', tk, e, hP, F', N', l1, l2, fin⟩ := JG.next hJ hi hsb
  refine k9 ?_; clear k9
  rw [e]
  refine wpAny_mono (turn l vs i v m news it o' h' tk hv hP F' N' l1 l2) (fun _ s₂ h₂ => wpAny_mono h₂ (fun f s₃ h₃ => ?_) fun _ _ z => z) fun _ _ z => z
  cases f with
  | next => exact fin _ h₃
  | cont => exact fin _ h₃
  | brk => exact h₃
  | ret v => exact h₃
 ·refine hideP fun B9 k9 => ?_
  obtain ⟨m, news, tk, e, hP, F', N'⟩ := JG.stop hJ k
  refine k9 ?_; clear k9
  rw [e]
  exact done l vs m news h' tk hP F' N'
theorem x_forG {t iter : Expr} {body : List Stmt} {pos : Pos} {s s₀ : Shared} {Q : Flow → Shared → Prop} {g : Heap} {L : Addr}
  (P : Addr → List Value → Nat → (Str → Option Value) → List (Addr × Obj) → Prop) (hh : A.handled = none) (ht : ∀ it v, letOwnedTupleGo t (.ref it) v = pure ()) (hg : ∀ l vs i m news h, P l vs i m news → Fr g L h m → News g L h news → h.IsList l vs.toArray)
  (start : wpAny (model p w) A (eval iter env) (LoopStartG (fun l vs => P l vs 0) g L s₀) E s)
  (turn : ∀ l vs i v m news it o h tk, vs[i]? = some v → P l vs i m news → Fr g L h m → News g L h ((it, o) :: news) → (∀ q ∈ news, q.1 ≠ it) → L < it →
   wpAny (model p w) A (assign t env v) (fun _ s₂ => wpX (model p w) A (execs body env) (fun f s₃ => match f with | .next | .cont => LoopEndG (P l vs (i + 1)) g L it o s₀ s₃ | .brk => Q .next s₃ | .ret v => Q (.ret v) s₃) (fun _ _ => False) s₂) (fun _ _ => False) { s₀ with heap := h, toks := tk })
  (done : ∀ l vs m news h tk, P l vs vs.length m news → Fr g L h m → News g L h news → Q .next { s₀ with heap := h, toks := tk })
  (hs : ∀ x, foldedSetIterable iter env x = pure x := by intro _; rfl) : wpX (model p w) A (exec (.For t iter body [] pos) env) Q E s := by
 refine x_forL (J := fun l vs it i s' => JG (P l vs) g L l s₀ it i s') hh ht (wpAny_mono start (fun x s₁ h => ?_) fun _ _ z => z) (fun l vs it i s' h => ?_) (fun l vs it i v s' h' hJ hv hi hsb => ?_) (fun l vs it s' h' hJ k => ?_) hs
 ·refine hideP fun B9 k9 => ?_
  obtain ⟨l, vs, rfl, h, tk, m, news, rfl, hP, F, N⟩ := h
  refine k9 ?_; clear k9
  exact ⟨l, vs, rfl, hg _ _ _ _ _ _ hP F N, JG.start hP F N⟩
 ·refine hideP fun B9 k9 => ?_
  obtain ⟨a, m, news, hP, F, N⟩ := h.at
  refine k9 ?_; clear k9
  exact ⟨a, hg _ _ _ _ _ _ hP F N⟩
 ·refine hideP fun B9 k9 => ?_
  obtain ⟨m, news, o', tk, e, hP, F', N', l1, l2, fin⟩ := JG.next hJ hi hsb
  refine k9 ?_; clear k9
  rw [e]
  refine wpAny_mono (turn l vs i v m news it o' h' tk hv hP F' N' l1 l2) (fun _ s₂ h₂ => x_mono h₂ (fun f s₃ h₃ => ?_) fun _ _ z => z) fun _ _ z => z
  cases f with
  | next => exact fin _ h₃
  | cont => exact fin _ h₃
  | brk => exact h₃
  | ret v => exact h₃
 ·refine hideP fun B9 k9 => ?_
  obtain ⟨m, news, tk, e, hP, F', N'⟩ := JG.stop hJ k
  refine k9 ?_; clear k9
  rw [e]
  exact done l vs m news h' tk hP F' N'
end
end
section
def MadeSt (h0 : Heap) (r : Value) (h' : Heap) : Prop := ∃ S : SSt, r = .ref S.a ∧ Has S.frag h' ∧ S.Ok ∧ S.outs.length ≤ 3 ∧ (keys S.frag).Nodup ∧ ∀ p ∈ S.frag, h0.get? p.1 = none
abbrev stM (v0 v1 v2 : Option Value) (insA : Addr) (m₀ : Str → Option Value) : Str → Option Value := fun y => if y = Str.ofString "place" then v0 else if y = Str.ofString "sequence" then v1 else if y = Str.ofString "number" then v2 else if y = Str.ofString "ins" then some (.ref insA) else m₀ y
def StP (insA : Addr) (m₀ : Str → Option Value) (l : Addr) (vs : List Value) (j : Nat) (m : Str → Option Value) (news : List (Addr × Obj)) : Prop :=
 ∃ v0 v1 v2 n rest, ∃ rows : List SRow, ∃ zs : List Int, (∀ y, m y = stM v0 v1 v2 insA m₀ y) ∧ news = (l, listOf vs.toArray 0) :: (insA, listOf (rows.map fun r => Value.ref r.a).toArray n) :: rest ∧ @LT.lt Nat _ insA l ∧ (∀ p ∈ rest, @LT.lt Nat _ l p.1) ∧
  (∀ r ∈ rows, (r.a, r.obj) ∈ rest ∧ r.Ok) ∧ rows.length = j ∧ (rows.map (·.a)).Nodup ∧ IntsAre vs zs ∧ 1 ≤ vs.length ∧ vs.length ≤ 3
theorem st_add {g h : Heap} {L insA l it x : Addr} {o : Obj} {n j tk : Nat} {m₀ : Str → Option Value} {v0 v1 v2 : Option Value} {a0 a1 a2 : Value} {rest : List (Addr × Obj)} {rows : List SRow} {vs : List Value} {zs : List Int} {s₀ : Shared} {pi qi : Int} {t1 t2 t3 t4 : Tok} {tx sc : Array UInt8}
  (F : Fr g L h (fun y => if y = Str.ofString "place" then some a0 else if y = Str.ofString "sequence" then some a1 else if y = Str.ofString "number" then some a2 else stM v0 v1 v2 insA m₀ y)) (N : News g L h ((x, listOf #[.bytes tx t1, .int pi t2, .bytes sc t3, .int qi t4] 0) :: (it, o) :: (l, listOf vs.toArray 0) :: (insA, listOf ((rows.map fun r : SRow => Value.ref r.a) ++ [Value.ref x]).toArray (n + 1)) :: rest))
  (l1 : ∀ q ∈ (l, listOf vs.toArray 0) :: (insA, listOf (rows.map fun r : SRow => Value.ref r.a).toArray n) :: rest, q.1 ≠ it) (lq : @LT.lt Nat _ it x ∧ @LT.lt Nat _ l x ∧ @LT.lt Nat _ insA x ∧ AllLt x rest) (o1 : @LT.lt Nat _ insA l) (o2 : ∀ p ∈ rest, @LT.lt Nat _ l p.1) (hrows : ∀ r ∈ rows, (r.a, r.obj) ∈ rest ∧ r.Ok) (hlen : rows.length = j) (hnd : (rows.map (·.a)).Nodup)
  (hI : IntsAre vs zs) (hz1 : 1 ≤ vs.length) (hz3 : vs.length ≤ 3) (p0 : 0 ≤ pi) (p1 : pi < 4294967296) (q0 : 0 ≤ qi) (q1 : qi < 4294967296) (hx : tx.size = 32) (hs : sc.size ≤ 255) :
  LoopEndG (StP insA m₀ l vs (j + 1)) g L it o s₀ { s₀ with heap := h, toks := tk } := by
 obtain ⟨p, rfl⟩ : ∃ p : Nat, pi = p := ⟨pi.toNat, (Int.toNat_of_nonneg p0).symm⟩
 obtain ⟨q, rfl⟩ : ∃ q : Nat, qi = q := ⟨qi.toNat, (Int.toNat_of_nonneg q0).symm⟩
 have hm : ∀ y, (if y = Str.ofString "place" then some a0 else if y = Str.ofString "sequence" then some a1 else if y = Str.ofString "number" then some a2 else stM v0 v1 v2 insA m₀ y) = stM (some a0) (some a1) (some a2) insA m₀ y :=
  m3_a (m3_b (by decide) (m3_c (by decide) (by decide) fun _ => rfl))
 refine ⟨h, tk, _, _, rfl, ⟨some a0, some a1, some a2, n + 1, (x, listOf #[.bytes tx t1, .int (p : Int) t2, .bytes sc t3, .int (q : Int) t4] 0) :: rest, rows ++ [⟨x, 0, t1, t2, t3, t4, tx, p, sc, q⟩], zs, hm, rfl, o1, ?_, ?_, by rw [List.length_append, hlen]; rfl, ?_, hI, hz1, hz3⟩, F, ?_, ?_⟩
 ·intro r hr
  rcases List.mem_cons.mp hr with hr | hr
  ·rw [hr]; exact lq.2.1
  ·exact o2 r hr
 ·intro r hr
  rcases List.mem_append.mp hr with hr | hr
  ·exact ⟨.tail _ (hrows r hr).1, (hrows r hr).2⟩
  ·rw [List.mem_singleton.mp hr]
   exact ⟨.head _, ⟨by show p < 4294967296; omega, by show q < 4294967296; omega, hs, hx⟩⟩
 ·rw [List.map_append]
  refine List.nodup_append.mpr ⟨hnd, by simp, fun b hb c hc e => ?_⟩
  obtain ⟨r, hr, e1⟩ := List.mem_map.mp hb
  have e2 : c = x := by simpa using hc
  have := allLt_mem lq.2.2.2 _ (hrows r hr).1
  rw [e1, e, e2] at this
  exact absurd this (Nat.lt_irrefl _)
 ·rw [List.map_append]
  refine news_sub N ?_
  intro r hr
  simp only [List.mem_cons, List.map_cons, List.map_nil] at hr ⊢
  rcases hr with hr | hr | hr | hr | hr <;> simp [hr]
 ·intro r hr
  rcases List.mem_cons.mp hr with hr | hr
  ·rw [hr]; exact l1 _ (.head _)
  rcases List.mem_cons.mp hr with hr | hr
  ·rw [hr]; exact l1 (insA, listOf (rows.map fun r : SRow => Value.ref r.a).toArray n) (.tail _ (.head _))
  rcases List.mem_cons.mp hr with hr | hr
  ·rw [hr]; exact Nat.ne_of_gt lq.1
  ·exact l1 _ (.tail _ (.tail _ hr))
def soP (vs : List Value) (i : Nat) (ys : List Value) (rest : List (Addr × Obj)) : Prop := ∃ outs : List SOut, ys = outs.map (fun r => Value.ref r.a) ∧ outs.length = i ∧ (∀ r ∈ outs, (r.a, r.obj) ∈ rest ∧ r.Ok) ∧ (outs.map (·.a)).Nodup
def soZ (led : List (Addr × Obj)) (vs : List Value) (news : List (Addr × Obj)) : Prop := ∃ zs D0, IntsAre vs zs ∧ vs.length ≤ 3 ∧ news = (D0, listOf vs.toArray 0) :: led
theorem so_end {g h : Heap} {C I D x : Addr} {oI : Obj} {n j tk : Nat} {m : Str → Option Value} {rest : List (Addr × Obj)} {vs ys : List Value} {s₀ : Shared} {pi : Int} {t1 t3 : Tok} {sc : Array UInt8}
  (hP : soP vs j ys rest) (F : Fr g C h m) (N : News g C h ((x, listOf #[.int pi t1, .bytes sc t3] 0) :: (I, oI) :: (D, listOf ys.toArray n) :: rest))
  (hr : ∀ p ∈ rest, p.1 ≠ I ∧ p.1 ≠ D) (lq : @LT.lt Nat _ I x ∧ @LT.lt Nat _ D x ∧ AllLt x rest) (p0 : 0 ≤ pi) (p1 : pi < 18446744073709551616) (hs : sc.size ≤ 255) :
  EltEnd (soP vs (j + 1)) g C I oI D ys n s₀ (.ref x) { s₀ with heap := h, toks := tk } := by
 obtain ⟨p, rfl⟩ : ∃ p : Nat, pi = p := ⟨pi.toNat, (Int.toNat_of_nonneg p0).symm⟩
 obtain ⟨outs, rfl, hlen, hrows, hnd⟩ := hP
 refine ⟨h, tk, m, (x, listOf #[.int (p : Int) t1, .bytes sc t3] 0) :: rest, rfl, F, news_sub N ?_, ?_, outs ++ [⟨x, 0, t1, t3, p, sc⟩], by rw [List.map_append]; rfl, by rw [List.length_append, hlen]; rfl, ?_, ?_⟩
 ·intro r hr
  simp only [List.mem_cons] at hr ⊢
  rcases hr with hr | hr | hr | hr <;> simp [hr]
 ·intro r hr'
  rcases List.mem_cons.mp hr' with hr' | hr'
  ·rw [hr']; exact ⟨Nat.ne_of_gt lq.1, Nat.ne_of_gt lq.2.1⟩
  ·exact hr r hr'
 ·intro r hr
  rcases List.mem_append.mp hr with hr | hr
  ·exact ⟨.tail _ (hrows r hr).1, (hrows r hr).2⟩
  ·rw [List.mem_singleton.mp hr]
   exact ⟨.head _, ⟨by show p < 18446744073709551616; omega, hs⟩⟩
 ·rw [List.map_append]
  refine List.nodup_append.mpr ⟨hnd, by simp, fun b hb c hc e => ?_⟩
  obtain ⟨r, hr, e1⟩ := List.mem_map.mp hb
  have e2 : c = x := by simpa using hc
  have := allLt_mem lq.2.2 _ (hrows r hr).1
  rw [e1, e, e2] at this
  exact absurd this (Nat.lt_irrefl _)
theorem madeSt_end {s : Shared} {g h : Heap} {L sa insA D l1 D0 : Addr} {n1 n2 j : Nat} {ver lock : Int} {tv tl : Tok} {rows : List SRow} {ys vs1 vs2 : List Value} {rest1 rest2 : List (Addr × Obj)}
  (sub0 : ∀ b o, s.heap.get? b = some o → g.get? b = some o) (hP : soP vs2 j ys rest2) (hj : j ≤ 3) (hrows : ∀ r ∈ rows, (r.a, r.obj) ∈ rest1 ∧ r.Ok) (hr1 : 1 ≤ rows.length) (hr3 : rows.length ≤ 3) (hnd : (rows.map (·.a)).Nodup)
  (N : News g L h ((sa, listOf #[.int ver tv, .ref insA, .ref D, .int lock tl] 0) :: (D, listOf ys.toArray n2) :: (rest2 ++ (D0, listOf vs2.toArray 0) :: (l1, listOf vs1.toArray 0) :: (insA, listOf (rows.map fun r => Value.ref r.a).toArray n1) :: rest1)))
  (ll : @LT.lt Nat _ D sa ∧ AllLt sa (rest2 ++ (D0, listOf vs2.toArray 0) :: (l1, listOf vs1.toArray 0) :: (insA, listOf (rows.map fun r => Value.ref r.a).toArray n1) :: rest1))
  (o1 : @LT.lt Nat _ insA l1) (o2 : ∀ p ∈ rest1, @LT.lt Nat _ l1 p.1) (p2 : ∀ p ∈ (D0, listOf vs2.toArray 0) :: (l1, listOf vs1.toArray 0) :: (insA, listOf (rows.map fun r => Value.ref r.a).toArray n1) :: rest1, @LT.lt Nat _ p.1 D) (p4 : ∀ p ∈ rest2, p.1 ≠ D)
  (p5 : ∀ p ∈ rest2, ∀ q ∈ (D0, listOf vs2.toArray 0) :: (l1, listOf vs1.toArray 0) :: (insA, listOf (rows.map fun r => Value.ref r.a).toArray n1) :: rest1, p.1 ≠ q.1)
  (v0 : 0 ≤ ver) (v1 : ver < 4294967296) (w0 : 0 ≤ lock) (w1 : lock < 4294967296) : MadeSt s.heap (.ref sa) h := by
 obtain ⟨p, rfl⟩ : ∃ p : Nat, ver = p := ⟨ver.toNat, (Int.toNat_of_nonneg v0).symm⟩
 obtain ⟨q, rfl⟩ : ∃ q : Nat, lock = q := ⟨lock.toNat, (Int.toNat_of_nonneg w0).symm⟩
 obtain ⟨outs, rfl, hlen, houts, hndo⟩ := hP
 have mins : (insA, listOf (rows.map fun r => Value.ref r.a).toArray n1) ∈ (D0, listOf vs2.toArray 0) :: (l1, listOf vs1.toArray 0) :: (insA, listOf (rows.map fun r => Value.ref r.a).toArray n1) :: rest1 := .tail _ (.tail _ (.head _))
 have m1 : ∀ r ∈ rows, (r.a, r.obj) ∈ (D0, listOf vs2.toArray 0) :: (l1, listOf vs1.toArray 0) :: (insA, listOf (rows.map fun r => Value.ref r.a).toArray n1) :: rest1 := fun r hr => .tail _ (.tail _ (.tail _ (hrows r hr).1))
 let S : SSt := ⟨sa, 0, insA, n1, D, n2, tv, tl, p, q, rows, outs⟩
 have mem : ∀ x ∈ S.frag, x ∈ (sa, listOf #[.int (p : Int) tv, .ref insA, .ref D, .int (q : Int) tl] 0) :: (D, listOf (outs.map fun r => Value.ref r.a).toArray n2) :: (rest2 ++ (D0, listOf vs2.toArray 0) :: (l1, listOf vs1.toArray 0) :: (insA, listOf (rows.map fun r => Value.ref r.a).toArray n1) :: rest1) := fun x hx => by
  rcases List.mem_cons.mp hx with hx | hx
  ·rw [hx]; exact .head _
  rcases List.mem_cons.mp hx with hx | hx
  ·rw [hx]; exact .tail _ (.tail _ (List.mem_append_right _ mins))
  rcases List.mem_cons.mp hx with hx | hx
  ·rw [hx]; exact .tail _ (.head _)
  rcases List.mem_append.mp hx with hx | hx
  ·obtain ⟨r, hr, e⟩ := List.mem_map.mp hx
   rw [← e]; exact .tail _ (.tail _ (List.mem_append_right _ (m1 r hr)))
  ·obtain ⟨r, hr, e⟩ := List.mem_map.mp hx
   rw [← e]; exact .tail _ (.tail _ (List.mem_append_left _ (houts r hr).1))
 refine ⟨S, rfl, Has.of fun x m => (N x (mem x m)).1, ⟨by show p < 4294967296; omega, by show q < 4294967296; omega, hr1, hr3, by show outs.length ≤ 20; omega, fun r m => (hrows r m).2, fun r m => (houts r m).2⟩, by show outs.length ≤ 3; omega, ?_, fun x m => fresh_mem sub0 N (mem x m)⟩
 have hi : ∀ x ∈ S.frag, x.1 ≠ sa → @LT.lt Nat _ x.1 sa := fun x hx ne => by
  rcases List.mem_cons.mp (mem x hx) with hx | hx
  ·exact absurd (by rw [hx]) ne
  rcases List.mem_cons.mp hx with hx | hx
  ·rw [hx]; exact ll.1
  ·exact allLt_mem ll.2 x hx
 show (sa :: insA :: D :: keys (rows.map (fun r => (r.a, r.obj)) ++ outs.map (fun r => (r.a, r.obj)))).Nodup
 rw [keys_append, show keys (rows.map fun r => (r.a, r.obj)) = rows.map (·.a) by simp [keys, Function.comp_def], show keys (outs.map fun r => (r.a, r.obj)) = outs.map (·.a) by simp [keys, Function.comp_def]]
 refine List.nodup_cons.mpr ⟨fun hm => ?_, List.nodup_cons.mpr ⟨fun hm => ?_, List.nodup_cons.mpr ⟨fun hm => ?_, List.nodup_append.mpr ⟨hnd, hndo, fun b hb c hc e => ?_⟩⟩⟩⟩
 ·have z : @LT.lt Nat _ sa sa := by
   rcases List.mem_cons.mp hm with e | hm
   ·have := allLt_mem ll.2 _ (List.mem_append_right _ mins); rw [e]; rw [e] at this; exact this
   rcases List.mem_cons.mp hm with e | hm
   ·have := ll.1; rw [e]; rw [e] at this; exact this
   rcases List.mem_append.mp hm with hm | hm
   ·obtain ⟨r, hr, e⟩ := List.mem_map.mp hm
    have := allLt_mem ll.2 _ (List.mem_append_right _ (m1 r hr)); rw [← e] at this ⊢; exact this
   ·obtain ⟨r, hr, e⟩ := List.mem_map.mp hm
    have := allLt_mem ll.2 _ (List.mem_append_left _ (houts r hr).1); rw [← e] at this ⊢; exact this
  exact Nat.lt_irrefl _ z
 ·rcases List.mem_cons.mp hm with e | hm
  ·have := p2 _ mins; rw [e] at this; exact Nat.lt_irrefl _ this
  rcases List.mem_append.mp hm with hm | hm
  ·obtain ⟨r, hr, e⟩ := List.mem_map.mp hm
   have := Nat.lt_trans o1 (o2 _ (hrows r hr).1)
   rw [show r.a = insA from e] at this; exact Nat.lt_irrefl _ this
  ·obtain ⟨r, hr, e⟩ := List.mem_map.mp hm
   exact p5 _ (houts r hr).1 _ mins e
 ·rcases List.mem_append.mp hm with hm | hm
  ·obtain ⟨r, hr, e⟩ := List.mem_map.mp hm
   have := p2 _ (m1 r hr)
   rw [show r.a = D from e] at this; exact Nat.lt_irrefl _ this
  ·obtain ⟨r, hr, e⟩ := List.mem_map.mp hm
   exact p4 _ (houts r hr).1 e
 ·obtain ⟨r, hr, e1⟩ := List.mem_map.mp hb
  obtain ⟨r', hr', e2⟩ := List.mem_map.mp hc
  exact p5 _ (houts r' hr').1 _ (m1 r hr) (by show r'.a = r.a; rw [e1, e2, e])
theorem hk45 : True := by
 k_with "call builtin:len" => (k_here; (with_reducible show wpAny _ _ (PySem.call (Value.builtin "len") [Value.ref _]) _ _ _); (refine len_map (isl_news (by k_asm) (by k_mem)) ?_ ?_); (first | assumption | omega); intro _ _)
 trivial
theorem cut_le {e k n d : Nat} (h : e ≤ k + d) : min (min e n - k) (n - k) ≤ d := Nat.le_trans (Nat.min_le_left _ _) (Nat.sub_le_iff_le_add'.mpr (Nat.le_trans (Nat.min_le_left _ _) h))
theorem cut_ge {e k n c : Nat} (h1 : k + c ≤ e) (h2 : k + c ≤ n) : c ≤ min (min e n - k) (n - k) := Nat.le_min.mpr ⟨Nat.le_sub_of_add_le' (Nat.le_min.mpr ⟨h1, h2⟩), Nat.le_sub_of_add_le' h2⟩
theorem tn_le {z : Int} {m : Nat} (h : z ≤ m) : z.toNat ≤ m := Int.toNat_le.mpr h
theorem tn_a {x b c : Int} (h : x < c + 1) : b + x ≤ b + c := Int.add_le_add_left (Int.le_of_lt_add_one h) b
theorem tn_ge {z : Int} {m : Nat} (h : (m : Int) ≤ z) : m ≤ z.toNat := by have := Int.toNat_of_nonneg (Int.le_trans (Int.natCast_nonneg m) h); omega
section
variable {w : World} {hb : Heap} {mean : ExcName → Option Value} {mg mb : Str → Option Value} {s : Shared}
theorem law_start (G : Gd w hb mean mg mb) (st : St hb s.heap) {cl : Addr} {vs : List Value} {ns : List Int} (hl : s.heap.IsList cl vs.toArray) (hv : IntsAre vs ns) (h9 : 9 ≤ ns.length) (h18 : ns.length ≤ 18) :
  Does w 30 (.ref 1235) [.ref cl] [] s [] (MadeSt s.heap) := by
 walk_at "ir"
 refine' enter (binds := [(Str.ofString "cells", .ref cl)]) G st [] ?hW ?ho ?hcd ?hroom ?hbind ?hloc ?h ?hcell ?hco ?hgen ?hk
 walk_at "kk_enter"
 case hW => intro p hp; cases hp
 walk_at "ig"
 clear l1
 have sub0 : ∀ b o, s.heap.get? b = some o → g.get? b = some o := fun b o e => sub b o e (by simp)
 have gl : g.IsList cl vs.toArray := by obtain ⟨ol, h1, h2⟩ := hl; exact ⟨ol, sub0 _ _ h1, h2⟩
 have hlen : vs.length = ns.length := hv.length
 refine a_exec1 ?_
 k_steps
 change wpAny _ _ (execs _ _) _ _ _
 walk_at "r9"
 obtain ⟨insA, F9, N9⟩ : ∃ insA, Fr g L _ (stM none none none insA (fun y => [(Str.ofString "cells", .ref cl)].reverse.lookup y)) ∧ News g L _ [(insA, listOf #[] 0)] := ⟨_, fr_congr F9 (m3_n rfl rfl rfl), N9⟩
 refine a_exec1 (st := Stmt.For ..) (a_forG (g := g) (L := L) (s₀ := s) (StP insA (fun y => [(Str.ofString "cells", .ref cl)].reverse.lookup y)) rfl (fun _ _ => rfl) ?hg ?start ?turn ?done)
 case hg =>
  intro l vs i m news h p9 F N
  refine hideP fun B9 k9 => ?_
  obtain ⟨v0, v1, v2, n, rest, rows, zs, hm, rfl, _⟩ := p9
  refine k9 ?_; clear k9
  exact isl_news N (.head _)
 case start =>
  k_steps
  walk_at "r8"
  (rename IntsAre _ _ => I8)
  have c0 := Int.fmod_nonneg_of_pos (ns.getD 2 0) (b := 3) (by decide)
  have c1 := Int.fmod_lt_of_pos (ns.getD 2 0) (b := 3) (by decide)
  have c2 := I8.length
  rw [List.length_take, List.length_drop] at c2
  have c3 := Nat.le_trans (Nat.le_of_eq c2) (cut_le (d := 3) (tn_le (tn_a (c := 2) c1)))
  have c4 := Nat.le_trans (cut_ge (k := 3) (c := 1) (tn_ge (Int.le_add_of_nonneg_right c0)) (Nat.le_trans (by decide) h9)) (Nat.le_of_eq c2.symm)
  clear c2
  exact ⟨_, _, rfl, _, _, _, _, rfl, ⟨none, none, none, _, [], [], _, fun _ => rfl, rfl, by assumption, (fun _ h => nomatch h), (fun _ h => nomatch h), rfl, List.nodup_nil, I8, by omega, by omega⟩, F8, N8⟩
 case turn =>
  intro l vs j v m news it o h tk' hv' p9 F' N' l1 l2
  refine hideP fun B9 k9 => ?_
  obtain ⟨v0, v1, v2, n, rest, rows, zs, hm, rfl, o1, o2, hrows, hlen2, hnd, hI, hz1, hz3⟩ := p9
  refine k9 ?_; clear k9
  clear F9 N9
  refine hideP fun B9 k9 => ?_
  obtain ⟨z, t, rfl, _⟩ := hI.at _ _ hv'
  refine k9 ?_; clear k9
  have hjl : j < vs.length := (List.getElem?_eq_some_iff.mp hv').1
  have z0 : 0 ≤ z.fmod (1 * 2 ^ Int.toNat 256) := Int.fmod_nonneg_of_pos _ (by decide +kernel)
  have z1 : z.fmod (1 * 2 ^ Int.toNat 256) < 256 ^ 32 := Int.lt_of_lt_of_le (Int.fmod_lt_of_pos _ (by decide +kernel)) (by decide +kernel)
  have z2 := Int.fmod_nonneg_of_pos z (b := 4) (by decide)
  have z3 := Int.fmod_lt_of_pos z (b := 4) (by decide)
  have F := fr_congr F' hm
  clear F' hm
  have hz : (rows.map fun r => Value.ref r.a).length ≤ 100 := by rw [List.length_map]; first | exact Nat.le_trans (by assumption) (by decide) | omega
  k_steps
  walk_at "r8"
  (rename _ ∧ _ ∧ _ ∧ AllLt _ _ => lq)
  change wpAny _ _ (PySem.call (Value.builtin "list.append") _) _ _ _
  refine append_row F8 N8 (Ne.symm (Nat.ne_of_lt lq.2.2.1)) (Ne.symm (l1 _ (.tail _ (.head _)))) (Ne.symm (Nat.ne_of_lt o1)) (fun p hp => Ne.symm (Nat.ne_of_lt (Nat.lt_trans o1 (o2 p hp)))) hz ?_
  intro h' F' N'
  clear F8 N8
  k_steps
  walk_at "r8"
  refine st_add F8 N8 l1 lq o1 o2 hrows hlen2 hnd hI hz1 hz3 (Int.fmod_nonneg_of_pos _ (by decide)) (Int.fmod_lt_of_pos _ (by decide)) (Int.fmod_nonneg_of_pos _ (by decide)) (Int.fmod_lt_of_pos _ (by decide)) (be_size _ _) ?_
  simp; omega
 case done =>
  intro l vs m news h tk' p9 F' N'
  refine hideP fun B9 k9 => ?_
  obtain ⟨v0, v1, v2, n, rest, rows, zs, hm, rfl, o1, o2, hrows, hlen2, hnd, hI, hz1, hz3⟩ := p9
  refine k9 ?_; clear k9
  clear F9 N9
  (try clear F N)
  have F7 := fr_congr F' hm
  have N7 := N'
  clear F' hm N'
  change wpAny _ _ (execs _ _) _ _ _
  refine a_exec1 (a_compG F7 (s₀ := s) (soZ ((l, listOf vs.toArray 0) :: (insA, listOf (rows.map fun r => Value.ref r.a).toArray n) :: rest)) soP rfl (fun _ _ _ => ⟨[], rfl, rfl, (fun _ h => nomatch h), List.nodup_nil⟩) (fun vs i ys rest z => by obtain ⟨outs, rfl, hl, _⟩ := z; rw [List.length_map]; exact hl) (by decide) (by decide) rfl (by decide) (by decide) ?csa ?cta ?cda (hsw := by with_unfolding_all rfl) (hy := by with_unfolding_all rfl) (hp := by with_unfolding_all rfl) (hL := rfl))
  case csa =>
   k_steps
   walk_at "r8"
   (rename IntsAre _ _ => I8)
   have c0 := Int.fmod_nonneg_of_pos ((ns.getD 2 0).fdiv 3) (b := 4) (by decide)
   have c1 := Int.fmod_lt_of_pos ((ns.getD 2 0).fdiv 3) (b := 4) (by decide)
   have c2 := I8.length
   rw [List.length_take, List.length_drop] at c2
   have c3 := Nat.le_trans (Nat.le_of_eq c2) (cut_le (d := 3) (tn_le (tn_a (c := 3) c1)))
   clear c2
   exact ⟨_, _, _, ⟨_, _, I8, by omega, rfl⟩, rfl, _, _, rfl, F8, N8, isl_news N8 (.head _), by omega⟩
  case cta =>
   intro vs2 news2 j2 v' C I oI D ys n' rst hB h' tk'' m' E' p9 hv' hP F' N' l2 l3 kg kn hr'
   refine hideP fun B9 k9 => ?_
   obtain ⟨zs2, D0, I2, hz2, rfl⟩ := p9
   refine k9 ?_; clear k9
   clear F7 N7 kn
   refine hideP fun B9 k9 => ?_
   obtain ⟨z, t, rfl, _⟩ := I2.at _ _ hv'
   refine k9 ?_; clear k9
   have X2 := Frag.In.keeps X kg
   have T2 := T.keeps kg
   have stg2 : St hb hB := fun b o e => kg b o (stg b o e)
   k_steps
   walk_at "r8"
   change EltEnd _ _ _ _ _ _ _ _ _ _ _
   exact so_end hP F8 N8 hr' (by assumption) (Int.fmod_nonneg_of_pos _ (by decide +kernel)) (Int.lt_of_lt_of_le (Int.fmod_lt_of_pos _ (by decide +kernel)) (by decide +kernel)) (filled_size _)
  case cda =>
   intro vs2 news2 D ys n' rst h' tk'' p9 hP F' N' p2 p3 p4 p5
   refine hideP fun B9 k9 => ?_
   obtain ⟨zs2, D0, I2, hz2, rfl⟩ := p9
   refine k9 ?_; clear k9
   clear F7 N7
   change wpAny _ _ (execs _ _) _ _ _
   k_steps
   walk_at "r8"
   exact leaves F8 fun _ => fun e => hQ _ _ _ e (madeSt_end sub0 hP hz2 hrows (by omega) (by omega) hnd N8 (by assumption) o1 o2 p2 p4 p5 (Int.fmod_nonneg_of_pos _ (by decide)) (Int.fmod_lt_of_pos _ (by decide)) (Int.fmod_nonneg_of_pos _ (by decide)) (Int.fmod_lt_of_pos _ (by decide)))
end
end
section
abbrev TIn.dict (w : World) (a : TIn) : Obj := dictOf [ent w "txid" a.k1 (.bytes a.txid a.t1), ent w "vout" a.k2 (.int (a.vout : Int) a.t2), ent w "script_sig" a.k3 (.ref a.s), ent w "sequence" a.k4 (.int (a.seq : Int) a.t4), ent w "witness" a.k5 (.ref a.wt)] 5
def Turned (w : World) (a : TTx) (S : SSt) (h0 : Heap) (r : Value) (h' : Heap) : Prop :=
 r = .none ∧ ∃ a' S', Two w a' S' h' ∧ a'.x = a.x ∧ S'.a = S.a ∧ S'.outs.length ≤ S.outs.length + 1 ∧ ∀ p ∈ PF w a' S', p.1 ∈ keys (PF w a S) ∨ h0.get? p.1 = none
theorem split_at {α : Type} {x : α} {l : List α} {i : Nat} (h : l[i]? = some x) : ∃ A B, l = A ++ x :: B ∧ A.length = i := by
 obtain ⟨hi, e⟩ := List.getElem?_eq_some_iff.mp h
 exact ⟨l.take i, l.drop (i + 1), by rw [← e, ← List.drop_eq_getElem_cons hi, List.take_append_drop], List.length_take_of_le (Nat.le_of_lt hi)⟩
theorem turned_in {w : World} {a : TTx} {S : SSt} {h0 h' : Heap} {W : List Addr} {i : Nat} {row row' : SRow} {tin tin' : TIn} {lock' : Nat} {tS tA : Tok} (P : Two w a S h0) (e : Ext W h0 h') (hin : S.ins[i]? = some row) (hti : a.ins[i]? = some tin)
  (hra : row'.a = row.a) (htx : tin'.x = tin.x) (htd : tin'.d = tin.d) (hdat : tin'.dat = row'.dat) (hok : row'.Ok) (hl : lock' < 4294967296) (hfr : ∃ tl, tin'.frag w = (tin.x, instObj 1107 tin.d) :: (tin.d, tin'.dict w) :: tl ∧ tin.frag w = (tin.x, instObj 1107 tin.d) :: (tin.d, tin.dict w) :: tl)
  (hW : ∀ b ∈ W, b ∈ [S.a, S.ia, a.x, a.d, a.vi, row.a, tin.x, tin.d])
  (g1 : h'.get? S.a = some (listOf #[.int (S.ver : Int) S.tv, .ref S.ia, .ref S.oa, .int (lock' : Int) tS] S.n)) (g2 : h'.get? S.ia = some (listOf (S.ins.map fun r => Value.ref r.a).toArray S.ni)) (g3 : h'.get? a.x = some (instObj 1061 a.d))
  (g4 : h'.get? a.d = some (TTx.dict w { a with lock := lock', tl := tA, c1 := .none, c2 := .none, c3 := .none })) (g5 : h'.get? a.vi = some (listOf (a.ins.map fun i => Value.ref i.x).toArray a.ni)) (g6 : h'.get? row.a = some row'.obj) (g7 : h'.get? tin.x = some (instObj 1107 tin.d)) (g8 : h'.get? tin.d = some (tin'.dict w)) :
  Turned w a S h0 .none h' := by
 obtain ⟨A, B, hS, hA⟩ := split_at hin
 obtain ⟨C, D, hT, hC⟩ := split_at hti
 obtain ⟨tl, hf', hf⟩ := hfr
 have hdS := P.A.hi
 rw [hS, hT, List.map_append, List.map_append, List.map_cons, List.map_cons] at hdS
 obtain ⟨d1, d2⟩ := List.append_inj hdS (by rw [List.length_map, List.length_map, hA, hC])
 injection d2 with d2 d3
 have r1 : (A ++ row' :: B).map (fun r : SRow => Value.ref r.a) = S.ins.map fun r => Value.ref r.a := by rw [hS]; simp [hra]
 have r2 : (C ++ tin' :: D).map (fun r : TIn => Value.ref r.x) = a.ins.map fun r => Value.ref r.x := by rw [hT]; simp [htx]
 let S' : SSt := { S with ins := A ++ row' :: B, lock := lock', tl := tS }
 let a' : TTx := { a with ins := C ++ tin' :: D, lock := lock', tl := tA, c1 := .none, c2 := .none, c3 := .none }
 have eS : S'.frag = (S.a, listOf #[.int (S.ver : Int) S.tv, .ref S.ia, .ref S.oa, .int (lock' : Int) tS] S.n) :: (S.ia, listOf (S.ins.map fun r => Value.ref r.a).toArray S.ni) :: (S.oa, listOf (S.outs.map fun r => Value.ref r.a).toArray S.no) :: ((A.map (fun r => (r.a, r.obj)) ++ (row.a, row'.obj) :: B.map (fun r => (r.a, r.obj))) ++ S.outs.map (fun r => (r.a, r.obj))) := by
  unfold SSt.frag
  show (S.a, _) :: (S.ia, listOf ((A ++ row' :: B).map fun r : SRow => Value.ref r.a).toArray S.ni) :: _ :: ((A ++ row' :: B).map (fun r => (r.a, r.obj)) ++ _) = _
  rw [r1, List.map_append, List.map_cons, hra]
 have eS0 : S.frag = (S.a, listOf #[.int (S.ver : Int) S.tv, .ref S.ia, .ref S.oa, .int (S.lock : Int) S.tl] S.n) :: (S.ia, listOf (S.ins.map fun r => Value.ref r.a).toArray S.ni) :: (S.oa, listOf (S.outs.map fun r => Value.ref r.a).toArray S.no) :: ((A.map (fun r => (r.a, r.obj)) ++ (row.a, row.obj) :: B.map (fun r => (r.a, r.obj))) ++ S.outs.map (fun r => (r.a, r.obj))) := by
  unfold SSt.frag
  rw [show (S.ins.map fun r => (r.a, r.obj)) = A.map (fun r => (r.a, r.obj)) ++ (row.a, row.obj) :: B.map (fun r => (r.a, r.obj)) by rw [hS, List.map_append, List.map_cons]]
 have eA : a'.frag w = (a.x, instObj 1061 a.d) :: (a.d, TTx.dict w { a with lock := lock', tl := tA, c1 := .none, c2 := .none, c3 := .none }) :: (a.vi, listOf (a.ins.map fun i => Value.ref i.x).toArray a.ni) :: (a.vo, listOf (a.outs.map fun o => Value.ref o.x).toArray a.no) :: ((C.flatMap (TIn.frag w) ++ ((tin.x, instObj 1107 tin.d) :: (tin.d, tin'.dict w) :: tl ++ D.flatMap (TIn.frag w))) ++ a.outs.flatMap (TOut.frag w)) := by
  unfold TTx.frag TTx.low
  show (a.x, _) :: (a.d, _) :: (a.vi, listOf ((C ++ tin' :: D).map fun i : TIn => Value.ref i.x).toArray a.ni) :: _ :: ((C ++ tin' :: D).flatMap (TIn.frag w) ++ _) = _
  rw [r2, List.flatMap_append, List.flatMap_cons, hf']
 have eA0 : a.frag w = (a.x, instObj 1061 a.d) :: (a.d, a.dict w) :: (a.vi, listOf (a.ins.map fun i => Value.ref i.x).toArray a.ni) :: (a.vo, listOf (a.outs.map fun o => Value.ref o.x).toArray a.no) :: ((C.flatMap (TIn.frag w) ++ ((tin.x, instObj 1107 tin.d) :: (tin.d, tin.dict w) :: tl ++ D.flatMap (TIn.frag w))) ++ a.outs.flatMap (TOut.frag w)) := by
  unfold TTx.frag TTx.low
  rw [show a.ins.flatMap (TIn.frag w) = C.flatMap (TIn.frag w) ++ ((tin.x, instObj 1107 tin.d) :: (tin.d, tin.dict w) :: tl ++ D.flatMap (TIn.frag w)) by rw [hT, List.flatMap_append, List.flatMap_cons, hf]]
 have ek : keys (PF w a' S') = keys (PF w a S) := by
  unfold PF
  rw [keys_append, keys_append, eS, eS0, eA, eA0]
  simp [keys]
 have nd : (keys (PF w a' S')).Nodup := by rw [ek]; exact P.nd
 have sub : Sub [S.a, S.ia, a.x, a.d, a.vi, row.a, tin.x, tin.d] (PF w a' S') (PF w a S) := by
  unfold PF
  rw [eS, eS0, eA, eA0]
  refine Sub.app (Sub.turn (by simp) (Sub.cons (Sub.cons (Sub.app (Sub.app Sub.same (Sub.turn (by simp) Sub.same)) Sub.same)))) (Sub.cons (Sub.turn (by simp) (Sub.cons (Sub.cons (Sub.app (Sub.app Sub.same (Sub.app (Sub.cons (Sub.turn (by simp) Sub.same)) Sub.same)) Sub.same)))))
 have mS : ∀ p ∈ S'.frag, p ∈ PF w a' S' := fun p m => List.mem_append_left _ m
 have mA : ∀ p ∈ a'.frag w, p ∈ PF w a' S' := fun p m => List.mem_append_right _ m
 refine ⟨rfl, a', S', ⟨P.H.turn nd e hW (fun b hb => ?_) sub, nd, ⟨P.A.hv, rfl, ?_, P.A.ho⟩, ⟨P.O.hv, hl, ?_, ?_, P.O.n3, fun r m => ?_, P.O.ho⟩, ⟨.inl rfl, .inl rfl, .inl rfl⟩⟩, rfl, rfl, Nat.le_succ _, fun p m => .inl ?_⟩
 ·simp only [List.mem_cons, List.not_mem_nil, or_false] at hb
  rcases hb with rfl | rfl | rfl | rfl | rfl | rfl | rfl | rfl
  ·exact ⟨_, mS _ (by rw [eS]; exact .head _), g1⟩
  ·exact ⟨_, mS _ (by rw [eS]; exact .tail _ (.head _)), g2⟩
  ·exact ⟨_, mA _ (by rw [eA]; exact .head _), g3⟩
  ·exact ⟨_, mA _ (by rw [eA]; exact .tail _ (.head _)), g4⟩
  ·exact ⟨_, mA _ (by rw [eA]; exact .tail _ (.tail _ (.head _))), g5⟩
  ·exact ⟨_, mS _ (by rw [eS]; exact .tail _ (.tail _ (.tail _ (List.mem_append_left _ (List.mem_append_right _ (.head _)))))), g6⟩
  ·exact ⟨_, mA _ (by rw [eA]; exact .tail _ (.tail _ (.tail _ (.tail _ (List.mem_append_left _ (List.mem_append_right _ (.head _))))))), g7⟩
  ·exact ⟨_, mA _ (by rw [eA]; exact .tail _ (.tail _ (.tail _ (.tail _ (List.mem_append_left _ (List.mem_append_right _ (.tail _ (.head _)))))))), g8⟩
 ·show (C ++ tin' :: D).map TIn.dat = (A ++ row' :: B).map SRow.dat
  rw [List.map_append, List.map_append, List.map_cons, List.map_cons, d1, d3, hdat]
 ·show 1 ≤ (A ++ row' :: B).length
  simp; omega
 ·show (A ++ row' :: B).length ≤ 3
  have := P.O.n2
  rw [hS] at this
  simpa using this
 ·have m' : r ∈ A ++ row' :: B := m
  rcases List.mem_append.mp m' with m' | m'
  ·exact P.O.hi r (by rw [hS]; exact List.mem_append_left _ m')
  rcases List.mem_cons.mp m' with m' | m'
  ·rw [m']; exact hok
  ·exact P.O.hi r (by rw [hS]; exact List.mem_append_right _ (.tail _ m'))
 ·rw [← ek]; exact List.mem_map_of_mem m
theorem nd_ne {l : List Addr} (nd : l.Nodup) (i j : Nat) {a b : Addr} (hi : l[i]? = some a) (hj : l[j]? = some b) (ij : i < j) : a ≠ b := by
 obtain ⟨x, rfl⟩ := List.getElem?_eq_some_iff.mp hi
 obtain ⟨y, rfl⟩ := List.getElem?_eq_some_iff.mp hj
 exact List.pairwise_iff_getElem.mp nd i j x y ij
theorem notN {b : Addr} : b ∉ ([] : List (Addr × Obj)).map (·.1) := fun h => nomatch h
theorem notC {a b : Addr} {o : Obj} {l : List (Addr × Obj)} (h : b ≠ a) (k : b ∉ l.map (·.1)) : b ∉ ((a, o) :: l).map (·.1) := fun m => (List.mem_cons.mp m).elim h k
theorem nd8E {a b c d e f g h : Addr} {B : Prop} (nd : @List.Nodup Addr [a, b, c, d, e, f, g, h]) (k : a ≠ b → a ≠ c → a ≠ d → a ≠ e → a ≠ f → a ≠ g → a ≠ h → b ≠ c → b ≠ d → b ≠ e → b ≠ f → b ≠ g → b ≠ h → c ≠ d → c ≠ e → c ≠ f → c ≠ g → c ≠ h → d ≠ e → d ≠ f → d ≠ g → d ≠ h → e ≠ f → e ≠ g → e ≠ h → f ≠ g → f ≠ h → g ≠ h → B) : B :=
 k (nd_ne nd 0 1 rfl rfl (by decide)) (nd_ne nd 0 2 rfl rfl (by decide)) (nd_ne nd 0 3 rfl rfl (by decide)) (nd_ne nd 0 4 rfl rfl (by decide)) (nd_ne nd 0 5 rfl rfl (by decide)) (nd_ne nd 0 6 rfl rfl (by decide)) (nd_ne nd 0 7 rfl rfl (by decide)) (nd_ne nd 1 2 rfl rfl (by decide)) (nd_ne nd 1 3 rfl rfl (by decide)) (nd_ne nd 1 4 rfl rfl (by decide)) (nd_ne nd 1 5 rfl rfl (by decide)) (nd_ne nd 1 6 rfl rfl (by decide)) (nd_ne nd 1 7 rfl rfl (by decide)) (nd_ne nd 2 3 rfl rfl (by decide)) (nd_ne nd 2 4 rfl rfl (by decide)) (nd_ne nd 2 5 rfl rfl (by decide)) (nd_ne nd 2 6 rfl rfl (by decide)) (nd_ne nd 2 7 rfl rfl (by decide)) (nd_ne nd 3 4 rfl rfl (by decide)) (nd_ne nd 3 5 rfl rfl (by decide)) (nd_ne nd 3 6 rfl rfl (by decide)) (nd_ne nd 3 7 rfl rfl (by decide)) (nd_ne nd 4 5 rfl rfl (by decide)) (nd_ne nd 4 6 rfl rfl (by decide)) (nd_ne nd 4 7 rfl rfl (by decide)) (nd_ne nd 5 6 rfl rfl (by decide)) (nd_ne nd 5 7 rfl rfl (by decide)) (nd_ne nd 6 7 rfl rfl (by decide))
theorem nd5E {a b c d e : Addr} {B : Prop} (nd : @List.Nodup Addr [a, b, c, d, e]) (k : a ≠ b → a ≠ c → a ≠ d → a ≠ e → b ≠ c → b ≠ d → b ≠ e → c ≠ d → c ≠ e → d ≠ e → B) : B :=
 k (nd_ne nd 0 1 rfl rfl (by decide)) (nd_ne nd 0 2 rfl rfl (by decide)) (nd_ne nd 0 3 rfl rfl (by decide)) (nd_ne nd 0 4 rfl rfl (by decide)) (nd_ne nd 1 2 rfl rfl (by decide)) (nd_ne nd 1 3 rfl rfl (by decide)) (nd_ne nd 1 4 rfl rfl (by decide)) (nd_ne nd 2 3 rfl rfl (by decide)) (nd_ne nd 2 4 rfl rfl (by decide)) (nd_ne nd 3 4 rfl rfl (by decide))
theorem nd_sub {l l' : List (Addr × Obj)} (h : l'.Sublist l) (nd : (keys l).Nodup) : (keys l').Nodup := List.Pairwise.sublist (h.map (·.1)) nd
theorem sub_flat {α : Type} {f : α → List (Addr × Obj)} {x : α} : ∀ {l : List α}, x ∈ l → (f x).Sublist (l.flatMap f)
 | y :: l, m => by
  rw [List.flatMap_cons]
  rcases List.mem_cons.mp m with m | m
  ·rw [m]; exact List.sublist_append_left _ _
  ·exact (sub_flat m).trans (List.sublist_append_right _ _)
theorem Two.apartI {w : World} {a : TTx} {S : SSt} {h : Heap} {row : SRow} {tin : TIn} (P : Two w a S h) (hr : row ∈ S.ins) (ht : tin ∈ a.ins) : @List.Nodup Addr [S.a, S.ia, row.a, a.x, a.d, a.vi, tin.x, tin.d] := by
 have hs : List.Sublist [(S.a, listOf #[.int (S.ver : Int) S.tv, .ref S.ia, .ref S.oa, .int (S.lock : Int) S.tl] S.n), (S.ia, listOf (S.ins.map fun r => Value.ref r.a).toArray S.ni), (row.a, row.obj)] S.frag :=
  .cons₂ _ (.cons₂ _ (.cons _ (List.singleton_sublist.mpr (List.mem_append_left _ (List.mem_map_of_mem (f := fun r : SRow => (r.a, r.obj)) hr)))))
 have ht0 : List.Sublist [(tin.x, instObj 1107 tin.d), (tin.d, tin.dict w)] (tin.frag w) := .cons₂ _ (.cons₂ _ (List.nil_sublist _))
 have ha : List.Sublist [(a.x, instObj 1061 a.d), (a.d, a.dict w), (a.vi, listOf (a.ins.map fun i => Value.ref i.x).toArray a.ni), (tin.x, instObj 1107 tin.d), (tin.d, tin.dict w)] (a.frag w) :=
  .cons₂ _ (.cons₂ _ (.cons₂ _ (.cons _ (ht0.trans ((sub_flat ht).trans (List.sublist_append_left _ _))))))
 exact nd_sub (hs.append ha) P.nd
theorem Two.apartO {w : World} {a : TTx} {S : SSt} {h : Heap} (P : Two w a S h) : @List.Nodup Addr [S.a, S.oa, a.x, a.d, a.vo] := by
 have hs : List.Sublist [(S.a, listOf #[.int (S.ver : Int) S.tv, .ref S.ia, .ref S.oa, .int (S.lock : Int) S.tl] S.n), (S.oa, listOf (S.outs.map fun r => Value.ref r.a).toArray S.no)] S.frag :=
  .cons₂ _ (.cons _ (.cons₂ _ (List.nil_sublist _)))
 have ha : List.Sublist [(a.x, instObj 1061 a.d), (a.d, a.dict w), (a.vo, listOf (a.outs.map fun o => Value.ref o.x).toArray a.no)] (a.frag w) :=
  .cons₂ _ (.cons₂ _ (.cons _ (.cons₂ _ (List.nil_sublist _))))
 exact nd_sub (hs.append ha) P.nd
theorem Two.iaO {w : World} {a : TTx} {S : SSt} {h : Heap} (P : Two w a S h) : S.ia ≠ a.x ∧ S.ia ≠ a.d ∧ S.ia ≠ S.oa ∧ S.ia ≠ a.vo := by
 have hs : List.Sublist [(S.ia, listOf (S.ins.map fun r => Value.ref r.a).toArray S.ni), (S.oa, listOf (S.outs.map fun r => Value.ref r.a).toArray S.no)] S.frag :=
  .cons _ (.cons₂ _ (.cons₂ _ (List.nil_sublist _)))
 have ha : List.Sublist [(a.x, instObj 1061 a.d), (a.d, a.dict w), (a.vo, listOf (a.outs.map fun o => Value.ref o.x).toArray a.no)] (a.frag w) :=
  .cons₂ _ (.cons₂ _ (.cons _ (.cons₂ _ (List.nil_sublist _))))
 have nd : List.Nodup ([S.ia, S.oa, a.x, a.d, a.vo] : List Addr) := nd_sub (hs.append ha) P.nd
 exact ⟨nd_ne nd 0 2 rfl rfl (by decide), nd_ne nd 0 3 rfl rfl (by decide), nd_ne nd 0 1 rfl rfl (by decide), nd_ne nd 0 4 rfl rfl (by decide)⟩
theorem Two.oaI {w : World} {a : TTx} {S : SSt} {h : Heap} {row : SRow} {tin : TIn} (P : Two w a S h) (hr : row ∈ S.ins) (ht : tin ∈ a.ins) : S.oa ≠ a.x ∧ S.oa ≠ a.d ∧ S.oa ≠ row.a ∧ S.oa ≠ tin.x ∧ S.oa ≠ tin.d ∧ S.oa ≠ S.a := by
 have hs : List.Sublist [(S.a, listOf #[.int (S.ver : Int) S.tv, .ref S.ia, .ref S.oa, .int (S.lock : Int) S.tl] S.n), (S.oa, listOf (S.outs.map fun r => Value.ref r.a).toArray S.no), (row.a, row.obj)] S.frag :=
  .cons₂ _ (.cons _ (.cons₂ _ (List.singleton_sublist.mpr (List.mem_append_left _ (List.mem_map_of_mem (f := fun r : SRow => (r.a, r.obj)) hr)))))
 have ht0 : List.Sublist [(tin.x, instObj 1107 tin.d), (tin.d, tin.dict w)] (tin.frag w) := .cons₂ _ (.cons₂ _ (List.nil_sublist _))
 have ha : List.Sublist [(a.x, instObj 1061 a.d), (a.d, a.dict w), (tin.x, instObj 1107 tin.d), (tin.d, tin.dict w)] (a.frag w) :=
  .cons₂ _ (.cons₂ _ (.cons _ (.cons _ (ht0.trans ((sub_flat ht).trans (List.sublist_append_left _ _))))))
 have nd : List.Nodup ([S.a, S.oa, row.a, a.x, a.d, tin.x, tin.d] : List Addr) := nd_sub (hs.append ha) P.nd
 exact ⟨nd_ne nd 1 3 rfl rfl (by decide), nd_ne nd 1 4 rfl rfl (by decide), nd_ne nd 1 2 rfl rfl (by decide), nd_ne nd 1 5 rfl rfl (by decide), nd_ne nd 1 6 rfl rfl (by decide), Ne.symm (nd_ne nd 0 1 rfl rfl (by decide))⟩
theorem Ext.weak {W V : List Addr} {h h' : Heap} (e : Ext W h h') (k : ∀ b ∈ W, b ∈ V) : Ext V h h' := fun b o hb q => e b o (fun z => hb (k b z)) q
theorem Two.mS {w : World} {a : TTx} {S : SSt} {p : Addr × Obj} (m : p ∈ S.frag) : p ∈ PF w a S := List.mem_append_left _ m
theorem Two.mA {w : World} {a : TTx} {S : SSt} {p : Addr × Obj} (m : p ∈ a.frag w) : p ∈ PF w a S := List.mem_append_right _ m
theorem SSt.mRow {S : SSt} {r : SRow} (m : r ∈ S.ins) : (r.a, r.obj) ∈ S.frag := .tail _ (.tail _ (.tail _ (List.mem_append_left _ (List.mem_map_of_mem (f := fun r : SRow => (r.a, r.obj)) m))))
theorem TTx.mIn {w : World} {a : TTx} {t : TIn} {p : Addr × Obj} (m : t ∈ a.ins) (q : p ∈ t.frag w) : p ∈ a.frag w := .tail _ (.tail _ (.tail _ (.tail _ (List.mem_append_left _ (List.mem_flatMap.mpr ⟨t, m, q⟩)))))
theorem place_of {a : TTx} {S : SSt} (A : Agree a S) (O : S.Ok) (turn : Int) : ∃ row tin, ∃ i : Nat, S.ins[i]? = some row ∧ a.ins[i]? = some tin ∧ turn.fmod (S.ins.length : Int) = (i : Int) ∧ tin.dat = row.dat := by
 have h0 := Int.fmod_nonneg_of_pos turn (b := (S.ins.length : Int)) (by have := O.n1; omega)
 have h1 := Int.fmod_lt_of_pos turn (b := (S.ins.length : Int)) (by have := O.n1; omega)
 have hi : (turn.fmod (S.ins.length : Int)).toNat < S.ins.length := by omega
 obtain ⟨t, ht, e⟩ := A.at (List.getElem?_eq_getElem hi)
 exact ⟨_, t, _, List.getElem?_eq_getElem hi, ht, (Int.toNat_of_nonneg h0).symm, e⟩
theorem Two.hereG {w : World} {a : TTx} {S : SSt} {h g : Heap} {c1 c2 c3 : Value} (P : Two w a S h) (sub : ∀ b o, h.get? b = some o → b ∉ ([(a.x, instObj 1061 a.d), (a.d, a.dictC w c1 c2 c3)] : List (Addr × Obj)).map (·.1) → g.get? b = some o) : S.Here g := by
 refine SSt.here ((Has.left P.H).mono fun p m e => sub _ _ e ?_)
 have nd := P.nd
 unfold PF at nd
 rw [keys_append] at nd
 obtain ⟨_, _, d⟩ := List.nodup_append.mp nd
 have h1 := d p.1 (List.mem_map_of_mem m) a.x (List.mem_map_of_mem (f := (·.1)) (show (a.x, instObj 1061 a.d) ∈ a.frag w from .head _))
 have h2 := d p.1 (List.mem_map_of_mem m) a.d (List.mem_map_of_mem (f := (·.1)) (show (a.d, a.dict w) ∈ a.frag w from .tail _ (.head _)))
 simp [h1, h2]
end
section
theorem turned4_end {w : World} {a : TTx} {S : SSt} {h0 g h' : Heap} {L : Addr} {m : Str → Option Value} {row : SRow} {tin : TIn} {i : Nat} {q : Int} {tq tq' : Tok} (P : Two w a S h0) (hin : S.ins[i]? = some row) (hti : a.ins[i]? = some tin) (hdat : tin.dat = row.dat) (q0 : 0 ≤ q) (q1 : q < 4294967296)
  (F : Fr g L h' m) (gs : g.get? S.a = some (listOf #[.int (S.ver : Int) S.tv, .ref S.ia, .ref S.oa, .int (S.lock : Int) S.tl] S.n)) (gi : g.get? S.ia = some (listOf (S.ins.map fun r => Value.ref r.a).toArray S.ni)) (gvi : g.get? a.vi = some (listOf (a.ins.map fun i => Value.ref i.x).toArray a.ni))
  (N : News g L h' [(a.x, instObj 1061 a.d), (a.d, txDict w a.k1 a.k2 a.k3 a.k4 a.k5 a.k6 a.k7 a.k8 a.k9 (a.ver : Int) a.tv (a.lock : Int) a.tl a.vi a.vo .none .none .none), (row.a, listOf #[.bytes row.txid row.t1, .int (row.vout : Int) row.t2, .bytes row.scr row.t3, .int q tq] row.n), (tin.x, instObj 1107 tin.d),
   (tin.d, dictOf [ent w "txid" tin.k1 (.bytes tin.txid tin.t1), ent w "vout" tin.k2 (.int (tin.vout : Int) tin.t2), ent w "script_sig" tin.k3 (.ref tin.s), ent w "sequence" tin.k4 (.int q tq'), ent w "witness" tin.k5 (.ref tin.wt)] 5)])
  (e : Ext ([(a.x, instObj 1061 a.d), (a.d, a.dict w), (row.a, row.obj), (tin.x, instObj 1107 tin.d), (tin.d, tin.dict w)].map (·.1)) h0 h') : Turned w a S h0 .none h' := by
 obtain ⟨p, rfl⟩ : ∃ p : Nat, q = p := ⟨q.toNat, (Int.toNat_of_nonneg q0).symm⟩
 have ok := P.O.hi row (List.mem_of_getElem? hin)
 injection hdat with d1 d
 injection d with d2 d
 injection d with d3 d4
 refine turned_in (row' := { row with seq := p, t4 := tq }) (tin' := { tin with seq := p, t4 := tq' }) (lock' := a.lock) (tS := S.tl) (tA := a.tl) P e hin hti rfl rfl rfl ?_ ⟨ok.hv, by show p < 4294967296; omega, ok.hc, ok.hi⟩ (P.A.hl ▸ P.O.hl) ⟨_, rfl, rfl⟩ ?_ (by rw [P.A.hl]; exact F.keep _ _ gs) (F.keep _ _ gi) (N _ (.head _)).1 (N _ (.tail _ (.head _))).1 (F.keep _ _ gvi) (N _ (.tail _ (.tail _ (.head _)))).1 (N _ (.tail _ (.tail _ (.tail _ (.head _))))).1 (N _ (.tail _ (.tail _ (.tail _ (.tail _ (.head _)))))).1
 ·show (tin.txid, tin.vout, tin.scr, p) = (row.txid, row.vout, row.scr, p)
  rw [d1, d2, d3]
 ·simp
theorem turnedE_end {w : World} {a : TTx} {S : SSt} {h0 g h' : Heap} {L : Addr} {m : Str → Option Value} {row : SRow} {tin : TIn} {i : Nat} {lk q : Int} {tq tq' tl1 tl2 : Tok} (P : Two w a S h0) (hin : S.ins[i]? = some row) (hti : a.ins[i]? = some tin) (hdat : tin.dat = row.dat) (q0 : 0 ≤ q) (q1 : q < 4294967296) (k0 : 0 ≤ lk) (k1 : lk < 4294967296)
  (F : Fr g L h' m) (gi : g.get? S.ia = some (listOf (S.ins.map fun r => Value.ref r.a).toArray S.ni)) (gvi : g.get? a.vi = some (listOf (a.ins.map fun i => Value.ref i.x).toArray a.ni))
  (N : News g L h' [(a.x, instObj 1061 a.d), (a.d, txDict w a.k1 a.k2 a.k3 a.k4 a.k5 a.k6 a.k7 a.k8 a.k9 (a.ver : Int) a.tv lk tl1 a.vi a.vo .none .none .none), (row.a, listOf #[.bytes row.txid row.t1, .int q tq, .bytes row.scr row.t3, .int (row.seq : Int) row.t4] row.n), (tin.x, instObj 1107 tin.d),
   (tin.d, dictOf [ent w "txid" tin.k1 (.bytes tin.txid tin.t1), ent w "vout" tin.k2 (.int q tq'), ent w "script_sig" tin.k3 (.ref tin.s), ent w "sequence" tin.k4 (.int (tin.seq : Int) tin.t4), ent w "witness" tin.k5 (.ref tin.wt)] 5), (S.a, listOf #[.int (S.ver : Int) S.tv, .ref S.ia, .ref S.oa, .int lk tl2] S.n)])
  (e : Ext ([(a.x, instObj 1061 a.d), (a.d, a.dict w), (row.a, row.obj), (tin.x, instObj 1107 tin.d), (tin.d, tin.dict w), (S.a, listOf #[.int (S.ver : Int) S.tv, .ref S.ia, .ref S.oa, .int (S.lock : Int) S.tl] S.n)].map (·.1)) h0 h') : Turned w a S h0 .none h' := by
 obtain ⟨p, rfl⟩ : ∃ p : Nat, q = p := ⟨q.toNat, (Int.toNat_of_nonneg q0).symm⟩
 obtain ⟨l, rfl⟩ : ∃ p : Nat, lk = p := ⟨lk.toNat, (Int.toNat_of_nonneg k0).symm⟩
 have ok := P.O.hi row (List.mem_of_getElem? hin)
 injection hdat with d1 d
 injection d with d2 d
 injection d with d3 d4
 refine turned_in (row' := { row with vout := p, t2 := tq }) (tin' := { tin with vout := p, t2 := tq' }) (lock' := l) (tS := tl2) (tA := tl1) P e hin hti rfl rfl rfl ?_ ⟨by show p < 4294967296; omega, ok.hq, ok.hc, ok.hi⟩ (by omega) ⟨_, rfl, rfl⟩ ?_ (N _ (.tail _ (.tail _ (.tail _ (.tail _ (.tail _ (.head _))))))).1 (F.keep _ _ gi) (N _ (.head _)).1 (N _ (.tail _ (.head _))).1 (F.keep _ _ gvi) (N _ (.tail _ (.tail _ (.head _)))).1 (N _ (.tail _ (.tail _ (.tail _ (.head _))))).1 (N _ (.tail _ (.tail _ (.tail _ (.tail _ (.head _)))))).1
 ·show (tin.txid, p, tin.scr, tin.seq) = (row.txid, p, row.scr, row.seq)
  rw [d1, d3, d4]
 ·simp
theorem hk46 : True := by
 k_with "k_ne" => (refine neN ?_; (try dsimp only); first | assumption | (refine Ne.symm ?_; assumption) | omega)
 trivial
section
variable {w : World} {hb : Heap} {mean : ExcName → Option Value} {mg mb : Str → Option Value} {s : Shared}
theorem turned4 (G : Gd w hb mean mg mb) (st : St hb s.heap) {a : TTx} {S : SSt} (P : Two w a S s.heap) (fr0 : ∀ p ∈ PF w a S, hb.get? p.1 = none) {turn : Int} {t1 t2 : Tok} :
  Does w 20 (.ref 1230) [.ref a.x, .ref S.a, .int 4 t1, .int turn t2] [] s (keys (PF w a S)) (Turned w a S s.heap) := by
 walk_at "ir"
 refine hideP fun B9 k9 => ?_
 obtain ⟨row, tin, i, hin, hti, hei, hdat⟩ := place_of P.A P.O turn
 refine k9 ?_; clear k9
 have HS := P.here
 have HT := P.tx
 have mr := List.mem_of_getElem? hin
 have mt := List.mem_of_getElem? hti
 have memL : ∀ p ∈ [(a.x, instObj 1061 a.d), (a.d, a.dict w), (row.a, row.obj), (tin.x, instObj 1107 tin.d), (tin.d, tin.dict w)], p ∈ PF w a S :=
  List.forall_mem_cons.mpr ⟨Two.mA (.head _), List.forall_mem_cons.mpr ⟨Two.mA (.tail _ (.head _)), List.forall_mem_cons.mpr ⟨Two.mS (SSt.mRow mr), List.forall_mem_cons.mpr ⟨Two.mA (TTx.mIn mt (.head _)), List.forall_mem_cons.mpr ⟨Two.mA (TTx.mIn mt (.tail _ (.head _))), fun _ h => nomatch h⟩⟩⟩⟩⟩
 have nd := P.apartI mr mt
 refine nd8E nd ?_
 clear nd
 intro n12 n13 n14 n15 n16 n17 n18 n23 n24 n25 n26 n27 n28 n34 n35 n36 n37 n38 n45 n46 n47 n48 n56 n57 n58 n67 n68 n78
 refine' enter (binds := [(Str.ofString "whole", .ref a.x), (Str.ofString "state", .ref S.a), (Str.ofString "way", .int 4 t1), (Str.ofString "turn", .int turn t2)]) G st [(a.x, instObj 1061 a.d), (a.d, a.dict w), (row.a, row.obj), (tin.x, instObj 1107 tin.d), (tin.d, tin.dict w)] ?hW ?ho ?hcd ?hroom ?hbind ?hloc ?h ?hcell ?hco ?hgen ?hk
 walk_at "kk_enter"
 case hW => exact fun p m => ⟨P.H.get (memL p m), fr0 p (memL p m)⟩
 walk_at "ig"
 have lx : ∀ p ∈ [(a.x, instObj 1061 a.d), (a.d, a.dict w), (row.a, row.obj), (tin.x, instObj 1107 tin.d), (tin.d, tin.dict w)], p.1 ∈ keys (PF w a S) := fun p m => List.mem_map_of_mem (memL p m)
 have lf : ∀ p ∈ [(a.x, instObj 1061 a.d), (a.d, a.dict w), (row.a, row.obj), (tin.x, instObj 1107 tin.d), (tin.d, tin.dict w)], hb.get? p.1 = none := fun p m => fr0 p (memL p m)
 clear memL
 k_lt l1
 have gs := sub _ _ HS.hs (notC n14 (notC n15 (notC n13 (notC n17 (notC n18 notN)))))
 have gi := sub _ _ HS.hi (notC n24 (notC n25 (notC n23 (notC n27 (notC n28 notN)))))
 have gvi := sub _ _ HT.low.l0 (notC (Ne.symm n46) (notC (Ne.symm n56) (notC (Ne.symm n36) (notC n67 (notC n68 notN)))))
 skip
 have hn : (0 : Int) < (S.ins.length : Int) := by have := P.O.n1; omega
 have hn3 := P.O.n2
 have hn4 := P.ok.n2
 unfold SRow.obj at N
 refine a_exec1 ?_
 k_steps
 change wpAny _ _ (execs _ _) _ _ _
 walk_at "r9"
 (try dsimp +zetaDelta only at F9)
 rw [hei] at F9
 k_steps
 walk_at "r8"
 change wpAny _ _ (PySem.call (.ref 950) [.ref a.x]) _ _ _
 walk_at "tc"
 intro K8 hK8 r h' tk' F' n0 p
 refine hideP fun B9 k9 => ?_
 obtain ⟨e1, ed⟩ := p
 refine k9 ?_; clear k9
 subst e1
 have N' := n0 _ _ (by k_upd) ed
 clear n0 F8 N8
 refine hK8 _ _ _ ?_
 k_steps
 walk_at "r8"
 skip
 exact leaves F8 fun _ => fun e => hQ _ _ _ (Ext.weak e fun b hb => by obtain ⟨p, hp, rfl⟩ := List.mem_map.mp hb; exact lx p hp) (turned4_end P hin hti hdat (Int.fmod_nonneg_of_pos _ (by decide)) (Int.fmod_lt_of_pos _ (by decide)) F8 gs gi gvi N8 e)
theorem turned7 (G : Gd w hb mean mg mb) (st : St hb s.heap) {a : TTx} {S : SSt} (P : Two w a S s.heap) (fr0 : ∀ p ∈ PF w a S, hb.get? p.1 = none) {turn : Int} {t1 t2 : Tok} :
  Does w 20 (.ref 1230) [.ref a.x, .ref S.a, .int 7 t1, .int turn t2] [] s (keys (PF w a S)) (Turned w a S s.heap) := by
 walk_at "ir"
 refine hideP fun B9 k9 => ?_
 obtain ⟨row, tin, i, hin, hti, hei, hdat⟩ := place_of P.A P.O turn
 refine k9 ?_; clear k9
 have HS := P.here
 have HT := P.tx
 have mr := List.mem_of_getElem? hin
 have mt := List.mem_of_getElem? hti
 have memL : ∀ p ∈ [(a.x, instObj 1061 a.d), (a.d, a.dict w), (row.a, row.obj), (tin.x, instObj 1107 tin.d), (tin.d, tin.dict w), (S.a, listOf #[.int (S.ver : Int) S.tv, .ref S.ia, .ref S.oa, .int (S.lock : Int) S.tl] S.n)], p ∈ PF w a S :=
  List.forall_mem_cons.mpr ⟨Two.mA (.head _), List.forall_mem_cons.mpr ⟨Two.mA (.tail _ (.head _)), List.forall_mem_cons.mpr ⟨Two.mS (SSt.mRow mr), List.forall_mem_cons.mpr ⟨Two.mA (TTx.mIn mt (.head _)), List.forall_mem_cons.mpr ⟨Two.mA (TTx.mIn mt (.tail _ (.head _))), List.forall_mem_cons.mpr ⟨Two.mS (.head _), fun _ h => nomatch h⟩⟩⟩⟩⟩⟩
 have nd := P.apartI mr mt
 refine nd8E nd ?_
 clear nd
 intro n12 n13 n14 n15 n16 n17 n18 n23 n24 n25 n26 n27 n28 n34 n35 n36 n37 n38 n45 n46 n47 n48 n56 n57 n58 n67 n68 n78
 refine' enter (binds := [(Str.ofString "whole", .ref a.x), (Str.ofString "state", .ref S.a), (Str.ofString "way", .int 7 t1), (Str.ofString "turn", .int turn t2)]) G st [(a.x, instObj 1061 a.d), (a.d, a.dict w), (row.a, row.obj), (tin.x, instObj 1107 tin.d), (tin.d, tin.dict w), (S.a, listOf #[.int (S.ver : Int) S.tv, .ref S.ia, .ref S.oa, .int (S.lock : Int) S.tl] S.n)] ?hW ?ho ?hcd ?hroom ?hbind ?hloc ?h ?hcell ?hco ?hgen ?hk
 walk_at "kk_enter"
 case hW => exact fun p m => ⟨P.H.get (memL p m), fr0 p (memL p m)⟩
 walk_at "ig"
 have lx : ∀ p ∈ [(a.x, instObj 1061 a.d), (a.d, a.dict w), (row.a, row.obj), (tin.x, instObj 1107 tin.d), (tin.d, tin.dict w), (S.a, listOf #[.int (S.ver : Int) S.tv, .ref S.ia, .ref S.oa, .int (S.lock : Int) S.tl] S.n)], p.1 ∈ keys (PF w a S) := fun p m => List.mem_map_of_mem (memL p m)
 have lf : ∀ p ∈ [(a.x, instObj 1061 a.d), (a.d, a.dict w), (row.a, row.obj), (tin.x, instObj 1107 tin.d), (tin.d, tin.dict w), (S.a, listOf #[.int (S.ver : Int) S.tv, .ref S.ia, .ref S.oa, .int (S.lock : Int) S.tl] S.n)], hb.get? p.1 = none := fun p m => fr0 p (memL p m)
 clear memL
 k_lt l1
 skip
 have gi := sub _ _ HS.hi (notC n24 (notC n25 (notC n23 (notC n27 (notC n28 (notC (Ne.symm n12) notN))))))
 have gvi := sub _ _ HT.low.l0 (notC (Ne.symm n46) (notC (Ne.symm n56) (notC (Ne.symm n36) (notC n67 (notC n68 (notC (Ne.symm n16) notN))))))
 skip
 have hn : (0 : Int) < (S.ins.length : Int) := by have := P.O.n1; omega
 have hn3 := P.O.n2
 have hn4 := P.ok.n2
 unfold SRow.obj at N
 refine a_exec1 ?_
 k_steps
 change wpAny _ _ (execs _ _) _ _ _
 walk_at "r9"
 (try dsimp +zetaDelta only at F9)
 rw [hei] at F9
 k_steps
 walk_at "r8"
 change wpAny _ _ (PySem.call (.ref 950) [.ref a.x]) _ _ _
 walk_at "tc"
 intro K8 hK8 r h' tk' F' n0 p
 refine hideP fun B9 k9 => ?_
 obtain ⟨e1, ed⟩ := p
 refine k9 ?_; clear k9
 subst e1
 have N' := n0 _ _ (by k_upd) ed
 clear n0 F8 N8
 refine hK8 _ _ _ ?_
 k_steps
 walk_at "r8"
 skip
 exact leaves F8 fun _ => fun e => hQ _ _ _ (Ext.weak e fun b hb => by obtain ⟨p, hp, rfl⟩ := List.mem_map.mp hb; exact lx p hp) (turnedE_end P hin hti hdat (Int.fmod_nonneg_of_pos _ (by decide)) (Int.fmod_lt_of_pos _ (by decide)) (Int.fmod_nonneg_of_pos _ (by decide)) (Int.fmod_lt_of_pos _ (by decide)) F8 gi gvi N8 e)
end
end
section
theorem snoc_of {α : Type} {l : List α} (h : l ≠ []) : ∃ A x, l = A ++ [x] := ⟨l.dropLast, l.getLast h, (List.dropLast_concat_getLast h).symm⟩
theorem turned_pop {w : World} {a : TTx} {S : SSt} {h0 h' : Heap} {O : List SOut} {o : SOut} {T : List TOut} {t : TOut} {n1 n2 : Nat} (P : Two w a S h0) (hO : S.outs = O ++ [o]) (hT : a.outs = T ++ [t])
  (e : Ext [a.x, a.d, S.oa, a.vo] h0 h') (g1 : h'.get? a.x = some (instObj 1061 a.d)) (g2 : h'.get? a.d = some (TTx.dict w { a with c1 := .none, c2 := .none, c3 := .none })) (g3 : h'.get? S.oa = some (listOf (O.map fun r => Value.ref r.a).toArray n1)) (g4 : h'.get? a.vo = some (listOf (T.map fun r => Value.ref r.x).toArray n2)) :
  Turned w a S h0 .none h' := by
 let S' : SSt := { S with outs := O, no := n1 }
 let a' : TTx := { a with outs := T, no := n2, c1 := .none, c2 := .none, c3 := .none }
 have eS : S'.frag = (S.a, listOf #[.int (S.ver : Int) S.tv, .ref S.ia, .ref S.oa, .int (S.lock : Int) S.tl] S.n) :: (S.ia, listOf (S.ins.map fun r => Value.ref r.a).toArray S.ni) :: (S.oa, listOf (O.map fun r => Value.ref r.a).toArray n1) :: (S.ins.map (fun r => (r.a, r.obj)) ++ O.map (fun r => (r.a, r.obj))) := rfl
 have eS0 : S.frag = (S.a, listOf #[.int (S.ver : Int) S.tv, .ref S.ia, .ref S.oa, .int (S.lock : Int) S.tl] S.n) :: (S.ia, listOf (S.ins.map fun r => Value.ref r.a).toArray S.ni) :: (S.oa, listOf (S.outs.map fun r => Value.ref r.a).toArray S.no) :: (S.ins.map (fun r => (r.a, r.obj)) ++ (O.map (fun r => (r.a, r.obj)) ++ [(o.a, o.obj)])) := by
  unfold SSt.frag
  rw [show (S.outs.map fun r => (r.a, r.obj)) = O.map (fun r => (r.a, r.obj)) ++ [(o.a, o.obj)] by rw [hO, List.map_append]; rfl]
 have eA : a'.frag w = (a.x, instObj 1061 a.d) :: (a.d, TTx.dict w { a with c1 := .none, c2 := .none, c3 := .none }) :: (a.vi, listOf (a.ins.map fun i => Value.ref i.x).toArray a.ni) :: (a.vo, listOf (T.map fun o => Value.ref o.x).toArray n2) :: (a.ins.flatMap (TIn.frag w) ++ T.flatMap (TOut.frag w)) := rfl
 have eA0 : a.frag w = (a.x, instObj 1061 a.d) :: (a.d, a.dict w) :: (a.vi, listOf (a.ins.map fun i => Value.ref i.x).toArray a.ni) :: (a.vo, listOf (a.outs.map fun o => Value.ref o.x).toArray a.no) :: (a.ins.flatMap (TIn.frag w) ++ (T.flatMap (TOut.frag w) ++ t.frag w)) := by
  unfold TTx.frag TTx.low
  rw [show a.outs.flatMap (TOut.frag w) = T.flatMap (TOut.frag w) ++ t.frag w by rw [hT, List.flatMap_append]; simp]
 have ks : List.Sublist (keys (PF w a' S')) (keys (PF w a S)) := by
  unfold PF
  rw [keys_append, keys_append, eS, eS0, eA, eA0]
  refine List.Sublist.append (.cons₂ _ (.cons₂ _ (.cons₂ _ ?_))) (.cons₂ _ (.cons₂ _ (.cons₂ _ (.cons₂ _ ?_))))
  ·exact List.Sublist.map _ ((List.Sublist.refl _).append (List.sublist_append_left _ _))
  ·exact List.Sublist.map _ ((List.Sublist.refl _).append (List.sublist_append_left _ _))
 have nd : (keys (PF w a' S')).Nodup := List.Pairwise.sublist ks P.nd
 have sub : Sub [a.x, a.d, S.oa, a.vo] (PF w a' S') (PF w a S) := by
  unfold PF
  rw [eS, eS0, eA, eA0]
  refine Sub.app (Sub.cons (Sub.cons (Sub.turn (by simp) (Sub.app Sub.same fun p m => .inl (List.mem_append_left _ m))))) (Sub.cons (Sub.turn (by simp) (Sub.cons (Sub.turn (by simp) (Sub.app Sub.same fun p m => .inl (List.mem_append_left _ m))))))
 have mS : ∀ p ∈ S'.frag, p ∈ PF w a' S' := fun p m => List.mem_append_left _ m
 have mA : ∀ p ∈ a'.frag w, p ∈ PF w a' S' := fun p m => List.mem_append_right _ m
 have hd := P.A.ho
 rw [hO, hT, List.map_append, List.map_append] at hd
 obtain ⟨d1, _⟩ := List.append_inj' hd rfl
 have hl : S.outs.length = O.length + 1 := by rw [hO]; simp
 refine ⟨rfl, a', S', ⟨P.H.turn nd e (fun _ m => m) (fun b hb => ?_) sub, nd, ⟨P.A.hv, P.A.hl, P.A.hi, d1⟩, ⟨P.O.hv, P.O.hl, P.O.n1, P.O.n2, by show O.length ≤ 20; have := P.O.n3; omega, P.O.hi, fun r m => P.O.ho r (by rw [hO]; exact List.mem_append_left _ m)⟩, ⟨.inl rfl, .inl rfl, .inl rfl⟩⟩, rfl, rfl, by show O.length ≤ _; omega, fun p m => .inl (ks.mem (List.mem_map_of_mem m))⟩
 simp only [List.mem_cons, List.not_mem_nil, or_false] at hb
 rcases hb with rfl | rfl | rfl | rfl
 ·exact ⟨_, mA _ (.head _), g1⟩
 ·exact ⟨_, mA _ (.tail _ (.head _)), g2⟩
 ·exact ⟨_, mS _ (.tail _ (.tail _ (.head _))), g3⟩
 ·exact ⟨_, mA _ (.tail _ (.tail _ (.tail _ (.head _)))), g4⟩
theorem turned_app {w : World} {a : TTx} {S : SSt} {h0 h' : Heap} {o : SOut} {t : TOut} {n1 n2 : Nat} (P : Two w a S h0) (hl : S.outs.length ≤ 19) (hdat : t.dat = o.dat) (hok : o.Ok)
  (e : Ext [a.x, a.d, S.oa, a.vo] h0 h') (g1 : h'.get? a.x = some (instObj 1061 a.d)) (g2 : h'.get? a.d = some (TTx.dict w { a with c1 := .none, c2 := .none, c3 := .none })) (g3 : h'.get? S.oa = some (listOf (S.outs.map (fun r => Value.ref r.a) ++ [Value.ref o.a]).toArray n1)) (g4 : h'.get? a.vo = some (listOf (a.outs.map (fun r => Value.ref r.x) ++ [Value.ref t.x]).toArray n2))
  (g5 : h'.get? o.a = some o.obj) (g6 : Has (t.frag w) h') (f1 : h0.get? o.a = none) (f2 : ∀ p ∈ t.frag w, h0.get? p.1 = none) (nt : (keys (t.frag w)).Nodup) (no : ∀ p ∈ t.frag w, p.1 ≠ o.a) : Turned w a S h0 .none h' := by
 let S' : SSt := { S with outs := S.outs ++ [o], no := n1 }
 let a' : TTx := { a with outs := a.outs ++ [t], no := n2, c1 := .none, c2 := .none, c3 := .none }
 have eS : S'.frag = ((S.a, listOf #[.int (S.ver : Int) S.tv, .ref S.ia, .ref S.oa, .int (S.lock : Int) S.tl] S.n) :: (S.ia, listOf (S.ins.map fun r => Value.ref r.a).toArray S.ni) :: (S.oa, listOf (S.outs.map (fun r => Value.ref r.a) ++ [Value.ref o.a]).toArray n1) :: (S.ins.map (fun r => (r.a, r.obj)) ++ S.outs.map (fun r => (r.a, r.obj)))) ++ [(o.a, o.obj)] := by
  show (S.a, _) :: (S.ia, _) :: (S.oa, listOf ((S.outs ++ [o]).map fun r : SOut => Value.ref r.a).toArray n1) :: (S.ins.map (fun r => (r.a, r.obj)) ++ (S.outs ++ [o]).map (fun r => (r.a, r.obj))) = _
  rw [List.map_append, List.map_append, ← List.append_assoc]; rfl
 have eA : a'.frag w = ((a.x, instObj 1061 a.d) :: (a.d, TTx.dict w { a with c1 := .none, c2 := .none, c3 := .none }) :: (a.vi, listOf (a.ins.map fun i => Value.ref i.x).toArray a.ni) :: (a.vo, listOf (a.outs.map (fun r => Value.ref r.x) ++ [Value.ref t.x]).toArray n2) :: (a.ins.flatMap (TIn.frag w) ++ a.outs.flatMap (TOut.frag w))) ++ t.frag w := by
  show (a.x, _) :: (a.d, _) :: (a.vi, _) :: (a.vo, listOf ((a.outs ++ [t]).map fun r : TOut => Value.ref r.x).toArray n2) :: (a.ins.flatMap (TIn.frag w) ++ (a.outs ++ [t]).flatMap (TOut.frag w)) = _
  rw [List.map_append, List.flatMap_append, show ([t] : List TOut).flatMap (TOut.frag w) = t.frag w by simp, ← List.append_assoc]; rfl
 have ek1 : keys S'.frag = keys S.frag ++ [o.a] := by rw [eS, keys_append]; rfl
 have ek2 : keys (a'.frag w) = keys (a.frag w) ++ keys (t.frag w) := by rw [eA, keys_append]; rfl
 have old : ∀ b ∈ keys (PF w a S), h0.get? b ≠ none := fun b hb => by
  obtain ⟨p, hp, rfl⟩ := List.mem_map.mp hb
  rw [P.H.get hp]; exact fun z => nomatch z
 have kt : ∀ b ∈ keys (t.frag w), h0.get? b = none := fun b hb => by
  obtain ⟨p, hp, rfl⟩ := List.mem_map.mp hb
  exact f2 p hp
 have nd0 := P.nd
 unfold PF at nd0 old
 rw [keys_append] at nd0 old
 obtain ⟨nS, nA, nSA⟩ := List.nodup_append.mp nd0
 have nd : (keys (PF w a' S')).Nodup := by
  unfold PF
  rw [keys_append, ek1, ek2]
  refine List.nodup_append.mpr ⟨List.nodup_append.mpr ⟨nS, by simp, fun b hb c hc z => ?_⟩, List.nodup_append.mpr ⟨nA, nt, fun b hb c hc z => ?_⟩, fun b hb c hc z => ?_⟩
  ·rw [List.mem_singleton.mp hc] at z
   exact old b (List.mem_append_left _ hb) (by rw [z]; exact f1)
  ·exact old b (List.mem_append_right _ hb) (by rw [z]; exact kt c hc)
  ·rcases List.mem_append.mp hb with hb | hb
   ·rcases List.mem_append.mp hc with hc | hc
    ·exact nSA b hb c hc z
    ·exact old b (List.mem_append_left _ hb) (by rw [z]; exact kt c hc)
   ·rw [List.mem_singleton.mp hb] at z
    rcases List.mem_append.mp hc with hc | hc
    ·exact old c (List.mem_append_right _ hc) (by rw [← z]; exact f1)
    ·obtain ⟨p, hp, q⟩ := List.mem_map.mp hc
     exact no p hp (by rw [q, ← z])
 have mS : ∀ p ∈ S'.frag, p ∈ PF w a' S' := fun p m => List.mem_append_left _ m
 have mA : ∀ p ∈ a'.frag w, p ∈ PF w a' S' := fun p m => List.mem_append_right _ m
 have hH : Has (PF w a' S') h' := by
  refine P.H.turn (V := [a.x, a.d, S.oa, a.vo] ++ (o.a :: keys (t.frag w))) nd e (fun _ m => List.mem_append_left _ m) (fun b hb => ?_) ?_
  ·rcases List.mem_append.mp hb with hb | hb
   ·simp only [List.mem_cons, List.not_mem_nil, or_false] at hb
    rcases hb with rfl | rfl | rfl | rfl
    ·exact ⟨_, mA _ (by rw [eA]; exact .head _), g1⟩
    ·exact ⟨_, mA _ (by rw [eA]; exact .tail _ (.head _)), g2⟩
    ·exact ⟨_, mS _ (by rw [eS]; exact .tail _ (.tail _ (.head _))), g3⟩
    ·exact ⟨_, mA _ (by rw [eA]; exact .tail _ (.tail _ (.tail _ (.head _)))), g4⟩
   ·rcases List.mem_cons.mp hb with hb | hb
    ·rw [hb]; exact ⟨_, mS _ (by rw [eS]; exact List.mem_append_right _ (.head _)), g5⟩
    ·obtain ⟨p, hp, rfl⟩ := List.mem_map.mp hb
     exact ⟨p.2, mA _ (by rw [eA]; exact List.mem_append_right _ hp), g6.get hp⟩
  ·intro p hp
   unfold PF at hp ⊢
   rw [eS, eA] at hp
   rcases List.mem_append.mp hp with hp | hp
   ·rcases List.mem_append.mp hp with hp | hp
    ·have : Sub ([a.x, a.d, S.oa, a.vo] ++ (o.a :: keys (t.frag w))) ((S.a, listOf #[.int (S.ver : Int) S.tv, .ref S.ia, .ref S.oa, .int (S.lock : Int) S.tl] S.n) :: (S.ia, listOf (S.ins.map fun r => Value.ref r.a).toArray S.ni) :: (S.oa, listOf (S.outs.map (fun r => Value.ref r.a) ++ [Value.ref o.a]).toArray n1) :: (S.ins.map (fun r => (r.a, r.obj)) ++ S.outs.map (fun r => (r.a, r.obj)))) S.frag :=
      Sub.cons (Sub.cons (Sub.turn (by simp) Sub.same))
     exact (this p hp).imp (List.mem_append_left _) id
    ·rw [List.mem_singleton.mp hp]; exact .inr (List.mem_append_right _ (.head _))
   ·rcases List.mem_append.mp hp with hp | hp
    ·have : Sub ([a.x, a.d, S.oa, a.vo] ++ (o.a :: keys (t.frag w))) ((a.x, instObj 1061 a.d) :: (a.d, TTx.dict w { a with c1 := .none, c2 := .none, c3 := .none }) :: (a.vi, listOf (a.ins.map fun i => Value.ref i.x).toArray a.ni) :: (a.vo, listOf (a.outs.map (fun r => Value.ref r.x) ++ [Value.ref t.x]).toArray n2) :: (a.ins.flatMap (TIn.frag w) ++ a.outs.flatMap (TOut.frag w))) (a.frag w) :=
      Sub.cons (Sub.turn (by simp) (Sub.cons (Sub.turn (by simp) Sub.same)))
     exact (this p hp).imp (List.mem_append_right _) id
    ·exact .inr (List.mem_append_right _ (.tail _ (List.mem_map_of_mem hp)))
 refine ⟨rfl, a', S', ⟨hH, nd, ⟨P.A.hv, P.A.hl, P.A.hi, ?_⟩, ⟨P.O.hv, P.O.hl, P.O.n1, P.O.n2, ?_, P.O.hi, fun r m => ?_⟩, ⟨.inl rfl, .inl rfl, .inl rfl⟩⟩, rfl, rfl, ?_, fun p m => ?_⟩
 ·show (a.outs ++ [t]).map TOut.dat = (S.outs ++ [o]).map SOut.dat
  rw [List.map_append, List.map_append, P.A.ho]
  show _ ++ [t.dat] = _ ++ [o.dat]
  rw [hdat]
 ·show (S.outs ++ [o]).length ≤ 20
  simp; omega
 ·have m' : r ∈ S.outs ++ [o] := m
  rcases List.mem_append.mp m' with m' | m'
  ·exact P.O.ho r m'
  ·rw [List.mem_singleton.mp m']; exact hok
 ·show (S.outs ++ [o]).length ≤ _
  simp
 ·have hk : p.1 ∈ keys (PF w a' S') := List.mem_map_of_mem m
  unfold PF at hk ⊢
  rw [keys_append, ek1, ek2] at hk
  rw [keys_append]
  rcases List.mem_append.mp hk with hk | hk
  ·rcases List.mem_append.mp hk with hk | hk
   ·exact .inl (List.mem_append_left _ hk)
   ·rw [List.mem_singleton.mp hk]; exact .inr f1
  ·rcases List.mem_append.mp hk with hk | hk
   ·exact .inl (List.mem_append_right _ hk)
   ·exact .inr (kt _ hk)
end
section
theorem ne_nil {w : World} {A : Around} {E Q : Value → Shared → Prop} {s : Shared} {l b : Addr} {vs : List Value} (hl : s.heap.IsList l vs.toArray) (hb : s.heap.IsList b ([] : List Value).toArray) (hu : A.units < cLine) (h : Q (.bool (decide (vs ≠ []))) s) :
  wpAny (model prog w) A (compareOp .NotEq (.ref l) (.ref b)) Q E s := by
 refine cmp_ofNotEq ?_
 cases vs with
 | nil => exact SeqAt.RcNeAt.lists (e := fun _ => true) hl hb rfl hu (fun j h1 => absurd h1 (Nat.not_lt_zero _)) prog w E Q h
 | cons v vs => exact SeqAt.RcNeAt.lists_lengths hl hb (by simp) hu prog w E Q (by simpa using h)
theorem ne_nil_t {w : World} {A : Around} {E Q : Value → Shared → Prop} {s : Shared} {l b : Addr} {vs : List Value} (hl : s.heap.IsList l vs.toArray) (hb : s.heap.IsList b ([] : List Value).toArray) (hu : A.units < cLine) (hv : vs ≠ []) (h : Q (.bool true) s) :
  wpAny (model prog w) A (compareOp .NotEq (.ref l) (.ref b)) Q E s := ne_nil hl hb hu (by rw [decide_eq_true hv]; exact h)
theorem ne_nil_f {w : World} {A : Around} {E Q : Value → Shared → Prop} {s : Shared} {l b : Addr} {vs : List Value} (hl : s.heap.IsList l vs.toArray) (hb : s.heap.IsList b ([] : List Value).toArray) (hu : A.units < cLine) (hv : vs = []) (h : Q (.bool false) s) :
  wpAny (model prog w) A (compareOp .NotEq (.ref l) (.ref b)) Q E s := ne_nil hl hb hu (by rw [decide_eq_false fun z => z hv]; exact h)
theorem hk47 : True := by
 k_with "compareOp NotEq ref ref" => (k_here; (with_reducible show wpAny _ _ (compareOp CmpOp.NotEq (Value.ref _) (Value.ref _)) _ _ _); first | (refine ne_nil_f (isl_baseN (by k_asm) (by assumption)) (isl_news (vs := []) (by k_asm) (by k_mem)) (by walk_at "kk_num") (by assumption) ?_) | (refine ne_nil_t (isl_news (by k_asm) (by k_mem)) (isl_news (vs := []) (by k_asm) (by k_mem)) (by walk_at "kk_num") (by assumption) ?_))
 trivial
theorem append_upd {w : World} {A : Around} {E Q : Value → Shared → Prop} {s : Shared} {g : Heap} {L D : Addr} {m : Str → Option Value} {its : List Value} {n : Nat} {news news' : List (Addr × Obj)} {v : Value}
  (F : Fr g L s.heap m) (N : News g L s.heap news) (U : Upd D (listOf its.toArray n) (listOf (its ++ [v]).toArray (n + 1)) news news') (hz : its.length ≤ 100)
  (h : ∀ h', Fr g L h' m → News g L h' news' → Q .none { s with heap := h' }) : wpAny (model prog w) A (PySem.call (.builtin "list.append") [.ref D, v]) Q E s := by
 obtain ⟨pre, post, rfl, rfl, a, b⟩ := U.split
 have md : (D, listOf its.toArray n) ∈ pre ++ (D, listOf its.toArray n) :: post := List.mem_append_right _ (.head _)
 refine append_at (hsz := by rw [List.size_toArray, sizeLine_eq]; omega) (N _ md).1 fun h' hs ho => h h' (F.change hs (N _ md).2.1 (N _ md).2.2) ?_
 intro q hq
 rcases List.mem_append.mp hq with hq | hq
 ·exact ⟨hs.extBut _ _ (a q hq) (N q (List.mem_append_left _ hq)).1, (N q (List.mem_append_left _ hq)).2⟩
 rcases List.mem_cons.mp hq with hq | hq
 ·rw [hq]
  refine ⟨?_, (N _ md).2⟩
  show h'.get? D = _
  rw [ho]; simp
 ·exact ⟨hs.extBut _ _ (b q hq) (N q (List.mem_append_right _ (.tail _ hq))).1, (N q (List.mem_append_right _ (.tail _ hq))).2⟩
theorem kl_last_snoc (y : Value) : ∀ p : List Value, kl_last (p ++ [y]) = some (p, y)
 | [] => rfl
 | x :: p => by
  have ih := kl_last_snoc y p
  show kl_last (x :: (p ++ [y])) = _
  unfold kl_last
  rw [ih]
theorem hk48 : True := by
 k_with "call builtin:list.pop" => (k_here; (show wpAny _ _ (PySem.call (Value.builtin "list.pop") [Value.ref _]) _ _ _); refine stopC ?_)
 k_with "call builtin:list.append" => (k_here; (show wpAny _ _ (PySem.call (Value.builtin "list.append") [Value.ref _, _]) _ _ _); refine stopC ?_)
 trivial
theorem notin_lt {q r b1 b2 b3 b4 : Nat} (o : b1 < r ∧ b2 < r ∧ b3 < r ∧ b4 < r) (h : r ≤ q) : q ∉ [b1, b2, b3, b4] := by
 simp only [List.mem_cons, List.not_mem_nil, or_false]; omega
theorem turned5_end {w : World} {a : TTx} {S : SSt} {h0 g h' : Heap} {L x d sx sd rx : Addr} {n1 n2 k1 k2 ks : Nat} {v : Int} {t1 t2 t3 t4 : Tok} {c : Array UInt8} (P : Two w a S h0) (hl : S.outs.length ≤ 19) (v0 : 0 ≤ v) (v1 : v < 18446744073709551616) (hc : c.size ≤ 255)
  (sub : ∀ b o, h0.get? b = some o → b ∉ [(a.x, instObj 1061 a.d), (a.d, a.dict w), (S.oa, listOf (S.outs.map fun r => Value.ref r.a).toArray S.no), (a.vo, listOf (a.outs.map fun o => Value.ref o.x).toArray a.no)].map (·.1) → g.get? b = some o)
  (N : News g L h' [(x, instObj 1143 d), (d, dictOf [ent w "value" k1 (.int v t3), ent w "script_pubkey" k2 (.ref sx)] 2), (sx, instObj 843 sd), (sd, dictOf [ent w "data" ks (.bytes c t4)] 1), (rx, listOf #[.int v t1, .bytes c t2] 0), (a.x, instObj 1061 a.d), (a.d, txDict w a.k1 a.k2 a.k3 a.k4 a.k5 a.k6 a.k7 a.k8 a.k9 (a.ver : Int) a.tv (a.lock : Int) a.tl a.vi a.vo .none .none .none), (S.oa, listOf ((S.outs.map fun r => Value.ref r.a) ++ [Value.ref rx]).toArray n1), (a.vo, listOf ((a.outs.map fun o => Value.ref o.x) ++ [Value.ref x]).toArray n2)])
  (o0 : @LT.lt Nat _ a.x rx ∧ @LT.lt Nat _ a.d rx ∧ @LT.lt Nat _ S.oa rx ∧ @LT.lt Nat _ a.vo rx) (o1 : @LT.lt Nat _ rx sd) (o2 : @LT.lt Nat _ sd sx) (o3 : @LT.lt Nat _ sx d) (o4 : @LT.lt Nat _ d x)
  (e : Ext ([(a.x, instObj 1061 a.d), (a.d, a.dict w), (S.oa, listOf (S.outs.map fun r => Value.ref r.a).toArray S.no), (a.vo, listOf (a.outs.map fun o => Value.ref o.x).toArray a.no)].map (·.1)) h0 h') : Turned w a S h0 .none h' := by
 obtain ⟨p, rfl⟩ : ∃ p : Nat, v = p := ⟨v.toNat, (Int.toNat_of_nonneg v0).symm⟩
 have l2 := Nat.lt_trans o1 o2
 have l3 := Nat.lt_trans l2 o3
 have l4 := Nat.lt_trans l3 o4
 have f2 : ∀ q ∈ TOut.frag w ⟨x, d, sx, sd, k1, k2, ks, t3, t4, p, c⟩, h0.get? q.1 = none := List.forall_mem_cons.mpr ⟨fresh_ofW sub N (List.mem_of_getElem? (i := 0) rfl) (notin_lt o0 (Nat.le_of_lt l4)), List.forall_mem_cons.mpr ⟨fresh_ofW sub N (List.mem_of_getElem? (i := 1) rfl) (notin_lt o0 (Nat.le_of_lt l3)), List.forall_mem_cons.mpr ⟨fresh_ofW sub N (List.mem_of_getElem? (i := 2) rfl) (notin_lt o0 (Nat.le_of_lt l2)), List.forall_mem_cons.mpr ⟨fresh_ofW sub N (List.mem_of_getElem? (i := 3) rfl) (notin_lt o0 (Nat.le_of_lt o1)), fun _ h => nomatch h⟩⟩⟩⟩
 exact turned_app (o := ⟨rx, 0, t1, t2, p, c⟩) (t := ⟨x, d, sx, sd, k1, k2, ks, t3, t4, p, c⟩) P hl rfl ⟨by show p < 18446744073709551616; exact Int.ofNat_lt.mp v1, hc⟩ e (N _ (List.mem_of_getElem? (i := 5) rfl)).1 (N _ (List.mem_of_getElem? (i := 6) rfl)).1 (N _ (List.mem_of_getElem? (i := 7) rfl)).1 (N _ (List.mem_of_getElem? (i := 8) rfl)).1 (N _ (List.mem_of_getElem? (i := 4) rfl)).1 ⟨(N _ (List.mem_of_getElem? (i := 0) rfl)).1, (N _ (List.mem_of_getElem? (i := 1) rfl)).1, (N _ (List.mem_of_getElem? (i := 2) rfl)).1, (N _ (List.mem_of_getElem? (i := 3) rfl)).1, trivial⟩ (fresh_ofW sub N (List.mem_of_getElem? (i := 4) rfl) (notin_lt o0 (Nat.le_refl _))) f2 (nd4 o2 o3 o4)
  (List.forall_mem_cons.mpr ⟨Nat.ne_of_gt l4, List.forall_mem_cons.mpr ⟨Nat.ne_of_gt l3, List.forall_mem_cons.mpr ⟨Nat.ne_of_gt l2, List.forall_mem_cons.mpr ⟨Nat.ne_of_gt o1, fun _ h => nomatch h⟩⟩⟩⟩)
section
variable {w : World} {hb : Heap} {mean : ExcName → Option Value} {mg mb : Str → Option Value} {s : Shared}
theorem turned6e (G : Gd w hb mean mg mb) (st : St hb s.heap) {a : TTx} {S : SSt} (P : Two w a S s.heap) (fr0 : ∀ p ∈ PF w a S, hb.get? p.1 = none) (ho : (S.outs.map fun r => Value.ref r.a) = []) {turn : Int} {t1 t2 : Tok} :
  Does w 20 (.ref 1230) [.ref a.x, .ref S.a, .int 6 t1, .int turn t2] [] s (keys (PF w a S)) (Turned w a S s.heap) := by
 walk_at "ir"
 refine hideP fun B9 k9 => ?_
 obtain ⟨row, tin, i, hin, hti, hei, hdat⟩ := place_of P.A P.O turn
 refine k9 ?_; clear k9
 have HS := P.here
 have HT := P.tx
 have mr := List.mem_of_getElem? hin
 have mt := List.mem_of_getElem? hti
 have memL : ∀ p ∈ [(a.x, instObj 1061 a.d), (a.d, a.dict w), (row.a, row.obj), (tin.x, instObj 1107 tin.d), (tin.d, tin.dict w), (S.a, listOf #[.int (S.ver : Int) S.tv, .ref S.ia, .ref S.oa, .int (S.lock : Int) S.tl] S.n)], p ∈ PF w a S :=
  List.forall_mem_cons.mpr ⟨Two.mA (.head _), List.forall_mem_cons.mpr ⟨Two.mA (.tail _ (.head _)), List.forall_mem_cons.mpr ⟨Two.mS (SSt.mRow mr), List.forall_mem_cons.mpr ⟨Two.mA (TTx.mIn mt (.head _)), List.forall_mem_cons.mpr ⟨Two.mA (TTx.mIn mt (.tail _ (.head _))), List.forall_mem_cons.mpr ⟨Two.mS (.head _), fun _ h => nomatch h⟩⟩⟩⟩⟩⟩
 have nd := P.apartI mr mt
 refine nd8E nd ?_
 clear nd
 intro n12 n13 n14 n15 n16 n17 n18 n23 n24 n25 n26 n27 n28 n34 n35 n36 n37 n38 n45 n46 n47 n48 n56 n57 n58 n67 n68 n78
 refine' enter (binds := [(Str.ofString "whole", .ref a.x), (Str.ofString "state", .ref S.a), (Str.ofString "way", .int 6 t1), (Str.ofString "turn", .int turn t2)]) G st [(a.x, instObj 1061 a.d), (a.d, a.dict w), (row.a, row.obj), (tin.x, instObj 1107 tin.d), (tin.d, tin.dict w), (S.a, listOf #[.int (S.ver : Int) S.tv, .ref S.ia, .ref S.oa, .int (S.lock : Int) S.tl] S.n)] ?hW ?ho ?hcd ?hroom ?hbind ?hloc ?h ?hcell ?hco ?hgen ?hk
 walk_at "kk_enter"
 case hW => exact fun p m => ⟨P.H.get (memL p m), fr0 p (memL p m)⟩
 walk_at "ig"
 have lx : ∀ p ∈ [(a.x, instObj 1061 a.d), (a.d, a.dict w), (row.a, row.obj), (tin.x, instObj 1107 tin.d), (tin.d, tin.dict w), (S.a, listOf #[.int (S.ver : Int) S.tv, .ref S.ia, .ref S.oa, .int (S.lock : Int) S.tl] S.n)], p.1 ∈ keys (PF w a S) := fun p m => List.mem_map_of_mem (memL p m)
 have lf : ∀ p ∈ [(a.x, instObj 1061 a.d), (a.d, a.dict w), (row.a, row.obj), (tin.x, instObj 1107 tin.d), (tin.d, tin.dict w), (S.a, listOf #[.int (S.ver : Int) S.tv, .ref S.ia, .ref S.oa, .int (S.lock : Int) S.tl] S.n)], hb.get? p.1 = none := fun p m => fr0 p (memL p m)
 clear memL
 k_lt l1
 skip
 have gi := sub _ _ HS.hi (notC n24 (notC n25 (notC n23 (notC n27 (notC n28 (notC (Ne.symm n12) notN))))))
 have gvi := sub _ _ HT.low.l0 (notC (Ne.symm n46) (notC (Ne.symm n56) (notC (Ne.symm n36) (notC n67 (notC n68 (notC (Ne.symm n16) notN))))))
 have gho := sub _ _ HS.ho (notC (P.oaI mr mt).1 (notC (P.oaI mr mt).2.1 (notC (P.oaI mr mt).2.2.1 (notC (P.oaI mr mt).2.2.2.1 (notC (P.oaI mr mt).2.2.2.2.1 (notC (P.oaI mr mt).2.2.2.2.2 notN))))))
 have hn : (0 : Int) < (S.ins.length : Int) := by have := P.O.n1; omega
 have hn3 := P.O.n2
 have hn4 := P.ok.n2
 unfold SRow.obj at N
 refine a_exec1 ?_
 k_steps
 change wpAny _ _ (execs _ _) _ _ _
 walk_at "r9"
 (try dsimp +zetaDelta only at F9)
 rw [hei] at F9
 k_steps
 walk_at "r8"
 change wpAny _ _ (PySem.call (.ref 950) [.ref a.x]) _ _ _
 walk_at "tc"
 intro K8 hK8 r h' tk' F' n0 p
 refine hideP fun B9 k9 => ?_
 obtain ⟨e1, ed⟩ := p
 refine k9 ?_; clear k9
 subst e1
 have N' := n0 _ _ (by k_upd) ed
 clear n0 F8 N8
 refine hK8 _ _ _ ?_
 k_steps
 walk_at "r8"
 replace N8 := (news_drop 1 N8)
 exact leaves F8 fun _ => fun e => hQ _ _ _ (Ext.weak e fun b hb => by obtain ⟨p, hp, rfl⟩ := List.mem_map.mp hb; exact lx p hp) (turnedE_end P hin hti hdat (Int.fmod_nonneg_of_pos _ (by decide)) (Int.fmod_lt_of_pos _ (by decide)) (Int.fmod_nonneg_of_pos _ (by decide)) (Int.fmod_lt_of_pos _ (by decide)) F8 gi gvi N8 e)
theorem turned6 (G : Gd w hb mean mg mb) (st : St hb s.heap) {a : TTx} {S : SSt} (P : Two w a S s.heap) (fr0 : ∀ p ∈ PF w a S, hb.get? p.1 = none) (ho : S.outs ≠ []) {turn : Int} {t1 t2 : Tok} :
  Does w 20 (.ref 1230) [.ref a.x, .ref S.a, .int 6 t1, .int turn t2] [] s (keys (PF w a S)) (Turned w a S s.heap) := by
 walk_at "ir"
 refine hideP fun B9 k9 => ?_
 obtain ⟨O, o, hO⟩ := snoc_of ho
 refine k9 ?_; clear k9
 obtain ⟨T, t, hT⟩ := snoc_of (l := a.outs) (fun z => ho (List.map_eq_nil_iff.mp (by rw [← P.A.ho, z]; rfl)))
 have rO : (S.outs.map fun r => Value.ref r.a) = (O.map fun r => Value.ref r.a) ++ [Value.ref o.a] := by rw [hO, List.map_append]; rfl
 have rT : (a.outs.map fun r => Value.ref r.x) = (T.map fun r => Value.ref r.x) ++ [Value.ref t.x] := by rw [hT, List.map_append]; rfl
 have HS := P.here
 have HT := P.tx
 have memL : ∀ p ∈ [(a.x, instObj 1061 a.d), (a.d, a.dict w), (S.oa, listOf ((O.map fun r => Value.ref r.a) ++ [Value.ref o.a]).toArray S.no), (a.vo, listOf ((T.map fun o => Value.ref o.x) ++ [Value.ref t.x]).toArray a.no)], p ∈ PF w a S :=
  List.forall_mem_cons.mpr ⟨Two.mA (.head _), List.forall_mem_cons.mpr ⟨Two.mA (.tail _ (.head _)), List.forall_mem_cons.mpr ⟨by rw [← rO]; exact Two.mS (.tail _ (.tail _ (.head _))), List.forall_mem_cons.mpr ⟨by rw [← rT]; exact Two.mA (.tail _ (.tail _ (.tail _ (.head _)))), fun _ h => nomatch h⟩⟩⟩⟩
 have nd := P.apartO
 refine nd5E nd ?_
 clear nd
 intro n12 n13 n14 n15 n23 n24 n25 n34 n35 n45
 refine' enter (binds := [(Str.ofString "whole", .ref a.x), (Str.ofString "state", .ref S.a), (Str.ofString "way", .int 6 t1), (Str.ofString "turn", .int turn t2)]) G st [(a.x, instObj 1061 a.d), (a.d, a.dict w), (S.oa, listOf ((O.map fun r => Value.ref r.a) ++ [Value.ref o.a]).toArray S.no), (a.vo, listOf ((T.map fun o => Value.ref o.x) ++ [Value.ref t.x]).toArray a.no)] ?hW ?ho ?hcd ?hroom ?hbind ?hloc ?h ?hcell ?hco ?hgen ?hk
 walk_at "kk_enter"
 case hW => exact fun p m => ⟨P.H.get (memL p m), fr0 p (memL p m)⟩
 intro g L h₁ F N l1 lL X T9 stg sub
 have lx : ∀ p ∈ [(a.x, instObj 1061 a.d), (a.d, a.dict w), (S.oa, listOf ((O.map fun r => Value.ref r.a) ++ [Value.ref o.a]).toArray S.no), (a.vo, listOf ((T.map fun o => Value.ref o.x) ++ [Value.ref t.x]).toArray a.no)], p.1 ∈ keys (PF w a S) := fun p m => List.mem_map_of_mem (memL p m)
 have lf : ∀ p ∈ [(a.x, instObj 1061 a.d), (a.d, a.dict w), (S.oa, listOf ((O.map fun r => Value.ref r.a) ++ [Value.ref o.a]).toArray S.no), (a.vo, listOf ((T.map fun o => Value.ref o.x) ++ [Value.ref t.x]).toArray a.no)], hb.get? p.1 = none := fun p m => fr0 p (memL p m)
 clear memL
 k_lt l1
 have gs := sub _ _ HS.hs (notC n13 (notC n14 (notC n12 (notC n15 notN))))
 have gi := sub _ _ HS.hi (notC P.iaO.1 (notC P.iaO.2.1 (notC P.iaO.2.2.1 (notC P.iaO.2.2.2 notN))))
 have hn : (0 : Int) < (S.ins.length : Int) := by have := P.O.n1; omega
 have hn3 := P.O.n2
 have hn4 := P.O.n3
 have hn5 := P.ok.n3
 have hn6 : O.length ≤ 20 := by have := hn4; rw [hO] at this; simp at this; omega
 have hn7 : T.length ≤ 20 := by have := hn5; rw [hT] at this; simp at this; omega
 have hne : (O.map fun r => Value.ref r.a) ++ [Value.ref o.a] ≠ [] := by simp
 k_steps
 walk_at "r8"
 change wpAny _ _ (PySem.call (Value.builtin "list.pop") [.ref S.oa]) _ _ _
 refine kl_pop F8 N8 (kl_last_snoc _ _) (by k_upd) (by simp [sizeLine_eq]; omega) ?_
 intro h' F' N'
 clear F8 N8
 k_steps
 walk_at "r8"
 change wpAny _ _ (PySem.call (Value.builtin "list.pop") [.ref a.vo]) _ _ _
 refine kl_pop F8 N8 (kl_last_snoc _ _) (by k_upd) (by simp [sizeLine_eq]; omega) ?_
 intro h' F' N'
 clear F8 N8
 k_steps
 walk_at "r8"
 change wpAny _ _ (PySem.call (.ref 950) [.ref a.x]) _ _ _
 walk_at "tc"
 intro K8 hK8 r h' tk' F' n0 p
 refine hideP fun B9 k9 => ?_
 obtain ⟨e1, ed⟩ := p
 refine k9 ?_; clear k9
 subst e1
 have N' := n0 _ _ (by k_upd) ed
 clear n0 F8 N8
 refine hK8 _ _ _ ?_
 k_steps
 walk_at "r8"
 exact leaves F8 fun _ => fun e => hQ _ _ _ (Ext.weak e fun b hb => by obtain ⟨p, hp, rfl⟩ := List.mem_map.mp hb; exact lx p hp) (turned_pop P hO hT e (N8 _ (.tail _ (.head _))).1 (N8 _ (.tail _ (.tail _ (.head _)))).1 (N8 _ (.tail _ (.tail _ (.tail _ (.head _))))).1 (N8 _ (.tail _ (.tail _ (.tail _ (.tail _ (.head _)))))).1)
theorem turned5 (G : Gd w hb mean mg mb) (st : St hb s.heap) {a : TTx} {S : SSt} (P : Two w a S s.heap) (fr0 : ∀ p ∈ PF w a S, hb.get? p.1 = none) (h19 : S.outs.length ≤ 19) {turn : Int} {t1 t2 : Tok} :
  Does w 20 (.ref 1230) [.ref a.x, .ref S.a, .int 5 t1, .int turn t2] [] s (keys (PF w a S)) (Turned w a S s.heap) := by
 walk_at "ir"
 have HS := P.here
 have HT := P.tx
 have memL : ∀ p ∈ [(a.x, instObj 1061 a.d), (a.d, a.dict w), (S.oa, listOf (S.outs.map fun r => Value.ref r.a).toArray S.no), (a.vo, listOf (a.outs.map fun o => Value.ref o.x).toArray a.no)], p ∈ PF w a S :=
  List.forall_mem_cons.mpr ⟨Two.mA (.head _), List.forall_mem_cons.mpr ⟨Two.mA (.tail _ (.head _)), List.forall_mem_cons.mpr ⟨Two.mS (.tail _ (.tail _ (.head _))), List.forall_mem_cons.mpr ⟨Two.mA (.tail _ (.tail _ (.tail _ (.head _)))), fun _ h => nomatch h⟩⟩⟩⟩
 have nd := P.apartO
 refine nd5E nd ?_
 clear nd
 intro n12 n13 n14 n15 n23 n24 n25 n34 n35 n45
 refine' enter (binds := [(Str.ofString "whole", .ref a.x), (Str.ofString "state", .ref S.a), (Str.ofString "way", .int 5 t1), (Str.ofString "turn", .int turn t2)]) G st [(a.x, instObj 1061 a.d), (a.d, a.dict w), (S.oa, listOf (S.outs.map fun r => Value.ref r.a).toArray S.no), (a.vo, listOf (a.outs.map fun o => Value.ref o.x).toArray a.no)] ?hW ?ho ?hcd ?hroom ?hbind ?hloc ?h ?hcell ?hco ?hgen ?hk
 walk_at "kk_enter"
 case hW => exact fun p m => ⟨P.H.get (memL p m), fr0 p (memL p m)⟩
 intro g L h₁ F N l1 lL X T9 stg sub
 have lx : ∀ p ∈ [(a.x, instObj 1061 a.d), (a.d, a.dict w), (S.oa, listOf (S.outs.map fun r => Value.ref r.a).toArray S.no), (a.vo, listOf (a.outs.map fun o => Value.ref o.x).toArray a.no)], p.1 ∈ keys (PF w a S) := fun p m => List.mem_map_of_mem (memL p m)
 have lf : ∀ p ∈ [(a.x, instObj 1061 a.d), (a.d, a.dict w), (S.oa, listOf (S.outs.map fun r => Value.ref r.a).toArray S.no), (a.vo, listOf (a.outs.map fun o => Value.ref o.x).toArray a.no)], hb.get? p.1 = none := fun p m => fr0 p (memL p m)
 clear memL
 k_lt l1
 have gs := sub _ _ HS.hs (notC n13 (notC n14 (notC n12 (notC n15 notN))))
 have gi := sub _ _ HS.hi (notC P.iaO.1 (notC P.iaO.2.1 (notC P.iaO.2.2.1 (notC P.iaO.2.2.2 notN))))
 have hn : (0 : Int) < (S.ins.length : Int) := by have := P.O.n1; omega
 have hn3 := P.O.n2
 have hn4 := P.O.n3
 have hn5 := P.ok.n3
 skip
 skip
 skip
 k_steps
 walk_at "r8"
 change wpAny _ _ (PySem.call (Value.builtin "list.append") _) _ _ _
 refine append_upd F8 N8 (by k_upd) (by rw [List.length_map]; first | exact Nat.le_trans (by assumption) (by decide) | omega) ?_
 intro h' F' N'
 clear F8 N8
 k_steps
 walk_at "r8"
 change wpAny _ _ (PySem.call (Value.builtin "list.append") _) _ _ _
 refine append_upd F8 N8 (by k_upd) (by rw [List.length_map]; first | exact Nat.le_trans (by assumption) (by decide) | omega) ?_
 intro h' F' N'
 clear F8 N8
 k_steps
 walk_at "r8"
 change wpAny _ _ (PySem.call (.ref 950) [.ref a.x]) _ _ _
 walk_at "tc"
 intro K8 hK8 r h' tk' F' n0 p
 refine hideP fun B9 k9 => ?_
 obtain ⟨e1, ed⟩ := p
 refine k9 ?_; clear k9
 subst e1
 have N' := n0 _ _ (by k_upd) ed
 clear n0 F8 N8
 refine hK8 _ _ _ ?_
 k_steps
 walk_at "r8"
 exact leaves F8 fun _ => fun e => hQ _ _ _ (Ext.weak e fun b hb => by obtain ⟨p, hp, rfl⟩ := List.mem_map.mp hb; exact lx p hp) (turned5_end P h19 (Int.fmod_nonneg_of_pos _ (by decide +kernel)) (Int.lt_of_lt_of_le (Int.fmod_lt_of_pos _ (by decide +kernel)) (by decide +kernel)) (filled_size _) sub N8 ⟨by omega, by omega, by omega, by omega⟩ (by omega) (by omega) (by omega) (by omega) e)
theorem law_turned (G : Gd w hb mean mg mb) (st : St hb s.heap) {a : TTx} {S : SSt} (P : Two w a S s.heap) (fr0 : ∀ p ∈ PF w a S, hb.get? p.1 = none) (h19 : S.outs.length ≤ 19) {way turn : Int} (h4 : 3 < way) (h7 : way < 8) {t1 t2 : Tok} :
  Does w 20 (.ref 1230) [.ref a.x, .ref S.a, .int way t1, .int turn t2] [] s (keys (PF w a S)) (Turned w a S s.heap) := by
 have : way = 4 ∨ way = 5 ∨ way = 6 ∨ way = 7 := by
  rcases four_of (q := way - 4) (Int.sub_nonneg_of_le h4) (Int.sub_lt_sub_right h7 4) with h | h | h | h
  ·exact .inl (Int.eq_of_sub_eq_zero h)
  ·exact .inr (.inl (by rw [← Int.sub_add_cancel way 4, h]; rfl))
  ·exact .inr (.inr (.inl (by rw [← Int.sub_add_cancel way 4, h]; rfl)))
  ·exact .inr (.inr (.inr (by rw [← Int.sub_add_cancel way 4, h]; rfl)))
 rcases this with rfl | rfl | rfl | rfl
 ·exact turned4 G st P fr0
 ·exact turned5 G st P fr0 h19
 ·by_cases ho : S.outs = []
  ·exact turned6e G st P fr0 (by rw [ho]; rfl)
  ·exact turned6 G st P fr0 ho
 ·exact turned7 G st P fr0
end
end
section
open Sem (wp)
section
variable {α : Type} {M : Model} {A : Around} {E : Value → Shared → Prop} {s : Shared} {env : Env}
theorem x_attempt {m : Sem α} {Q : Except Value α → Shared → Prop} (h : wpX M A m (fun a s' => Q (.ok a) s') (fun e s' => Q (.error e) s') s) : wpX M A m.attempt Q E s :=
 fun Γ p hΓ ho hb => by rw [Sem.wp_attempt]; exact h Γ p hΓ ho hb
theorem x_try {body orelse : List Stmt} {h₀ : ExceptHandler} {hs : List ExceptHandler} {pos : Pos} {Q : Flow → Shared → Prop}
  (h : wpX M A (execs body env) (fun f s₁ => match f with | .next => wpX M A (execs orelse env) Q E s₁ | f => Q f s₁) (fun _ _ => False) s) :
  wpX M A (exec (.Try body (h₀ :: hs) orelse [] pos) env) Q E s := by
 rw [arm_exec_Try]
 refine x_bind (x_stand ?_)
 show wpX M A ((execs body env).attempt >>= _) Q E s
 refine x_bind (x_attempt (x_mono h (fun f s₁ h₁ => ?_) fun e s₁ h₁ => h₁.elim))
 cases f <;> first | exact h₁ | exact x_pure h₁ | exact x_mono h₁ (fun _ _ q => x_pure q) fun _ _ z => z | exact x_bind (x_pure (x_pure h₁)) | exact x_bind (x_mono h₁ (fun _ _ q => x_pure q) fun _ _ z => z)
end
end
section
def Asked (w : World) (a : TTx) (r : Value) (h' : Heap) : Prop := r = .bool true ∧ ∃ c1 c2 c3, keptAs c1 a.prevH ∧ keptAs c2 a.seqH ∧ keptAs c3 a.outH ∧ h'.get? a.d = some (a.dictC w c1 c2 c3)
theorem types_at {ts : List Tok} {i : Nat} (hl : List.length ts = 12) (hi : i < 12) : ∃ t, (kindL.zip ts)[i]? = some (kindL.getD i 0, t) := by
 have h1 : i < kindL.length := hi
 have h2 : i < ts.length := by omega
 refine ⟨ts[i], ?_⟩
 rw [List.getElem?_zip_eq_some]
 exact ⟨by rw [List.getElem?_eq_getElem h1, List.getD_eq_getElem?_getD, List.getElem?_eq_getElem h1]; rfl, List.getElem?_eq_getElem h2⟩
theorem item_at {w : World} {A : Around} {E Q : Value → Shared → Prop} {s : Shared} {value slice : PySem.Expr} {l : Addr} {α : Type} {f : α → Value} {vs : List α} {k : Int} {i : Nat} {u : Tok} {v : α} (e : k = (i : Int)) (hl : s.heap.IsList l (vs.map f).toArray) (hz : vs.length ≤ 1000000) (hx : vs[i]? = some v) (h : Q (f v) s)
  (hs : subscripted slice false (.ref l) (.int (i : Int) u) = operate [.ref l, .int (i : Int) u] (getItem (.ref l) (.int (i : Int) u)) := by with_unfolding_all rfl) :
  wpAny (model prog w) A (subscriptTail value slice (.ref l) (.int k u)) Q E s := by
 subst e; exact item_map hl hz hx h hs
theorem zip_len {ts : List Tok} (hl : List.length ts = 12) : (kindL.zip ts).length ≤ 1000000 := by rw [List.length_zip]; omega
theorem hk49 : True := by
 k_with "call ref" => (k_here; (with_reducible show wpAny _ _ (PySem.call (Value.ref 1152) _ _) _ _ _); (refine use0 (law_types (by assumption) (by walk_at "kk_st")) (by k_asm) (by k_asm) (by walk_at "kk_num") (by walk_at "kk_num") ?_); intro K8 hK8 r9 h'9 tk'9 F'9 n09 l19 l29 p9; obtain ⟨l9, n9, ts9, e19, e29, e39, e49⟩ := p9; subst e19; obtain ⟨tq9, hat9⟩ := types_at e39 (by assumption); (have hzl9 := zip_len e39); (have N'9 := news_fresh (by k_asm) e29 e49 n09); clear n09 l19 l29; (refine hK8 _ _ _ ?_))
 k_with "subscriptTail" => (k_here; (with_reducible show wpAny _ _ (subscriptTail _ _ (Value.ref _) (Value.int _ _)) _ _ _); (refine item_at (by assumption) (isl_news (by k_asm) (by k_mem)) (by assumption) (by assumption) ?_ (by with_unfolding_all rfl)); (try dsimp only))
 trivial
theorem x_cut6 {M : Model} {A : Around} {E : Value → Shared → Prop} {env : Env} {Q : Flow → Shared → Prop} {a b c d e f : Stmt} {r : List Stmt} {s : Shared} (P : Shared → Prop)
  (h : ∀ K : Shared → Prop, (∀ s', P s' → K s') → wpX M A (execs [a, b, c, d, e, f] env) (fun f s' => f = .next ∧ K s') (fun _ _ => False) s) (k : ∀ s', P s' → wpX M A (execs r env) Q E s') : wpX M A (execs (a :: b :: c :: d :: e :: f :: r) env) Q E s :=
 x_split (l := [a, b, c, d, e, f]) (x_mono (h P fun _ q => q) (fun f s' z => by obtain ⟨rfl, z⟩ := z; exact k s' z) fun _ _ z => z.elim)
abbrev askM (due : Value) (k : Int) (t1 : Tok) (pl : Int) (t2 : Tok) (c : Array UInt8) (t3 : Tok) (v : Int) (t4 : Tok) (m₀ : Str → Option Value) : Str → Option Value := fun y => if y = Str.ofString "due" then some due else if y = Str.ofString "value" then some (.int v t4) else if y = Str.ofString "code" then some (.bytes c t3) else if y = Str.ofString "place" then some (.int pl t2) else if y = Str.ofString "kind" then some (.int k t1) else m₀ y
def AskP (g : Heap) (L : Addr) (m₀ : Str → Option Value) (W : List (Addr × Obj)) (due : Value) (k pl : Int) (c : Array UInt8) (v : Int) (s s' : Shared) : Prop :=
 ∃ h tk t1 t2 t3 t4, s' = { s with heap := h, toks := tk } ∧ Fr g L h (askM due k t1 pl t2 c t3 v t4 m₀) ∧ News g L h W
theorem hk50 : True := by
 k_with "call ref" => (k_here; (with_reducible show wpAny _ _ (PySem.call (Value.ref 1211) _ _) _ _ _); (refine use0b (law_new (by assumption) (by walk_at "kk_st") (SSt.Here.up (by assumption) (Fr.keep (by k_asm))) (by assumption) (by assumption) (by assumption) (by assumption) (filled_size _)) (by k_asm) (by k_asm) (by walk_at "kk_num") (by walk_at "kk_num") ?_); intro t'9 h'9 tk'9 F'9 N'9)
 k_with "call ref" => (k_here; (with_reducible show wpAny _ _ (PySem.call (Value.ref 1206) _ _) _ _ _); (refine use0b (law_old (by assumption) (by walk_at "kk_st") (SSt.Here.up (by assumption) (Fr.keep (by k_asm))) (by assumption) (by assumption) (by assumption) (filled_size _)) (by k_asm) (by k_asm) (by walk_at "kk_num") (by walk_at "kk_num") ?_); intro t'9 h'9 tk'9 F'9 N'9)
 trivial
theorem askP_mk {g h : Heap} {L : Addr} {m₀ : Str → Option Value} {W : List (Addr × Obj)} {due : Value} {k k' pl v : Int} {t1 t2 t3 t4 : Tok} {c : Array UInt8} {s : Shared} {tk : Nat} (e : k = k') (F : Fr g L h (askM due k' t1 pl t2 c t3 v t4 m₀)) (N : News g L h W) : AskP g L m₀ W due k pl c v s { s with heap := h, toks := tk } := by
 subst e; exact ⟨_, _, _, _, _, _, rfl, F, N⟩
def AskQ (g : Heap) (L : Addr) (m₀ : Str → Option Value) (W : List (Addr × Obj)) (due : Array UInt8) (k pl : Int) (c : Array UInt8) (v : Int) (s s' : Shared) : Prop :=
 ∃ h tk t0 t1 t2 t3 t4, s' = { s with heap := h, toks := tk } ∧ Fr g L h (askM (.bytes due t0) k t1 pl t2 c t3 v t4 m₀) ∧ News g L h W
theorem AskP.elim {g : Heap} {L : Addr} {m₀ : Str → Option Value} {W : List (Addr × Obj)} {due : Value} {k pl v : Int} {c : Array UInt8} {s s' : Shared} {B : Shared → Prop} (H : AskP g L m₀ W due k pl c v s s') (q : ∀ h tk t1 t2 t3 t4, Fr g L h (askM due k t1 pl t2 c t3 v t4 m₀) → News g L h W → B ⟨h, s.gens, s.drawn, tk, s.os⟩) : B s' := by
 obtain ⟨h, tk, t1, t2, t3, t4, rfl, F, N⟩ := H; exact q _ _ _ _ _ _ F N
theorem AskQ.elim {g : Heap} {L : Addr} {m₀ : Str → Option Value} {W : List (Addr × Obj)} {due : Array UInt8} {k pl v : Int} {c : Array UInt8} {s s' : Shared} {B : Shared → Prop} (H : AskQ g L m₀ W due k pl c v s s') (q : ∀ h tk t0 t1 t2 t3 t4, Fr g L h (askM (.bytes due t0) k t1 pl t2 c t3 v t4 m₀) → News g L h W → B ⟨h, s.gens, s.drawn, tk, s.os⟩) : B s' := by
 obtain ⟨h, tk, t0, t1, t2, t3, t4, rfl, F, N⟩ := H; exact q _ _ _ _ _ _ _ F N
theorem AskQ.mk {g h : Heap} {L : Addr} {m₀ : Str → Option Value} {W : List (Addr × Obj)} {due : Array UInt8} {k pl v : Int} {t0 t1 t2 t3 t4 : Tok} {c : Array UInt8} {s : Shared} {tk : Nat} (F : Fr g L h (askM (.bytes due t0) k t1 pl t2 c t3 v t4 m₀)) (N : News g L h W) : AskQ g L m₀ W due k pl c v s ⟨h, s.gens, s.drawn, tk, s.os⟩ := ⟨_, _, _, _, _, _, _, rfl, F, N⟩
theorem fr_due {g h : Heap} {L : Addr} {d d' : Value} {k pl v : Int} {t1 t2 t3 t4 : Tok} {c : Array UInt8} {m₀ : Str → Option Value} (F : Fr g L h (fun y => if y = Str.ofString "due" then some d else askM d' k t1 pl t2 c t3 v t4 m₀ y)) : Fr g L h (askM d k t1 pl t2 c t3 v t4 m₀) := fr_congr F fun y => by
 by_cases e : y = Str.ofString "due"
 ·subst e; rfl
 ·simp only [askM, if_neg e]
def kOld (S : SSt) (pl : Int) (k : Nat) : Nat := if k % 128 = 3 ∧ (pl ≠ 0 ∨ S.outs = []) then k - 2 else k
theorem hk51 : True := by
 k_with "compareOp Eq ref ref" => (k_here; (with_reducible show wpAny _ _ (compareOp CmpOp.Eq (Value.ref _) (Value.ref _)) _ _ _); (refine eq_nil (isl_baseN (by k_asm) (by assumption)) (isl_news (vs := []) (by k_asm) (by k_mem)) (by walk_at "kk_num") ?_))
 trivial
theorem kind_3 {i : Nat} (hi : i < 12) : kindL.getD i 0 % 128 = 3 → kindL.getD i 0 = 3 ∨ kindL.getD i 0 = 131 := (by decide +kernel : ∀ i : Fin 12, kindL.getD i.1 0 % 128 = 3 → kindL.getD i.1 0 = 3 ∨ kindL.getD i.1 0 = 131) ⟨i, hi⟩
theorem kOld_3 {S : SSt} {pl : Int} {i : Nat} (hi : i < 12) (h : kOld S pl (kindL.getD i 0) % 128 = 3) : pl = 0 ∧ S.outs ≠ [] := by
 have hk := kind_3 hi
 unfold kOld at h
 split at h
 ·rename_i q
  rcases hk q.1 with e | e <;> (rw [e] at h; exact absurd h (by decide))
 ·rename_i q
  refine ⟨?_, ?_⟩
  ·false_or_by_contra; rename_i z; exact q ⟨h, .inl z⟩
  ·intro z; exact q ⟨h, .inr z⟩
theorem outs_nil {S : SSt} (h : (S.outs.map fun r => Value.ref r.a) = []) : S.outs = [] := List.map_eq_nil_iff.mp h
theorem kOld_no {S : SSt} {pl : Int} {k : Nat} (h : ¬ (k % 128 = 3 ∧ (pl ≠ 0 ∨ S.outs = []))) : ((kOld S pl k : Nat) : Int) = (k : Int) := by unfold kOld; rw [if_neg h]
theorem fm3 {k : Nat} (h : (k : Int).fmod 128 = ((k % 128 : Nat) : Int)) (e : k % 128 = 3) : (k : Int).fmod 128 = 3 := by rw [h, e]; rfl
theorem kOld_yes {S : SSt} {pl : Int} {k : Nat} (h : k % 128 = 3) (h2 : pl ≠ 0 ∨ S.outs = []) : ((kOld S pl k : Nat) : Int) = (k : Int) - 2 := by unfold kOld; rw [if_pos ⟨h, h2⟩]; omega
theorem fr_kind {g h : Heap} {L : Addr} {k k' pl v : Int} {t0 t1 t2 t3 t4 : Tok} {c : Array UInt8} {m₀ : Str → Option Value} (F : Fr g L h (fun y => if y = Str.ofString "due" then some .none else if y = Str.ofString "kind" then some (.int k t0) else if y = Str.ofString "value" then some (.int v t4) else if y = Str.ofString "code" then some (.bytes c t3) else if y = Str.ofString "place" then some (.int pl t2) else if y = Str.ofString "kind" then some (.int k' t1) else m₀ y)) : Fr g L h (askM .none k t0 pl t2 c t3 v t4 m₀) := fr_congr F fun y => by
 by_cases e : y = Str.ofString "kind"
 ·subst e; rfl
 ·simp only [askM, if_neg e]
theorem kinds_any {k : Nat} (h : k ∈ kinds) : ([0, 1, 2, 3, 128, 129, 130, 131].any fun x : Int => x == (k : Int)) = true := by
 have : k = 0 ∨ k = 1 ∨ k = 2 ∨ k = 3 ∨ k = 128 ∨ k = 129 ∨ k = 130 ∨ k = 131 := by simpa [kinds] using h
 rcases this with rfl | rfl | rfl | rfl | rfl | rfl | rfl | rfl <;> rfl
noncomputable def askB : List Stmt := match st 43 with
 | .FunctionDef _ _ b _ _ _ _ _ _ _ => b
 | _ => []
noncomputable def askSc : Scope := match st 43 with
 | .FunctionDef _ _ _ _ _ _ sc _ _ _ => sc
 | _ => default
noncomputable abbrev askE (L : Addr) : Env := envOf (Str.ofString "_law_asked") askSc L 1223 (.ref 1222)
abbrev ask0 (x sa : Addr) (b : Bool) (turn : Int) (t0 : Tok) : Str → Option Value := fun y => [(Str.ofString "whole", Value.ref x), (Str.ofString "state", .ref sa), (Str.ofString "new", .bool b), (Str.ofString "turn", .int turn t0)].reverse.lookup y
section
variable {w : World} {hb g h₁ : Heap} {mean : ExcName → Option Value} {mg mb : Str → Option Value} {s : Shared} {S : SSt} {L x : Addr} {turn : Int} {t0 : Tok} {i dp un tk : Nat} {fr : Option (List Env)} {gd : Option (List Code)} {K7 : Shared → Prop} {W : List (Addr × Obj)}
theorem ask_old (G : Gd w hb mean mg mb) (stg : St hb g) (HG : S.Here g) (O : S.Ok) (hi : turn.fmod 12 = (i : Int)) (hi12 : i < 12) (hdp : dp + 100 < recursionLimit) (hu : un + 8 * 100 < cLine) (X : (Kc w.params).In g) (T : Top qv (looseW qv loose) mean mg mb g)
  (F : Fr g L h₁ (ask0 x S.a false turn t0)) (N : News g L h₁ [])
  (hK7 : ∀ s', AskP g L (ask0 x S.a false turn t0) [] .none (kOld S ((turn.fdiv 12).fmod ((S.ins.length : Int) + 4) - 2) (kindL.getD i 0) : Nat) ((turn.fdiv 12).fmod ((S.ins.length : Int) + 4) - 2) (filledB (turn.fdiv 84)) ((turn.fdiv 84 * 2654435761).fmod (1 * 2 ^ Int.toNat 64)) s s' → K7 s') :
  wpAny (model prog w) ((Ar dp un fr gd).deeper (askE L)) (execs (askB.take 6) (askE L)) (fun f s' => f = .next ∧ K7 s') (fun _ _ => False) { s with heap := h₁, toks := tk } := by
 have gs := HG.hs
 have gi := HG.hi
 have go := HG.ho
 have n1 := O.n1
 have n3 := O.n2
 have hfm := fmod_kind (kindL.getD i 0)
 change wpAny _ _ (execs (_ :: _ :: _ :: _ :: _ :: _ :: []) (envOf _ ⟨_, _, _, _, _⟩ _ _ _)) _ _ _
 k_steps
 all_goals (rename Fr _ _ _ _ => F8)
 all_goals (rename News _ _ _ _ => N8)
 all_goals first
  | (refine hK7 _ (askP_mk (kOld_no ?_) F8 (fun p m => nomatch m)); intro z; exact absurd (fm3 hfm z.1) (by assumption))
  | (refine hK7 _ (askP_mk (kOld_no ?_) F8 (fun p m => nomatch m)); intro z; omega)
  | (refine hK7 _ (askP_mk (kOld_no ?_) F8 (fun p m => nomatch m)); intro z; exact z.2.elim (fun q => q (by assumption)) (fun q => absurd (List.map_eq_nil_iff.mpr q) (by assumption)))
  | (refine hK7 _ (askP_mk (kOld_yes (by omega) (.inl ?_)) (fr_kind F8) (fun p m => nomatch m)); assumption)
  | (refine hK7 _ (askP_mk (kOld_yes (by omega) (.inr (outs_nil ?_))) (fr_kind F8) (fun p m => nomatch m)); assumption)
theorem ask_new (G : Gd w hb mean mg mb) (stg : St hb g) (HG : S.Here g) (O : S.Ok) (hi : turn.fmod 12 = (i : Int)) (hi12 : i < 12) (hdp : dp + 100 < recursionLimit) (hu : un + 8 * 100 < cLine) (X : (Kc w.params).In g) (T : Top qv (looseW qv loose) mean mg mb g)
  (F : Fr g L h₁ (ask0 x S.a true turn t0)) (N : News g L h₁ W)
  (hK7 : ∀ s', AskP g L (ask0 x S.a true turn t0) W .none (kindL.getD i 0 : Nat) ((turn.fdiv 12).fmod ((S.ins.length : Int) + 4) - 2) (filledB (turn.fdiv 84)) ((turn.fdiv 84 * 2654435761).fmod (1 * 2 ^ Int.toNat 64)) s s' → K7 s') :
  wpAny (model prog w) ((Ar dp un fr gd).deeper (askE L)) (execs (askB.take 6) (askE L)) (fun f s' => f = .next ∧ K7 s') (fun _ _ => False) { s with heap := h₁, toks := tk } := by
 have gs := HG.hs
 have gi := HG.hi
 have n1 := O.n1
 have n3 := O.n2
 change wpAny _ _ (execs (_ :: _ :: _ :: _ :: _ :: _ :: []) (envOf _ ⟨_, _, _, _, _⟩ _ _ _)) _ _ _
 k_steps
 walk_at "r8"
 exact hK7 _ (askP_mk rfl F8 (news_drop 1 N8))
end
section
variable {w : World} {hb : Heap} {mean : ExcName → Option Value} {mg mb : Str → Option Value} {s : Shared}
theorem asked_new (G : Gd w hb mean mg mb) (st : St hb s.heap) {a : TTx} {S : SSt} (P : Two w a S s.heap) (fr0 : ∀ p ∈ PF w a S, hb.get? p.1 = none) {turn : Int} {t0 : Tok} {i j : Nat} (hi : turn.fmod 12 = (i : Int)) (hi12 : i < 12) (hj : ((turn.fdiv 12).fmod ((S.ins.length : Int) + 4) - 2) = (j : Int)) (hjn : j < S.ins.length) (hk : kindL.getD i 0 ∈ kinds) :
  DoesX w 100 (.ref 1223) [.ref a.x, .ref S.a, .bool true, .int turn t0] [] s [a.d] (Asked w a) := by
 walk_at "ir"
 have HS := P.here
 have HT := P.tx
 have memL : ∀ p ∈ [(a.x, instObj 1061 a.d), (a.d, a.dictC w a.c1 a.c2 a.c3)], p ∈ PF w a S := by
  simp only [List.mem_cons, List.not_mem_nil, or_false]
  rintro p (rfl | rfl)
  ·exact Two.mA (.head _)
  ·exact Two.mA (.tail _ (.head _))
 refine' enterX (binds := [(Str.ofString "whole", Value.ref a.x), (Str.ofString "state", .ref S.a), (Str.ofString "new", .bool true), (Str.ofString "turn", .int turn t0)]) G st [(a.x, instObj 1061 a.d), (a.d, a.dictC w a.c1 a.c2 a.c3)] ?hW ?ho ?hcd ?hroom ?hbind ?hloc ?h ?hcell ?hco ?hgen ?hk
 walk_at "kk_enter"
 case hW => exact fun p m => ⟨P.H.get (memL p m), fr0 p (memL p m)⟩
 walk_at "ig"
 have hxd : a.x ≠ a.d := ne_obj HT.t0 HT.t1 (ne_cls (by intro e; cases e))
 have hdx := Ne.symm hxd
 k_lt l1
 have HL := HT.low.subT HT.t0 HT.t1 a.noTxL sub
 have HG : S.Here g := P.hereG sub
 have gs := HG.hs
 have gi := HG.hi
 have n1 := P.O.n1
 have n3 := P.O.n2
 refine x_cut6 (AskP g L (fun y => [(Str.ofString "whole", Value.ref a.x), (Str.ofString "state", .ref S.a), (Str.ofString "new", .bool true), (Str.ofString "turn", .int turn t0)].reverse.lookup y) [(a.x, instObj 1061 a.d), (a.d, a.dictC w a.c1 a.c2 a.c3)] .none (kindL.getD i 0 : Nat) ((turn.fdiv 12).fmod ((S.ins.length : Int) + 4) - 2) (filledB (turn.fdiv 84)) ((turn.fdiv 84 * 2654435761).fmod (1 * 2 ^ Int.toNat 64)) s) (fun K7 hK7 => ?_) ?_
 ·exact x_any (ask_new G stg HG P.O hi hi12 hdp hu X T F N hK7)
 ·intro s' H9
  refine AskP.elim H9 ?_
  clear H9
  intro h' tk' t1 t2 t3 t4 F' N'
  clear F N
  obtain ⟨v, hv, hvl⟩ : ∃ v : Nat, ((turn.fdiv 84 * 2654435761).fmod (1 * 2 ^ Int.toNat 64)) = (v : Int) ∧ v < 18446744073709551616 := by
   have q0 := Int.fmod_nonneg_of_pos (turn.fdiv 84 * 2654435761) (b := (1 * 2 ^ Int.toNat 64)) (by decide +kernel)
   have q1 : _ < (18446744073709551616 : Int) := Int.lt_of_lt_of_le (Int.fmod_lt_of_pos (turn.fdiv 84 * 2654435761) (b := (1 * 2 ^ Int.toNat 64)) (by decide +kernel)) (by decide +kernel)
   exact ⟨_, (Int.toNat_of_nonneg q0).symm, by omega⟩
  rw [hv, hj] at F'
  generalize kindL.getD i 0 = k at *
  clear hv hj hi
  obtain ⟨row, hr⟩ : ∃ row, S.ins[j]? = some row := ⟨_, List.getElem?_eq_getElem hjn⟩
  refine hideP fun B9 k9 => ?_
  obtain ⟨inp, hti, hdat⟩ := P.A.at hr
  refine k9 ?_; clear k9
  have O := P.O
  have hany := kinds_any hk
  have hcs := filled_size (turn.fdiv 84)
  refine x_cut1 (AskQ g L (fun y => [(Str.ofString "whole", Value.ref a.x), (Str.ofString "state", .ref S.a), (Str.ofString "new", .bool true), (Str.ofString "turn", .int turn t0)].reverse.lookup y) [(a.x, instObj 1061 a.d), (a.d, a.dictC w a.c1 a.c2 a.c3)] (newB S j k v row (filledB (turn.fdiv 84))) k j (filledB (turn.fdiv 84)) v s) (fun K7 hK7 => ?_) ?_
  ·walk_at "xa"
   k_steps
   change wpAny _ _ (eval _ _) _ _ _
   refine a_ifexp ?_
   k_steps
   walk_at "r8"
   exact hK7 _ (AskQ.mk (fr_due F8) (by first | exact N8 | exact news_drop 1 N8 | exact news_drop 2 N8))
  ·intro s' H9
   refine AskQ.elim H9 ?_
   clear H9 F' N'
   intro h' tk' t0' t1 t2 t3 t4 F N
   ((try k_steps); refine x_execs fun K9 hK9 => (x_try ?_))
   walk_at "xi"
   k_steps
   walk_at "xk"
   k_steps
   (try dsimp only)
   walk_at "sy"
   k_steps
   refine x_more rfl (x_any ?_)
   k_steps
   refine x_more rfl (x_any ?_)
   k_steps
   refine x_more rfl (x_any ?_)
   k_steps
   walk_at "xm"
   (try dsimp only)
   walk_at "r8"
   refine useX1 (d := a.d) (sig_new (a := a) G (st_of stg F8) ⟨News.get N8 (by k_mem), News.get N8 (by k_mem), HL.fr F8⟩ P.ok P.K (fr0 _ (Two.mA (.head _))) (fr0 _ (Two.mA (.tail _ (.head _)))) (show Has (scrF w _ _ _ _ _) _ from ⟨News.get N8 (.head _), News.get N8 (.tail _ (.head _)), trivial⟩) hk hti hvl hcs) F8 N8 (by k_mem) (by walk_at "kk_num") (by walk_at "kk_num") ?_
   intro K8 hK8 r h'' tk'' F'' n0 p
   refine hideP fun B9 k9 => ?_
   obtain ⟨⟨tr, e1⟩, c1, c2, c3, q1, q2, q3, ed⟩ := p
   refine k9 ?_; clear k9
   subst e1
   rw [newD_eq P.A hdat]
   have N'' := n0 _ _ (by k_upd) ed
   clear n0 F8 N8
   refine hK8 _ _ _ ?_
   k_steps
   walk_at "xnil"
   walk_at "xa"
   k_steps
   (try dsimp only)
   rw [beq_self_eq_true]
   exact leaves (by k_asm) fun _ => fun e => hQ _ _ _ (ext_drop e HT.t0 (News.get (by k_asm) (by k_mem))) ⟨rfl, c1, c2, c3, q1, q2, q3, News.get (by k_asm) (by k_mem)⟩
theorem asked_old (G : Gd w hb mean mg mb) (st : St hb s.heap) {a : TTx} {S : SSt} (P : Two w a S s.heap) (fr0 : ∀ p ∈ PF w a S, hb.get? p.1 = none) {turn : Int} {t0 : Tok} {i j : Nat} (hi : turn.fmod 12 = (i : Int)) (hi12 : i < 12) (hj : ((turn.fdiv 12).fmod ((S.ins.length : Int) + 4) - 2) = (j : Int)) (hjn : j < S.ins.length) (hk : kOld S ((turn.fdiv 12).fmod ((S.ins.length : Int) + 4) - 2) (kindL.getD i 0) ∈ kinds) :
  DoesX w 100 (.ref 1223) [.ref a.x, .ref S.a, .bool false, .int turn t0] [] s [a.d] (Asked w a) := by
 walk_at "ir"
 refine' enterX (binds := [(Str.ofString "whole", Value.ref a.x), (Str.ofString "state", .ref S.a), (Str.ofString "new", .bool false), (Str.ofString "turn", .int turn t0)]) G st [] ?hW ?ho ?hcd ?hroom ?hbind ?hloc ?h ?hcell ?hco ?hgen ?hk
 walk_at "kk_enter"
 case hW => intro p hp; cases hp
 walk_at "ig"
 clear l1
 have sub0 : ∀ b o, s.heap.get? b = some o → g.get? b = some o := fun b o e => sub b o e (by simp)
 have HT : Has (a.frag w) g := P.tx.up sub0
 have HG : S.Here g := P.here.up sub0
 have gx := HT.t0
 have gd2 := HT.t1
 have gs := HG.hs
 have gi := HG.hi
 have go := HG.ho
 have n1 := P.O.n1
 have n3 := P.O.n2
 have hfm := fmod_kind (kindL.getD i 0)
 refine x_cut6 (AskP g L (fun y => [(Str.ofString "whole", Value.ref a.x), (Str.ofString "state", .ref S.a), (Str.ofString "new", .bool false), (Str.ofString "turn", .int turn t0)].reverse.lookup y) [] .none (kOld S ((turn.fdiv 12).fmod ((S.ins.length : Int) + 4) - 2) (kindL.getD i 0) : Nat) ((turn.fdiv 12).fmod ((S.ins.length : Int) + 4) - 2) (filledB (turn.fdiv 84)) ((turn.fdiv 84 * 2654435761).fmod (1 * 2 ^ Int.toNat 64)) s) (fun K7 hK7 => ?_) ?_
 ·exact x_any (ask_old G stg HG P.O hi hi12 hdp hu X T F N hK7)
 ·intro s' H9
  refine AskP.elim H9 ?_
  clear H9
  intro h' tk' t1 t2 t3 t4 F' N'
  clear F N hfm
  have h3 : kOld S ((turn.fdiv 12).fmod ((S.ins.length : Int) + 4) - 2) (kindL.getD i 0) % 128 = 3 → j = 0 ∧ 0 < S.outs.length := by
   intro q
   rw [hj] at q
   obtain ⟨q1, q2⟩ := kOld_3 hi12 q
   exact ⟨by omega, List.length_pos_iff.mpr q2⟩
  obtain ⟨v, hv, hvl⟩ : ∃ v : Nat, ((turn.fdiv 84 * 2654435761).fmod (1 * 2 ^ Int.toNat 64)) = (v : Int) ∧ v < 18446744073709551616 := by
   have q0 := Int.fmod_nonneg_of_pos (turn.fdiv 84 * 2654435761) (b := (1 * 2 ^ Int.toNat 64)) (by decide +kernel)
   have q1 : _ < (18446744073709551616 : Int) := Int.lt_of_lt_of_le (Int.fmod_lt_of_pos (turn.fdiv 84 * 2654435761) (b := (1 * 2 ^ Int.toNat 64)) (by decide +kernel)) (by decide +kernel)
   exact ⟨_, (Int.toNat_of_nonneg q0).symm, by omega⟩
  rw [hv] at F'
  generalize kOld S ((turn.fdiv 12).fmod ((S.ins.length : Int) + 4) - 2) (kindL.getD i 0) = k at *
  rw [hj] at F'
  clear hv hj hi
  obtain ⟨row, hr⟩ : ∃ row, S.ins[j]? = some row := ⟨_, List.getElem?_eq_getElem hjn⟩
  refine hideP fun B9 k9 => ?_
  obtain ⟨inp, hti, hdat⟩ := P.A.at hr
  refine k9 ?_; clear k9
  have O := P.O
  have hany := kinds_any hk
  have hcs := filled_size (turn.fdiv 84)
  refine x_cut1 (AskQ g L (fun y => [(Str.ofString "whole", Value.ref a.x), (Str.ofString "state", .ref S.a), (Str.ofString "new", .bool false), (Str.ofString "turn", .int turn t0)].reverse.lookup y) [] (oldB S j k (filledB (turn.fdiv 84))) k j (filledB (turn.fdiv 84)) v s) (fun K7 hK7 => ?_) ?_
  ·walk_at "xa"
   k_steps
   change wpAny _ _ (eval _ _) _ _ _
   refine a_ifexp ?_
   k_steps
   walk_at "r8"
   exact hK7 _ (AskQ.mk (fr_due F8) (fun p m => nomatch m))
  ·intro s' H9
   refine AskQ.elim H9 ?_
   clear H9 F' N'
   intro h' tk' t0' t1 t2 t3 t4 F N
   ((try k_steps); refine x_execs fun K9 hK9 => (x_try ?_))
   walk_at "xi"
   k_steps
   walk_at "xk"
   k_steps
   (try dsimp only)
   walk_at "sy"
   k_steps
   refine x_more rfl (x_any ?_)
   k_steps
   refine x_more rfl (x_any ?_)
   k_steps
   walk_at "xm"
   (try dsimp only)
   walk_at "r8"
   refine useX0b (sig_old (a := a) G (st_of stg F8) (HT.fr F8) P.ok (show Has (scrF w _ _ _ _ _) _ from ⟨News.get N8 (.head _), News.get N8 (.tail _ (.head _)), trivial⟩) hk hti hcs (fun q => ⟨(h3 q).1, by rw [P.A.outLen]; exact (h3 q).2⟩)) F8 N8 (by walk_at "kk_num") (by walk_at "kk_num") ?_
   intro tr h'' tk'' F'' N''
   rw [oldD_eq P.A hk hr hdat (fun q => (h3 q).2)]
   clear F8 N8
   k_steps
   walk_at "xnil"
   walk_at "xa"
   k_steps
   (try dsimp only)
   rw [beq_self_eq_true]
   have gd3 := Fr.keep (by k_asm) _ _ gd2
   exact leaves (by k_asm) fun _ => fun e => hQ _ _ _ (fun b o hb q => e b o (by simp) q) ⟨rfl, a.c1, a.c2, a.c3, P.K.h1, P.K.h2, P.K.h3, gd3⟩
end
end
section
def ExtS (W fs : List Addr) (h h' : Heap) : Prop := (∀ b o, b ∉ W → b ∉ fs → h.get? b = some o → h'.get? b = some o) ∧ ∀ b o, b ∈ fs → h.get? b = some o → ∃ sl, h'.get? b = some { o with slots := sl }
theorem Ext.toS {W fs : List Addr} {h h' : Heap} (e : Ext W h h') (d : ∀ b ∈ fs, b ∉ W) : ExtS W fs h h' := ⟨fun b o hw _ q => e b o hw q, fun b o hf q => ⟨o.slots, e b o (d b hf) q⟩⟩
def LeavesS (fs : List Addr) (g : Heap) (R : Value → Shared → Prop) (v : Value) (s' : Shared) : Prop := ∃ g' L' m', KtsTurn fs g g' ∧ Fr g' L' s'.heap m' ∧ (ExtS [] fs g s'.heap → R v s')
theorem leavesS {fs : List Addr} {g g' : Heap} {L : Addr} {m : Str → Option Value} {R : Value → Shared → Prop} {v : Value} {s' : Shared} (T : KtsTurn fs g g') (F : Fr g' L s'.heap m) (h : ExtS [] fs g s'.heap → R v s') : LeavesS fs g R v s' := ⟨_, _, _, T, F, h⟩
theorem enterS {w : World} {hb : Heap} {mean : ExcName → Option Value} {mg mb : Str → Option Value} (G : Gd w hb mean mg mb) {s : Shared} (st : St hb s.heap)
  {dp un : Nat} {outer : List Env} {gd : Option (List Code)} {R : Result → Shared → Prop} {name qual : Str} {params : Arguments} {body : List Stmt} {scope : Scope} {dV kV doc pm cdv ct oc : Value} {an od : Option Addr} {osl : Array (Option Value)} {f : Addr} {args : List Value} {kw : List (Str × Value)} {binds : List (Str × Value)}
  (ho : (Kc w.params).lookup f = some ⟨oc, od, .func (fnOf name qual params body scope dV kV doc pm an cdv ct), osl⟩) (hcd : codeIn (Kc w.params) cdv qual = true) (hroom : dp < recursionLimit)
  (hbind : BindsTo s (fnOf name qual params body scope dV kV doc pm an cdv ct) ⟨args, kw⟩ binds) (hloc : ∀ y ∈ binds, scope.names.lookup y.1 = some .local)
  (h : ∀ L h₁, Fr s.heap L h₁ (fun y => binds.reverse.lookup y) → News s.heap L h₁ [] → (Kc w.params).In s.heap → Top qv (looseW qv loose) mean mg mb s.heap →
   wpAny (model prog w) ((Ar dp un (some outer) gd).deeper (envOf qual scope L f cdv)) (execs body (envOf qual scope L f cdv))
    (fun fl s' => LeavesS (outer.filterMap (·.frame)) s.heap (fun v s' => R (.ok (.ret v)) s') (match fl with | .ret v => v | _ => .none) s')
    (fun e s' => wpAny (model prog w) ((Ar dp un (some outer) gd).deeper (envOf qual scope L f cdv)) (leaving (envOf qual scope L f cdv) e) (fun _ s'' => R (.error e) s'') (fun e' s'' => R (.error e') s'') s')
    { s with heap := h₁, toks := s.toks + binds.length })
  (hcell : ∀ x ∈ scope.names, x.2 ≠ .cell) (hco : scope.isCoroutine = false) (hgen : scope.isGenerator = false) (hk : scope.kind = .function) :
  codeAny (model prog w) (Ar dp un (some outer) gd) (.call (.ref f) ⟨args, kw⟩) R s := by
 have X' : (Kc w.params).In s.heap := Frag.In.keeps G.X st
 refine codeAny_call_def (fd := fnOf name qual params body scope dV kV doc pm an cdv ct) (body := body) (binds := binds) hroom (X' _ _ ho) rfl (G.T.nolimit.keeps st) (codeRec_of X' hcd) rfl hbind hcell hloc (fun h₁ hns hk₁ => ?_) hco hgen hk
 refine wpAny_mono (h s.heap.objs.size h₁ ⟨hns, hk₁, Nat.le_refl _⟩ (fun p hp => nomatch hp) X' (G.T.keeps st)) (fun fl s' hl => ?_) fun _ _ y => y
 obtain ⟨g', L', m', T, F', k⟩ := hl
 exact k ⟨fun b o _ nf e => F'.keep _ _ (T.other b o e nf), fun b o hf e => by
  obtain ⟨sl, q⟩ := T.frame b o e hf
  exact ⟨sl, F'.keep _ _ q⟩⟩
theorem a_cut6 {M : Model} {A : Around} {E : Value → Shared → Prop} {env : Env} {Q : Flow → Shared → Prop} {a b c d e f : Stmt} {r : List Stmt} {s : Shared} (P : Shared → Prop)
  (h : ∀ K : Shared → Prop, (∀ s', P s' → K s') → wpAny M A (execs [a, b, c, d, e, f] env) (fun f s' => f = .next ∧ K s') (fun _ _ => False) s) (k : ∀ s', P s' → wpAny M A (execs r env) Q E s') : wpAny M A (execs (a :: b :: c :: d :: e :: f :: r) env) Q E s := fun Γ p hΓ =>
 wp_split (l := [a, b, c, d, e, f]) (Sem.wp_mono M Γ _ (fun f p' s' z => by obtain ⟨rfl, z⟩ := z; exact k s' z Γ p' hΓ) (fun _ _ _ z => z.elim) p s (h P (fun _ q => q) Γ p hΓ))
theorem inst_base2 {g0 g h : Heap} {L0 L x C dx : Addr} {m0 m : Str → Option Value} {od : Obj} {sl : Array (Option Value)} (F : Fr g L h m) (F0 : Fr g0 L0 g m0) (h1 : g0.get? x = some ⟨.ref C, some dx, .plain, sl⟩) (h2 : g0.get? dx = some od) :
  InstAt h x ⟨.ref C, some dx, .plain, sl⟩ C (some od) := inst_base F (F0.keep _ _ h1) (F0.keep _ _ h2)
theorem try_bad {prog : Program} {w : World} {A : Around} {env : Env} {body orelse : List Stmt} {h₀ : ExceptHandler} {hs : List ExceptHandler} {pos : Pos} {Q : Flow → Shared → Prop} {E : Value → Shared → Prop} {s : Shared}
  (h : ∀ KE : Value → Shared → Prop, (∀ e s₁, wpAny (model prog w) A (noteFrame e env) (fun _ s₂ => wpAny (model prog w) A (setFlight e none) (fun _ s₃ => wpAny (model prog w) A (handleBy e env (h₀ :: hs)) Q E s₃) E s₂) E s₁ → KE e s₁) → wpAny (model prog w) A (execs body env) (fun _ _ => False) KE s) :
  wpAny (model prog w) A (exec (.Try body (h₀ :: hs) orelse [] pos) env) Q E s :=
 PySem.wpAny_Try_except (wpAny_mono (h _ fun _ _ z => z) (fun _ _ z => z.elim) fun _ _ z => z)
theorem hk52 : True := by
 k_with "exec Try" => ((with_reducible show wpAny _ _ (exec (Stmt.Try _ (_ :: _) _ [] _) (envOf _ _ _ _ _)) _ _ _); refine try_bad ?_; intro KE9 hKE9)
 k_with "call ref" => (k_here; (with_reducible show wpAny _ _ (PySem.call (Value.ref 843) _ _) _ _ _); k_dflt (refine use0o (scr_new (by assumption) (by walk_at "kk_st")) (by k_asm) (by k_asm) (by walk_at "kk_num") (by walk_at "kk_num") ?_); intro x9 d9 k9 t'9 h'9 tk'9 F'9 N'9 l19 l29 lx9; (try k_lt l19))
 k_with "k_inst" => exact inst_base2 (by assumption) (by assumption) (by assumption) (by assumption)
 k_with "call builtin:len" => (k_here; (with_reducible show wpAny _ _ (PySem.call (Value.builtin "len") [Value.ref _]) _ _ _); (with_reducible rename Fr _ _ _ _ => kF9); (refine len_map (isl_baseN kF9 (Fr.keep (by assumption) _ _ (by assumption))) ?_ ?_); (first | assumption | omega); intro _ _)
 k_with "k_room" => ((try simp only [depth_mark, depth_under_make, depth_under_kw, depth_in1, depth_deeper, depth_caller]); (try dsimp only [Ar, Around.deeper, Around.in1]); omega)
 trivial
end
section
section
variable {w : World} {hb : Heap} {mean : ExcName → Option Value} {mg mb : Str → Option Value} {s : Shared}
theorem bad_new (G : Gd w hb mean mg mb) (st : St hb s.heap) {a : TTx} {S : SSt} (P : Two w a S s.heap) {turn : Int} {t0 : Tok} {i : Nat} (hi : turn.fmod 12 = (i : Int)) (hi12 : i < 12)
  (bad : (((turn.fdiv 12).fmod ((S.ins.length : Int) + 4) - 2) < 0 ∨ (S.ins.length : Int) ≤ ((turn.fdiv 12).fmod ((S.ins.length : Int) + 4) - 2)) ∨ (0 ≤ ((turn.fdiv 12).fmod ((S.ins.length : Int) + 4) - 2) ∧ ((turn.fdiv 12).fmod ((S.ins.length : Int) + 4) - 2) < (S.ins.length : Int) ∧ ((kindL.getD i 0) = 4 ∨ (kindL.getD i 0) = 132 ∨ (kindL.getD i 0) = 255 ∨ (kindL.getD i 0) = 257)))
  {dp un : Nat} {outer : List Env} {gd : Option (List Code)} {R : Result → Shared → Prop} (hdp : dp + 100 < recursionLimit) (hu : un + 8 * 100 < cLine) (K0 : Below (Ar dp un (some outer) gd) hb outer s.heap) (D0 : KtsDicts (outer.filterMap (·.frame)) s.heap)
  (hQ : ∀ h' tk', ExtS [] (outer.filterMap (·.frame)) s.heap h' → R (.ok (.ret (.bool true))) { s with heap := h', toks := tk' }) :
  codeAny (model prog w) (Ar dp un (some outer) gd) (.call (.ref 1223) ⟨[.ref a.x, .ref S.a, .bool true, .int turn t0], []⟩) R s := by
 have XB := G.X
 have TB := G.T
 refine' enterS (binds := [(Str.ofString "whole", Value.ref a.x), (Str.ofString "state", .ref S.a), (Str.ofString "new", .bool true), (Str.ofString "turn", .int turn t0)]) G st ?ho ?hcd ?hroom ?hbind ?hloc ?h ?hcell ?hco ?hgen ?hk
 walk_at "kk_enter"
 intro L h₁ F N X T
 have stg := st
 have HT : Has (a.frag w) s.heap := P.tx
 have HG : S.Here s.heap := P.here
 have gx := HT.t0
 have gd2 := HT.t1
 have gvi := HT.low.l0
 have gs := HG.hs
 have gi := HG.hi
 have go := HG.ho
 have n1 := P.O.n1
 have n3 := P.O.n2
 have hfm := fmod_kind (kindL.getD i 0)
 have hl := P.A.inLen
 have hz : a.ins.length ≤ 3 := by omega
 refine a_cut6 (AskP s.heap L (fun y => [(Str.ofString "whole", Value.ref a.x), (Str.ofString "state", .ref S.a), (Str.ofString "new", .bool true), (Str.ofString "turn", .int turn t0)].reverse.lookup y) [] .none ((kindL.getD i 0) : Nat) ((turn.fdiv 12).fmod ((S.ins.length : Int) + 4) - 2) (filledB (turn.fdiv 84)) ((turn.fdiv 84 * 2654435761).fmod (1 * 2 ^ Int.toNat 64)) s) (fun K7 hK7 => ?_) ?_
 ·exact ask_new G stg HG P.O hi hi12 hdp hu X T F N hK7
 ·intro s' H9
  refine AskP.elim H9 ?_
  clear H9 F N hfm hi
  intro h' tk' t1 t2 t3 t4 F' N'
  generalize (kindL.getD i 0) = k at *
  generalize ((turn.fdiv 12).fmod ((S.ins.length : Int) + 4) - 2) = pl at *
  generalize ((turn.fdiv 84 * 2654435761).fmod (1 * 2 ^ Int.toNat 64)) = vl at *
  rcases bad with bad | ⟨b0, b1, bk⟩
  ·k_steps
   all_goals (refine hKE9 _ _ ?_)
   all_goals (try dsimp only)
   all_goals k_steps
   all_goals (try dsimp only)
   all_goals exact leavesS (by assumption) (by k_asm) fun e => hQ _ _ e
  ·have hany : ([0, 1, 2, 3, 128, 129, 130, 131].any fun x : Int => x == ((k : Nat) : Int)) = false := by rcases bk with rfl | rfl | rfl | rfl <;> rfl
   have hN : ([0, 1, 2, 3].any fun x : Int => x == ((k : Nat) : Int)) = false := by rcases bk with rfl | rfl | rfl | rfl <;> rfl
   have hX : ([0, 1, 2, 3].any fun x : Int => x == Builtin.bitXor ((k : Nat) : Int) 128) = false := by rcases bk with rfl | rfl | rfl | rfl <;> decide +kernel
   clear bk
   k_steps
   all_goals (refine hKE9 _ _ ?_)
   all_goals (try dsimp only)
   all_goals k_steps
   all_goals (try dsimp only)
   all_goals exact leavesS (by assumption) (by k_asm) fun e => hQ _ _ e
end
end
section
section
variable {w : World} {hb : Heap} {mean : ExcName → Option Value} {mg mb : Str → Option Value} {s : Shared}
theorem bad_old (G : Gd w hb mean mg mb) (st : St hb s.heap) {a : TTx} {S : SSt} (P : Two w a S s.heap) {turn : Int} {t0 : Tok} {i : Nat} (hi : turn.fmod 12 = (i : Int)) (hi12 : i < 12)
  (bad : (((turn.fdiv 12).fmod ((S.ins.length : Int) + 4) - 2) < 0 ∨ (S.ins.length : Int) ≤ ((turn.fdiv 12).fmod ((S.ins.length : Int) + 4) - 2)) ∨ (0 ≤ ((turn.fdiv 12).fmod ((S.ins.length : Int) + 4) - 2) ∧ ((turn.fdiv 12).fmod ((S.ins.length : Int) + 4) - 2) < (S.ins.length : Int) ∧ ((kOld S ((turn.fdiv 12).fmod ((S.ins.length : Int) + 4) - 2) (kindL.getD i 0)) = 4 ∨ (kOld S ((turn.fdiv 12).fmod ((S.ins.length : Int) + 4) - 2) (kindL.getD i 0)) = 132 ∨ (kOld S ((turn.fdiv 12).fmod ((S.ins.length : Int) + 4) - 2) (kindL.getD i 0)) = 255 ∨ (kOld S ((turn.fdiv 12).fmod ((S.ins.length : Int) + 4) - 2) (kindL.getD i 0)) = 257)))
  {dp un : Nat} {outer : List Env} {gd : Option (List Code)} {R : Result → Shared → Prop} (hdp : dp + 100 < recursionLimit) (hu : un + 8 * 100 < cLine) (K0 : Below (Ar dp un (some outer) gd) hb outer s.heap) (D0 : KtsDicts (outer.filterMap (·.frame)) s.heap)
  (hQ : ∀ h' tk', ExtS [] (outer.filterMap (·.frame)) s.heap h' → R (.ok (.ret (.bool true))) { s with heap := h', toks := tk' }) :
  codeAny (model prog w) (Ar dp un (some outer) gd) (.call (.ref 1223) ⟨[.ref a.x, .ref S.a, .bool false, .int turn t0], []⟩) R s := by
 have XB := G.X
 have TB := G.T
 refine' enterS (binds := [(Str.ofString "whole", Value.ref a.x), (Str.ofString "state", .ref S.a), (Str.ofString "new", .bool false), (Str.ofString "turn", .int turn t0)]) G st ?ho ?hcd ?hroom ?hbind ?hloc ?h ?hcell ?hco ?hgen ?hk
 walk_at "kk_enter"
 intro L h₁ F N X T
 have stg := st
 have HT : Has (a.frag w) s.heap := P.tx
 have HG : S.Here s.heap := P.here
 have gx := HT.t0
 have gd2 := HT.t1
 have gvi := HT.low.l0
 have gs := HG.hs
 have gi := HG.hi
 have go := HG.ho
 have n1 := P.O.n1
 have n3 := P.O.n2
 have hfm := fmod_kind (kindL.getD i 0)
 have hl := P.A.inLen
 have hz : a.ins.length ≤ 3 := by omega
 refine a_cut6 (AskP s.heap L (fun y => [(Str.ofString "whole", Value.ref a.x), (Str.ofString "state", .ref S.a), (Str.ofString "new", .bool false), (Str.ofString "turn", .int turn t0)].reverse.lookup y) [] .none ((kOld S ((turn.fdiv 12).fmod ((S.ins.length : Int) + 4) - 2) (kindL.getD i 0)) : Nat) ((turn.fdiv 12).fmod ((S.ins.length : Int) + 4) - 2) (filledB (turn.fdiv 84)) ((turn.fdiv 84 * 2654435761).fmod (1 * 2 ^ Int.toNat 64)) s) (fun K7 hK7 => ?_) ?_
 ·exact ask_old G stg HG P.O hi hi12 hdp hu X T F N hK7
 ·intro s' H9
  refine AskP.elim H9 ?_
  clear H9 F N hfm hi
  intro h' tk' t1 t2 t3 t4 F' N'
  generalize (kOld S ((turn.fdiv 12).fmod ((S.ins.length : Int) + 4) - 2) (kindL.getD i 0)) = k at *
  generalize ((turn.fdiv 12).fmod ((S.ins.length : Int) + 4) - 2) = pl at *
  generalize ((turn.fdiv 84 * 2654435761).fmod (1 * 2 ^ Int.toNat 64)) = vl at *
  rcases bad with bad | ⟨b0, b1, bk⟩
  ·k_steps
   all_goals (refine hKE9 _ _ ?_)
   all_goals (try dsimp only)
   all_goals k_steps
   all_goals (try dsimp only)
   all_goals exact leavesS (by assumption) (by k_asm) fun e => hQ _ _ e
  ·have hany : ([0, 1, 2, 3, 128, 129, 130, 131].any fun x : Int => x == ((k : Nat) : Int)) = false := by rcases bk with rfl | rfl | rfl | rfl <;> rfl
   have hN : ([0, 1, 2, 3].any fun x : Int => x == ((k : Nat) : Int)) = false := by rcases bk with rfl | rfl | rfl | rfl <;> rfl
   have hX : ([0, 1, 2, 3].any fun x : Int => x == Builtin.bitXor ((k : Nat) : Int) 128) = false := by rcases bk with rfl | rfl | rfl | rfl <;> decide +kernel
   clear bk
   k_steps
   all_goals (refine hKE9 _ _ ?_)
   all_goals (try dsimp only)
   all_goals k_steps
   all_goals (try dsimp only)
   all_goals exact leavesS (by assumption) (by k_asm) fun e => hQ _ _ e
end
end
section
theorem kind12 {i : Nat} (hi : i < 12) : kindL.getD i 0 ∈ kinds ∨ kindL.getD i 0 = 4 ∨ kindL.getD i 0 = 132 ∨ kindL.getD i 0 = 255 ∨ kindL.getD i 0 = 257 :=
 (by decide +kernel : ∀ i : Fin 12, kindL.getD i.1 0 ∈ kinds ∨ kindL.getD i.1 0 = 4 ∨ kindL.getD i.1 0 = 132 ∨ kindL.getD i.1 0 = 255 ∨ kindL.getD i.1 0 = 257) ⟨i, hi⟩
theorem kind12o {i : Nat} {S : SSt} {pl : Int} (hi : i < 12) : kOld S pl (kindL.getD i 0) ∈ kinds ∨ kOld S pl (kindL.getD i 0) = 4 ∨ kOld S pl (kindL.getD i 0) = 132 ∨ kOld S pl (kindL.getD i 0) = 255 ∨ kOld S pl (kindL.getD i 0) = 257 := by
 unfold kOld
 split
 ·rename_i q
  have hk := kind_3 hi
  rcases hk q.1 with e | e <;> (rw [e]; decide)
 ·exact kind12 hi
section
variable {w : World} {hb : Heap} {mean : ExcName → Option Value} {mg mb : Str → Option Value} {s : Shared}
theorem law_asked (G : Gd w hb mean mg mb) (st : St hb s.heap) {a : TTx} {S : SSt} (P : Two w a S s.heap) (fr0 : ∀ p ∈ PF w a S, hb.get? p.1 = none) {new : Bool} {turn : Int} {t0 : Tok}
  {dp un : Nat} {outer : List Env} {gd : Option (List Code)} {R : Result → Shared → Prop} (hdp : dp + 100 < recursionLimit) (hu : un + 8 * 100 < cLine) (K0 : Below (Ar dp un (some outer) gd) hb outer s.heap) (D0 : KtsDicts (outer.filterMap (·.frame)) s.heap)
  (nf : ∀ b ∈ outer.filterMap (·.frame), b ≠ a.d)
  (hQ : ∀ r h' tk', ExtS [a.d] (outer.filterMap (·.frame)) s.heap h' → Asked w a r h' → R (.ok (.ret r)) { s with heap := h', toks := tk' }) :
  codeX (model prog w) (Ar dp un (some outer) gd) (.call (.ref 1223) ⟨[.ref a.x, .ref S.a, .bool new, .int turn t0], []⟩) R s := by
 have h0 := Int.fmod_nonneg_of_pos turn (b := 12) (by decide)
 have h1 := Int.fmod_lt_of_pos turn (b := 12) (by decide)
 have hi : turn.fmod 12 = ((turn.fmod 12).toNat : Int) := (Int.toNat_of_nonneg h0).symm
 have hi12 : (turn.fmod 12).toNat < 12 := by omega
 generalize (turn.fmod 12).toNat = i at hi hi12
 have good : DoesX w 100 (.ref 1223) [.ref a.x, .ref S.a, .bool new, .int turn t0] [] s [a.d] (Asked w a) → codeX (model prog w) (Ar dp un (some outer) gd) (.call (.ref 1223) ⟨[.ref a.x, .ref S.a, .bool new, .int turn t0], []⟩) R s :=
  fun D => D _ _ _ _ _ hdp hu fun r h' tk' e q => hQ r h' tk' (e.toS fun b hb z => nf b hb (by simpa using z)) q
 have ends : ∀ h' tk', ExtS [] (outer.filterMap (·.frame)) s.heap h' → R (.ok (.ret (.bool true))) { s with heap := h', toks := tk' } := fun h' tk' e =>
  hQ _ _ _ ⟨fun b o _ nf q => e.1 b o (by simp) nf q, e.2⟩ ⟨rfl, a.c1, a.c2, a.c3, P.K.h1, P.K.h2, P.K.h3, e.1 _ _ (by simp) (fun z => nf _ z rfl) P.tx.2.1⟩
 by_cases hr : 0 ≤ (turn.fdiv 12).fmod ((S.ins.length : Int) + 4) - 2 ∧ (turn.fdiv 12).fmod ((S.ins.length : Int) + 4) - 2 < (S.ins.length : Int)
 ·have hj : (turn.fdiv 12).fmod ((S.ins.length : Int) + 4) - 2 = ((((turn.fdiv 12).fmod ((S.ins.length : Int) + 4) - 2).toNat : Nat) : Int) := (Int.toNat_of_nonneg hr.1).symm
  have hjn : ((turn.fdiv 12).fmod ((S.ins.length : Int) + 4) - 2).toNat < S.ins.length := by omega
  cases new with
  | true =>
   rcases kind12 hi12 with hk | hk
   ·exact good (asked_new G st P fr0 hi hi12 hj hjn hk)
   ·exact x_code (bad_new G st P hi hi12 (.inr ⟨hr.1, hr.2, hk⟩) hdp hu K0 D0 ends)
  | false =>
   rcases kind12o (S := S) (pl := (turn.fdiv 12).fmod ((S.ins.length : Int) + 4) - 2) hi12 with hk | hk
   ·exact good (asked_old G st P fr0 hi hi12 hj hjn hk)
   ·exact x_code (bad_old G st P hi hi12 (.inr ⟨hr.1, hr.2, hk⟩) hdp hu K0 D0 ends)
 ·have hr' : (turn.fdiv 12).fmod ((S.ins.length : Int) + 4) - 2 < 0 ∨ (S.ins.length : Int) ≤ (turn.fdiv 12).fmod ((S.ins.length : Int) + 4) - 2 := by
   by_cases q : (turn.fdiv 12).fmod ((S.ins.length : Int) + 4) - 2 < 0
   ·exact .inl q
   ·exact .inr (Int.not_lt.mp fun z => hr ⟨Int.not_lt.mp q, z⟩)
  cases new with
  | true => exact x_code (bad_new G st P hi hi12 (.inl hr') hdp hu K0 D0 ends)
  | false => exact x_code (bad_old G st P hi hi12 (.inl hr') hdp hu K0 D0 ends)
end
end
section
structure Wld (w : World) (g : Heap) (L : Addr) (h : Heap) (a : TTx) (S : SSt) (b : TTx) (T : SSt) : Prop where
 P1 : Two w a S h
 P2 : Two w b T h
 N : News g L h (PF w a S ++ PF w b T)
 D : ∀ p ∈ PF w a S, ∀ q ∈ PF w b T, p.1 ≠ q.1
section
variable {w : World} {g h h' : Heap} {L : Addr} {a b : TTx} {S T : SSt} {m : Str → Option Value}
theorem Wld.swap (W : Wld w g L h a S b T) : Wld w g L h b T a S :=
 ⟨W.P2, W.P1, fun p m => W.N p (List.mem_append.mpr (List.mem_append.mp m).symm), fun p hp q hq e => W.D q hq p hp e.symm⟩
theorem Wld.next {a' : TTx} {S' : SSt} (W : Wld w g L h a S b T) (F : Fr g L h m) (P : Two w a' S' h') (k : ∀ p ∈ PF w a' S', p.1 ∈ keys (PF w a S) ∨ h.get? p.1 = none) (e : ∀ p ∈ PF w b T, h.get? p.1 = some p.2 → h'.get? p.1 = some p.2) : Wld w g L h' a' S' b T := by
 refine ⟨P, { W.P2 with H := W.P2.H.mono e }, fun p hp => ?_, fun p hp q hq z => ?_⟩
 ·rcases List.mem_append.mp hp with hp | hp
  ·refine ⟨P.H.get hp, ?_⟩
   rcases k p hp with q | q
   ·obtain ⟨p', hp', e'⟩ := List.mem_map.mp q
    have := (W.N p' (List.mem_append_left _ hp')).2
    rwa [e'] at this
   ·refine ⟨fun z => ?_, ?_⟩
    ·obtain ⟨oL, _, _, hL, _⟩ := F.ns
     rw [z, hL] at q; cases q
    ·cases z : g.get? p.1 with
     | none => rfl
     | some o => rw [F.keep _ _ z] at q; cases q
  ·exact ⟨e p hp (W.P2.H.get hp), (W.N p (List.mem_append_right _ hp)).2⟩
 ·rcases k p hp with x | x
  ·obtain ⟨p', hp', e'⟩ := List.mem_map.mp x
   exact W.D p' hp' q hq (e'.trans z)
  ·rw [z, W.P2.H.get hq] at x; cases x
theorem Two.withCE {c1 c2 c3 : Value} (P : Two w a S h) (e : ∀ p ∈ PF w a S, p.1 ≠ a.d → h'.get? p.1 = some p.2) (hd : h'.get? a.d = some (a.dictC w c1 c2 c3)) (k1 : keptAs c1 a.prevH) (k2 : keptAs c2 a.seqH) (k3 : keptAs c3 a.outH) : Two w (a.withC c1 c2 c3) S h' := by
 have nd : (keys (PF w (a.withC c1 c2 c3) S)).Nodup := by rw [keys_withC]; exact P.nd
 have sub : Sub [a.d] (PF w (a.withC c1 c2 c3) S) (PF w a S) := Sub.app Sub.same (Sub.cons (Sub.turn (.head _) Sub.same))
 refine ⟨Has.of fun p hp => ?_, nd, ⟨P.A.hv, P.A.hl, P.A.hi, P.A.ho⟩, P.O, ⟨k1, k2, k3⟩⟩
 by_cases z : p.1 = a.d
 ·have : p = (a.d, a.dictC w c1 c2 c3) := nd_inj nd hp (List.mem_append_right _ (.tail _ (.head _))) z
  rw [this]; exact hd
 ·rcases sub p hp with q | q
  ·exact e p q z
  ·exact absurd (List.mem_singleton.mp q) z
theorem Wld.asked {r : Value} (W : Wld w g L h a S b T) (F : Fr g L h m) (e : ExtS [a.d] [L] h h') (q : Asked w a r h') : ∃ a', a'.x = a.x ∧ Wld w g L h' a' S b T ∧ keys (PF w a' S) = keys (PF w a S) := by
 obtain ⟨_, c1, c2, c3, k1, k2, k3, hd⟩ := q
 have md : (a.d, a.dict w) ∈ PF w a S := List.mem_append_right _ (.tail _ (.head _))
 refine ⟨a.withC c1 c2 c3, rfl, W.next F (W.P1.withCE (fun p hp z => e.1 _ _ (by simpa using z) (by simpa using (W.N p (List.mem_append_left _ hp)).2.1) (W.P1.H.get hp)) hd k1 k2 k3) (fun p hp => .inl ?_) fun p hp x => e.1 _ _ ?_ (by simpa using (W.N p (List.mem_append_right _ hp)).2.1) x, keys_withC⟩
 ·rw [← keys_withC (c1 := c1) (c2 := c2) (c3 := c3)]; exact List.mem_map_of_mem hp
 ·have := W.D _ md p hp
  simpa using Ne.symm this
theorem fr_slots {fs : List Addr} (F : Fr g L h m) (e : ExtS [b.d] [L] h h') (n1 : L ≠ b.d) (n2 : g.get? b.d = none) : Fr g L h' m := by
 obtain ⟨oL, es, ep, hL, hd, hk, hf⟩ := F.ns
 obtain ⟨sl, hs⟩ := e.2 L oL (by simp) hL
 refine ⟨⟨_, es, ep, hs, hd, hk, hf⟩, fun x o q => e.1 x o ?_ ?_ (F.keep x o q), F.above⟩
 ·intro z
  rw [List.mem_singleton.mp z, n2] at q; cases q
 ·intro z
  rw [List.mem_singleton.mp z, kts_self F] at q; cases q
end
section
variable {w : World} {hb g : Heap} {mean : ExcName → Option Value} {mg mb : Str → Option Value} {s : Shared} {L f : Addr} {a b : TTx} {S T : SSt} {m : Str → Option Value} {name : Str} {scope : Scope} {cd : Value} {dp un : Nat} {gd : Option (List Code)} {Q E : Value → Shared → Prop}
theorem Wld.fr0 {h : Heap} (W : Wld w g L h a S b T) (stg : St hb g) : ∀ p ∈ PF w a S, hb.get? p.1 = none := fun p hp => by
 cases z : hb.get? p.1 with
 | none => rfl
 | some o => have := (W.N p (List.mem_append_left _ hp)).2.2; rw [stg _ _ z] at this; cases this
theorem use_ask (G : Gd w hb mean mg mb) (stg : St hb g) (F : Fr g L s.heap m) (W : Wld w g L s.heap a S b T) (hk : scope.kind = .function) (hd : dp + 102 < recursionLimit) (hu : un + 8 * 102 < cLine) {new : Bool} {turn : Int} {t0 : Tok}
  (h : ∀ h' tk' a', a'.x = a.x → Wld w g L h' a' S b T → Fr g L h' m → (∀ p ∈ PF w a' S, p.1 ∈ keys (PF w a S) ∨ s.heap.get? p.1 = none) → (∀ x o, s.heap.get? x = some o → x ∉ keys (PF w a S) → x ≠ L → h'.get? x = some o) → Q (.bool true) { s with heap := h', toks := tk' }) :
  wpX (model prog w) ((Ar dp un (some []) gd).deeper (envOf name scope L f cd)) (PySem.call (.ref 1223) [.ref a.x, .ref S.a, .bool new, .int turn t0] []) Q E s := by
 refine x_call ?_
 have K1 : Below (Ar dp un (some []) gd) hb [] g := ⟨rfl, stg, trivial⟩
 have K0 := K1.push (name := name) (scope := scope) (a := f) (cd := cd) F hk
 have md : (a.d, a.dict w) ∈ PF w a S := List.mem_append_right _ (.tail _ (.head _))
 have nL := (W.N _ (List.mem_append_left _ md)).2
 refine law_asked G (fun x o e => F.keep x o (stg x o e)) W.P1 (W.fr0 stg) (by show dp + 1 + 100 < recursionLimit; omega) (by dsimp only [Around.deeper, Ar]; omega) K0 (fun x hx => ?_) (fun x hx => ?_) fun r h' tk' e q => ?_
 ·obtain ⟨oL, es, ep, hL, hd, _⟩ := F.ns
  have : x = L := by simpa [envOf] using hx
  rw [this]; exact ⟨oL, es, ep, hL, hd⟩
 ·have : x = L := by simpa [envOf] using hx
  rw [this]; exact Ne.symm nL.1
 ·obtain ⟨a', e1, W', ek⟩ := W.asked F e q
  obtain ⟨rfl, _⟩ := q
  refine h h' tk' a' e1 W' (fr_slots (b := a) (fs := []) F e (Ne.symm nL.1) nL.2) (fun p hp => .inl (ek ▸ List.mem_map_of_mem hp)) fun x o hx n1 n2 => e.1 x o (fun z => n1 ?_) (fun z => n2 ?_) hx
  ·rw [List.mem_singleton.mp z]; exact List.mem_map_of_mem (f := (·.1)) md
  ·simpa [envOf] using z
theorem use_turn {fr : Option (List Env)} (G : Gd w hb mean mg mb) (stg : St hb g) (F : Fr g L s.heap m) (W : Wld w g L s.heap a S b T) (h19 : S.outs.length ≤ 19) {way turn : Int} (h4 : 3 < way) (h7 : way < 8) {t1 t2 : Tok} (hd : dp + 20 < recursionLimit) (hu : un + 8 * 20 < cLine)
  (h : ∀ h' tk' a' S', a'.x = a.x → S'.a = S.a → S'.outs.length ≤ S.outs.length + 1 → Wld w g L h' a' S' b T → Fr g L h' m → (∀ p ∈ PF w a' S', p.1 ∈ keys (PF w a S) ∨ s.heap.get? p.1 = none) → (∀ x o, s.heap.get? x = some o → x ∉ keys (PF w a S) → h'.get? x = some o) → Q .none { s with heap := h', toks := tk' }) :
  wpAny (model prog w) (Ar dp un fr gd) (PySem.call (.ref 1230) [.ref a.x, .ref S.a, .int way t1, .int turn t2]) Q E s := by
 refine wpAny_call (law_turned G (fun x o e => F.keep x o (stg x o e)) W.P1 (W.fr0 stg) h19 h4 h7 _ _ _ _ _ hd hu fun r h' tk' e q => ?_)
 obtain ⟨rfl, a', S', P', e1, e2, e3, k⟩ := q
 refine h h' tk' a' S' e1 e2 e3 (W.next F P' k fun p hp x => e _ _ (fun z => ?_) x) (fr_but F (fun x hx => ?_) e) k fun x o hx hn => e x o hn hx
 ·obtain ⟨p', hp', e'⟩ := List.mem_map.mp z
  exact W.D p' hp' p hp e'
 ·obtain ⟨p', hp', e'⟩ := List.mem_map.mp hx
  rw [← e']; exact (W.N p' (List.mem_append_left _ hp')).2
end
end
section
theorem hk53 : True := by
 k_with "call ref" => (k_here; (with_reducible show wpAny _ _ (PySem.call (Value.ref 1235) _ _) _ _ _); (refine stopC ?_))
 k_with "call ref" => (k_here; (with_reducible show wpAny _ _ (PySem.call (Value.ref 1216) _ _) _ _ _); (refine stopC ?_))
 k_with "call ref" => (k_here; (with_reducible show wpAny _ _ (PySem.call (Value.ref 1230) _ _) _ _ _); (refine stopC ?_))
 trivial
theorem news_app {g h h' : Heap} {L : Addr} {m : Str → Option Value} {news l : List (Addr × Obj)} (F : Fr g L h m) (N : News g L h' news) (H : Has l h') (f : ∀ p ∈ l, h.get? p.1 = none) : News g L h' (news ++ l) := fun p hp => by
 rcases List.mem_append.mp hp with hp | hp
 ·exact N p hp
 ·refine ⟨H.get hp, fun z => ?_, ?_⟩
  ·obtain ⟨oL, _, _, hL, _⟩ := F.ns
   have := f p hp
   rw [z, hL] at this; cases this
  ·cases z : g.get? p.1 with
   | none => rfl
   | some o => have := f p hp; rw [F.keep _ _ z] at this; cases this
abbrev lawM (cl' : Addr) (S T : SSt) (a b : TTx) (m₀ : Str → Option Value) : Str → Option Value := fun y => if y = Str.ofString "other" then some (.ref b.x) else if y = Str.ofString "whole" then some (.ref a.x) else if y = Str.ofString "kept" then some (.ref T.a) else if y = Str.ofString "state" then some (.ref S.a) else if y = Str.ofString "cells" then some (.ref cl') else m₀ y
def LawP (w : World) (g : Heap) (L : Addr) (m₀ : Str → Option Value) (s s' : Shared) : Prop :=
 ∃ h tk cl' a S b T, s' = { s with heap := h, toks := tk } ∧ Fr g L h (lawM cl' S T a b m₀) ∧ Wld w g L h a S b T ∧ S.outs.length ≤ 3
theorem apart_of {g h : Heap} {L : Addr} {l l2 : List (Addr × Obj)} (N : News g L h l) (f : ∀ q ∈ l2, h.get? q.1 = none) : ∀ p ∈ l, ∀ q ∈ l2, p.1 ≠ q.1 := fun p hp q hq e => by
 have := f q hq
 rw [← e, (N p hp).1] at this; cases this
theorem news_tail {g h : Heap} {L : Addr} {p : Addr × Obj} {l : List (Addr × Obj)} (N : News g L h (p :: l)) : News g L h l := news_sub N fun _ m => .tail _ m
theorem has_news {g h : Heap} {L : Addr} {l : List (Addr × Obj)} (N : News g L h l) : Has l h := Has.of fun p m => (N p m).1
theorem news_left {g h : Heap} {L : Addr} {l r : List (Addr × Obj)} (N : News g L h (l ++ r)) : News g L h l := news_sub N fun _ m => List.mem_append_left _ m
theorem news_right {g h : Heap} {L : Addr} {l r : List (Addr × Obj)} (N : News g L h (l ++ r)) : News g L h r := news_sub N fun _ m => List.mem_append_right _ m
theorem wld_made {w : World} {g h : Heap} {L : Addr} {S T : SSt} {a b : TTx} (N : News g L h (((S.frag ++ T.frag) ++ a.frag w) ++ b.frag w)) (nS : (keys S.frag).Nodup) (nT : (keys T.frag).Nodup) (na : (keys (a.frag w)).Nodup) (nb : (keys (b.frag w)).Nodup)
  (d1 : ∀ p ∈ S.frag, ∀ q ∈ T.frag, p.1 ≠ q.1) (d2 : ∀ p ∈ S.frag ++ T.frag, ∀ q ∈ a.frag w, p.1 ≠ q.1) (d3 : ∀ p ∈ (S.frag ++ T.frag) ++ a.frag w, ∀ q ∈ b.frag w, p.1 ≠ q.1)
  (Aa : Agree a S) (Ab : Agree b T) (OS : S.Ok) (OT : T.Ok) (ka : a.Kept) (kb : b.Kept) : Wld w g L h a S b T := by
 have two : ∀ {a : TTx} {S : SSt}, (keys S.frag).Nodup → (keys (a.frag w)).Nodup → (∀ p ∈ S.frag, ∀ q ∈ a.frag w, p.1 ≠ q.1) → (keys (PF w a S)).Nodup := fun n1 n2 d => by
  unfold PF
  rw [keys_append]
  refine List.nodup_append.mpr ⟨n1, n2, fun x hx y hy e => ?_⟩
  obtain ⟨p, hp, rfl⟩ := List.mem_map.mp hx
  obtain ⟨q, hq, rfl⟩ := List.mem_map.mp hy
  exact d p hp q hq e
 have NS := news_left (news_left (news_left N))
 have NT := news_right (news_left (news_left N))
 have Na := news_right (news_left N)
 have Nb := news_right N
 refine ⟨⟨Has.app (has_news NS) (has_news Na), two nS na fun p hp q hq => d2 p (List.mem_append_left _ hp) q hq, Aa, OS, ka⟩, ⟨Has.app (has_news NT) (has_news Nb), two nT nb fun p hp q hq => d3 p (List.mem_append_left _ (List.mem_append_right _ hp)) q hq, Ab, OT, kb⟩, fun p hp => ?_, fun p hp q hq => ?_⟩
 ·rcases List.mem_append.mp hp with hp | hp
  ·rcases List.mem_append.mp hp with hp | hp
   ·exact NS p hp
   ·exact Na p hp
  ·rcases List.mem_append.mp hp with hp | hp
   ·exact NT p hp
   ·exact Nb p hp
 ·rcases List.mem_append.mp hp with hp | hp
  ·rcases List.mem_append.mp hq with hq | hq
   ·exact d1 p hp q hq
   ·exact d3 p (List.mem_append_left _ (List.mem_append_left _ hp)) q hq
  ·rcases List.mem_append.mp hq with hq | hq
   ·exact fun e => d2 q (List.mem_append_right _ hq) p hp e.symm
   ·exact d3 p (List.mem_append_right _ hp) q hq
theorem cells_len {ns : List Int} : 9 ≤ (ns.take 9 ++ (List.replicate (Int.toNat 9) [(0 : Int)]).flatten).length ∧ (ns.take 9 ++ (List.replicate (Int.toNat 9) [(0 : Int)]).flatten).length ≤ 18 := by
 rw [List.length_append, List.length_take, show (List.replicate (Int.toNat 9) [(0 : Int)]).flatten.length = 9 from rfl]
 omega
theorem lawP_mk {w : World} {g h : Heap} {L cl' : Addr} {S T : SSt} {a b : TTx} {m₀ : Str → Option Value} {s : Shared} {tk : Nat} (F : Fr g L h (fun y => if y = Str.ofString "whole" then some (.ref a.x) else if y = Str.ofString "other" then some (.ref b.x) else if y = Str.ofString "state" then some (.ref S.a) else if y = Str.ofString "kept" then some (.ref T.a) else if y = Str.ofString "cells" then some (.ref cl') else m₀ y)) (W : Wld w g L h a S b T) (h3 : S.outs.length ≤ 3) : LawP w g L m₀ s { s with heap := h, toks := tk } := by
 refine ⟨_, _, cl', a, S, b, T, rfl, fr_congr F fun y => ?_, W, h3⟩
 by_cases e0 : y = Str.ofString "other"
 ·subst e0; rfl
 ·by_cases e1 : y = Str.ofString "whole"
  ·subst e1; rfl
  ·by_cases e2 : y = Str.ofString "kept"
   ·subst e2; rfl
   ·by_cases e3 : y = Str.ofString "state"
    ·subst e3; rfl
    ·simp only [lawM, if_neg e0, if_neg e1, if_neg e2, if_neg e3]
structure WldS (w : World) (a : TTx) (S : SSt) (b : TTx) (T : SSt) : Prop where
 n1 : (keys (PF w a S)).Nodup
 n2 : (keys (PF w b T)).Nodup
 A1 : Agree a S
 A2 : Agree b T
 O1 : S.Ok
 O2 : T.Ok
 K1 : a.Kept
 K2 : b.Kept
 D : ∀ p ∈ PF w a S, ∀ q ∈ PF w b T, p.1 ≠ q.1
theorem Wld.st {w : World} {g h : Heap} {L : Addr} {a b : TTx} {S T : SSt} (W : Wld w g L h a S b T) : WldS w a S b T := ⟨W.P1.nd, W.P2.nd, W.P1.A, W.P2.A, W.P1.O, W.P2.O, W.P1.K, W.P2.K, W.D⟩
theorem WldS.at {w : World} {g h : Heap} {L : Addr} {a b : TTx} {S T : SSt} (W : WldS w a S b T) (N : News g L h (PF w a S ++ PF w b T)) : Wld w g L h a S b T :=
 ⟨⟨has_news (news_left N), W.n1, W.A1, W.O1, W.K1⟩, ⟨has_news (news_right N), W.n2, W.A2, W.O2, W.K2⟩, N, W.D⟩
abbrev loopM (v1 v2 v3 : Option Value) (m : Str → Option Value) : Str → Option Value := fun y => if y = Str.ofString "turn" then v1 else if y = Str.ofString "way" then v2 else if y = Str.ofString "number" then v3 else m y
def LawL (w : World) (cl' xa xb sa : Addr) (T : SSt) (m₀ : Str → Option Value) (l : Addr) (lvs : List Value) (j : Nat) (m : Str → Option Value) (news : List (Addr × Obj)) : Prop :=
 ∃ v1 v2 v3 a S b, ∃ zs : List Int, (∀ y, m y = loopM v1 v2 v3 (lawM cl' S T a b m₀) y) ∧ news = (l, listOf lvs.toArray 0) :: (PF w a S ++ PF w b T) ∧ WldS w a S b T ∧ (∀ p ∈ PF w a S ++ PF w b T, p.1 ≠ l) ∧ a.x = xa ∧ b.x = xb ∧ S.a = sa ∧ S.outs.length ≤ 3 + j ∧ IntsAre lvs zs ∧ lvs.length ≤ 5
theorem ne_absurd {l : List UInt8} (h : (l != l) = true) : False := by simp at h
theorem dl_of {X : List (Addr × Obj)} {D : Nat} (l : ∀ p ∈ X, @LT.lt Nat _ p.1 D) : ∀ p ∈ X, p.1 ≠ D := fun p hp => Nat.ne_of_lt (l p hp)
theorem loop_mk {w : World} {g h0 h : Heap} {L cl' xa xb sa l it : Addr} {lvs : List Value} {zs : List Int} {j tk : Nat} {a a' b : TTx} {S S' T : SSt} {m₀ : Str → Option Value} {u1 u2 u3 : Option Value} {w1 w2 w3 : Value} {o : Obj} {s₀ : Shared}
  (F : Fr g L h (fun y => if y = Str.ofString "way" then some w2 else if y = Str.ofString "turn" then some w1 else if y = Str.ofString "number" then some w3 else loopM u1 u2 u3 (lawM cl' S T a b m₀) y)) (W : Wld w g L h a' S' b T) (Z : News g L h0 ((it, o) :: (l, listOf lvs.toArray 0) :: (PF w a S ++ PF w b T)))
  (dl : ∀ p ∈ PF w a S ++ PF w b T, p.1 ≠ l) (di : ∀ q ∈ (l, listOf lvs.toArray 0) :: (PF w a S ++ PF w b T), q.1 ≠ it) (k : ∀ p ∈ PF w a' S', p.1 ∈ keys (PF w a S) ∨ h0.get? p.1 = none) (e : ∀ x o, h0.get? x = some o → x ∉ keys (PF w a S) → x ≠ L → h.get? x = some o)
  (ea : a'.x = a.x) (eS : S'.a = S.a) (xa1 : a.x = xa) (xb1 : b.x = xb) (sa1 : S.a = sa) (h3 : S'.outs.length ≤ 3 + (j + 1)) (hI : IntsAre lvs zs) (hl : lvs.length ≤ 5) :
  LoopEndG (LawL w cl' xa xb sa T m₀ l lvs (j + 1)) g L it o s₀ { s₀ with heap := h, toks := tk } := by
 have nl : l ∉ keys (PF w a S) := fun z => by
  obtain ⟨p, hp, q⟩ := List.mem_map.mp z
  exact dl p (List.mem_append_left _ hp) q
 have ni : it ∉ keys (PF w a S) := fun z => by
  obtain ⟨p, hp, q⟩ := List.mem_map.mp z
  exact di p (.tail _ (List.mem_append_left _ hp)) q
 have Zl := Z (l, listOf lvs.toArray 0) (.tail _ (.head _))
 have Zi := Z (it, o) (.head _)
 have dn : ∀ (x : Addr) (ox : Obj), h0.get? x = some ox → x ∉ keys (PF w a S) → (∀ p ∈ PF w b T, p.1 ≠ x) → ∀ p ∈ PF w a' S' ++ PF w b T, p.1 ≠ x := fun x ox hx hn hb p hp z => by
  rcases List.mem_append.mp hp with hp | hp
  ·rcases k p hp with q | q
   ·exact hn (z ▸ q)
   ·rw [z, hx] at q; cases q
  ·exact hb p hp z
 have dl' := dn l _ Zl.1 nl (fun p hp => dl p (List.mem_append_right _ hp))
 have di' := dn it _ Zi.1 ni (fun p hp => di p (.tail _ (List.mem_append_right _ hp)))
 refine ⟨h, tk, _, _, rfl, ⟨some w1, some w2, some w3, a', S', b, zs, fun y => ?_, rfl, W.st, dl', ea.trans xa1, xb1, eS.trans sa1, h3, hI, hl⟩, F, fun p hp => ?_, fun q hq => ?_⟩
 ·by_cases e1 : y = Str.ofString "turn"
  ·subst e1; rfl
  ·by_cases e2 : y = Str.ofString "way"
   ·subst e2; rfl
   ·by_cases e3 : y = Str.ofString "number"
    ·subst e3; rfl
    ·simp only [loopM, lawM, if_neg e1, if_neg e2, if_neg e3, ea, eS]
 ·rcases List.mem_cons.mp hp with hp | hp
  ·rw [hp]; exact ⟨e _ _ Zi.1 ni Zi.2.1, Zi.2⟩
  rcases List.mem_cons.mp hp with hp | hp
  ·rw [hp]; exact ⟨e _ _ Zl.1 nl Zl.2.1, Zl.2⟩
  ·exact W.N p hp
 ·rcases List.mem_cons.mp hq with hq | hq
  ·rw [hq]; exact di _ (.head _)
  ·exact di' q hq
section
variable {w : World} {hb : Heap} {mean : ExcName → Option Value} {mg mb : Str → Option Value} {s : Shared}
theorem law_law (G : Gd w hb mean mg mb) (st : St hb s.heap) {cl : Addr} {vs : List Value} {ns : List Int} (hcl : s.heap.IsList cl vs.toArray) (hI : IntsAre vs ns) (hlen : ns.length ≤ 63) {dp un : Nat} {gd : Option (List Code)} {R : Result → Shared → Prop} (hdp : dp + 300 < recursionLimit) (hu : un + 8 * 300 < cLine)
  (hQ : ∀ h' tk', (∀ b o, s.heap.get? b = some o → h'.get? b = some o) → R (.ok (.ret (.bool true))) { s with heap := h', toks := tk' }) :
  codeX (model prog w) (Ar dp un (some []) gd) (.call (.ref 1242) ⟨[.ref cl], []⟩) R s := by
 refine' enterX (binds := [(Str.ofString "script", Value.ref cl)]) G st [] ?hW ?ho ?hcd ?hroom ?hbind ?hloc ?h ?hcell ?hco ?hgen ?hk
 walk_at "kk_enter"
 case hW => intro p hp; cases hp
 intro g L h₁ F N l1 lL X T0 stg sub
 clear l1
 have sub0 : ∀ b o, s.heap.get? b = some o → g.get? b = some o := fun b o e => sub b o e (by simp)
 have gcl : g.IsList cl vs.toArray := by obtain ⟨ol, h1, h2⟩ := hcl; exact ⟨ol, sub0 _ _ h1, h2⟩
 have hlv : vs.length = ns.length := hI.length
 refine x_cut3 (LawP w g L (fun y => [(Str.ofString "script", Value.ref cl)].reverse.lookup y) s) (fun K7 hK7 => ?_) ?_
 ·walk_at "xa"
  k_steps
  walk_at "r8"
  (rename IntsAre _ _ => I8)
  replace N8 := news_sub N8 (fun p m => (by rw [List.mem_singleton.mp m]; exact .head _ : p ∈ _))
  change wpAny _ _ (PySem.call (.ref 1235) _) _ _ _
  refine use0 (law_start G (st_of stg F8) (isl_news N8 (.head _)) I8 cells_len.1 cells_len.2) F8 N8 (by walk_at "kk_num") (by walk_at "kk_num") ?_
  intro K8 hK8 r h' tk' F' n0 l1 l2 p
  refine hideP fun B9 k9 => ?_
  obtain ⟨S, e1, HS, OS, oS, ndS, frS⟩ := p
  refine k9 ?_; clear k9
  subst e1
  have N' := news_app F8 n0 HS frS
  clear n0 l1 l2 F8 N8
  refine hK8 _ _ _ ?_
  k_steps
  walk_at "r8"
  change wpAny _ _ (PySem.call (.ref 1235) _) _ _ _
  refine use0 (law_start G (st_of stg F8) (isl_news N8 (.head _)) I8 cells_len.1 cells_len.2) F8 N8 (by walk_at "kk_num") (by walk_at "kk_num") ?_
  intro K8 hK8 r h' tk' F' n0 l1 l2 p
  refine hideP fun B9 k9 => ?_
  obtain ⟨T, e1, HT, OT, oT, ndT, frT⟩ := p
  refine k9 ?_; clear k9
  subst e1
  have dST := apart_of (news_right N8) frT
  have N' := news_app F8 (news_right n0) HT frT
  clear n0 l1 l2 F8 N8
  refine hK8 _ _ _ ?_
  k_steps
  walk_at "r8"
  replace N8 := news_tail N8
  change wpAny _ _ (PySem.call (.ref 1216) _) _ _ _
  refine use0 (law_made G (st_of stg F8) (SSt.here (has_news (news_left N8))) OS) F8 N8 (by walk_at "kk_num") (by walk_at "kk_num") ?_
  intro K8 hK8 r h' tk' F' n0 l1 l2 p
  refine hideP fun B9 k9 => ?_
  obtain ⟨a, e1, Ha, Aa, c1a, c2a, c3a, nda, fra⟩ := p
  refine k9 ?_; clear k9
  subst e1
  have d2 := apart_of N8 fra
  have N' := news_app F8 n0 Ha fra
  clear n0 l1 l2 F8 N8
  refine hK8 _ _ _ ?_
  k_steps
  walk_at "r8"
  change wpAny _ _ (PySem.call (.ref 1216) _) _ _ _
  refine use0 (law_made G (st_of stg F8) (SSt.here (has_news (news_right (news_left N8)))) OT) F8 N8 (by walk_at "kk_num") (by walk_at "kk_num") ?_
  intro K8 hK8 r h' tk' F' n0 l1 l2 p
  refine hideP fun B9 k9 => ?_
  obtain ⟨b, e1, Hb, Ab, c1b, c2b, c3b, ndb, frb⟩ := p
  refine k9 ?_; clear k9
  subst e1
  have d3 := apart_of N8 frb
  have N' := news_app F8 n0 Hb frb
  clear n0 l1 l2 F8 N8
  refine hK8 _ _ _ ?_
  k_steps
  walk_at "r8"
  replace N8 := news_tail N8
  refine hK7 _ (lawP_mk F8 (wld_made N8 ndS ndT nda ndb dST d2 d3 Aa Ab OS OT ⟨.inl c1a, .inl c2a, .inl c3a⟩ ⟨.inl c1b, .inl c2b, .inl c3b⟩) oS)
 ·intro s' p9
  refine hideP fun B9 k9 => ?_
  obtain ⟨h', tk', cl', a, S, b, T, rfl, F1, W1, h3⟩ := p9
  refine k9 ?_; clear k9
  clear F N
  have NW := W1.N
  ((try k_steps); refine x_execs fun K9 hK9 => (x_if ?_))
  refine x_not (x_truth (x_name (x_any ?_)))
  k_steps
  (try dsimp only)
  walk_at "sy"
  k_steps
  refine x_more rfl (x_any ?_)
  k_steps
  refine x_more rfl (x_any ?_)
  k_steps
  refine x_more rfl (x_any ?_)
  k_steps
  walk_at "xm"
  (try dsimp only)
  (rename Fr _ _ _ _ => F8)
  refine use_ask G stg F8 W1.swap rfl (by omega) (by omega) ?_
  intro h' tk' b' eb W2 F2
  replace W2 := W2.swap
  clear W1 NW F8
  k_steps
  walk_at "xnil"
  have NW := W2.N
  ((try k_steps); refine x_execs fun K9 hK9 => (x_forG (g := g) (L := L) (s₀ := s) (LawL w cl' a.x b'.x S.a T (fun y => [(Str.ofString "script", Value.ref cl)].reverse.lookup y)) rfl (fun _ _ => rfl) ?hg ?start ?turn ?done))
  case hg =>
   intro l lvs i m news h p9 F N
   refine hideP fun B9 k9 => ?_
   obtain ⟨v1, v2, v3, a, S, b, zs, hm, rfl, _⟩ := p9
   refine k9 ?_; clear k9
   exact isl_news N (.head _)
  case start =>
   k_steps
   walk_at "r8"
   (rename IntsAre _ _ => I8)
   have c2 := I8.length
   rw [List.length_take, List.length_drop] at c2
   have c3 := Nat.le_trans (Nat.le_of_eq c2) (cut_le (d := 5) (by decide))
   clear c2
   have F9 := fr_congr (m' := loopM none none none (lawM cl' S T a b' (fun y => [(Str.ofString "script", Value.ref cl)].reverse.lookup y))) F8 (by
    intro y
    by_cases e1 : y = Str.ofString "turn"
    ·subst e1; rfl
    ·by_cases e2 : y = Str.ofString "way"
     ·subst e2; rfl
     ·by_cases e3 : y = Str.ofString "number"
      ·subst e3; rfl
      ·simp only [loopM, lawM, if_neg e1, if_neg e2, if_neg e3, eb])
   exact ⟨_, _, rfl, _, _, _, _, rfl, ⟨none, none, none, a, S, b', _, fun _ => rfl, rfl, W2.st, dl_of (by assumption), rfl, rfl, rfl, h3, I8, by omega⟩, F9, N8⟩
  case turn =>
   intro l lvs j v m news it o h tk'' hv' p9 F' N' l1 l2
   refine hideP fun B9 k9 => ?_
   obtain ⟨v1, v2, v3, a1, S1, b1, zs, hm, rfl, WS, dl, xa1, xb1, sa1, h3', hIz, hl5⟩ := p9
   refine k9 ?_; clear k9
   clear F2 NW W2
   refine hideP fun B9 k9 => ?_
   obtain ⟨z, t, rfl, _⟩ := hIz.at _ _ hv'
   refine k9 ?_; clear k9
   have hjl : j < lvs.length := (List.getElem?_eq_some_iff.mp hv').1
   have F := fr_congr F' hm
   clear F' hm
   have W1 := WS.at (news_tail (news_tail N'))
   have z2 := Int.fmod_nonneg_of_pos z (b := 8) (by decide)
   have z3 := Int.fmod_lt_of_pos z (b := 8) (by decide)
   k_steps
   ((try k_steps); refine x_execs fun K9 hK9 => (x_any ?_))
   k_steps
   (try dsimp only)
   walk_at "xi"
   k_steps
   ·((try k_steps); refine x_execs fun K9 hK9 => (x_any ?_))
    k_steps
    walk_at "r8"
    have NZ := news_tail N8
    change wpAny _ _ (PySem.call (.ref 1230) _) _ _ _
    refine use_turn G stg F8 (WS.at (news_tail (news_tail NZ))) (by omega) (by assumption) z3 (by walk_at "kk_num") (by walk_at "kk_num") ?_
    intro h' tk' a' S' ea eS e3 W' F' k e
    have N9 := W'.N
    clear F8 N8
    k_steps
    walk_at "xnil"
    exact loop_mk (by k_asm) W' NZ dl l1 k (fun x o hx hn _ => e x o hx hn) ea eS xa1 xb1 sa1 (by omega) hIz hl5
   ·((try k_steps); refine x_execs fun K9 hK9 => (x_if ?_))
    refine x_not (x_truth (x_name (x_any ?_)))
    k_steps
    (try dsimp only)
    walk_at "sy"
    k_steps
    refine x_more rfl (x_any ?_)
    k_steps
    refine x_more rfl (x_any ?_)
    k_steps
    refine x_more rfl (x_any ?_)
    k_steps
    walk_at "xm"
    (try dsimp only)
    walk_at "r8"
    have NZ := news_tail N8
    refine use_ask G stg F8 (WS.at (news_tail (news_tail NZ))) rfl (by omega) (by omega) ?_
    intro h' tk' a' ea W' F' k e
    have N9 := W'.N
    clear F8 N8
    k_steps
    walk_at "xnil"
    exact loop_mk (by k_asm) W' NZ dl l1 k e ea rfl xa1 xb1 sa1 (by omega) hIz hl5
  case done =>
   intro l lvs m news h tk'' p9 F' N'
   refine hideP fun B9 k9 => ?_
   obtain ⟨v1, v2, v3, a1, S1, b1, zs, hm, rfl, WS, dl, xa1, xb1, sa1, h3', hIz, hl5⟩ := p9
   refine k9 ?_; clear k9
   clear F2 NW W2
   have F := fr_congr F' hm
   clear F' hm
   have W1 := WS.at (news_tail N')
   have O1 := W1.P1.O
   (try dsimp only)
   have mS : (S1.a, listOf #[.int (S1.ver : Int) S1.tv, .ref S1.ia, .ref S1.oa, .int (S1.lock : Int) S1.tl] S1.n) ∈ PF w a1 S1 ++ PF w b1 T := List.mem_append_left _ (List.mem_append_left _ (.head _))
   have mX : (a1.x, instObj 1061 a1.d) ∈ PF w a1 S1 ++ PF w b1 T := List.mem_append_left _ (List.mem_append_right _ (.head _))
   have mD : (a1.d, a1.dict w) ∈ PF w a1 S1 ++ PF w b1 T := List.mem_append_left _ (List.mem_append_right _ (.tail _ (.head _)))
   have NL : News g L h ((a1.x, instObj 1061 a1.d) :: (a1.d, a1.dict w) :: (S1.a, listOf #[.int (S1.ver : Int) S1.tv, .ref S1.ia, .ref S1.oa, .int (S1.lock : Int) S1.tl] S1.n) :: (PF w a1 S1 ++ PF w b1 T)) := fun p hp => by
    rcases List.mem_cons.mp hp with hp | hp
    ·rw [hp]; exact W1.N _ mX
    rcases List.mem_cons.mp hp with hp | hp
    ·rw [hp]; exact W1.N _ mD
    rcases List.mem_cons.mp hp with hp | hp
    ·rw [hp]; exact W1.N _ mS
    ·exact W1.N p hp
   clear N'
   ((try k_steps); refine x_execs fun K9 hK9 => (x_if (x_trueCompare (x_meth (x_any ?_)))))
   k_steps
   (try dsimp only)
   walk_at "xc"
   refine useX0b (tx_ser (a := a1) G (st_of stg F) W1.P1.tx W1.P1.ok) F NL (by walk_at "kk_num") (by walk_at "kk_num") ?_
   intro q h' tk' F' N'
   clear NL F
   walk_at "xa"
   k_steps
   walk_at "r8"
   have W2 := WS.at (news_tail (news_tail (news_tail N8)))
   have HS := W2.P1.here
   change wpAny _ _ (PySem.call (.ref 1199) _) _ _ _
   refine use0b (law_laid G (st_of stg F8) HS.hs HS.hi HS.ho (fun r m => ⟨HS.hI r m, O1.hi r m⟩) (fun r m => ⟨HS.hO r m, O1.ho r m⟩) O1.hv O1.hl O1.n2 O1.n3) F8 N8 (by walk_at "kk_num") (by walk_at "kk_num") ?_
   intro q2 h' tk' F' N'
   clear F8 N8
   rw [← oct_eq WS.A1]
   k_steps
   all_goals try (exfalso; refine ne_absurd (l := a1.oct.toList) ?_; assumption)
   walk_at "xnil"
   walk_at "r8"
   have W3 := WS.at (news_tail (news_tail (news_tail N8)))
   ((try k_steps); refine x_execs fun K9 hK9 => (x_return (x_and2 (x_name (x_any ?_)))))
   k_steps
   (try dsimp only)
   walk_at "sy"
   k_steps
   refine x_more rfl (x_any ?_)
   k_steps
   refine x_more rfl (x_any ?_)
   k_steps
   refine x_more rfl (x_any ?_)
   k_steps
   walk_at "xm"
   (try dsimp only)
   (rename Fr _ _ _ _ => F9)
   refine use_ask G stg F9 W3 rfl (by omega) (by omega) ?_
   intro h' tk' a2 ea W4 F' k e
   have N9 := W4.N
   clear F9 N8 k e
   k_steps
   try rw [if_pos rfl]
   refine x_name (x_any ?_)
   k_steps
   (try dsimp only)
   walk_at "sy"
   k_steps
   refine x_more rfl (x_any ?_)
   k_steps
   refine x_more rfl (x_any ?_)
   k_steps
   refine x_more rfl (x_any ?_)
   k_steps
   walk_at "xm"
   (try dsimp only)
   (rename Fr _ _ _ _ => F9)
   refine use_ask G stg F9 W4.swap rfl (by omega) (by omega) ?_
   intro h' tk' b2 eb2 W5 F' k e
   walk_at "Kont"
   exact leaves F' fun _ => fun e => hQ _ _ fun b o q => e b o (by simp) q
end
end
section
open PySem.Spec
theorem law_name : stLaw.name = Str.ofString "law" := by kernel_rfl
theorem walkX : WalkXT := by
 intro w s₀ s₁ mg mb G Y a hmg hgens args vals as hpre hlay hrd hwl
 have X : (Kc w.params).In s₁.heap := Y
 refine Ground.open G ?_
 intro T B D TE TW
 rw [law_name] at hmg
 have ea : some (Value.ref a) = some (.ref 1242) := hmg.symm.trans (mg_of X T.g (by k_is))
 injection ea with ea
 injection ea with ea
 subst ea
 have hsh := (pre_splitW hpre).1
 have hcond := (pre_splitW hpre).2
 wrow_hasAll hsh hlay
 have hc := readsAllW_cons_inv hrd
 obtain ⟨_, _, _, _, he, ha, r1, hr⟩ := hc
 subst he
 subst ha
 have he := (readsAllW_nil_inv hr).1
 subst he
 have r0 := reads_of_readsW _ r1
 clear r1 hr hrd hwl
 row_read r0
 w_cond hcond
 refine x_call ?_
 show codeX (model prog w) (Ar (1 + claimMargin) 4 (some []) (some [])) (.call (.ref 1242) ⟨_, []⟩) _ s₁
 refine law_law ⟨X, T⟩ (fun b o e => e) (by assumption) (by assumption) ?_ (by decide) (by decide) fun h' tk' e => ?_
 ·omega
 ·refine GoodW.toG ⟨.inl ⟨.bool true, .bool true, [], rfl, raisesW_false (by wrow_none_raised), .bool true, ?_, unshared_nil⟩, e, rfl, hgens⟩
  wrow_post
theorem holds_02 : law.Holds := headX walkX
end
end Kk
theorem PySem.Challenge.cw_kk0016_02_holds : PySem.Challenge.rw_kk0016_02.Holds := by
  exact Kk.holds_02
