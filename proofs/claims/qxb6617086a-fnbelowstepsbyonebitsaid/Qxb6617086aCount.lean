/-
  math/bits.OnesCount64: by its own text.
-/
import Derived.Test.Qxb6617086aRows
import Derived.Test.Qxb6617086aPop
import Derived.WalkKit
import Derived.WalkSpells
import Derived.WalkLawsBesides
import Derived.RowKit3
import Derived.Below
import Derived.Lib.EndianBits
import Derived.Laws.BitsAllLaws
import Derived.Deep.QuietTactic
import Derived.BigQuiet
namespace Go.Proofs.Qxb6617086a
open Go.RowKit
set_option linter.unusedVariables false

theorem hide {p : Prop} (h : p) : Hid p := h

theorem wr (n : Nat) (h : n < 18446744073709551616) : IntKind.u64.wrap (n : Int) = (n : Int) := wraps_u64 _ (by omega) (by omega)

theorem andN (a b : Nat) (ha : a < 18446744073709551616) (hb : b < 18446744073709551616) : bits BinOp.and IntKind.u64 (a : Int) (b : Int) = ((a &&& b : Nat) : Int) := u64_and_nat a b ha hb

theorem wraps_i64 (n : Int) (h0 : 0 ≤ n) (h1 : n < 2 ^ 63) : IntKind.i64.wrap n = n := by rw [IntKind.wrap_i64]; omega

theorem step1 (x a m k : Nat) (hx : x < 18446744073709551616) (hm : m < 18446744073709551616) (ha : a = (x / k &&& m) + (x &&& m)) (hlt : a < 18446744073709551616) :
    IntKind.u64.wrap (bits BinOp.and IntKind.u64 ((x : Int) / (k : Int)) (m : Int) + bits BinOp.and IntKind.u64 (x : Int) (m : Int)) = (a : Int) := by
  have e : (x : Int) / (k : Int) = ((x / k : Nat) : Int) := by push_cast; rfl
  have hle : x / k ≤ x := Nat.div_le_self _ _
  rw [e, andN _ _ (by omega) hm, andN _ _ hx hm, ← Int.natCast_add, ← ha]
  exact wr a hlt

theorem step3 (b c m k : Nat) (hm : m < 18446744073709551616) (hlt : b / k + b < 18446744073709551616) (hc : c = (b / k + b) &&& m) :
    bits BinOp.and IntKind.u64 (IntKind.u64.wrap ((b : Int) / (k : Int) + (b : Int))) (m : Int) = (c : Int) := by
  have e : (b : Int) / (k : Int) = ((b / k : Nat) : Int) := by push_cast; rfl
  rw [e, ← Int.natCast_add, wr _ hlt, andN _ _ hlt hm, ← hc]

theorem step4 (c d k : Nat) (hd : d = c + c / k) (hlt : d < 18446744073709551616) : IntKind.u64.wrap ((c : Int) + (c : Int) / (k : Int)) = (d : Int) := by
  have e : (c : Int) / (k : Int) = ((c / k : Nat) : Int) := by push_cast; rfl
  rw [e, ← Int.natCast_add, ← hd]
  exact wr d hlt

theorem step7 (f r : Nat) (hf : f < 9223372036854775808) (hr : f % 128 = r) : bits BinOp.and IntKind.i64 (wrap64 (f : Int)) 127 = (r : Int) := by
  have hw : wrap64 (f : Int) = (f : Int) := by unfold wrap64; omega
  rw [hw, show (127 : Int) = 2 ^ 7 - 1 from rfl, bits_mask .i64 63 (by decide) wraps_i64 7 (by decide) (f : Int) (by omega) (by omega)]
  omega

set_option maxHeartbeats 800000 in
theorem ones_any (x : Nat) (hx : x < 18446744073709551616) (w : World) :
    Calls Try.prog 8 #[.int .u64 x] w fun e w' => e = .returned (.int .i64 (Pl.pop 64 x)) ∧ w' = w := by
  obtain ⟨a, ha⟩ : ∃ a, a = (x / 2 &&& 6148914691236517205) + (x &&& 6148914691236517205) := ⟨_, rfl⟩
  obtain ⟨b, hb⟩ : ∃ b, b = (a / 4 &&& 3689348814741910323) + (a &&& 3689348814741910323) := ⟨_, rfl⟩
  obtain ⟨c, hc⟩ : ∃ c, c = (b / 16 + b) &&& 1085102592571150095 := ⟨_, rfl⟩
  obtain ⟨d, hd⟩ : ∃ d, d = c + c / 256 := ⟨_, rfl⟩
  obtain ⟨e, he⟩ : ∃ e, e = d + d / 65536 := ⟨_, rfl⟩
  obtain ⟨f, hf⟩ : ∃ f, f = e + e / 4294967296 := ⟨_, rfl⟩
  obtain ⟨s1, s2, s3, s4, s5, s6, s7⟩ := Pl.swar x a b c d e f hx ha hb hc hd he hf
  have q1 : IntKind.u64.wrap (bits BinOp.and IntKind.u64 ((x : Int) / 2) 6148914691236517205 + bits BinOp.and IntKind.u64 (x : Int) 6148914691236517205) = (a : Int) := step1 x a 6148914691236517205 2 hx (by decide) ha s2
  have q2 : IntKind.u64.wrap (bits BinOp.and IntKind.u64 ((a : Int) / 4) 3689348814741910323 + bits BinOp.and IntKind.u64 (a : Int) 3689348814741910323) = (b : Int) := step1 a b 3689348814741910323 4 s2 (by decide) hb s3
  have q3 : bits BinOp.and IntKind.u64 (IntKind.u64.wrap ((b : Int) / 16 + (b : Int))) 1085102592571150095 = (c : Int) := step3 b c 1085102592571150095 16 (by decide) s4 hc
  have q4 : IntKind.u64.wrap ((c : Int) + (c : Int) / 256) = (d : Int) := step4 c d 256 hd s5
  have q5 : IntKind.u64.wrap ((d : Int) + (d : Int) / 65536) = (e : Int) := step4 d e 65536 he s6
  have q6 : IntKind.u64.wrap ((e : Int) + (e : Int) / 4294967296) = (f : Int) := step4 e f 4294967296 hf (by omega)
  have q7 := step7 f _ s7 s1
  clear ha hb hc hd he hf s1 s2 s3 s4 s5 s6 s7
  go_enter Try.func8, Try.ntmps8
  go_wp2
  go_ret
  exact ⟨rfl, rfl⟩
end Go.Proofs.Qxb6617086a
