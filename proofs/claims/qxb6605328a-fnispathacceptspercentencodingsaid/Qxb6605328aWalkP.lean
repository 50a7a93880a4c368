import Derived.Test.Qxb6605328aEncP
namespace Go.Proofs.Qxb6605328a.fnIsPathAcceptsPercentEncoding
open Go.RowKit

def upS : ByteArray := ⟨#[48, 49, 50, 51, 52, 53, 54, 55, 56, 57, 65, 66, 67, 68, 69, 70]⟩
def loS : ByteArray := ⟨#[48, 49, 50, 51, 52, 53, 54, 55, 56, 57, 97, 98, 99, 100, 101, 102]⟩
theorem up_hex : ∀ n, n < 16 → hx ((dig upS.data.toList n).toNat : Int) = true := by
  have : ∀ n : Fin 16, hx ((dig upS.data.toList n.val).toNat : Int) = true := by decide +kernel
  exact fun n hn => this ⟨n, hn⟩
theorem lo_hex : ∀ n, n < 16 → hx ((dig loS.data.toList n).toNat : Int) = true := by
  have : ∀ n : Fin 16, hx ((dig loS.data.toList n.val).toNat : Int) = true := by decide +kernel
  exact fun n hn => this ⟨n, hn⟩
theorem enc_size (D l : List UInt8) (h : l.length ≤ 65536) : (⟨(47 :: enc D l).toArray⟩ : ByteArray).size ≤ 900000 := by
  have := enc_len D l
  show (47 :: enc D l).toArray.size ≤ _
  rw [List.size_toArray, List.length_cons]
  omega

set_option maxRecDepth 1000000 in
set_option maxHeartbeats 2000000 in
theorem walk (a0 : ByteArray) (w0 : a0.size ≤ maxLen) (w : World) :
    Calls Try.prog 3 #[.string a0] w fun e w' => e = .returned (.bool true) ∧ Below w.heap.size w w' := by
  by_cases hsz : a0.size ≤ 1048576
  · by_cases h16 : a0.size ≤ 65536
    · have hsz1 : ¬ (65536 : Int) < (a0.size : Int) := by omega
      have hl : a0.data.toList.length ≤ 65536 := by simpa using h16
      go_enter Try.func3, Try.ntmps3
      go_wp2_with (go_at_call 7; refine (bytes7_any _ _ w0).mono ?_; rintro e w' ⟨rfl, hw⟩; rw [hw, decide_eq_true hsz])
      refine (enc_any upS rfl a0 h16 _).mono ?_
      rintro e w1 ⟨rfl, hb1⟩
      go_wp2_with fail
      refine (enc_any loS rfl a0 h16 _).mono ?_
      rintro e w2 ⟨rfl, hb2⟩
      go_wp2_with fail
      refine (accepted_any upS.data.toList a0.data.toList up_hex _ rfl _ (enc_size _ _ hl)).mono ?_
      rintro e w3 ⟨rfl, n3, hw3⟩
      rw [hw3]
      go_wp2_with fail
      refine (accepted_any loS.data.toList a0.data.toList lo_hex _ rfl _ (enc_size _ _ hl)).mono ?_
      rintro e w4 ⟨rfl, n4, hw4⟩
      rw [hw4, World.drewN_drewN]
      go_wp2_with fail
      go_ret
      exact ⟨rfl, (hb1.trans (hb2.mono hb1.size)).trans ⟨rfl, rfl, rfl, Nat.le_refl _, fun _ _ => rfl⟩⟩
    · have hsz1 : (65536 : Int) < (a0.size : Int) := by omega
      go_enter Try.func3, Try.ntmps3
      go_wp2_with (go_at_call 7; refine (bytes7_any _ _ w0).mono ?_; rintro e w' ⟨rfl, hw⟩; rw [hw, decide_eq_true hsz])
      go_ret
      exact ⟨rfl, Below.refl _ _⟩
  · go_enter Try.func3, Try.ntmps3
    go_wp2_with (go_at_call 7; refine (bytes7_any _ _ w0).mono ?_; rintro e w' ⟨rfl, hw⟩; rw [hw, decide_eq_false hsz])
    go_ret
    exact ⟨rfl, Below.refl _ _⟩
end Go.Proofs.Qxb6605328a.fnIsPathAcceptsPercentEncoding
