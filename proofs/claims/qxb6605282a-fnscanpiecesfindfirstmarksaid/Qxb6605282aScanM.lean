import Derived.Test.Qxb6605282aScanA
import Derived.Test.Qxb6605282aScanB
import Derived.Test.Qxb6605282aScanC
import Derived.Test.Qxb6605282aScanD
namespace Go.Proofs.Qxb6605282a
open Go.RowKit

/-- The slice value v holds the bytes l, below block number B. -/
def HB (w : World) (B : Nat) (v : Value) (l : List UInt8) : Prop :=
  ∃ (ap : Option Addr) (c : Nat), v = .slice ap l.length c ∧ l.length ≤ c ∧ c ≤ maxLen ∧
    ((ap = none ∧ l.length = 0 ∧ c = 0) ∨ ∃ a, ap = some a ∧ (l.length = 0 ∨ ∃ b o, a = ⟨b, o, none⟩ ∧ b < B ∧ ∀ i, i < l.length → w.cell? ⟨b, o + i, none⟩ = some (.int .u8 ((l.getD i 0).toNat : Int))))

theorem HB.below {w w' : World} {B B' : Nat} {v : Value} {l : List UInt8} (h : HB w B v l) (hb : Below B w w') (hB : B ≤ B') : HB w' B' v l := by
  obtain ⟨ap, c, h1, h2, h3, h4⟩ := h
  refine ⟨ap, c, h1, h2, h3, ?_⟩
  rcases h4 with h4 | ⟨a, ha, h4⟩
  · exact .inl h4
  · refine .inr ⟨a, ha, ?_⟩
    rcases h4 with h4 | ⟨b, o, e, hlt, hc⟩
    · exact .inl h4
    · exact .inr ⟨b, o, e, by omega, fun i hi => (hb.cell (p := ⟨b, o + i, none⟩) hlt).trans (hc i hi)⟩

theorem scan_any (bs : Nat) (K l : List UInt8) (hK : K.length ≤ 2) (v : Value) (at0 off m : Int) (w : World) (hv : HB w bs v l) (hl : l.length ≤ 1048576) (hbs : bs < w.heap.size)
    (hS : w.heap[bs]? = some (.cells (Sc K false at0) 41 (0, 0))) (hm : w.cell? ⟨0, 0, none⟩ = some (.int .i64 m)) (h0 : 0 < bs) (ho1 : 0 ≤ off) (ho2 : off ≤ 1048576) :
    Calls Try.prog 23 #[.pointer (some ⟨bs, 0, none⟩), v, .int .i64 off] w fun e w' => ScanPost bs w (scanR K l off at0) e w' := by
  obtain ⟨ap, c, rfl, hc, hcm, hv⟩ := hv
  match l, hl, hc, hv with
  | [], _, _, hv =>
    rcases hv with ⟨rfl, _, rfl⟩ | ⟨a, rfl, _⟩
    · match K, hK, hS with
      | [], _, hS => exact scan_zn0 bs at0 off m w hbs hS hm h0 ho1 ho2
      | [k0], _, hS => exact scan_zn1 bs k0 at0 off m w hbs hS hm h0 ho1 ho2
      | [k0, k1], _, hS => exact scan_zn2 bs k0 k1 at0 off m w hbs hS hm h0 ho1 ho2
    · match K, hK, hS with
      | [], _, hS => exact scan_zs0 bs c a at0 off m w hcm hbs hS hm h0 ho1 ho2
      | [k0], _, hS => exact scan_zs1 bs c a k0 at0 off m w hcm hbs hS hm h0 ho1 ho2
      | [k0, k1], _, hS => exact scan_zs2 bs c a k0 k1 at0 off m w hcm hbs hS hm h0 ho1 ho2
  | [x], _, hc, hv =>
    rcases hv with ⟨_, h, _⟩ | ⟨a, rfl, h⟩
    · simp at h
    · rcases h with h | ⟨b, o, rfl, hb, hp⟩
      · simp at h
      · have hp0 : w.cell? ⟨b, o, none⟩ = some (.int .u8 (x.toNat : Int)) := by simpa using hp 0 (by simp)
        have hc1 : 1 ≤ c := by simpa using hc
        match K, hK, hS with
        | [], _, hS => exact scan_one0 bs b o c x at0 off m w hb hp0 hc1 hcm hbs hS hm h0 ho1 ho2
        | [k0], _, hS => exact scan_one1 bs b o c k0 x at0 off m w hb hp0 hc1 hcm hbs hS hm h0 ho1 ho2
        | [k0, k1], _, hS => exact scan_one2 bs b o c k0 k1 x at0 off m w hb hp0 hc1 hcm hbs hS hm h0 ho1 ho2
  | x :: y :: P, hl, hc, hv =>
    rcases hv with ⟨_, h, _⟩ | ⟨a, rfl, h⟩
    · simp at h
    · rcases h with h | ⟨b, o, rfl, hb, hp⟩
      · simp at h
      · have hr : P.length ≤ 1048576 := by simp at hl; omega
        match K, hK, hS with
        | [], _, hS => exact scan_two0 bs b o P.length c x y at0 off m w P hb hp rfl hr hc hcm hbs hS hm h0 ho1 ho2
        | [k0], _, hS => exact scan_two1 bs b o P.length c k0 x y at0 off m w P hb hp rfl hr hc hcm hbs hS hm h0 ho1 ho2
        | [k0, k1], _, hS => exact scan_two2 bs b o P.length c k0 k1 x y at0 off m w P hb hp rfl hr hc hcm hbs hS hm h0 ho1 ho2

theorem scan_found (bs : Nat) (K : List UInt8) (v : Value) (at0 off : Int) (w : World) (hS : w.heap[bs]? = some (.cells (Sc K true at0) 41 (0, 0))) :
    Calls Try.prog 23 #[.pointer (some ⟨bs, 0, none⟩), v, .int .i64 off] w fun e w' => ScanPost bs w (K, true, at0) e w' := by
  have c3 : w.cell? ⟨bs, 3, none⟩ = some (.bool true) := cell_at hS 3
  have HS : Hid _ := hS
  clear hS
  go_enter Try.func23, Try.ntmps23
  go_wp2
  go_end0
  exact ⟨rfl, Below.refl _ _, HS.out, Nat.le_refl _⟩

theorem three_new {w V : World} {X Y Z : Obj} (h : V = ((w.alloc X).alloc Y).alloc Z) : Below w.heap.size w V ∧ V.heap[w.heap.size + 1]? = some Y ∧ V.heap[w.heap.size + 1 + 1]? = some Z ∧ V.heap.size = w.heap.size + 3 := by
  have hh : V.heap = ((w.heap.push X).push Y).push Z := by rw [h]; rfl
  refine ⟨⟨by rw [h]; rfl, by rw [h]; rfl, by rw [h]; rfl, by rw [hh]; simp; omega, fun k hk => ?_⟩, ?_, ?_, by rw [hh]; simp⟩
  · rw [hh, Array.getElem?_push, if_neg (by simp; omega), Array.getElem?_push, if_neg (by simp; omega), Array.getElem?_push, if_neg (by omega)]
  · rw [hh, Array.getElem?_push, if_neg (by simp), Array.getElem?_push, if_pos (by simp)]
  · rw [hh, Array.getElem?_push, if_pos (by simp)]

def zzR (K l : List UInt8) (f : Bool) (off a : Int) : List UInt8 × Bool × Int := if f = true then (K, true, a) else scanR K l off a

set_option maxRecDepth 1000000 in
set_option maxHeartbeats 4000000 in
theorem zz_any (K l : List UInt8) (hK : K.length ≤ 2) (f : Bool) (v : Value) (a off m : Int) (w : World) (hv : HB w w.heap.size v l) (hl : l.length ≤ 1048576) (hm : w.cell? ⟨0, 0, none⟩ = some (.int .i64 m)) (h0 : 0 < w.heap.size) (ho1 : 0 ≤ off) (ho2 : off ≤ 1048576) :
    Calls Try.prog 9 #[.agg #[kb K 0, kb K 1], .int .i64 (K.length : Int), .bool f, .int .i64 a, v, .int .i64 off] w fun e w' =>
      e = .returned (.tuple #[.agg #[kb (zzR K l f off a).1 0, kb (zzR K l f off a).1 1], .int .i64 ((zzR K l f off a).1.length : Int), .bool (zzR K l f off a).2.1, .int .i64 (zzR K l f off a).2.2]) ∧ Below w.heap.size w w' := by
  have HV : Hid _ := hv
  have HM : Hid _ := hm
  clear hv hm
  obtain ⟨t0, ht0⟩ : ∃ t : Int, kb K 0 = .int .u8 t := ⟨_, rfl⟩
  obtain ⟨t1, ht1⟩ : ∃ t : Int, kb K 1 = .int .u8 t := ⟨_, rfl⟩
  rw [ht0, ht1]
  have HT : Hid _ := And.intro ht0 ht1
  clear ht0 ht1
  obtain ⟨tl, htl⟩ : ∃ tl : Int, tl = (K.length : Int) := ⟨_, rfl⟩
  rw [← htl]
  have HL : Hid _ := htl
  clear htl
  generalize hR : zzR K l f off a = R
  have HR : Hid _ := hR
  clear hR
  obtain ⟨W3, hW3⟩ : ∃ W3, W3 = ((w.alloc (.cells #[.int .u8 t0, .int .u8 t1] 22)).alloc (.cells #[.int .u8 0, .int .u8 0] 22)).alloc (.cells #[.int .u8 t0, .int .u8 t1, .int .i64 tl, .bool f, .int .i64 a] 41) := ⟨_, rfl⟩
  obtain ⟨hb3, hY, hZ, hsz3⟩ := three_new hW3
  have hSc : W3.heap[w.heap.size + 1 + 1]? = some (.cells (Sc K f a) 41 (0, 0)) := by
    rw [hZ]
    unfold Sc
    rw [HT.out.1, HT.out.2, HL.out]
  have hcall : Calls Try.prog 23 #[.pointer (some ⟨w.heap.size + 1 + 1, 0, none⟩), v, .int .i64 off] W3 fun e w' => ScanPost (w.heap.size + 1 + 1) W3 R e w' := by
    have hr := HR.out
    unfold zzR at hr
    cases f
    · rw [if_neg (by simp)] at hr
      rw [← hr]
      exact scan_any _ K l hK v a off m W3 (HB.below HV.out hb3 (by omega)) hl (by omega) hSc ((hb3.cell (p := ⟨0, 0, none⟩) h0).trans HM.out) (by omega) ho1 ho2
    · rw [if_pos rfl] at hr
      rw [← hr]
      exact scan_found _ K v a off W3 hSc
  have HC : Hid (w.heap.size + 1 + 1 = w.heap.size + 1 + 1 ∧ Below w.heap.size w W3 ∧ W3.heap[w.heap.size + 1]? = some (.cells #[.int .u8 0, .int .u8 0] 22 (0, 0))) := ⟨rfl, hb3, hY⟩
  have hsz3' : w.heap.size + 3 ≤ W3.heap.size := by omega
  obtain ⟨u0, hu0⟩ : ∃ t : Int, kb R.1 0 = .int .u8 t := ⟨_, rfl⟩
  obtain ⟨u1, hu1⟩ : ∃ t : Int, kb R.1 1 = .int .u8 t := ⟨_, rfl⟩
  rw [hu0, hu1]
  have HU : Hid _ := And.intro hu0 hu1
  have HCall : Hid _ := hcall
  have HW : Hid _ := hW3
  clear hcall hb3 hY hZ hsz3 hSc hu0 hu1 hW3
  go_enter Try.func9, Try.ntmps9
  go_wp2_with fail
  rw [← HW.out]
  refine Calls.mono HCall.out ?_
  rintro e V ⟨rfl, hb, hS, hsz⟩
  have c0 : V.cell? ⟨w.heap.size + 1 + 1, 0, none⟩ = some (.int .u8 u0) := by rw [← HU.out.1]; exact cell_at hS 0
  have c1 : V.cell? ⟨w.heap.size + 1 + 1, 1, none⟩ = some (.int .u8 u1) := by rw [← HU.out.2]; exact cell_at hS 1
  have c2 : V.cell? ⟨w.heap.size + 1 + 1, 2, none⟩ = some (.int .i64 (R.1.length : Int)) := cell_at hS 2
  have c3 : V.cell? ⟨w.heap.size + 1 + 1, 3, none⟩ = some (.bool R.2.1) := cell_at hS 3
  have c4 : V.cell? ⟨w.heap.size + 1 + 1, 4, none⟩ = some (.int .i64 R.2.2) := cell_at hS 4
  have hY : V.heap[w.heap.size + 1]? = some (.cells #[.int .u8 0, .int .u8 0] 22 (0, 0)) := (hb.block _ (by omega)).trans HC.out.2.2
  have y0 : V.cell? ⟨w.heap.size + 1, 0, none⟩ = some (.int .u8 0) := cell_at hY 0
  have y1 : V.cell? ⟨w.heap.size + 1, 1, none⟩ = some (.int .u8 0) := cell_at hY 1
  have g0 : V.frozen? ⟨w.heap.size + 1, 0, none⟩ = false := free_at hY 0
  have g1 : V.frozen? ⟨w.heap.size + 1, 1, none⟩ = false := free_at hY 1
  have HB4 : Hid (Below w.heap.size w V) := HC.out.2.1.trans (hb.mono (by omega))
  clear hb hS hY hsz
  go_wp2_with fail
  go_region
  go_wp2_with fail
  refine bodyPost_ret (v := .tuple #[.agg #[.int .u8 u0, .int .u8 u1], .int .i64 (R.1.length : Int), .bool R.2.1, .int .i64 R.2.2]) (by simp [results, Try.results9, go_sem, y0, y1]) rfl ⟨rfl, ?_⟩
  exact ((HB4.out.drew).setCell (by simp) _).setCell (by simp) _
end Go.Proofs.Qxb6605282a
