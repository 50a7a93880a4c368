import Derived.Test.Qxb6605328aPathP
import Derived.OwnWalk
import Derived.Deep.RegionLaw
namespace Go.Proofs.Qxb6605328a
open Go.RowKit

theorem Try.info5 : (Try.prog.info? 5).map (fun i => (i.zero, i.size, i.bytes)) = some (some (.int .u8 0), 1, 1) := by kernel_rfl

/-- 'append' within the capacity, as one step of a region that draws: the world by what it owns. -/
theorem step_append_fits {P : Program} {ops : Array Oper} {o : Oper} {a : Act} {w : World} {K : Act → World → Prop} {Q : Exit → Act → World → Prop} {E : Prop}
    (hg : o.guard = none) (s x : Operand) (t : TypeId) (hop : o.op = Op.call { callee := Callee.builtin Builtin.append, args := #[s, x], argTypes := #[t, t] })
    (base : Nat) (e : TypeId) (i : TypeInfo) (size : Nat) (h1 : P.underlying t = some (.slice e)) (h2 : P.info? e = some i) (h4 : i.size = size)
    (g k cap : Nat) (xs : List Value) (hs : a.eval s = .slice (some ⟨g, 0, none⟩) k cap) (hown : w.ownsRow base e size (.slice (some ⟨g, 0, none⟩) k cap) k xs) (ad : Addr) (m c : Nat) (news : List Value) (hx : a.eval x = .slice (some ad) m c) (hn : news.length = m * size)
    (hc : ∀ j u, news[j]? = some u → w.cell? (ad.add j) = some u) (h1c : ∀ u ∈ news, u.oneCell' = true) (b1 : k + m ≤ cap)
    (hK : ∀ w', w'.ownsRow base e size (.slice (some ⟨g, 0, none⟩) (k + m) cap) (k + m) (xs ++ news) → w.grownBy w' (some g) → K (a.put o.dst (.slice (some ⟨g, 0, none⟩) (k + m) cap)) w') :
    if Region.wanted o (yielded ops a.tmps) = true then Oper.wp P o a w K Q else E := by
  have hw : Region.wanted o (yielded ops a.tmps) = true := by simp [Region.wanted, hg]
  rw [if_pos hw]
  obtain ⟨w', hrun, r1, r2⟩ := run_append_fits (P := P) w base t o.type e i size h1 h2 h4 g k cap xs hown ad m c news hn hc h1c b1
  unfold Oper.wp
  simp [execOp, hop, resolve, invoke, builtin, hs, hx, hrun, Result.andThen]
  exact hK w' r1 r2

def bv (c : UInt8) : Value := .int .u8 (c.toNat : Int)
def rowE (D l : List UInt8) (k : Nat) : List UInt8 := 47 :: enc D (l.take k)
theorem rowE_len (D l : List UInt8) (k : Nat) (hk : k ≤ l.length) : (rowE D l k).length ≤ 3 * k + 1 := by
  unfold rowE
  have := enc_len D (l.take k)
  rw [List.length_take, Nat.min_eq_left hk] at this
  rw [List.length_cons]; omega
theorem rowE_succ (D l : List UInt8) (k : Nat) (hk : k < l.length) : rowE D l (k + 1) = rowE D l k ++ enc1 D l[k] := by
  unfold rowE
  rw [List.take_succ_eq_append_getElem hk, enc_snoc]; rfl

theorem addr_add (b i : Nat) : (⟨b, 0, none⟩ : Addr).add i = ⟨b, i, none⟩ := by unfold Addr.add; split <;> simp_all
theorem dig_at (D : ByteArray) (n : Nat) (h : n < D.size) : dig D.data.toList n = D[n] := by
  unfold dig
  rw [List.getD_eq_getElem?_getD, List.getElem?_eq_getElem (by simpa using h)]
  rfl
theorem cell_one_new' (w : World) (v : Value) (t : TypeId) : ∀ j u, [v][j]? = some u → (w.alloc (.cells #[v] t)).cell? ((⟨w.heap.size, 0, none⟩ : Addr).add j) = some u := by
  intro j u hj
  match j, hj with
  | 0, hj => simp at hj; subst hj; simp [Addr.add]
  | j + 1, hj => simp at hj
theorem cell_three_new (w : World) (a b c : Value) (t : TypeId) : ∀ j u, [a, b, c][j]? = some u → (w.alloc (.cells #[a, b, c] t)).cell? ((⟨w.heap.size, 0, none⟩ : Addr).add j) = some u := by
  intro j u hj
  match j, hj with
  | 0, hj => simp at hj; subst hj; simp [Addr.add]
  | 1, hj => simp at hj; subst hj; simp [Addr.add]
  | 2, hj => simp at hj; subst hj; simp [Addr.add]
  | j + 3, hj => simp at hj

set_option maxRecDepth 1000000 in
set_option maxHeartbeats 4000000 in
theorem enc_any (D : ByteArray) (hD : D.size = 16) (s : ByteArray) (hs : s.size ≤ 65536) (w : World) :
    Calls Try.prog 8 #[.string s, .string D] w fun e w' => e = .returned (.string ⟨(47 :: enc D.data.toList s.data.toList).toArray⟩) ∧ Below w.heap.size w w' := by
  obtain ⟨i0, hi, hz0, hz1, hz2⟩ := info_parts Try.info5
  have hlen : s.data.toList.length = s.size := by simp
  go_enter Try.func8, Try.ntmps8
  go_wp2_with (at_make; refine wpList_make_own _ rfl _ _ 28 rfl w.heap.size 5 i0 (.int .u8 0) 1 Try.underlying28 hi hz0 hz1 _ _ _ (3 * s.size + 1) rfl rfl (by omega) (by rw [hz2]; omega) (by unfold maxLen; omega) (Nat.le_refl _) ?_; intro w1 hown hgrow; refine Hid.out ?_)
  unfold Hid
  have hb1 : Below w.heap.size w w1 := (Below.refl _ _).grown hgrow (Nat.le_refl _) (by simp)
  clear hgrow
  go_wp2_with (at_builtin; refine wpList_append_fits _ rfl _ _ 28 rfl w.heap.size 5 i0 1 Try.underlying28 hi hz1 w.heap.size 0 (3 * s.size + 1) [] rfl (hown.alloc _) ⟨w1.heap.size, 0, none⟩ 1 1 [.int .u8 47] rfl rfl (cell_one_new' _ _ _) (by simp [Value.oneCell']) (by omega) ?_; intro w2 hown2 hgrow2; refine Hid.out ?_)
  unfold Hid
  rw [Nat.zero_add, List.nil_append] at hown2
  have hb2 : Below w.heap.size w w2 := (hb1.alloc hb1.size _).grown hgrow2 (by have := hb1.size; simp; omega) (by simp)
  clear hgrow2 hown hb1
  have e0 : ([.int .u8 47] : List Value) = (rowE D.data.toList s.data.toList 0).map bv := by simp [rowE, enc, bv]
  rw [e0] at hown2
  go_wp2_with fail
  go_loopw [5, 6, 7] (fun v i _ wr => ∃ k n : Nat, k ≤ s.size ∧ i = .int .i64 k ∧ v = .slice (some ⟨w.heap.size, 0, none⟩) n (3 * s.size + 1) ∧ n ≤ 3 * k + 1 ∧ Hid (n = (rowE D.data.toList s.data.toList k).length) ∧ wr.ownsRow w.heap.size 5 1 (.slice (some ⟨w.heap.size, 0, none⟩) n (3 * s.size + 1)) n ((rowE D.data.toList s.data.toList k).map bv) ∧ Below w.heap.size w wr) (fun _ i _ _ => s.size - (intOf i).toNat)
  case atStart => exact ⟨0, 1, by omega, rfl, rfl, by omega, by simp [Hid, rowE, enc], hown2, hb2⟩
  case round =>
    clear hown2 hb2 e0
    obtain ⟨k, n, hk, rfl, rfl, hn, HN, hown, hbw⟩ := hrel
    by_cases hlt : k < s.size
    · obtain ⟨b, hb⟩ : ∃ b : UInt8, s[k] = b := ⟨_, rfl⟩
      have HR : Hid (rowE D.data.toList s.data.toList (k + 1) = rowE D.data.toList s.data.toList k ++ enc1 D.data.toList b) := by
        show _ = _
        rw [← hb]; exact rowE_succ _ _ _ (by omega)
      have hbI : (s[k].toNat : Int) = (b.toNat : Int) := by rw [hb]
      have hb256 : (b.toNat : Int) < 256 := by have := b.toNat_lt; omega
      clear hb
      have hcs : ((97 ≤ (b.toNat : Int) ∧ (b.toNat : Int) ≤ 122) ∨ (65 ≤ (b.toNat : Int) ∧ (b.toNat : Int) ≤ 90) ∨ (48 ≤ (b.toNat : Int) ∧ (b.toNat : Int) ≤ 57)) ∨ (an (b.toNat : Int) = false ∧ ((b.toNat : Int) < 48 ∨ (57 < (b.toNat : Int) ∧ (b.toNat : Int) < 65) ∨ (90 < (b.toNat : Int) ∧ (b.toNat : Int) < 97) ∨ 122 < (b.toNat : Int))) := by
        by_cases h : ((97 ≤ (b.toNat : Int) ∧ (b.toNat : Int) ≤ 122) ∨ (65 ≤ (b.toNat : Int) ∧ (b.toNat : Int) ≤ 90) ∨ (48 ≤ (b.toNat : Int) ∧ (b.toNat : Int) ≤ 57))
        · exact .inl h
        · refine .inr ⟨decide_eq_false h, by omega⟩
      rcases hcs with hc | ⟨hna, hc⟩
      · have he : enc1 D.data.toList b = [b] := by unfold enc1; rw [if_pos]; exact decide_eq_true hc
        rw [he] at HR
        clear he
        rcases hc with ⟨c1, c2⟩ | ⟨c1, c2⟩ | ⟨c1, c2⟩
        all_goals
          go_wp2_with (at_builtin; refine wpList_append_fits _ rfl _ _ 28 rfl w.heap.size 5 i0 1 Try.underlying28 hi hz1 w.heap.size n (3 * s.size + 1) _ rfl (hown.alloc _) ⟨wr.heap.size, 0, none⟩ 1 1 [bv b] rfl rfl (cell_one_new' _ _ _) (by simp [Value.oneCell', bv]) (by omega) ?_; intro w2 hown2 hgrow2; refine Hid.out ?_)
          unfold Hid
          have hb2 : Below w.heap.size w w2 := (hbw.alloc hbw.size _).grown hgrow2 (by have := hbw.size; simp; omega) (by simp)
          have X : Hid _ := And.intro hown2 hb2
          clear hgrow2 hown hbw hown2 hb2
          go_wp2_with fail
          go_roundw
          case rel => exact ⟨k + 1, n + 1, by omega, by go_num, rfl, by omega, by show _ = _; rw [HR.out, HN.out]; simp, by rw [HR.out, List.map_append]; exact X.out.1, X.out.2⟩
          case measure => simp [intOf]; omega
      · obtain ⟨q, hq⟩ : ∃ q : Nat, q = b.toNat / 16 := ⟨_, rfl⟩
        obtain ⟨r, hr⟩ : ∃ r : Nat, r = b.toNat % 16 := ⟨_, rfl⟩
        have hq16 : q < 16 := by omega
        have hr16 : r < 16 := by omega
        have hqI : (b.toNat : Int) / 16 = (q : Int) := by omega
        have hrI : (b.toNat : Int) % 16 = (r : Int) := by omega
        have hrI2 : bits BinOp.and IntKind.u8 (b.toNat : Int) 15 = (r : Int) := (u8_and15 _ (by omega) hb256).trans hrI
        have hqI0 : (q : Int) < 16 := by omega
        have hrI0 : (r : Int) < 16 := by omega
        have hqs : q < D.size := by omega
        have hrs : r < D.size := by omega
        have he : enc1 D.data.toList b = [37, D[q]'hqs, D[r]'hrs] := by
          unfold enc1
          rw [if_neg (by rw [hna]; simp), ← hq, ← hr, dig_at D q (by omega), dig_at D r (by omega)]
        rw [he] at HR
        clear he hq hr hna
        rcases hc with c1 | ⟨c1, c2⟩ | ⟨c1, c2⟩ | c1
        all_goals
          go_wp2_with fail
          go_region_law (refine step_append_fits rfl _ _ 28 rfl w.heap.size 5 i0 1 Try.underlying28 hi hz1 w.heap.size n (3 * s.size + 1) _ rfl (hown.alloc _) ⟨wr.heap.size, 0, none⟩ 3 3 [bv 37, bv (D[q]'hqs), bv (D[r]'hrs)] rfl rfl (cell_three_new _ _ _ _ _) (by simp [Value.oneCell', bv]) (by omega) ?_; intro w2 hown2 hgrow2)
          all_goals
            have hb2 : Below w.heap.size w w2 := ((hbw.alloc hbw.size _).drew).grown hgrow2 (by have := hbw.size; simp; omega) (by simp)
            have X : Hid _ := And.intro hown2 hb2
            clear hgrow2 hown hbw hown2 hb2
            go_wp2_with fail
            go_roundw
            case rel => exact ⟨k + 1, n + 3, by omega, by go_num, rfl, by omega, by show _ = _; rw [HR.out, HN.out]; simp, by rw [HR.out, List.map_append]; exact X.out.1, X.out.2⟩
            case measure => simp [intOf]; omega
    · obtain rfl : k = s.size := by omega
      have e1 : rowE D.data.toList s.data.toList s.size = 47 :: enc D.data.toList s.data.toList := by
        unfold rowE; rw [List.take_of_length_le (by omega)]
      rw [e1] at hown HN
      obtain ⟨L, hL⟩ : ∃ L, L = 47 :: enc D.data.toList s.data.toList := ⟨_, rfl⟩
      have HL : Hid (L = 47 :: enc D.data.toList s.data.toList) := hL
      rw [← hL] at hown HN
      have hnl := HN.out
      have hcv := run_convert_bytes_back (P := Try.prog) wr 28 9 5 ⟨w.heap.size, 0, none⟩ (3 * s.size + 1) L Try.underlying28 Try.underlying5 Try.underlying9 (fun j hj => by
        have := hown.cellAt j (by omega)
        rw [List.getElem?_map, List.getElem?_eq_getElem hj] at this
        rw [addr_add]
        simpa [bv] using this)
      rw [← hnl] at hcv
      clear hown e1 hL hnl HN
      go_wp2_with fail
      go_ret
      exact ⟨by rw [← HL.out]; rfl, hbw⟩
end Go.Proofs.Qxb6605328a
