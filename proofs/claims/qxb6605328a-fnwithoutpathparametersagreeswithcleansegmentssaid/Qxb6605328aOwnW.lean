import Derived.Test.Qxb6605328aScanW
import Derived.OwnWalk
import Derived.Room.AppendFits
namespace Go.Proofs.Qxb6605328a
open Go.RowKit
namespace W

theorem info5 : (Try.prog.info? 5).map (fun i => (i.zero, i.size, i.bytes)) = some (some (.int .u8 0), 1, 1) := by kernel_rfl
def bv (c : UInt8) : Value := .int .u8 (c.toNat : Int)
theorem addr_add (b i : Nat) : (⟨b, 0, none⟩ : Addr).add i = ⟨b, i, none⟩ := by unfold Addr.add; split <;> simp_all
theorem cell_one (w : World) (v : Value) (t : TypeId) : ∀ j u, [v][j]? = some u → (w.alloc (.cells #[v] t)).cell? ((⟨w.heap.size, 0, none⟩ : Addr).add j) = some u := by
  intro j u hj
  match j, hj with
  | 0, hj => simp at hj; subst hj; simp [Addr.add]
  | j + 1, hj => simp at hj

/-- 'string(b)' of a row that is owned. -/
theorem conv_own {w : World} {B g n cap : Nat} {l : List UInt8} (hown : w.ownsRow B 5 1 (.slice (some ⟨g, 0, none⟩) n cap) n (l.map bv)) (hn : n = l.length) :
    (convert 28 9 (.slice (some ⟨g, 0, none⟩) n cap)).run Try.prog w = .ok (.string ⟨l.toArray⟩) w := by
  have h := run_convert_bytes_back (P := Try.prog) w 28 9 5 ⟨g, 0, none⟩ cap l Try.underlying28 Try.underlying5 Try.underlying9 (fun j hj => by
    have := hown.cellAt j (by omega)
    rw [List.getElem?_map, List.getElem?_eq_getElem hj] at this
    rw [addr_add]
    simpa [bv] using this)
  rw [← hn] at h
  exact h

theorem strp_go47 (s : ByteArray) (k : Nat) (h : k < s.size) (ip : Bool) (acc : List UInt8) (hb : (s[k].toNat : Int) = 47) : acc ++ strp ip (s.data.toList.drop k) = (acc ++ [s[k]]) ++ strp false (s.data.toList.drop (k + 1)) := by
  have : s[k] = 47 := u8_ext (by rw [hb]; rfl)
  rw [drop_at s k h, this, strp_47]; simp
theorem strp_go59 (s : ByteArray) (k : Nat) (h : k < s.size) (ip : Bool) (acc : List UInt8) (hb : (s[k].toNat : Int) = 59) : acc ++ strp ip (s.data.toList.drop k) = acc ++ strp true (s.data.toList.drop (k + 1)) := by
  have : s[k] = 59 := u8_ext (by rw [hb]; rfl)
  rw [drop_at s k h, this, strp_59]
theorem ne_of {a : UInt8} {c : UInt8} (h : ¬ (a.toNat : Int) = (c.toNat : Int)) : a ≠ c := fun e => h (by rw [e])
theorem strp_goF (s : ByteArray) (k : Nat) (h : k < s.size) (acc : List UInt8) (h1 : ¬ (s[k].toNat : Int) = 47) (h2 : ¬ (s[k].toNat : Int) = 59) : acc ++ strp false (s.data.toList.drop k) = (acc ++ [s[k]]) ++ strp false (s.data.toList.drop (k + 1)) := by
  rw [drop_at s k h, strp_f _ _ (ne_of h1) (ne_of h2)]; simp
theorem strp_goT (s : ByteArray) (k : Nat) (h : k < s.size) (acc : List UInt8) (h1 : ¬ (s[k].toNat : Int) = 47) : acc ++ strp true (s.data.toList.drop k) = acc ++ strp true (s.data.toList.drop (k + 1)) := by
  rw [drop_at s k h, strp_t _ _ (ne_of h1)]

set_option maxRecDepth 1000000 in
set_option maxHeartbeats 4000000 in
theorem strip_any (s : ByteArray) (w : World) (hs : s.size ≤ 1000000) :
    Calls Try.prog 18 #[.string s] w fun e w' => e = .returned (.string ⟨(strp false s.data.toList).toArray⟩) ∧ Below w.heap.size w w' := by
  obtain ⟨i0, hi, hz0, hz1, hz2⟩ := info_parts info5
  go_enter Try.func18, Try.ntmps18
  go_wp2_with (at_make; refine wpList_make_own _ rfl _ _ 28 rfl w.heap.size 5 i0 (.int .u8 0) 1 Try.underlying28 hi hz0 hz1 _ _ _ s.size rfl rfl (by omega) (by rw [hz2]; omega) (by unfold maxLen; omega) (Nat.le_refl _) ?_; intro w1 hown hgrow; refine Hid.out ?_)
  unfold Hid
  have hb1 : Below w.heap.size w w1 := (Below.refl _ _).grown hgrow (Nat.le_refl _) (by simp)
  clear hgrow
  go_wp2_with fail
  go_loopw [3, 4, 5, 6] (fun v p i _ wr => ∃ (k n : Nat) (ip : Bool) (acc : List UInt8), k ≤ s.size ∧ i = .int .i64 k ∧ p = .bool ip ∧ v = .slice (some ⟨w.heap.size, 0, none⟩) n s.size ∧ n ≤ k ∧ Hid (n = acc.length ∧ acc ++ strp ip (s.data.toList.drop k) = strp false s.data.toList) ∧ wr.ownsRow w.heap.size 5 1 (.slice (some ⟨w.heap.size, 0, none⟩) n s.size) n (acc.map bv) ∧ Below w.heap.size w wr) (fun _ _ i _ _ => s.size - (intOf i).toNat)
  case atStart => exact ⟨0, 0, false, [], by omega, rfl, rfl, rfl, by omega, ⟨rfl, rfl⟩, hown, hb1⟩
  case round =>
    clear hown hb1
    obtain ⟨k, n, ip, acc, hk, rfl, rfl, rfl, hn, HN, hown, hbw⟩ := hrel
    by_cases hlt : k < s.size
    · -- the three steps at a byte that stays, told once
      have hstay : ∀ (ip' : Bool), (acc ++ strp ip (s.data.toList.drop k) = (acc ++ [s[k]]) ++ strp ip' (s.data.toList.drop (k + 1))) → Hid (n + 1 = (acc ++ [s[k]]).length ∧ (acc ++ [s[k]]) ++ strp ip' (s.data.toList.drop (k + 1)) = strp false s.data.toList) :=
        fun ip' e => ⟨by rw [HN.out.1]; simp, by rw [← e]; exact HN.out.2⟩
      by_cases h47 : (s[k].toNat : Int) = 47
      · have HX : Hid _ := hstay false (strp_go47 s k hlt ip acc h47)
        have h47b : ((s[k].toNat : Int) == 47) = true := by rw [beq_iff_eq]; exact h47
        have hbv : bv s[k] = .int .u8 47 := by unfold bv; rw [h47]
        clear hstay
        go_wp2_with (at_builtin; refine wpList_append_fits _ rfl _ _ 28 rfl w.heap.size 5 i0 1 Try.underlying28 hi hz1 w.heap.size n s.size _ rfl (hown.alloc _) ⟨wr.heap.size, 0, none⟩ 1 1 [.int .u8 47] rfl rfl (cell_one _ _ _) (by simp [Value.oneCell']) (by omega) ?_; intro w2 hown2 hgrow2; refine Hid.out ?_)
        unfold Hid
        have hb2 : Below w.heap.size w w2 := (hbw.alloc hbw.size _).grown hgrow2 (by have := hbw.size; simp; omega) (by simp)
        rw [← hbv] at hown2
        have X : Hid _ := And.intro hown2 hb2
        clear hgrow2 hown hbw hown2 hb2
        go_wp2_with fail
        go_roundw
        case rel => exact ⟨k + 1, n + 1, false, acc ++ [s[k]], by omega, by go_num, rfl, rfl, by omega, HX.out, by rw [List.map_append]; exact X.out.1, X.out.2⟩
        case measure => simp [intOf]; omega
      · have h47b : ((s[k].toNat : Int) == 47) = false := by rw [beq_eq_false_iff_ne]; exact h47
        by_cases h59 : (s[k].toNat : Int) = 59
        · have HX : Hid (n = acc.length ∧ acc ++ strp true (s.data.toList.drop (k + 1)) = strp false s.data.toList) := ⟨HN.out.1, by rw [← strp_go59 s k hlt ip acc h59]; exact HN.out.2⟩
          have h59b : ((s[k].toNat : Int) == 59) = true := by rw [beq_iff_eq]; exact h59
          have X : Hid _ := And.intro hown hbw
          clear hstay hown hbw h47 h59
          go_wp2_with fail
          go_roundw
          case rel => exact ⟨k + 1, n, true, acc, by omega, by go_num, rfl, rfl, by omega, HX.out, X.out.1, X.out.2⟩
          case measure => simp [intOf]; omega
        · have h59b : ((s[k].toNat : Int) == 59) = false := by rw [beq_eq_false_iff_ne]; exact h59
          cases ip
          · have HX : Hid _ := hstay false (strp_goF s k hlt acc h47 h59)
            clear hstay h47 h59
            go_wp2_with (at_builtin; refine wpList_append_fits _ rfl _ _ 28 rfl w.heap.size 5 i0 1 Try.underlying28 hi hz1 w.heap.size n s.size _ rfl (hown.alloc _) ⟨wr.heap.size, 0, none⟩ 1 1 [bv s[k]] rfl rfl (cell_one _ _ _) (by simp [Value.oneCell', bv]) (by omega) ?_; intro w2 hown2 hgrow2; refine Hid.out ?_)
            unfold Hid
            have hb2 : Below w.heap.size w w2 := (hbw.alloc hbw.size _).grown hgrow2 (by have := hbw.size; simp; omega) (by simp)
            have X : Hid _ := And.intro hown2 hb2
            clear hgrow2 hown hbw hown2 hb2
            go_wp2_with fail
            go_roundw
            case rel => exact ⟨k + 1, n + 1, false, acc ++ [s[k]], by omega, by go_num, rfl, rfl, by omega, HX.out, by rw [List.map_append]; exact X.out.1, X.out.2⟩
            case measure => simp [intOf]; omega
          · have HX : Hid (n = acc.length ∧ acc ++ strp true (s.data.toList.drop (k + 1)) = strp false s.data.toList) := ⟨HN.out.1, by rw [← strp_goT s k hlt acc h47]; exact HN.out.2⟩
            have X : Hid _ := And.intro hown hbw
            clear hstay hown hbw h47 h59
            go_wp2_with fail
            go_roundw
            case rel => exact ⟨k + 1, n, true, acc, by omega, by go_num, rfl, rfl, by omega, HX.out, X.out.1, X.out.2⟩
            case measure => simp [intOf]; omega
    · obtain rfl : k = s.size := by omega
      have HL : Hid (acc = strp false s.data.toList) := by
        show _ = _
        have := HN.out.2
        rw [List.drop_of_length_le (by simp)] at this
        simpa [strp] using this
      have hcv := conv_own hown HN.out.1
      clear hown HN
      go_wp2_with fail
      go_ret
      exact ⟨by rw [← HL.out]; rfl, hbw⟩

theorem bef_len (c : UInt8) (l : List UInt8) : (bef c l).length ≤ l.length := by
  induction l with
  | nil => simp [bef]
  | cons a t ih =>
    rw [bef_cons]
    split
    · simp
    · simp; omega
theorem len2 {n : Nat} {acc : List UInt8} (B : ByteArray) (h : n = acc.length) : n + 1 + B.size = (acc ++ [47] ++ B.data.toList).length := by
  have : B.data.toList.length = B.size := by simp
  rw [List.length_append, List.length_append, this, h]; rfl
theorem len2' {n : Nat} {acc : List UInt8} (B : ByteArray) (h : n = acc.length) : n + 1 + B.size = (acc ++ 47 :: B.data.toList).length := by
  have : B.data.toList.length = B.size := by simp
  rw [List.length_append, List.length_cons, this, h]; omega
theorem cut_len (c : UInt8) (l : List UInt8) (h : fnd c l = true) : (bef c l).length + (aft c l).length + 1 = l.length := by
  induction l with
  | nil => simp [fnd] at h
  | cons a t ih =>
    rw [bef_cons, aft_cons]
    by_cases e : a = c
    · simp [e]
    · rw [fnd_cons] at h
      have : fnd c t = true := by simpa [e] using h
      have := ih this
      simp only [e, if_false, List.length_cons]
      omega
def strSize : Value → Nat | .string s => s.size | _ => 0
theorem size_list (s : ByteArray) : s.data.toList.length = s.size := by simp
theorem empty_iff (s : ByteArray) : s.toList.isEmpty = s.data.toList.isEmpty := by rw [Lib.toList_data]
theorem below_draws {B : Nat} {a w : World} (h : Below B a w) (n : Nat) : Below B a (w.drewN n) := h.trans ⟨rfl, rfl, rfl, Nat.le_refl _, fun _ _ => rfl⟩
theorem strCells_bv (s : ByteArray) : Lib.strCells s = s.data.toList.map bv := by
  unfold Lib.strCells bv
  simp

theorem segs_found (l : List UInt8) (h : fnd 47 l = true) : segs l = bef 47 l :: segs (aft 47 l) := by rw [segs_cut, if_pos h]
theorem cl_cons (s : List UInt8) (L : List (List UInt8)) (acc : List UInt8) (hL : L ≠ []) : cl (s :: L) acc = cl L (acc ++ piece s) := by
  cases L with
  | nil => exact absurd rfl hL
  | cons t r => rfl
theorem cl_one (s acc : List UInt8) : cl [s] acc = acc ++ piece s ++ (if s = [] then [47] else []) := rfl
theorem piece_nil : piece [] = [] := rfl
theorem piece_cons {s : List UInt8} (h : s ≠ []) : piece s = 47 :: s := by unfold piece; rw [if_neg h]

set_option maxRecDepth 1000000 in
set_option maxHeartbeats 4000000 in
/-- 'cleanSegments' of a path whose segments are no dot segments. -/
theorem clean_any (p : ByteArray) (w : World) (hs : p.size ≤ 1000000) (h1 : 1 ≤ p.size) (hno : dotAny p.data.toList.tail = false) :
    Calls Try.prog 21 #[.string p] w fun e w' => e = .returned (.string ⟨(cl (segs p.data.toList.tail) []).toArray⟩) ∧ Below w.heap.size w w' := by
  obtain ⟨i0, hi, hz0, hz1, hz2⟩ := info_parts info5
  have HNO : Hid _ := hno
  clear hno
  have hx1 : (p.extract 1 p.size).size + 1 = p.size := by rw [ByteArray.size_extract]; omega
  have HX : Hid ((p.extract 1 p.size).data.toList = p.data.toList.tail) := by
    show _ = _
    rw [ext_drop, List.drop_one]
  go_enter Try.func21, Try.ntmps21
  go_wp2_with (at_make; refine wpList_make_own _ rfl _ _ 28 rfl w.heap.size 5 i0 (.int .u8 0) 1 Try.underlying28 hi hz0 hz1 _ _ _ p.size rfl rfl (by omega) (by rw [hz2]; omega) (by unfold maxLen; omega) (Nat.le_refl _) ?_; intro w1 hown hgrow; refine Hid.out ?_)
  unfold Hid
  have hb1 : Below w.heap.size w w1 := (Below.refl _ _).grown hgrow (Nat.le_refl _) (by simp)
  clear hgrow
  go_wp2_with fail
  go_loopw [3, 4, 5, 6, 7] (fun v r _ _ _ wr => ∃ (R : ByteArray) (acc : List UInt8) (n : Nat), r = .string R ∧ v = .slice (some ⟨w.heap.size, 0, none⟩) n p.size ∧ n + R.size + 1 ≤ p.size ∧ Hid (n = acc.length ∧ cl (segs R.data.toList) acc = cl (segs p.data.toList.tail) [] ∧ dotAny R.data.toList = false) ∧ wr.ownsRow w.heap.size 5 1 (.slice (some ⟨w.heap.size, 0, none⟩) n p.size) n (acc.map bv) ∧ Below w.heap.size w wr) (fun _ r _ _ _ _ => strSize r)
  case atStart => exact ⟨_, [], 0, rfl, rfl, by omega, ⟨rfl, by rw [HX.out], by rw [HX.out]; exact HNO.out⟩, hown, hb1⟩
  case round =>
    clear hown hb1 hx1
    obtain ⟨R, acc, n, rfl, rfl, hn, HN, hown, hbw⟩ := hrel
    go_wp2_with fail
    refine (cut_any R 47 _ (by omega)).mono ?_
    rintro e w2 ⟨B, A, f, m, rfl, hf, hB, hA, hw⟩
    have hown2 : w2.ownsRow w.heap.size 5 1 (.slice (some ⟨w.heap.size, 0, none⟩) n p.size) n (acc.map bv) := by rw [hw]; exact hown
    have hb2 : Below w.heap.size w w2 := by rw [hw]; exact below_draws hbw m
    clear hw hown hbw
    have hBR : B.size ≤ R.size := by
      rw [← size_list B, hB, ← size_list R]
      exact bef_len _ _
    have hdB : dotS B.data.toList = false := by
      have hd := HN.out.2.2
      unfold dotAny at hd
      cases f
      · rw [segs_one _ hf.symm] at hd
        rw [hB, bef_same _ _ hf.symm]
        simpa using hd
      · rw [segs_found _ hf.symm, List.any_cons, Bool.or_eq_false_iff] at hd
        rw [hB]; exact hd.1
    obtain ⟨hd1, hd2⟩ : (B.toList == [46]) = false ∧ (B.toList == [46, 46]) = false := by
      rw [Lib.toList_data]
      unfold dotS at hdB
      exact Bool.or_eq_false_iff.1 hdB
    cases f
    · -- the last segment
      have hRB : B.data.toList = R.data.toList := by rw [hB]; exact bef_same _ _ hf.symm
      by_cases hE : B.data.toList = []
      · have hEb : B.toList.isEmpty = true := by rw [empty_iff, hE]; rfl
        have HL : Hid ((acc ++ [47]) = cl (segs p.data.toList.tail) []) := by
          show _ = _
          rw [← HN.out.2.1, segs_one _ hf.symm, ← hRB, hE, cl_one, piece_nil]
          simp
        have HN1 : Hid _ := HN.out.1
        clear hf hB hA hdB hRB hE HN
        go_wp2_with (at_builtin; refine wpList_append_fits _ rfl _ _ 28 rfl w.heap.size 5 i0 1 Try.underlying28 hi hz1 w.heap.size n p.size _ rfl (hown2.alloc _) ⟨w2.heap.size, 0, none⟩ 1 1 [bv 47] rfl rfl (cell_one _ _ _) (by simp [Value.oneCell', bv]) (by omega) ?_; intro w3 hown3 hgrow3; refine Hid.out ?_)
        unfold Hid
        have hb3 : Below w.heap.size w w3 := (hb2.alloc hb2.size _).grown hgrow3 (by have := hb2.size; simp; omega) (by simp)
        have hcv := conv_own (l := acc ++ [47]) (by rw [List.map_append]; exact hown3) (by rw [HN1.out]; simp)
        clear hown2 hown3 hgrow3 hb2
        go_wp2_with fail
        go_ret
        exact ⟨by rw [← HL.out]; rfl, hb3⟩
      · have hEb : B.toList.isEmpty = false := by
          rw [empty_iff]
          cases hh : B.data.toList with
          | nil => exact absurd hh hE
          | cons _ _ => rfl
        obtain ⟨L, hL⟩ : ∃ L, L = acc ++ [47] ++ B.data.toList := ⟨_, rfl⟩
        have HL2 : Hid _ := hL
        have HL : Hid (L = cl (segs p.data.toList.tail) []) := by
          show _ = _
          rw [hL, ← HN.out.2.1, segs_one _ hf.symm, ← hRB, cl_one, piece_cons hE, if_neg hE]
          simp
        have HN1 : Hid _ := HN.out.1
        clear hf hB hA hdB hRB hE HN hL
        go_wp2_with (at_builtin; refine wpList_append_fits _ rfl _ _ 28 rfl w.heap.size 5 i0 1 Try.underlying28 hi hz1 w.heap.size n p.size _ rfl (hown2.alloc _) ⟨w2.heap.size, 0, none⟩ 1 1 [bv 47] rfl rfl (cell_one _ _ _) (by simp [Value.oneCell', bv]) (by omega) ?_; intro w3 hown3 hgrow3; refine Hid.out ?_)
        unfold Hid
        have hb3 : Below w.heap.size w w3 := (hb2.alloc hb2.size _).grown hgrow3 (by have := hb2.size; simp; omega) (by simp)
        clear hown2 hgrow3 hb2
        go_wp2_with (at_builtin; refine Lib.wpList_append_fits_string _ rfl _ _ 28 9 rfl w.heap.size 5 i0 Try.underlying28 Try.underlying9 hi hz1 (some ⟨w.heap.size, 0, none⟩) (n + 1) p.size _ rfl hown3 B rfl (by omega) (by omega) ?_; intro w4 hown4 hgrow4; refine Hid.out ?_)
        unfold Hid
        have hb4 : Below w.heap.size w w4 := hb3.grown hgrow4 hb3.size (by simp [Value.ownBlock])
        rw [strCells_bv] at hown4
        have hcv := conv_own (l := L) (by rw [HL2.out, List.map_append, List.map_append]; exact hown4) (by rw [HL2.out]; exact len2 B HN1.out)
        clear hown3 hown4 hgrow4 hb3
        go_wp2_with fail
        go_ret
        exact ⟨by rw [← HL.out]; rfl, hb4⟩
    · have hsz : B.size + A.size + 1 = R.size := by
        have := cut_len 47 R.data.toList hf.symm
        rw [← hB, size_list, size_list] at this
        rw [if_pos hf.symm] at hA
        rw [← hA, size_list] at this
        exact this
      rw [if_pos hf.symm] at hA
      have HA : Hid (cl (segs A.data.toList) (acc ++ piece B.data.toList) = cl (segs p.data.toList.tail) [] ∧ dotAny A.data.toList = false) := by
        refine ⟨?_, ?_⟩
        · rw [← HN.out.2.1, segs_found _ hf.symm, ← hB, ← hA, cl_cons _ _ _ (segs_ne _)]
        · have hd := HN.out.2.2
          unfold dotAny at hd ⊢
          rw [segs_found _ hf.symm, List.any_cons, Bool.or_eq_false_iff, ← hA] at hd
          exact hd.2
      by_cases hE : B.data.toList = []
      · have hEb : B.toList.isEmpty = true := by rw [empty_iff, hE]; rfl
        rw [hE, piece_nil, List.append_nil] at HA
        have HN1 : Hid _ := HN.out.1
        have X : Hid _ := And.intro hown2 hb2
        clear hf hB hA hdB hE HN hown2 hb2
        go_wp2_with fail
        go_roundw
        case rel => exact ⟨A, acc, n, rfl, rfl, by omega, ⟨HN1.out, HA.out.1, HA.out.2⟩, X.out.1, X.out.2⟩
        case measure => simp only [strSize]; omega
      · have hEb : B.toList.isEmpty = false := by
          rw [empty_iff]
          cases hh : B.data.toList with
          | nil => exact absurd hh hE
          | cons _ _ => rfl
        rw [piece_cons hE] at HA
        have HN1 : Hid _ := HN.out.1
        clear hf hB hA hdB hE HN
        go_wp2_with (at_builtin; refine wpList_append_fits _ rfl _ _ 28 rfl w.heap.size 5 i0 1 Try.underlying28 hi hz1 w.heap.size n p.size _ rfl (hown2.alloc _) ⟨w2.heap.size, 0, none⟩ 1 1 [bv 47] rfl rfl (cell_one _ _ _) (by simp [Value.oneCell', bv]) (by omega) ?_; intro w3 hown3 hgrow3; refine Hid.out ?_)
        unfold Hid
        have hb3 : Below w.heap.size w w3 := (hb2.alloc hb2.size _).grown hgrow3 (by have := hb2.size; simp; omega) (by simp)
        clear hown2 hgrow3 hb2
        go_wp2_with (at_builtin; refine Lib.wpList_append_fits_string _ rfl _ _ 28 9 rfl w.heap.size 5 i0 Try.underlying28 Try.underlying9 hi hz1 (some ⟨w.heap.size, 0, none⟩) (n + 1) p.size _ rfl hown3 B rfl (by omega) (by omega) ?_; intro w4 hown4 hgrow4; refine Hid.out ?_)
        unfold Hid
        have hb4 : Below w.heap.size w w4 := hb3.grown hgrow4 hb3.size (by simp [Value.ownBlock])
        rw [strCells_bv] at hown4
        have X : Hid _ := And.intro hown4 hb4
        clear hown3 hown4 hgrow4 hb3 hb4
        go_wp2_with fail
        go_roundw
        case rel => exact ⟨A, acc ++ 47 :: B.data.toList, n + 1 + B.size, rfl, rfl, by omega, ⟨len2' B HN1.out, HA.out.1, HA.out.2⟩, by have := X.out.1; simpa using this, X.out.2⟩
        case measure => simp only [strSize]; omega
end W
end Go.Proofs.Qxb6605328a
