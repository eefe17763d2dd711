/- spec.Rune. -/
import Derived.Test.YtgbbogocfmepiaaDoorUtf
namespace Go.Proofs.YtgbbogocfmepiaaDoor
open Go.RowKit Go.Lib
theorem ret_dec {p : Nat × Nat} {a b : Int} (ha : a = (p.1 : Int)) (hb : b = (p.2 : Int)) : Value.tuple #[.int .i32 a, .int .i64 b] = .tuple #[.int .i32 (p.1 : Int), .int .i64 (p.2 : Int)] := by rw [ha, hb]
set_option maxHeartbeats 40000000 in
set_option maxRecDepth 1000000 in
theorem specRune {w : World} {g o c : Nat} {bs : List UInt8} (h : BytesA w (some ⟨g, o, none⟩) c bs) (hne : 0 < bs.length) :
    Calls Tryd.prog 69 #[.slice (some ⟨g, o, none⟩) bs.length c] w (Ret fun v w' => w = w' ∧ v = .tuple #[.int .i32 ((dec bs).1 : Int), .int .i64 ((dec bs).2 : Int)]) := by
  have hp := h.xb
  have lc := h.1
  have lm := h.2.1
  unfold maxLen at lm
  unfold dec
  rw [if_neg (by omega)]
  obtain ⟨n, hn⟩ : ∃ n, bs.length = n := ⟨_, rfl⟩
  obtain ⟨x0, hx0⟩ : ∃ x0, xb bs 0 = x0 := ⟨_, rfl⟩
  obtain ⟨x1, hx1⟩ : ∃ x1, xb bs 1 = x1 := ⟨_, rfl⟩
  obtain ⟨x2, hx2⟩ : ∃ x2, xb bs 2 = x2 := ⟨_, rfl⟩
  obtain ⟨x3, hx3⟩ : ∃ x3, xb bs 3 = x3 := ⟨_, rfl⟩
  have l0 : x0 < 256 := by rw [← hx0]; exact xb_lt _ _
  have l1 : x1 < 256 := by rw [← hx1]; exact xb_lt _ _
  have l2 : x2 < 256 := by rw [← hx2]; exact xb_lt _ _
  have l3 : x3 < 256 := by rw [← hx3]; exact xb_lt _ _
  have hs0 : w.cell? ⟨g, o, none⟩ = some (.int .u8 (x0 : Int)) := by have := hp 0 (by omega); rwa [hx0] at this
  have hq1 : 1 < n → w.cell? ⟨g, o + 1, none⟩ = some (.int .u8 (x1 : Int)) := fun hh => by have := hp 1 (by omega); rwa [hx1] at this
  have hq2 : 2 < n → w.cell? ⟨g, o + 2, none⟩ = some (.int .u8 (x2 : Int)) := fun hh => by have := hp 2 (by omega); rwa [hx2] at this
  have hq3 : 3 < n → w.cell? ⟨g, o + 3, none⟩ = some (.int .u8 (x3 : Int)) := fun hh => by have := hp 3 (by omega); rwa [hx3] at this
  rw [hn, hx0, hx1, hx2, hx3]
  rw [hn] at lc hne
  clear hp h hn hx0 hx1 hx2 hx3
  have hz0 : (0 : Int) < (n : Int) := by omega
  by_cases ha : x0 < 128
  · have e : decodeN n x0 x1 x2 x3 = (x0, 1) := by unfold decodeN; rw [if_pos ha]
    have q1 : (x0 : Int) < 128 := by omega
    rw [e]
    clear e hq1 hq2 hq3
    go_enter Tryd.func69, Tryd.ntmps69
    go_wp2
    go_ret2
    exact ⟨rfl, rfl⟩
  have q1 : (128 : Int) ≤ (x0 : Int) := by omega
  by_cases hb : x0 < 194
  · have e : decodeN n x0 x1 x2 x3 = (65533, 1) := by
      unfold decodeN
      repeat' split
      all_goals first | (exfalso; omega) | (apply Prod.ext <;> simp only <;> omega)
    have q2 : (x0 : Int) < 194 := by omega
    rw [e]
    clear e hq1 hq2 hq3
    go_enter Tryd.func69, Tryd.ntmps69
    go_wp2
    go_ret2
    exact ⟨rfl, rfl⟩
  have q2 : (194 : Int) ≤ (x0 : Int) := by omega
  by_cases hc2 : x0 < 224
  · have q3 : (x0 : Int) ≤ 223 := by omega
    by_cases hn : n < 2
    · have e : decodeN n x0 x1 x2 x3 = (65533, 1) := by
        unfold decodeN
        repeat' split
        all_goals first | (exfalso; omega) | (apply Prod.ext <;> simp only <;> omega)
      have q4 : (n : Int) < 2 := by omega
      rw [e]
      clear e hq1 hq2 hq3
      go_enter Tryd.func69, Tryd.ntmps69
      go_wp2
      go_ret2
      exact ⟨rfl, rfl⟩
    · have q4 : (2 : Int) ≤ (n : Int) := by omega
      have hc_1 := hq1 (by omega)
      have z1 : (1 : Int) < (n : Int) := by omega
      clear hq1 hq2 hq3
      go_enter Tryd.func69, Tryd.ntmps69
      go_wp2
      go_loop [7, 54] (fun v i => (i = .int .i64 0 ∧ v = .int .i64 ((x0 : Int) - 192)) ∨ (i = .int .i64 1 ∧ v = .int .i64 (((x0 : Int) - 192) * 64 + (x1 : Int) - 128) ∧ 128 ≤ x1 ∧ x1 ≤ 191)) (fun _ i => 1 - (Go.RowKit.intOf i).toNat)
      case atStart => exact .inl ⟨rfl, rfl⟩
      case round =>
        rcases hrel with ⟨rfl, rfl⟩ | ⟨rfl, rfl, h1, k1⟩
        · go_wp2
          all_goals first
            | (go_ret2; refine ⟨rfl, ret_dec ?_ ?_⟩ <;> (unfold decodeN; (repeat' split); all_goals first | (exfalso; omega) | rfl | (simp only []; omega)))
            | (go_round
               case rel => exact .inr (⟨rfl, rfl, by omega, by omega⟩)
               case measure => simp [Go.RowKit.intOf])
        · go_wp2
          all_goals (go_ret2; refine ⟨rfl, ret_dec ?_ ?_⟩ <;> (unfold decodeN; (repeat' split); all_goals first | (exfalso; omega) | rfl | (simp only []; omega)))
  have qq2 : (224 : Int) ≤ (x0 : Int) := by omega
  by_cases hc3 : x0 < 240
  · have q3 : (x0 : Int) ≤ 239 := by omega
    by_cases hn : n < 3
    · have e : decodeN n x0 x1 x2 x3 = (65533, 1) := by
        unfold decodeN
        repeat' split
        all_goals first | (exfalso; omega) | (apply Prod.ext <;> simp only <;> omega)
      have q4 : (n : Int) < 3 := by omega
      rw [e]
      clear e hq1 hq2 hq3
      go_enter Tryd.func69, Tryd.ntmps69
      go_wp2
      go_ret2
      exact ⟨rfl, rfl⟩
    · have q4 : (3 : Int) ≤ (n : Int) := by omega
      have hc_1 := hq1 (by omega)
      have z1 : (1 : Int) < (n : Int) := by omega
      have hc_2 := hq2 (by omega)
      have z2 : (2 : Int) < (n : Int) := by omega
      clear hq1 hq2 hq3
      go_enter Tryd.func69, Tryd.ntmps69
      go_wp2
      go_loop [7, 54] (fun v i => (i = .int .i64 0 ∧ v = .int .i64 ((x0 : Int) - 224)) ∨ (i = .int .i64 1 ∧ v = .int .i64 (((x0 : Int) - 224) * 64 + (x1 : Int) - 128) ∧ 128 ≤ x1 ∧ x1 ≤ 191) ∨ (i = .int .i64 2 ∧ v = .int .i64 ((((x0 : Int) - 224) * 64 + (x1 : Int) - 128) * 64 + (x2 : Int) - 128) ∧ 128 ≤ x1 ∧ x1 ≤ 191 ∧ 128 ≤ x2 ∧ x2 ≤ 191)) (fun _ i => 2 - (Go.RowKit.intOf i).toNat)
      case atStart => exact .inl ⟨rfl, rfl⟩
      case round =>
        rcases hrel with ⟨rfl, rfl⟩ | ⟨rfl, rfl, h1, k1⟩ | ⟨rfl, rfl, h1, k1, h2, k2⟩
        · go_wp2
          all_goals first
            | (go_ret2; refine ⟨rfl, ret_dec ?_ ?_⟩ <;> (unfold decodeN; (repeat' split); all_goals first | (exfalso; omega) | rfl | (simp only []; omega)))
            | (go_round
               case rel => exact .inr (.inl ⟨rfl, rfl, by omega, by omega⟩)
               case measure => simp [Go.RowKit.intOf])
        · go_wp2
          all_goals first
            | (go_ret2; refine ⟨rfl, ret_dec ?_ ?_⟩ <;> (unfold decodeN; (repeat' split); all_goals first | (exfalso; omega) | rfl | (simp only []; omega)))
            | (go_round
               case rel => exact .inr (.inr (⟨rfl, rfl, by omega, by omega, by omega, by omega⟩))
               case measure => simp [Go.RowKit.intOf])
        · go_wp2
          all_goals (go_ret2; refine ⟨rfl, ret_dec ?_ ?_⟩ <;> (unfold decodeN; (repeat' split); all_goals first | (exfalso; omega) | rfl | (simp only []; omega)))
  have qq3 : (240 : Int) ≤ (x0 : Int) := by omega
  by_cases hc4 : x0 < 245
  · have q3 : (x0 : Int) ≤ 244 := by omega
    by_cases hn : n < 4
    · have e : decodeN n x0 x1 x2 x3 = (65533, 1) := by
        unfold decodeN
        repeat' split
        all_goals first | (exfalso; omega) | (apply Prod.ext <;> simp only <;> omega)
      have q4 : (n : Int) < 4 := by omega
      rw [e]
      clear e hq1 hq2 hq3
      go_enter Tryd.func69, Tryd.ntmps69
      go_wp2
      go_ret2
      exact ⟨rfl, rfl⟩
    · have q4 : (4 : Int) ≤ (n : Int) := by omega
      have hc_1 := hq1 (by omega)
      have z1 : (1 : Int) < (n : Int) := by omega
      have hc_2 := hq2 (by omega)
      have z2 : (2 : Int) < (n : Int) := by omega
      have hc_3 := hq3 (by omega)
      have z3 : (3 : Int) < (n : Int) := by omega
      clear hq1 hq2 hq3
      go_enter Tryd.func69, Tryd.ntmps69
      go_wp2
      go_loop [7, 54] (fun v i => (i = .int .i64 0 ∧ v = .int .i64 ((x0 : Int) - 240)) ∨ (i = .int .i64 1 ∧ v = .int .i64 (((x0 : Int) - 240) * 64 + (x1 : Int) - 128) ∧ 128 ≤ x1 ∧ x1 ≤ 191) ∨ (i = .int .i64 2 ∧ v = .int .i64 ((((x0 : Int) - 240) * 64 + (x1 : Int) - 128) * 64 + (x2 : Int) - 128) ∧ 128 ≤ x1 ∧ x1 ≤ 191 ∧ 128 ≤ x2 ∧ x2 ≤ 191) ∨ (i = .int .i64 3 ∧ v = .int .i64 (((((x0 : Int) - 240) * 64 + (x1 : Int) - 128) * 64 + (x2 : Int) - 128) * 64 + (x3 : Int) - 128) ∧ 128 ≤ x1 ∧ x1 ≤ 191 ∧ 128 ≤ x2 ∧ x2 ≤ 191 ∧ 128 ≤ x3 ∧ x3 ≤ 191)) (fun _ i => 3 - (Go.RowKit.intOf i).toNat)
      case atStart => exact .inl ⟨rfl, rfl⟩
      case round =>
        rcases hrel with ⟨rfl, rfl⟩ | ⟨rfl, rfl, h1, k1⟩ | ⟨rfl, rfl, h1, k1, h2, k2⟩ | ⟨rfl, rfl, h1, k1, h2, k2, h3, k3⟩
        · go_wp2
          all_goals first
            | (go_ret2; refine ⟨rfl, ret_dec ?_ ?_⟩ <;> (unfold decodeN; (repeat' split); all_goals first | (exfalso; omega) | rfl | (simp only []; omega)))
            | (go_round
               case rel => exact .inr (.inl ⟨rfl, rfl, by omega, by omega⟩)
               case measure => simp [Go.RowKit.intOf])
        · go_wp2
          all_goals first
            | (go_ret2; refine ⟨rfl, ret_dec ?_ ?_⟩ <;> (unfold decodeN; (repeat' split); all_goals first | (exfalso; omega) | rfl | (simp only []; omega)))
            | (go_round
               case rel => exact .inr (.inr (.inl ⟨rfl, rfl, by omega, by omega, by omega, by omega⟩))
               case measure => simp [Go.RowKit.intOf])
        · go_wp2
          all_goals first
            | (go_ret2; refine ⟨rfl, ret_dec ?_ ?_⟩ <;> (unfold decodeN; (repeat' split); all_goals first | (exfalso; omega) | rfl | (simp only []; omega)))
            | (go_round
               case rel => exact .inr (.inr (.inr (⟨rfl, rfl, by omega, by omega, by omega, by omega, by omega, by omega⟩)))
               case measure => simp [Go.RowKit.intOf])
        · go_wp2
          all_goals (go_ret2; refine ⟨rfl, ret_dec ?_ ?_⟩ <;> (unfold decodeN; (repeat' split); all_goals first | (exfalso; omega) | rfl | (simp only []; omega)))
  have qq4 : (245 : Int) ≤ (x0 : Int) := by omega
  have e : decodeN n x0 x1 x2 x3 = (65533, 1) := by
    unfold decodeN
    repeat' split
    all_goals first | (exfalso; omega) | (apply Prod.ext <;> simp only <;> omega)
  rw [e]
  clear e hq1 hq2 hq3
  go_enter Tryd.func69, Tryd.ntmps69
  go_wp2
  go_ret2
  exact ⟨rfl, rfl⟩
end Go.Proofs.YtgbbogocfmepiaaDoor
