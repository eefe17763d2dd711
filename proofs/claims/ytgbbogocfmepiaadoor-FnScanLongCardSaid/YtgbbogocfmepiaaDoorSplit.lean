/- ScanBytes, ScanLines, spec.Split at the kinds 0 and 3, impl.Split. -/
import Derived.Test.YtgbbogocfmepiaaDoorDrop
import Derived.Test.YtgbbogocfmepiaaDoorGlob
import Derived.Test.YtgbbogocfmepiaaDoorPos
import Derived.WalkSpells
namespace Go.Proofs.YtgbbogocfmepiaaDoor
open Go.RowKit
/-- a token, or none (nil) -/
def TokV (w : World) (v : Value) : Option (List UInt8) → Prop
  | none => v = .slice none 0 0
  | some t => ∃ b o c, v = .slice (some ⟨b, o, none⟩) t.length c ∧ BytesA w (some ⟨b, o, none⟩) c t
def splitBytes (bs : List UInt8) (fin : Bool) : Nat × Option (List UInt8) := if fin = true ∧ bs = [] then (0, none) else (1, some (bs.take 1))
def splitLines (bs : List UInt8) (fin : Bool) : Nat × Option (List UInt8) :=
  if fin = true ∧ bs = [] then (0, none)
  else match pos 10 bs with
    | some i => (i + 1, some (dcr (bs.take i)))
    | none => if fin then (bs.length, some (dcr bs)) else (0, none)
/-- what a way of splitting tells -/
def SplitPost (w : World) (x : Nat × Option (List UInt8)) (v : Value) (w' : World) : Prop := New w w' ∧ ∃ t, v = .tuple #[.int .i64 (x.1 : Int), t, .nilIface] ∧ TokV w' t x.2
set_option maxRecDepth 100000 in
set_option maxHeartbeats 1000000 in
theorem scanBytes {w : World} {g o c : Nat} {bs : List UInt8} (h : BytesA w (some ⟨g, o, none⟩) c bs) (fin : Bool) (hne : bs ≠ [] ∨ fin = true) :
    Calls Tryd.prog 55 #[.slice (some ⟨g, o, none⟩) bs.length c, .bool fin] w (Ret (SplitPost w (splitBytes bs fin))) := by
  have l1 := h.1
  have l2 := h.2.1
  unfold maxLen at l2
  have H := Lib.hid h
  clear h
  by_cases hb : bs = []
  · subst hb
    obtain rfl : fin = true := hne.resolve_left (fun h => h rfl)
    clear hne
    have e : splitBytes [] true = (0, none) := if_pos ⟨rfl, rfl⟩
    rw [e]
    go_enter Tryd.func55, Tryd.ntmps55
    (go_wp2_with fail; (repeat' (refine wp_region_lx {} (by kernel_rfl) (by kernel_rfl) ⟨fun _ _ _ h => h.2, fun _ _ h => h⟩ ?_; (repeat' (first | (refine wpLx_calm rfl rfl rfl (fun K hK => ?_); go_step <;> (refine hK _ ?_; clear hK K)) | (refine wpLx_skip2 rfl rfl rfl ?_; go_simp) | (refine wpLx_calm2 rfl rfl rfl rfl rfl (fun K hK => ?_); go_step <;> (refine hK _ ?_; clear hK K)))); all_goals (refine wpLx_nil ?_; try go_wp2_with fail))))
    refine bodyPost_ret (results_tmp3 rfl _ _ _) rfl ?_
    exact ⟨Upd.refl _ _, _, rfl, rfl⟩
  · have e : splitBytes bs fin = (1, some (bs.take 1)) := if_neg (fun h => hb h.2)
    have hl : 0 < bs.length := List.length_pos_iff.2 hb
    obtain ⟨m, hm⟩ : ∃ m, bs.length = m := ⟨_, rfl⟩
    have hlen : (bs.take 1).length = 1 := by rw [List.length_take]; omega
    have q1 : ((m : Int) == 0) = false := by simp; omega
    rw [e]
    rw [hm] at l1 hl ⊢
    have HL := Lib.hid hlen
    clear hb hne e hm hlen
    cases fin
    all_goals
      go_enter Tryd.func55, Tryd.ntmps55
      (go_wp2_with fail; (repeat' (refine wp_region_lx {} (by kernel_rfl) (by kernel_rfl) ⟨fun _ _ _ h => h.2, fun _ _ h => h⟩ ?_; (repeat' (first | (refine wpLx_calm rfl rfl rfl (fun K hK => ?_); go_step <;> (refine hK _ ?_; clear hK K)) | (refine wpLx_skip2 rfl rfl rfl ?_; go_simp) | (refine wpLx_calm2 rfl rfl rfl rfl rfl (fun K hK => ?_); go_step <;> (refine hK _ ?_; clear hK K)))); all_goals (refine wpLx_nil ?_; try go_wp2_with fail))))
      refine bodyPost_ret (results_tmp3 rfl _ _ _) rfl ?_
      exact ⟨(Upd.refl _ _).drew, _, rfl, g, o, c, by rw [HL.out]; rfl, (H.out.take 1).new (Upd.refl _ _).drew⟩
theorem TokV.new {w w1 : World} {v : Value} {t : Option (List UInt8)} (h : TokV w v t) (u : New w w1) : TokV w1 v t := by
  cases t with
  | none => exact h
  | some t => obtain ⟨b, o, c, hv, hb⟩ := h; exact ⟨b, o, c, hv, hb.new u⟩
theorem tok_dcr {w : World} {g o c : Nat} {bs : List UInt8} (h : BytesA w (some ⟨g, o, none⟩) c bs) : TokV w (.slice (some ⟨g, o, none⟩) (dcr bs).length c) (some (dcr bs)) := ⟨g, o, c, rfl, h.dcr⟩
set_option maxRecDepth 100000 in
set_option maxHeartbeats 1000000 in
theorem scanLines {w : World} {g o c : Nat} {bs : List UInt8} (h : BytesA w (some ⟨g, o, none⟩) c bs) (fin : Bool) :
    Calls Tryd.prog 54 #[.slice (some ⟨g, o, none⟩) bs.length c, .bool fin] w (Ret (SplitPost w (splitLines bs fin))) := by
  have l1 := h.1
  have l2 := h.2.1
  unfold maxLen at l2
  have H := Lib.hid h
  clear h
  by_cases hb : fin = true ∧ bs = []
  · obtain ⟨rfl, rfl⟩ := hb
    have e : splitLines [] true = (0, none) := if_pos ⟨rfl, rfl⟩
    rw [e]
    go_enter Tryd.func54, Tryd.ntmps54
    (go_wp2_with fail; (repeat' (refine wp_region_lx {} (by kernel_rfl) (by kernel_rfl) ⟨fun _ _ _ h => h.2, fun _ _ h => h⟩ ?_; (repeat' (first | (refine wpLx_calm rfl rfl rfl (fun K hK => ?_); go_step <;> (refine hK _ ?_; clear hK K)) | (refine wpLx_skip2 rfl rfl rfl ?_; go_simp) | (refine wpLx_calm2 rfl rfl rfl rfl rfl (fun K hK => ?_); go_step <;> (refine hK _ ?_; clear hK K)))); all_goals (refine wpLx_nil ?_; try go_wp2_with fail))))
    refine bodyPost_ret (results_tmp3 rfl _ _ _) rfl ?_
    exact ⟨Upd.refl _ _, _, rfl, rfl⟩
  · have e0 : splitLines bs fin = (match pos 10 bs with
      | some i => (i + 1, some (dcr (bs.take i)))
      | none => if fin then (bs.length, some (dcr bs)) else (0, none)) := if_neg hb
    have hd : decide ((bs.length : Int) = 0) = decide (bs.length = 0) := by simp
    have hl : fin = true → bs.length ≠ 0 := fun hf hh => hb ⟨hf, List.eq_nil_of_length_eq_zero hh⟩
    have KI := bIndexByte H.out 10
    cases hp : pos 10 bs with
    | some i =>
      have hi := pos_lt hp
      have e : splitLines bs fin = (i + 1, some (dcr (bs.take i))) := by rw [e0, hp]
      rw [e]
      have q1 : ((bs.length : Int) == 0) = false := by rw [beq_eq_false_iff_ne]; omega
      rw [hp] at KI
      simp only [posI] at KI
      have HKI := Lib.hid KI
      have hlen : (bs.take i).length = i := by rw [List.length_take]; omega
      have KD := Lib.hid (bufioDropCR _ _ _ w (H.out.take i))
      rw [hlen] at KD
      have HT := Lib.hid (tok_dcr (H.out.take i))
      clear hb e0 hd hl hp e KI hlen
      cases fin
      all_goals
        go_enter Tryd.func54, Tryd.ntmps54
        go_wp2_with (first | (go_at_call 72; refine callRet HKI.out ?_; rintro v w' ⟨rfl, rfl⟩) | (go_at_call 73; refine callRet KD.out ?_; rintro v w' ⟨rfl, rfl⟩))
        refine bodyPost_ret (results_tmp3 rfl _ _ _) rfl ?_
        exact ⟨Upd.refl _ _, _, by simp, HT.out⟩
    | none =>
      rw [hp] at KI
      simp only [posI] at KI
      have HKI := Lib.hid KI
      have KD := Lib.hid (bufioDropCR _ _ _ w H.out)
      have HT := Lib.hid (tok_dcr H.out)
      cases fin with
      | true =>
        have e : splitLines bs true = (bs.length, some (dcr bs)) := by rw [e0, hp]; rfl
        rw [e]
        have q1 : ((bs.length : Int) == 0) = false := by have := hl rfl; rw [beq_eq_false_iff_ne]; omega
        clear hb e0 hd hl hp e KI
        go_enter Tryd.func54, Tryd.ntmps54
        go_wp2_with (first | (go_at_call 72; refine callRet HKI.out ?_; rintro v w' ⟨rfl, rfl⟩) | (go_at_call 73; refine callRet KD.out ?_; rintro v w' ⟨rfl, rfl⟩))
        refine bodyPost_ret (results_tmp3 rfl _ _ _) rfl ?_
        exact ⟨Upd.refl _ _, _, rfl, HT.out⟩
      | false =>
        have e : splitLines bs false = (0, none) := by rw [e0, hp]; rfl
        rw [e]
        clear hb e0 hd hl hp e KI
        go_enter Tryd.func54, Tryd.ntmps54
        go_wp2_with (first | (go_at_call 72; refine callRet HKI.out ?_; rintro v w' ⟨rfl, rfl⟩) | (go_at_call 73; refine callRet KD.out ?_; rintro v w' ⟨rfl, rfl⟩))
        refine bodyPost_ret (results_tmp3 rfl _ _ _) rfl ?_
        exact ⟨Upd.refl _ _, _, rfl, rfl⟩
theorem implSplit0 (w : World) : Calls Tryd.prog 33 #[.int .i64 0] w (Ret fun v w' => w = w' ∧ v = .func (.func 55) #[] #[]) := by
  go_enter Tryd.func33, Tryd.ntmps33
  (go_wp2_with fail; (repeat' (refine wp_region_lx {} (by kernel_rfl) (by kernel_rfl) ⟨fun _ _ _ h => h.2, fun _ _ h => h⟩ ?_; (repeat' (first | (refine wpLx_calm rfl rfl rfl (fun K hK => ?_); go_step <;> (refine hK _ ?_; clear hK K)) | (refine wpLx_skip2 rfl rfl rfl ?_; go_simp) | (refine wpLx_calm2 rfl rfl rfl rfl rfl (fun K hK => ?_); go_step <;> (refine hK _ ?_; clear hK K)))); all_goals (refine wpLx_nil ?_; try go_wp2_with fail))))
  go_ret
  exact ⟨rfl, rfl⟩
theorem implSplit3 (w : World) : Calls Tryd.prog 33 #[.int .i64 3] w (Ret fun v w' => w = w' ∧ v = .func (.func 54) #[] #[]) := by
  go_enter Tryd.func33, Tryd.ntmps33
  (go_wp2_with fail; (repeat' (refine wp_region_lx {} (by kernel_rfl) (by kernel_rfl) ⟨fun _ _ _ h => h.2, fun _ _ h => h⟩ ?_; (repeat' (first | (refine wpLx_calm rfl rfl rfl (fun K hK => ?_); go_step <;> (refine hK _ ?_; clear hK K)) | (refine wpLx_skip2 rfl rfl rfl ?_; go_simp) | (refine wpLx_calm2 rfl rfl rfl rfl rfl (fun K hK => ?_); go_step <;> (refine hK _ ?_; clear hK K)))); all_goals (refine wpLx_nil ?_; try go_wp2_with fail))))
  go_ret
  exact ⟨rfl, rfl⟩
/-- what impl.Split tells -/
def ISplitPost (w : World) (x : Nat × Option (List UInt8)) (v : Value) (w' : World) : Prop :=
  New w w' ∧ ∃ a c, v = .tuple #[.int .i64 (x.1 : Int), .slice a (x.2.getD []).length c, .bool x.2.isSome, .int .i64 0] ∧ BytesA w' a c (x.2.getD [])
theorem splitBytes_le (bs : List UInt8) (fin : Bool) : ((splitBytes bs fin).2.getD []).length ≤ bs.length := by
  unfold splitBytes; split
  · exact Nat.zero_le _
  · exact List.length_take_le' _ _
theorem splitLines_le (bs : List UInt8) (fin : Bool) : ((splitLines bs fin).2.getD []).length ≤ bs.length := by
  unfold splitLines; split
  · exact Nat.zero_le _
  · split
    · exact Nat.le_trans (dcr_le _) (List.length_take_le' _ _)
    · split
      · exact dcr_le _
      · exact Nat.zero_le _
theorem results_tmp4 {fn : Func} {t u v x : Tmp} (h : fn.results = #[.tmp t, .tmp u, .tmp v, .tmp x]) (tmps : Array Value) (P : Program) (w : World) :
    (results fn tmps).run P w = .ok (.tuple #[tmps.getD t undef, tmps.getD u undef, tmps.getD v undef, tmps.getD x undef]) w := by
  simp [results, h]
/-- the block of a token: that of the bytes that were split, or one of bytes -/
def TokAt (w' : World) (a0 a : Option Addr) : Prop := ∀ p, a = some p → (∃ q, a0 = some q ∧ p.block = q.block) ∨ ∃ cur, w'.heap[p.block]? = some (.cells cur 5 (0, 0))
theorem TokAt.nil (w' : World) (a0 : Option Addr) : TokAt w' a0 none := fun p hp => by cases hp
theorem TokAt.same (w' : World) (g o o' : Nat) : TokAt w' (some ⟨g, o, Option.none⟩) (some ⟨g, o', Option.none⟩) := fun p hp => by simp only [Option.some.injEq] at hp; subst hp; exact .inl ⟨_, rfl, rfl⟩
def SSplitPost (w : World) (a0 : Option Addr) (x : Nat × Option (List UInt8)) (v : Value) (w' : World) : Prop :=
  New w w' ∧ ∃ a c, v = .tuple #[.int .i64 (x.1 : Int), .slice a (x.2.getD []).length c, .bool x.2.isSome] ∧ BytesA w' a c (x.2.getD []) ∧ TokAt w' a0 a
theorem BytesA.nil0 (w : World) : BytesA w none 0 [] := ⟨Nat.le_refl _, Nat.zero_le _, fun _ => rfl, fun p hp => by cases hp⟩
set_option maxRecDepth 100000 in
set_option maxHeartbeats 1000000 in
theorem specSplit_0 {w : World} {a : Option Addr} {c : Nat} {bs : List UInt8} (h : BytesA w a c bs) (fin : Bool) (hne : bs ≠ [] ∨ fin = true) :
    Calls Tryd.prog 29 #[.int .i64 0, .slice a bs.length c, .bool fin] w (Ret (SSplitPost w a (splitBytes bs fin))) := by
  have l1 := h.1
  have l2 := h.2.1
  unfold maxLen at l2
  have H := Lib.hid h
  by_cases hb : bs = []
  · subst hb
    obtain rfl : fin = true := hne.resolve_left (fun h => h rfl)
    have e : splitBytes [] true = (0, none) := if_pos ⟨rfl, rfl⟩
    rw [e]
    clear h hne e
    go_enter Tryd.func29, Tryd.ntmps29
    (go_wp2_with fail; (repeat' (refine wp_region_lx {} (by kernel_rfl) (by kernel_rfl) ⟨fun _ _ _ h => h.2, fun _ _ h => h⟩ ?_; (repeat' (first | (refine wpLx_calm rfl rfl rfl (fun K hK => ?_); go_step <;> (refine hK _ ?_; clear hK K)) | (refine wpLx_skip2 rfl rfl rfl ?_; go_simp) | (refine wpLx_calm2 rfl rfl rfl rfl rfl (fun K hK => ?_); go_step <;> (refine hK _ ?_; clear hK K)))); all_goals (refine wpLx_nil ?_; try go_wp2_with fail))))
    refine bodyPost_ret (results_tmp3 rfl _ _ _) rfl ?_
    exact ⟨Upd.refl _ _, none, 0, rfl, BytesA.nil0 _, TokAt.nil _ _⟩
  · have e : splitBytes bs fin = (1, some (bs.take 1)) := if_neg (fun h => hb h.2)
    have hl : 0 < bs.length := List.length_pos_iff.2 hb
    obtain ⟨m, hm⟩ : ∃ m, bs.length = m := ⟨_, rfl⟩
    have hlen : (bs.take 1).length = 1 := by rw [List.length_take]; omega
    have q1 : ((m : Int) == 0) = false := by simp; omega
    obtain ⟨b, o, rfl⟩ : ∃ b o, a = some ⟨b, o, none⟩ := by
      cases a with
      | none => have := h.2.2.1 rfl; omega
      | some p => obtain ⟨b, o, s⟩ := p; obtain rfl := (h.2.2.2 _ rfl).1 hb; exact ⟨b, o, rfl⟩
    rw [e]
    rw [hm] at l1 hl ⊢
    have HL := Lib.hid hlen
    clear hb hne e hm hlen h
    go_enter Tryd.func29, Tryd.ntmps29
    (go_wp2_with fail; (repeat' (refine wp_region_lx {} (by kernel_rfl) (by kernel_rfl) ⟨fun _ _ _ h => h.2, fun _ _ h => h⟩ ?_; (repeat' (first | (refine wpLx_calm rfl rfl rfl (fun K hK => ?_); go_step <;> (refine hK _ ?_; clear hK K)) | (refine wpLx_skip2 rfl rfl rfl ?_; go_simp) | (refine wpLx_calm2 rfl rfl rfl rfl rfl (fun K hK => ?_); go_step <;> (refine hK _ ?_; clear hK K)))); all_goals (refine wpLx_nil ?_; try go_wp2_with fail))))
    refine bodyPost_ret (results_tmp3 rfl _ _ _) rfl ?_
    exact ⟨(Upd.refl _ _).drew, some ⟨b, o, none⟩, c, by show _ = Value.tuple #[_, .slice _ (bs.take 1).length _, _]; rw [HL.out]; rfl, (H.out.take 1).new (Upd.refl _ _).drew, TokAt.same _ _ _ _⟩
end Go.Proofs.YtgbbogocfmepiaaDoor
