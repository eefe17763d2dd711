/- spec.NewReader. -/
import Derived.Test.YtmmjfpcmempeeaaDoorSpecRd
namespace Go.Proofs.YtmmjfpcmempeeaaDoor
open Go.RowKit
theorem specEndC (a : Option Addr) (n c : Nat) (f : Bool) (w : World) :
    Calls Tryd.prog 12 #[.agg #[.slice a n c, .bool f]] w (Ret fun v w' => New w w' ∧ v = .int .i64 (endc f : Int)) := by
  refine callRet (specEnd a n c f w) ?_
  rintro v w' ⟨h, rfl⟩
  exact ⟨h, by cases f <;> rfl⟩
theorem specSize (n : Nat) (hn : n ≤ 5000) (w : World) :
    Calls Tryd.prog 37 #[.int .i64 (n : Int)] w (Ret fun v' w' => w = w' ∧ v' = .int .i64 ((max n 16 : Nat) : Int)) := by
  by_cases h : n < 16
  · rw [show max n 16 = 16 by omega]
    go_enter Tryd.func37, Tryd.ntmps37
    go_wp2
    all_goals go_ret
    all_goals first | exact ⟨rfl, rfl⟩ | skip
  · rw [show max n 16 = n by omega]
    go_enter Tryd.func37, Tryd.ntmps37
    go_wp2
    all_goals go_ret
    all_goals first | exact ⟨rfl, rfl⟩ | skip
def startSR (n : Nat) (all : List UInt8) (f : Bool) : SR := ⟨all, all, max n 16, endc f, false, 0, false⟩
/-- a new one's value, and its bytes -/
def NewSR (w : World) (s : SR) (v : Value) (w' : World) : Prop :=
  New w w' ∧ ∃ g c, v = .agg (srCells g 0 c 0 c s) ∧ w.heap.size ≤ g ∧ g < w'.heap.size ∧ BytesA w' (some ⟨g, 0, none⟩) c s.all
set_option maxRecDepth 100000 in
set_option maxHeartbeats 1000000 in
theorem specNewReader {w : World} {a : Option Addr} {c sz : Nat} {ps : List (List UInt8)} (f : Bool) (h : PiecesA w a c ps) (hl : ps.flatten.length ≤ 20000) (hsz : sz ≤ 5000) :
    Calls Tryd.prog 18 #[.agg #[.slice a ps.length c, .bool f], .int .i64 (sz : Int)] w (Ret (NewSR w (startSR sz ps.flatten f))) := by
  have HP := Lib.hid h
  have HL := Lib.hid hl
  obtain ⟨m, hm⟩ : ∃ m, ps.flatten.length = m := ⟨_, rfl⟩
  have HM := Lib.hid hm
  have hw1 : ∀ cs1 cs2 : Array Value, ∀ t1 t2 : TypeId, New w ((w.alloc (.cells cs1 t1)).alloc (.cells cs2 t2)) := fun cs1 cs2 t1 t2 => ((Upd.refl _ _).alloc _).alloc _
  clear h hl hm
  have hkey : ∀ (cs2 : Array Value) (w2 : World), New ((w.alloc (.cells #[.slice a ps.length c, .bool f] 24)).alloc (.cells cs2 44)) w2 →
      w2.cell? ⟨w.heap.size, 0, none⟩ = some (.slice a ps.length c) ∧ w2.cell? ⟨w.heap.size, 1, none⟩ = some (.bool f) ∧ w2.heap[w.heap.size + 1]? = some (.cells cs2 44 (0, 0)) ∧ New w w2 := fun cs2 w2 hn => by
    have hn1 : New (w.alloc (.cells #[.slice a ps.length c, .bool f] 24)) w2 := ((Upd.refl _ _).alloc _).andNew hn
    refine ⟨box_new hn1 (i := 0) rfl, box_new hn1 (i := 1) rfl, hn.heap ?_ (fun h => h), (hw1 _ _ _ _).andNew hn⟩
    have := heap_alloc_new (w.alloc (.cells #[.slice a ps.length c, .bool f] 24)) (.cells cs2 44)
    simpa using this
  go_enter Tryd.func18, Tryd.ntmps18
  go_wp2_with (go_at_call 11; refine callRet (specJoined _ _ _ _ (HP.out.new (hw1 _ _ _ _)) (by have := HL.out; omega)) ?_; intro v w2 hv; obtain ⟨b0, b1, hb2, hn2⟩ := hkey _ _ hv.1; have HB2 := Lib.hid hb2; have HN2 := Lib.hid hn2; obtain ⟨g, cp, rfl, hg1, hg2, hby⟩ := hv.bytes; have HG := Lib.hid (And.intro hg1 hg2); rw [HM.out]; have HBY := Lib.hid hby; clear hv hby hb2 hn2 hg1 hg2 hkey)
  refine wp_region_lx { qd := [12] } (by kernel_rfl) (by kernel_rfl) ⟨fun _ _ _ h => h.2, fun _ _ h => h⟩ ?_
  repeat (refine wpLx_calm rfl rfl rfl (fun K hK => ?_); go_step; refine hK _ ?_; clear hK K)
  refine wpLx_call rfl rfl rfl (specSize sz hsz _) (by kernel_rfl) ?_
  repeat (refine wpLx_calm rfl rfl rfl (fun K hK => ?_); go_step; refine hK _ ?_; clear hK K)
  refine wpLx_eff rfl rfl rfl (fun K hK => ?_)
  go_step
  refine callRet (specEndC _ _ _ _ _) ?_
  rintro v w3 ⟨hn3, rfl⟩
  refine hK _ _ ?_
  clear hK K
  repeat (refine wpLx_calm rfl rfl rfl (fun K hK => ?_); go_step; refine hK _ ?_; clear hK K)
  have hb3 := hn3.heap (show w2.drew.heap[w.heap.size + 1]? = _ from HB2.out) (fun h => h)
  refine wpLx_eff rfl rfl rfl (fun K hK => ?_)
  refine wp_storeAll (n := 7) (by kernel_rfl) (.tmp 4) (.tmp 15) rfl (w.heap.size + 1) rfl #[.slice (some ⟨g, 0, none⟩) m cp, .int .i64 ((max sz 16 : Nat) : Int), .int .i64 (endc f : Int), .slice (some ⟨g, 0, none⟩) m cp, .bool false, .int .i64 0, .bool false] rfl rfl (by simp [Value.oneCell']) _ _ hb3 rfl ?_
  intro w4 h4 u4 z4
  refine hK _ _ ?_
  clear hK K
  refine wpLx_nil ?_
  go_wp2
  refine bodyPost_ret (results_cell_row rfl _ _ (w.heap.size + 1) 44 _ (0, 0) _ rfl h4 Tryd.underlying44 rfl (by kernel_rfl)) rfl ?_
  have hn4 : New w w4 := (HN2.out.drew.andNew hn3).trans u4 (fun k hk hlt => by have hk : k = w.heap.size + 1 := hk; omega)
  have hs3 : w2.heap.size ≤ w3.heap.size := hn3.size
  have hg := HG.out
  have hsz2 : ((w.alloc (.cells #[.slice a ps.length c, .bool f] 24)).alloc (.cells #[.slice none 0 0, .int .i64 0, .int .i64 0, .slice none 0 0, .bool false, .int .i64 0, .bool false] 44)).heap.size = w.heap.size + 2 := by simp
  refine ⟨hn4, g, cp, ?_, ?_, ?_, ?_⟩
  · show Value.agg _ = Value.agg (srCells g 0 cp 0 cp (startSR sz ps.flatten f))
    simp only [srCells, startSR, HM.out]
    rfl
  · have := hg.1; omega
  · have := hg.2; omega
  · exact (HBY.out.new ((Upd.refl _ _).drew.andNew hn3)).upd u4 (fun p hp _ hh => by
      simp only [Option.some.injEq] at hp; subst hp
      have hh : g = w.heap.size + 1 := hh
      have := hg.1; omega)
end Go.Proofs.YtmmjfpcmempeeaaDoor
