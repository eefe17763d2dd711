/- impl.Run. -/
import Derived.Test.YtmmjfpcmempeeaaDoorStep
namespace Go.Proofs.YtmmjfpcmempeeaaDoor
open Go.RowKit
def runRel : AR → List Stp → List Ans → AR → Prop
  | A, [], [], A' => A' = A
  | A, s :: ss, z :: zs, A' => ∃ A1, stepRel A s z A1 ∧ runRel A1 ss zs A'
  | _, _, _, _ => False
theorem runRel_cons {A A' : AR} {s : Stp} {z : Ans} {ss : List Stp} {zs : List Ans} : runRel A (s :: ss) (z :: zs) A' ↔ ∃ A1, stepRel A s z A1 ∧ runRel A1 ss zs A' := Iff.rfl
theorem runRel_nil {A A' : AR} : runRel A [] [] A' ↔ A' = A := Iff.rfl
theorem runRel_snoc {ss : List Stp} {s : Stp} {z : Ans} {A1 A2 : AR} (h2 : stepRel A1 s z A2) : ∀ {A : AR} {zs : List Ans}, runRel A ss zs A1 → runRel A (ss ++ [s]) (zs ++ [z]) A2 := by
  induction ss with
  | nil =>
    intro A zs h
    cases zs with
    | nil => rw [runRel_nil] at h; subst h; exact runRel_cons.2 ⟨A2, h2, runRel_nil.2 rfl⟩
    | cons z0 zs => exact False.elim h
  | cons s0 ss ih =>
    intro A zs h
    cases zs with
    | nil => exact False.elim h
    | cons z0 zs =>
      obtain ⟨A3, h3, h4⟩ := runRel_cons.1 h
      exact runRel_cons.2 ⟨A3, h3, ih h4⟩
theorem runRel_len {ss : List Stp} : ∀ {A : AR} {zs : List Ans} {A1 : AR}, runRel A ss zs A1 → zs.length = ss.length := by
  induction ss with
  | nil =>
    intro A zs A1 h
    cases zs with
    | nil => rfl
    | cons z0 zs => exact False.elim h
  | cons s0 ss ih =>
    intro A zs A1 h
    cases zs with
    | nil => exact False.elim h
    | cons z0 zs =>
      obtain ⟨A3, h3, h4⟩ := runRel_cons.1 h
      simp [ih h4]
/-- what is left grows by four bytes at most -/
theorem unruneA_left {S : Err → Addr} {w : World} {L : Loc} {st : RS} {A : AR} (h : Rd S w L st) (hA : Abs st A) : (unruneA A).2.left.length ≤ A.left.length + 4 := by
  unfold unruneA
  split
  · show A.left.length ≤ _; omega
  · rename_i hr
    have hb := hA.back (by rw [hA.rune]; omega)
    have hrh := h.runehi
    split
    · rename_i bs hbs
      rw [hbs] at hb
      split at hb
      · simp only [Option.some.injEq] at hb
        subst hb
        show (prev st st.rune.toNat ++ A.left).length ≤ _
        rw [List.length_append]
        have : (prev st st.rune.toNat).length ≤ st.rune.toNat := by unfold prev; simp; omega
        omega
      · cases hb
    · show A.left.length ≤ _; omega
theorem frags_left (d : UInt8) : ∀ (n : Nat) (A : AR), (frags d n A).2.2.left.length ≤ A.left.length
  | 0, A => Nat.le_refl _
  | n + 1, A => by
    unfold frags
    split
    · exact Nat.le_trans (frags_left d n _) (sliceA_left A d).2.1
    · exact (sliceA_left A d).2.1
theorem stepRel_left {S : Err → Addr} {w : World} {L : Loc} {st : RS} {A A' : AR} {s : Stp} {z : Ans} (h : Rd S w L st) (hA : Abs st A) (hs : stepRel A s z A') : A'.left.length ≤ A.left.length + 4 := by
  have hsz : 16 ≤ A.size := by rw [← hA.size]; exact h.nlo
  unfold stepRel at hs
  split at hs
  · obtain ⟨k, e, hr, _⟩ := hs
    rw [hr.2.2.2.2.1, List.length_drop]; omega
  · split at hs
    · obtain ⟨_, _, _, _, rfl⟩ := hs; omega
    · obtain ⟨_, rfl⟩ := hs
      unfold stepF
      split
      · show (byteA A).2.left.length ≤ _
        unfold byteA
        split
        · show A.left.length ≤ _; omega
        · rename_i b l hl; rw [hl]; simp; omega
      · split
        · show (unbyteA A).2.left.length ≤ _
          unfold unbyteA
          split
          · show A.left.length ≤ _; omega
          · show (_ :: A.left).length ≤ _; simp
        · split
          · show (runeA A).2.left.length ≤ _
            unfold runeA
            split
            · show A.left.length ≤ _; omega
            · show (A.left.drop _).length ≤ _; simp; omega
          · split
            · exact unruneA_left h hA
            · split
              · show (peekA A s.n).2.left.length ≤ _
                unfold peekA
                repeat' split
                all_goals (show A.left.length ≤ _; omega)
              · split
                · show (discardA A s.n).2.left.length ≤ _
                  unfold discardA
                  repeat' split
                  all_goals first | (show A.left.length ≤ _; omega) | (show ([] : List UInt8).length ≤ _; simp) | (show (A.left.drop _).length ≤ _; simp; omega)
                · split
                  · exact Nat.le_trans (sliceA_left A s.d).2.1 (Nat.le_add_right _ _)
                  · split
                    · show (lineA A).2.left.length ≤ _
                      have h1 := (sliceA_left A 10).2.1
                      unfold lineA
                      repeat' split
                      all_goals first | (show (_ :: (sliceA A 10).2.left).length ≤ _; simp; omega) | (show (sliceA A 10).2.left.length ≤ _; omega)
                    · split
                      · exact Nat.le_trans (frags_left _ _ _) (Nat.le_add_right _ _)
                      · show A.left.length ≤ _; omega
theorem AnsE.mono {P P' : Nat → Prop} {w : World} {cs : List Value} {a : Ans} (h : AnsE w P cs a) (hp : ∀ k, P k → P' k) : AnsE w P' cs a := by
  obtain ⟨bv, rfl, h⟩ := h
  exact ⟨bv, rfl, h.mono hp⟩
theorem box_newsL {w : World} {xs : Array Value} {t : TypeId} : ∀ p, (some ⟨w.heap.size, 0, none⟩ : Option Addr) = some p → ∀ j u, xs.toList[j]? = some u → (w.alloc (.cells xs t)).cell? (p.add j) = some u := fun p hp => by
  simp only [Option.some.injEq] at hp; subst hp
  exact World.news_of_block' (cs := xs) (t := t) (fr := (0, 0)) (heap_alloc_new w _)
def RunSPost (w : World) (A : AR) (ss : List Stp) (v : Value) (w' : World) : Prop := New w w' ∧ ∃ za zc zs A', v = .slice za (List.length (α := Ans) zs) zc ∧ AnssA w' (fun k => w.heap.size ≤ k) za zc zs ∧ runRel A ss zs A'
/-- of which steps is spoken -/
def StepsOk (ss : List Stp) : Prop := ss.length ≤ 60 ∧ ∀ s ∈ ss, (0 ≤ s.k ∧ s.k ≤ 12) ∧ (s.k = 0 → s.n ≤ 4096)
/-- whole numbers of 64 bits -/
def Steps64 (ss : List Stp) : Prop := ∀ s ∈ ss, (-9223372036854775808 ≤ s.k ∧ s.k ≤ 9223372036854775807) ∧ (-9223372036854775808 ≤ s.n ∧ s.n ≤ 9223372036854775807)
/-- answers, beside a reader -/
structure RunS (base : Nat) (L : Loc) (S : Err → Addr) (w wr : World) (v : Value) (zs : List Ans) (st : RS) : Prop where
  rd : Rd S wr L st
  new : New w wr
  zs : OwnA base (fun k => base ≤ k) wr v zs
  hi : base ≤ wr.heap.size
theorem RunS.newB {base : Nat} {L : Loc} {S : Err → Addr} {w wr w2 : World} {v : Value} {zs : List Ans} {st : RS} (h : RunS base L S w wr v zs st) (hu : New wr w2) : RunS base L S w w2 v zs st :=
  ⟨h.rd.new hu, h.new.andNew hu, h.zs.new hu, Nat.le_trans h.hi hu.size⟩
theorem RunS.reader {base : Nat} {L : Loc} {S : Err → Addr} {w wr w2 : World} {v : Value} {zs : List Ans} {st st2 : RS} (h : RunS base L S w wr v zs st) (hlo : w.heap.size ≤ L.lo) (hhi : L.hi ≤ base) (h2 : Rd S w2 L st2) (hu : Upd (In L) wr w2) : RunS base L S w w2 v zs st2 where
  rd := h2
  new := Upd.inNew h.new hu hlo
  zs := h.zs.upd hu (fun k _ hk hb _ => by have := hk.2; omega) (fun k _ _ hk hb _ => by have := hk.2; have hb : base ≤ k := hb; omega)
  hi := Nat.le_trans h.hi hu.size
theorem RunS.one {base : Nat} {L : Loc} {S : Err → Addr} {w w1 w2 w3 : World} {v v' : Value} {zs : List Ans} {z : Ans} {st : RS} {cs : List Value} {vs : List (List Value)} (h : RunS base L S w w1 v zs st) (hlo : w.heap.size ≤ L.lo) (hhi : L.hi ≤ base) (h12 : New w1 w2)
    (hl : vs.length = zs.length) (ho1 : w1.ownsRow base 59 5 v zs.length vs.flatten) (hp : ∀ i, (h : i < zs.length) → ∃ cs, vs[i]? = some cs ∧ AnsE w1 (fun k => base ≤ k) cs zs[i]) (hv : AnsE w1 (fun k => base ≤ k) cs z)
    (ho : w3.ownsRow base 59 5 v' (zs.length + 1) (vs.flatten ++ cs)) (hg : w2.grownBy w3 v.ownBlock) : RunS base L S w w3 v' (zs ++ [z]) st := by
  obtain ⟨h1, h2⟩ := OwnA.grow hl ho1 hp hv h12 ho hg
  have hn := h.newB h12
  obtain ⟨q1, q2⟩ := Both.above hn.rd hn.new hlo hhi h2 (fun k hk => hk.1)
  exact ⟨q1, q2, h1, Nat.le_trans hn.hi h2.size⟩
set_option maxRecDepth 100000 in
set_option maxHeartbeats 2000000 in
theorem implRun {S : Err → Addr} {B : Nat} {w : World} {sz : Nat} {a sa : Option Addr} {c sc : Nat} {ps : List (List UInt8)} {ss : List Stp} (f : Bool) (E : Env S B w) (T : TabsB B w) (h : PiecesA w a c ps) (hs : StepsA w sa sc ss) (hl : ps.flatten.length ≤ 20000) (hn : ps.length ≤ 500) (hsz : sz ≤ 5000) (hne : nones ps ≤ 50) (hok : StepsOk ss) (h64 : Steps64 ss) :
    Calls Tryd.prog 22 #[.agg #[.slice a ps.length c, .bool f], .int .i64 (sz : Int), .slice sa ss.length sc] w (Ret (RunSPost w (fresh0 (max sz 16) ps.flatten f) ss)) := by
  have K1 := Lib.hid (readerOf a c ps f ((w.alloc (.cells #[.slice a ps.length c, .bool f] 24))) (h.new ((Upd.refl _ _).alloc _)) (by omega) (by omega))
  have h2 := h.2.1
  unfold maxLen at h2
  have hs1 := hs.1
  have hs2 := hs.2.1
  unfold maxLen at hs2
  have HE := Lib.hid E
  have HT := Lib.hid T
  have HS := Lib.hid hs
  have HL := Lib.hid hl
  have HOK := Lib.hid hok
  have H64 := Lib.hid h64
  have hss := hok.1
  clear h E T hs hl hok h64
  go_enter Tryd.func22, Tryd.ntmps22
  go_wp2_with (first | (go_at_call 40; refine callRet K1.out ?_; intro v w1 h1; obtain ⟨hu1, s, rfl, hsrc⟩ := h1; have HU := Lib.hid hu1; clear hu1; have K2 := Lib.hid (newReaderSize (S := S) (sz := sz) hsrc (by have := HU.out.size; simpa using this) hsz hne); clear hsrc) | (go_at_call 39; refine callRet K2.out ?_; intro v w2 h2; obtain ⟨hu2, L, rfl, hlo, hhi, hrd⟩ := h2; have HU2 := Lib.hid (((Upd.refl (fun _ => False) w).alloc (.cells #[.slice a ps.length c, .bool f] 24)).andNew (HU.out.andNew hu2)); have HLO : Hid (w.heap.size ≤ L.lo) := (by rw [Hid, hlo]; simp); have HHI := Lib.hid hhi; have HRD := Lib.hid hrd; clear hu2 hlo hhi hrd))
  go_loopw [8, 18] (fun v i wr => ∃ (k : Nat) (st : RS) (A : AR) (zs : List Ans), i = .int .i64 (k : Int) ∧ k ≤ ss.length ∧ Abs st A ∧ A.left.length ≤ 20000 + 4 * k ∧ RunS L.hi L S w wr v zs st ∧ runRel (fresh0 (max sz 16) ps.flatten f) (ss.take k) zs A) (fun _ i _ => ss.length - (intOf i).toNat)
  case atStart => exact ⟨0, _, _, [], rfl, Nat.zero_le _, abs_fresh _ _ _, HL.out, ⟨HRD.out, HU2.out, OwnA.nil _ _ _, HHI.out⟩, rfl⟩
  case round =>
    obtain ⟨k, st, A, zs, rfl, hkn, hA, hAl, hR, hrun⟩ := hrel
    have HA := Lib.hid hA
    have HR := Lib.hid hR
    have HRUN := Lib.hid hrun
    have HZL : Hid (zs.length = k) := by rw [Hid, runRel_len hrun, List.length_take]; omega
    clear hA hR hrun
    by_cases hlt : k < ss.length
    · obtain ⟨b, o, rfl, hbs, e0, e1, e2⟩ := (HS.out.new HR.out.new).at hlt
      obtain ⟨s, hs⟩ : ∃ s, ss[k] = s := ⟨_, rfl⟩
      rw [hs] at e0 e1 e2
      have hsm : s ∈ ss := by rw [← hs]; exact List.getElem_mem _
      have htk : Hid (ss.take (k + 1) = ss.take k ++ [s]) := by rw [Hid, List.take_add_one, List.getElem?_eq_getElem hlt, hs]; rfl
      have hok := HOK.out.2 s hsm
      have h64 := H64.out s hsm
      have KS := Lib.hid (fun wx (hx : New wr wx) => step (HE.out.new (HR.out.new.andNew hx)) (HT.out.new (HR.out.new.andNew hx)) (Nat.le_trans HE.out.size HLO.out) (HR.out.rd.new hx) HA.out (Nat.le_trans HR.out.hi hx.size) (by omega) s hok.1 h64.2)
      clear hs hsm hok h64
      obtain ⟨ks, ns, d⟩ := s
      simp only at e0 e1 e2
      go_wp2_with (first | (go_at_call 41; refine callRet (KS.out _ ((Upd.refl _ _).alloc _)) ?_; intro v2 w2 h2; obtain ⟨st2, z, A2, hrel2, hrd2, habs2, hu2, cs, rfl, hz⟩ := h2; have HREL := Lib.hid hrel2; have HABS := Lib.hid habs2; have HR2 := Lib.hid ((HR.out.newB ((Upd.refl _ wr).alloc (.cells #[.int .i64 ks, .int .i64 ns, .int .u8 (d.toNat : Int)] 53))).reader HLO.out (Nat.le_refl _) hrd2 hu2); have HZ : Hid (AnsE w2 (fun k => L.hi ≤ k) cs z) := AnsE.mono hz (fun k hk => Nat.le_trans HR.out.hi (Nat.le_trans ((Upd.refl (fun _ => False) wr).alloc (.cells #[.int .i64 ks, .int .i64 ns, .int .u8 (d.toNat : Int)] 53)).size hk)); obtain ⟨bv, rfl, ab, cb, rfl, _⟩ := hz; obtain ⟨vs, hvl, hvo, hvp⟩ := HR2.out.zs; have HVL := Lib.hid hvl; have HVO := Lib.hid hvo; have HVP := Lib.hid hvp; clear hrel2 habs2 hrd2 hu2 hvl hvo hvp) | (at_builtin; refine wpList_plain rfl (fun K hK => ?_); refine wp_append eAns (.tmp 22) (.tmp 26) rfl L.hi _ _ _ rfl (ownsRow_new HVO.out ((Upd.refl _ _).alloc _)) (some ⟨w2.heap.size, 0, none⟩) 1 1 [.slice ab z.bytes.length cb, .int .i64 z.n, .int .i32 z.rune, .bool z.flag, .int .i64 (z.code : Int)] rfl rfl (fun h => by cases h) (box_newsL (xs := #[.slice ab z.bytes.length cb, .int .i64 z.n, .int .i32 z.rune, .bool z.flag, .int .i64 (z.code : Int)])) (by simp [Value.oneCell']) (by unfold maxLen; rw [HZL.out]; omega) (by rw [HZL.out]; omega) (Nat.le_trans HR2.out.hi ((Upd.refl (fun _ => False) _).alloc _).size) ?_; intro v4 w4 h1 h2 h3; have HR4 := Lib.hid (HR2.out.one HLO.out (Nat.le_refl _) ((Upd.refl _ _).alloc _) HVL.out HVO.out HVP.out HZ.out h1 h2); refine hK _ _ ?_; clear hK K h1 h2 h3))
      go_roundw
      case rel =>
        refine ⟨k + 1, st2, A2, zs ++ [z], by go_num, by omega, HABS.out, ?_, HR4.out, ?_⟩
        · have := stepRel_left HR.out.rd HA.out HREL.out; omega
        · rw [htk.out]; exact runRel_snoc HREL.out HRUN.out
      case measure => simp [intOf]; omega
    · obtain rfl : k = ss.length := by omega
      go_wp2_with fail
      go_ret
      rw [List.take_length] at HRUN
      obtain ⟨za, zc, hv, hz⟩ := HR.out.zs.read (P := fun k => L.hi ≤ k) (fun k hk => hk)
      have hz := hz.mono (P' := fun k => w.heap.size ≤ k) (fun k hk => by have := HLO.out; have := HR.out.rd.blo; have := HR.out.rd.bhi; have hk : L.hi ≤ k := hk; omega)
      exact ⟨HR.out.new, za, zc, zs, A, hv, hz, HRUN.out⟩
end Go.Proofs.YtmmjfpcmempeeaaDoor
