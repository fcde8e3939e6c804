-- Written by a program of this session (wip/tools)
import Derived.Test.YtielnphmcaecdaaDoorQRMMergeDefs
import Derived.Outline
import Derived.Deep.QuietTactic
import Derived.BigQuiet
import Derived.Deep.RegionWith
import Derived.Deep.RegionLaw
import Derived.Deep.RegionHeldLaw
import Derived.IntWalk
namespace Go.Proofs.YtielnphmcaecdaaDoor.PAll
open Go.IntWalk Go.RowKit Go.Proofs.YtielnphmcaecdaaDoorW.PrintWords Go.Proofs.YtielnphmcaecdaaDoorW.PrintLast Go.Proofs.YtielnphmcaecdaaDoorW.PrintMore
set_option linter.unusedVariables false
set_option linter.unusedSimpArgs false
theorem nil51 (W : World) (base g : Nat) (ok : Nat → Prop) (hg : g = W.heap.size) (hb : base ≤ g) (hok : ok g) : Kd.N k51 51 (W.alloc (Obj.cells #[] 51)) base ok (.slice (some ⟨g, 0, none⟩) 0 0) [] := by
  subst hg
  refine Kd.R_N (d := k51) ⟨fun k hk => ?_, [], ⟨rfl, .inr ⟨W.heap.size, 0, #[], rfl, hb, blk_new W _, Nat.le_refl _, by decide, rfl, rfl⟩⟩, Reps.none _ _⟩
  have : W.heap.size = k := by simpa [Value.ownBlock] using hk
  exact this ▸ hok
theorem oneF51 {W : World} {b : Nat} {okx : Nat → Prop} {v : S51} {An : Option Addr} {cn : Nat} (hb : W.heap[b]? = some (.cells #[.int .u64 v.f0.f0, .int .u64 v.f0.f1, .slice An v.f1.length cn] 51 (0, 0))) (hc : v.f1.length ≤ cn) (hx : Kd.F (Kd.int .u8) W okx An v.f1.length v.f1) : Kd.F k51 W (fun k => okx k ∨ k = b) (some ⟨b, 0, none⟩) 1 [v] := by
  intro W' hW
  have hlt : b < W.heap.size := by
    rcases Nat.lt_or_ge b W.heap.size with h | h
    · exact h
    · rw [Array.getElem?_eq_none h] at hb; cases hb
  have hb' := (hW b (.inr rfl) hlt).trans hb
  refine ⟨rfl, by decide, fun _ => ⟨_, rfl, fun j p hj => ?_⟩⟩
  have e : j = 0 := by have := (List.getElem?_eq_some_iff.1 hj).1; simp at this; exact this
  subst e
  have e2 : v = p := by simpa using hj
  subst e2
  refine ⟨[.int .u64 v.f0.f0, .int .u64 v.f0.f1, .slice An v.f1.length cn], rfl, k51_mk W' v hc (hx W' (fun k hk hl => hW k (.inl hk) hl)), fun i u hu => ?_⟩
  have h3 := (List.getElem?_eq_some_iff.1 hu).1
  rcases i with _ | _ | _ | i
  · have e3 : Value.int .u64 v.f0.f0 = u := by simpa using hu
    subst e3; exact blk_cell hb' 0
  · have e3 : Value.int .u64 v.f0.f1 = u := by simpa using hu
    subst e3; exact blk_cell hb' 1
  · have e3 : Value.slice An v.f1.length cn = u := by simpa using hu
    subst e3; exact blk_cell hb' 2
  · simp at h3; omega
theorem sz_drew (w : World) : w.drew.heap.size = w.heap.size := rfl
theorem sz_alloc (w : World) (o : Obj) : (w.alloc o).heap.size = w.heap.size + 1 := by simp
theorem box27 (W : World) (g : Nat) (hg : g = W.heap.size) (o : Obj) : (W.alloc o).heap[g]? = some o := by subst hg; exact blk_new W o
theorem i64_small {x : Int} (h0 : -9223372036854775808 ≤ x) (h1 : x ≤ 9223372036854775807) : IntKind.i64.wrap x = x := by
  simp [IntKind.wrap, IntKind.bits, IntKind.signed]; omega
theorem two51 (w : World) (o1 o2 : Obj) : ((w.alloc o1).alloc o2).drew.heap[w.heap.size]? = some o1 ∧ ((w.alloc o1).alloc o2).drew.heap[w.heap.size + 1]? = some o2 ∧ Below w.heap.size w ((w.alloc o1).alloc o2).drew := by
  refine ⟨blk_drew (blk_alloc (blk_new w o1) o2), ?_, below_drew (below_alloc (below_alloc (Below.refl _ _) _) _)⟩
  have h := blk_new (w.alloc o1) o2
  rw [sz_alloc] at h
  exact blk_drew h
theorem stop_of {s : List S51} {v : S51} {r : List S51 × S51 × List S51} {md rest : List S51} (hu : some (s, v, ([] : List S51)) = some (r.1, r.2.1, rest)) (hm : r.2.2 = md ++ rest) : r.1 = s ∧ r.2.1 = v ∧ r.2.2 = md := by
  have hu := Option.some.inj hu
  have h1 := congrArg Prod.fst hu
  have h2 := congrArg (fun p => p.2.1) hu
  have h3 : [] = rest := congrArg (fun p => p.2.2) hu
  exact ⟨h1.symm, h2.symm, by rw [hm, ← h3, List.append_nil]⟩
theorem text_F {W : World} {B : Nat} {ok : Nat → Prop} {A : Option Addr} {c : Nat} {y : List Int} (h : Kd.R (Kd.int .u8) 5 W B ok (.slice A y.length c) y) : y.length ≤ c ∧ Kd.F (Kd.int .u8) W (fun q => B ≤ q ∧ q < W.heap.size ∧ ∃ cells, W.heap[q]? = some (.cells cells 5 (0, 0))) A y.length y :=
  ⟨(Kd.R_reads' h).2.1, Kd.F_mono (Kd.R_F (Kd.R_tight rfl h)) (fun q e => ⟨Kd.R_base h q e.symm, Kd.R_lt h q e.symm, Kd.R_typed h q e.symm⟩)⟩
theorem ne_51 {W : World} {g q : Nat} {c1 : Array Value} (h1 : W.heap[g]? = some (.cells c1 51 (0, 0))) (h2 : ∃ cells, W.heap[q]? = some (.cells cells 5 (0, 0))) : q ≠ g := by
  rintro rfl
  obtain ⟨c2, h2⟩ := h2
  rw [h1] at h2
  injection h2 with h2
  injection h2 with _ h2 _
  exact absurd h2 (by decide)
set_option maxHeartbeats 8000000 in
set_option maxRecDepth 100000 in
theorem spec_pushed.calls (k : Nat) (a0 a1 a2 a3 a4 a5 : Int) (P : Nat → Prop) (A : Option Addr) (c : Nat) (l : List S51) (lv ix : Int) (An : Option Addr) (cn : Nat) (x : List Int) (r : List S51 × S51 × List S51) (w : World)
    (hl : Kd.V k51 51 w w.heap.size P (.slice A l.length c) l) (hxc : x.length ≤ cn) (hx : Kd.F (Kd.int .u8) w P An x.length x) (hlen : l.length < 1000000000)
    (h : pushUp (spec_HashChildren.f k a0 a1 a2 a3 a4 a5) l.reverse ⟨⟨lv, ix⟩, x⟩ = some r) :
    Calls Tryd.prog 57 #[.agg #[.int .i64 a0, .int .i64 a1, .int .i64 a2, .int .u64 a3, .int .u64 a4, .int .u64 a5], .slice A l.length c, .agg #[.int .u64 lv, .int .u64 ix, .slice An x.length cn]] w fun ex w' => ∃ v0 v1, ex = .returned (.tuple #[v0, v1]) ∧ Kd.N k51 51 w' w.heap.size (fun q => (P q ∨ w.heap.size ≤ q) ∧ some q ≠ v1.ownBlock) v0 (r.1.reverse ++ [r.2.1]) ∧ Kd.N k51 51 w' w.heap.size (fun q => (P q ∨ w.heap.size ≤ q) ∧ some q ≠ v0.ownBlock) v1 r.2.2 ∧ Below w.heap.size w w' := by
  have HXC := Aside0.mk hxc
  have HN := Aside0.mk hlen
  have HH := Aside0.mk h
  obtain ⟨P1, hP1⟩ : ∃ P1 : Nat → Prop, P1 = fun q => P q ∧ q < w.heap.size := ⟨_, rfl⟩
  have HP := Aside0.mk (show ∀ q, P1 q → P q ∧ q < w.heap.size from fun q h => by rw [hP1] at h; exact h)
  have HL := Aside0.mk (show Kd.V k51 51 w w.heap.size P1 (.slice A l.length c) l by rw [hP1]; exact Kd.V_bound hl)
  have HX := Aside0.mk (show Kd.F (Kd.int .u8) w P1 An x.length x by rw [hP1]; exact Kd.F_bound hx)
  clear hl hxc hx hlen h hP1
  go_enter Tryd.func57, Tryd.ntmps57
  go_wp2_with (first | ((with_reducible refine gate_dst (N := 3) rfl ?_); refine box_event ?hg (N := 3) ?hd (cs := #[.int .i64 a0, .int .i64 a1, .int .i64 a2, .int .u64 a3, .int .u64 a4, .int .u64 a5]) (t := 24) ?hr ?_; (case hd => rfl); (case hg => rfl); (case hr => first | (go_simp; done) | (go_simp; rfl)); intro gh hgh w1 hb1 HB1; have hgh2 := Aside0.mk (show w.heap.size ≤ gh by rw [hgh]; exact Nat.le_refl _); clear hgh) | ((with_reducible refine gate_dst (N := 5) rfl ?_); refine box_event ?hg (N := 5) ?hd (cs := #[.int .u64 lv, .int .u64 ix, .slice An x.length cn]) (t := 51) ?hr ?_; (case hd => rfl); (case hg => rfl); (case hr => first | (go_simp; done) | (go_simp; rfl)); intro gv hgv w2 hb2 HB2; have hgv2 := Aside0.mk (show w.heap.size ≤ gv by rw [hgv]; exact HB1.size); clear hgv) | fail)
  have BH := Aside0.mk (blk_below hb1 HB2)
  have BV := Aside0.mk hb2
  have HB := Aside0.mk (HB1.trans (HB2.mono HB1.size))
  have HGH := Aside0.mk (show w.heap.size ≤ gh ∧ w.heap.size ≤ gv ∧ gh < w2.heap.size ∧ gv < w2.heap.size from ⟨hgh2.out, hgv2.out, blk_lt BH.out, blk_lt hb2⟩)
  have HL2 := Aside0.mk (Kd.V_below HL.out HB.out)
  have HX2 := Aside0.mk (Kd.F_below HX.out HB.out)
  have z0 : w2.cell? ⟨gv, 0, none⟩ = some (.int .u64 lv) := blk_cell hb2 0
  have z1 : w2.cell? ⟨gv, 1, none⟩ = some (.int .u64 ix) := blk_cell hb2 1
  have z2 : w2.cell? ⟨gv, 2, none⟩ = some (.slice An x.length cn) := blk_cell hb2 2
  clear hb1 hb2 HB1 HB2 hgh2 hgv2 HL HX

  obtain ⟨ok, hok⟩ : ∃ ok : Nat → Prop, ok = fun q => P1 q ∨ w.heap.size ≤ q := ⟨_, rfl⟩
  have HOKN := Aside0.mk (show ∀ q, w.heap.size ≤ q → ok q from fun q h => by rw [hok]; exact .inr h)
  have HOKP := Aside0.mk (show ∀ q, P1 q → ok q from fun q h => by rw [hok]; exact .inl h)
  have HOKE := Aside0.mk (show ∀ q, ok q → P q ∨ w.heap.size ≤ q from fun q h => by rw [hok] at h; exact h.imp (fun h => (HP.out q h).1) id)
  have HSW := Aside0.mk (show w.heap.size ≤ w2.heap.size from HB.out.size)
  clear hok
  go_region_held_law (fun w' => w'.cell? ⟨gv, 0, none⟩ = some (.int .u64 lv) ∧ w'.cell? ⟨gv, 1, none⟩ = some (.int .u64 ix) ∧ w'.cell? ⟨gv, 2, none⟩ = some (.slice An x.length cn)) (first | exact ⟨v0_, v1_, v2_⟩ | exact ⟨z0, z1, z2⟩ | go_keep) (first
    | (refine Kd.N_append_rows_step k51 (w0 := w2) w.heap.size ?hw (.tmp 12) (.tmp 13) 36 51 (.agg #[.int .u64 0, .int .u64 0, .slice none 0 0]) 40 rfl Tryd.underlying36 info51 rfl (by decide) (by decide) (.slice (some ⟨w2.heap.size, 0, none⟩) 0 0) ([] : List S51) l A l.length c ok P1 rfl rfl ?aO ?aR ?aK ?aF ?aB ?aS ?aL ?_
       (case hw => simp [Region.wanted])
       (case aO => exact Kd.N_drew (nil51 w2 _ _ ok rfl HSW.out (HOKN.out _ HSW.out)))
       (case aR => exact Kd.F_drew (Kd.F_alloc (Kd.V_F HL2.out) _))
       (case aK => exact fun q hq => ⟨HOKP.out q hq, fun e => by have h1 := (HP.out q hq).2; have h2 := HSW.out; have h3 : q = w2.heap.size := Option.some.inj e; omega⟩)
       (case aF => exact fun q hq => HOKN.out q (by have h2 := HSW.out; simp only [sz_drew, sz_alloc] at hq; omega))
       (case aB => exact (below_drew (below_alloc (Below.refl w2.heap.size w2) _)).mono HSW.out)
       (case aS => have h2 := HSW.out; simp only [sz_drew, sz_alloc]; omega)
       (case aL => have := HN.out; simp only [List.length_nil]; omega)
       intro v5 w5 hN1 hB1 hg1 hat1
       have BX := Aside0.mk (blk_grown (blk_drew (blk_alloc BV.out _)) hg1 (fun e => by have h3 : gv = w2.heap.size := Option.some.inj e; have := HGH.out; omega))
       have BHX := Aside0.mk (blk_grown (blk_drew (blk_alloc BH.out _)) hg1 (fun e => by have h3 : gh = w2.heap.size := Option.some.inj e; have := HGH.out; omega))
       have HGV := Aside0.mk (show ∀ q, v5.ownBlock = some q → w2.heap.size ≤ q from fun q hq => by
         rcases hat1 with h | ⟨b, h, hb⟩
         · rw [h] at hq; have h3 : w2.heap.size = q := Option.some.inj hq; omega
         · rw [h] at hq; have := Option.some.inj hq; simp only [sz_drew, sz_alloc] at hb; omega)
       have HV5 := Aside0.mk hN1
       have HBn := Aside0.mk hB1
       have HSZ := Aside0.mk (show w.heap.size ≤ w5.heap.size from Nat.le_trans HSW.out hB1.size)
       have v0_ : w5.cell? ⟨gv, 0, none⟩ = some (.int .u64 lv) := blk_cell BX.out 0
       have v1_ : w5.cell? ⟨gv, 1, none⟩ = some (.int .u64 ix) := blk_cell BX.out 1
       have v2_ : w5.cell? ⟨gv, 2, none⟩ = some (.slice An x.length cn) := blk_cell BX.out 2
       clear hN1 hB1 hg1 hat1)
    | (refine Kd.N_append_rows_step k51 (w0 := w2) w.heap.size ?hw (.tmp 12) (.tmp 13) 36 51 (.agg #[.int .u64 0, .int .u64 0, .slice none 0 0]) 40 rfl Tryd.underlying36 info51 rfl (by decide) (by decide) (.slice (some ⟨w2.heap.size, 0, none⟩) 0 0) ([] : List S51) l A l.length c ok P1 rfl rfl ?aO ?aR ?aK ?aF ?aB ?aS ?aL ?_
       (case hw => simp [Region.wanted])
       (case aO => exact Kd.N_drew (Kd.N_alloc (nil51 w2 _ _ ok rfl HSW.out (HOKN.out _ HSW.out)) _))
       (case aR => exact Kd.F_drew (Kd.F_alloc (Kd.F_alloc (Kd.V_F HL2.out) _) _))
       (case aK => exact fun q hq => ⟨HOKP.out q hq, fun e => by have h1 := (HP.out q hq).2; have h2 := HSW.out; have h3 : q = w2.heap.size := Option.some.inj e; omega⟩)
       (case aF => exact fun q hq => HOKN.out q (by have h2 := HSW.out; simp only [sz_drew, sz_alloc] at hq; omega))
       (case aB => exact (below_drew (below_alloc (below_alloc (Below.refl w2.heap.size w2) _) _)).mono HSW.out)
       (case aS => have h2 := HSW.out; simp only [sz_drew, sz_alloc]; omega)
       (case aL => have := HN.out; simp only [List.length_nil]; omega)
       intro v5 w5 hN1 hB1 hg1 hat1
       have BOX := Aside0.mk (blk_grown (blk_drew (box27 (w2.alloc _) (w2.heap.size + 1) (by simp only [sz_alloc]) (.cells #[.int .u64 lv, .int .u64 ix, .slice An x.length cn] 51))) hg1 (by simp [Value.ownBlock]))
       have HNE := Aside0.mk (show ∀ q, v5.ownBlock = some q → q ≠ w2.heap.size + 1 from fun q hq => by
         rcases hat1 with h | ⟨b, h, hb⟩
         · rw [h] at hq; have h3 : w2.heap.size = q := Option.some.inj hq; omega
         · rw [h] at hq; have := Option.some.inj hq; simp only [sz_drew, sz_alloc] at hb; omega)
       have BX := Aside0.mk (blk_grown (blk_drew (blk_alloc (blk_alloc BV.out _) _)) hg1 (fun e => by have h3 : gv = w2.heap.size := Option.some.inj e; have := HGH.out; omega))
       have BHX := Aside0.mk (blk_grown (blk_drew (blk_alloc (blk_alloc BH.out _) _)) hg1 (fun e => by have h3 : gh = w2.heap.size := Option.some.inj e; have := HGH.out; omega))
       have HGV := Aside0.mk (show ∀ q, v5.ownBlock = some q → w2.heap.size ≤ q from fun q hq => by
         rcases hat1 with h | ⟨b, h, hb⟩
         · rw [h] at hq; have h3 : w2.heap.size = q := Option.some.inj hq; omega
         · rw [h] at hq; have := Option.some.inj hq; simp only [sz_drew, sz_alloc] at hb; omega)
       have HV5 := Aside0.mk hN1
       have HBn := Aside0.mk hB1
       have HSZ := Aside0.mk (show w.heap.size ≤ w5.heap.size from Nat.le_trans HSW.out hB1.size)
       have v0_ : w5.cell? ⟨gv, 0, none⟩ = some (.int .u64 lv) := blk_cell BX.out 0
       have v1_ : w5.cell? ⟨gv, 1, none⟩ = some (.int .u64 ix) := blk_cell BX.out 1
       have v2_ : w5.cell? ⟨gv, 2, none⟩ = some (.slice An x.length cn) := blk_cell BX.out 2
       clear hN1 hB1 hg1 hat1)
    | (refine Kd.N_append_rows_step k51 (w0 := w2) w.heap.size ?hw (.tmp 12) (.tmp 13) 36 51 (.agg #[.int .u64 0, .int .u64 0, .slice none 0 0]) 40 rfl Tryd.underlying36 info51 rfl (by decide) (by decide) (.slice (some ⟨w2.heap.size + 1, 0, none⟩) 0 0) ([] : List S51) l A l.length c ok P1 rfl rfl ?aO ?aR ?aK ?aF ?aB ?aS ?aL ?_
       (case hw => simp [Region.wanted])
       (case aO => exact Kd.N_drew (nil51 (w2.alloc _) _ _ ok (by simp only [sz_alloc]) (by have := HSW.out; omega) (HOKN.out _ (by have := HSW.out; omega))))
       (case aR => exact Kd.F_drew (Kd.F_alloc (Kd.F_alloc (Kd.V_F HL2.out) _) _))
       (case aK => exact fun q hq => ⟨HOKP.out q hq, fun e => by have h1 := (HP.out q hq).2; have h2 := HSW.out; have h3 : q = w2.heap.size + 1 := Option.some.inj e; omega⟩)
       (case aF => exact fun q hq => HOKN.out q (by have h2 := HSW.out; simp only [sz_drew, sz_alloc] at hq; omega))
       (case aB => exact (below_drew (below_alloc (below_alloc (Below.refl w2.heap.size w2) _) _)).mono HSW.out)
       (case aS => have h2 := HSW.out; simp only [sz_drew, sz_alloc]; omega)
       (case aL => have := HN.out; simp only [List.length_nil]; omega)
       intro v5 w5 hN1 hB1 hg1 hat1
       have BOX := Aside0.mk (blk_grown (blk_drew (blk_alloc (box27 w2 w2.heap.size rfl (.cells #[.int .u64 lv, .int .u64 ix, .slice An x.length cn] 51)) _)) hg1 (by simp [Value.ownBlock]))
       have HNE := Aside0.mk (show ∀ q, v5.ownBlock = some q → q ≠ w2.heap.size from fun q hq => by
         rcases hat1 with h | ⟨b, h, hb⟩
         · rw [h] at hq; have h3 : w2.heap.size + 1 = q := Option.some.inj hq; omega
         · rw [h] at hq; have := Option.some.inj hq; simp only [sz_drew, sz_alloc] at hb; omega)
       have BX := Aside0.mk (blk_grown (blk_drew (blk_alloc (blk_alloc BV.out _) _)) hg1 (fun e => by have h3 : gv = w2.heap.size + 1 := Option.some.inj e; have := HGH.out; omega))
       have BHX := Aside0.mk (blk_grown (blk_drew (blk_alloc (blk_alloc BH.out _) _)) hg1 (fun e => by have h3 : gh = w2.heap.size + 1 := Option.some.inj e; have := HGH.out; omega))
       have HGV := Aside0.mk (show ∀ q, v5.ownBlock = some q → w2.heap.size ≤ q from fun q hq => by
         rcases hat1 with h | ⟨b, h, hb⟩
         · rw [h] at hq; have h3 : w2.heap.size + 1 = q := Option.some.inj hq; omega
         · rw [h] at hq; have := Option.some.inj hq; simp only [sz_drew, sz_alloc] at hb; omega)
       have HV5 := Aside0.mk hN1
       have HBn := Aside0.mk hB1
       have HSZ := Aside0.mk (show w.heap.size ≤ w5.heap.size from Nat.le_trans HSW.out hB1.size)
       have v0_ : w5.cell? ⟨gv, 0, none⟩ = some (.int .u64 lv) := blk_cell BX.out 0
       have v1_ : w5.cell? ⟨gv, 1, none⟩ = some (.int .u64 ix) := blk_cell BX.out 1
       have v2_ : w5.cell? ⟨gv, 2, none⟩ = some (.slice An x.length cn) := blk_cell BX.out 2
       clear hN1 hB1 hg1 hat1)
    | (refine Kd.N_append_rows_step k51 (w0 := w2) w.heap.size ?hw (.tmp 14) (.tmp 16) 36 51 (.agg #[.int .u64 0, .int .u64 0, .slice none 0 0]) 40 rfl Tryd.underlying36 info51 rfl (by decide) (by decide) v5 ([] ++ l) [⟨⟨lv, ix⟩, x⟩] (some ⟨w2.heap.size, 0, none⟩) 1 1 ok (fun q => P1 q ∨ q = w2.heap.size) rfl rfl ?aO ?aR ?aK ?aF ?aB ?aS ?aL ?_
       (case hw => simp [Region.wanted])
       (case aO => exact HV5.out)
       (case aR => exact oneF51 (v := ⟨⟨lv, ix⟩, x⟩) BOX.out HXC.out (Kd.F_step HX2.out (fun q hq _ => HBn.out.block q (HP.out q hq).2)))
       (case aK => exact fun q hq => hq.elim (fun hq => ⟨HOKP.out q hq, fun e => by have h1 := (HP.out q hq).2; have h2 := Kd.N_base HV5.out q e.symm; omega⟩) (fun hq => ⟨HOKN.out q (by rw [hq]; have := HSW.out; have := HSZ.out; omega), fun e => by exact HNE.out q e.symm hq⟩))
       (case aF => exact fun q hq => HOKN.out q (by have h2 := HSZ.out; (try simp only [sz_drew, sz_alloc] at hq); omega))
       (case aB => exact HBn.out)
       (case aS => have h2 := HSZ.out; (try simp only [sz_drew, sz_alloc]); omega)
       (case aL => have := HN.out; simp only [List.nil_append]; omega)
       intro v6 w6 hN2 hB2 hg2 hat2
       have BHX := Aside0.mk (blk_grown (BHX.out) hg2 (fun e => by have h3 := Kd.N_ne HV5.out BHX.out (by decide); exact h3 e))
       have BX := Aside0.mk (blk_grown (BX.out) hg2 (fun e => by have h3 := HGV.out gv e.symm; have := HGH.out; omega))
       have v0_ : w6.cell? ⟨gv, 0, none⟩ = some (.int .u64 lv) := blk_cell BX.out 0
       have v1_ : w6.cell? ⟨gv, 1, none⟩ = some (.int .u64 ix) := blk_cell BX.out 1
       have v2_ : w6.cell? ⟨gv, 2, none⟩ = some (.slice An x.length cn) := blk_cell BX.out 2
       have HV6 := Aside0.mk hN2
       have HBn := Aside0.mk hB2
       clear hN2 hB2 hg2 hat2)
    | (refine Kd.N_append_rows_step k51 (w0 := w2) w.heap.size ?hw (.tmp 14) (.tmp 16) 36 51 (.agg #[.int .u64 0, .int .u64 0, .slice none 0 0]) 40 rfl Tryd.underlying36 info51 rfl (by decide) (by decide) v5 ([] ++ l) [⟨⟨lv, ix⟩, x⟩] (some ⟨w2.heap.size + 1, 0, none⟩) 1 1 ok (fun q => P1 q ∨ q = w2.heap.size + 1) rfl rfl ?aO ?aR ?aK ?aF ?aB ?aS ?aL ?_
       (case hw => simp [Region.wanted])
       (case aO => exact HV5.out)
       (case aR => exact oneF51 (v := ⟨⟨lv, ix⟩, x⟩) BOX.out HXC.out (Kd.F_step HX2.out (fun q hq _ => HBn.out.block q (HP.out q hq).2)))
       (case aK => exact fun q hq => hq.elim (fun hq => ⟨HOKP.out q hq, fun e => by have h1 := (HP.out q hq).2; have h2 := Kd.N_base HV5.out q e.symm; omega⟩) (fun hq => ⟨HOKN.out q (by rw [hq]; have := HSW.out; have := HSZ.out; omega), fun e => by exact HNE.out q e.symm hq⟩))
       (case aF => exact fun q hq => HOKN.out q (by have h2 := HSZ.out; (try simp only [sz_drew, sz_alloc] at hq); omega))
       (case aB => exact HBn.out)
       (case aS => have h2 := HSZ.out; (try simp only [sz_drew, sz_alloc]); omega)
       (case aL => have := HN.out; simp only [List.nil_append]; omega)
       intro v6 w6 hN2 hB2 hg2 hat2
       have BHX := Aside0.mk (blk_grown (BHX.out) hg2 (fun e => by have h3 := Kd.N_ne HV5.out BHX.out (by decide); exact h3 e))
       have BX := Aside0.mk (blk_grown (BX.out) hg2 (fun e => by have h3 := HGV.out gv e.symm; have := HGH.out; omega))
       have v0_ : w6.cell? ⟨gv, 0, none⟩ = some (.int .u64 lv) := blk_cell BX.out 0
       have v1_ : w6.cell? ⟨gv, 1, none⟩ = some (.int .u64 ix) := blk_cell BX.out 1
       have v2_ : w6.cell? ⟨gv, 2, none⟩ = some (.slice An x.length cn) := blk_cell BX.out 2
       have HV6 := Aside0.mk hN2
       have HBn := Aside0.mk hB2
       clear hN2 hB2 hg2 hat2)
    | (refine Kd.N_append_rows_step k51 (w0 := w2) w.heap.size ?hw (.tmp 14) (.tmp 16) 36 51 (.agg #[.int .u64 0, .int .u64 0, .slice none 0 0]) 40 rfl Tryd.underlying36 info51 rfl (by decide) (by decide) v5 ([] ++ l) [⟨⟨lv, ix⟩, x⟩] (some ⟨w5.heap.size, 0, none⟩) 1 1 ok (fun q => P1 q ∨ q = w5.heap.size) rfl rfl ?aO ?aR ?aK ?aF ?aB ?aS ?aL ?_
       (case hw => simp [Region.wanted])
       (case aO => exact Kd.N_alloc HV5.out _)
       (case aR => exact oneF51 (v := ⟨⟨lv, ix⟩, x⟩) (box27 w5 _ rfl _) HXC.out (Kd.F_alloc (Kd.F_step HX2.out (fun q hq _ => HBn.out.block q (HP.out q hq).2)) _))
       (case aK => exact fun q hq => hq.elim (fun hq => ⟨HOKP.out q hq, fun e => by have h1 := (HP.out q hq).2; have h2 := Kd.N_base HV5.out q e.symm; omega⟩) (fun hq => ⟨HOKN.out q (by rw [hq]; have := HSW.out; have := HSZ.out; omega), fun e => by have := Kd.N_lt HV5.out q e.symm; omega⟩))
       (case aF => exact fun q hq => HOKN.out q (by have h2 := HSZ.out; (try simp only [sz_drew, sz_alloc] at hq); omega))
       (case aB => exact HBn.out.alloc HSZ.out _)
       (case aS => have h2 := HSZ.out; (try simp only [sz_drew, sz_alloc]); omega)
       (case aL => have := HN.out; simp only [List.nil_append]; omega)
       intro v6 w6 hN2 hB2 hg2 hat2
       have BHX := Aside0.mk (blk_grown (blk_alloc BHX.out _) hg2 (fun e => by have h3 := Kd.N_ne HV5.out BHX.out (by decide); exact h3 e))
       have BX := Aside0.mk (blk_grown (blk_alloc BX.out _) hg2 (fun e => by have h3 := HGV.out gv e.symm; have := HGH.out; omega))
       have v0_ : w6.cell? ⟨gv, 0, none⟩ = some (.int .u64 lv) := blk_cell BX.out 0
       have v1_ : w6.cell? ⟨gv, 1, none⟩ = some (.int .u64 ix) := blk_cell BX.out 1
       have v2_ : w6.cell? ⟨gv, 2, none⟩ = some (.slice An x.length cn) := blk_cell BX.out 2
       have HV6 := Aside0.mk hN2
       have HBn := Aside0.mk hB2
       clear hN2 hB2 hg2 hat2)
    | fail)
  all_goals
    clear v0_ v1_ v2_ z0 z1 z2 BX HV5 HGV HL2 HX2
    have hR := HV6.out
    obtain ⟨AS, cS, rfl⟩ := Kd.N_slice hR
    have HB6 := Aside0.mk (HB.out.trans HBn.out)
    clear hR HB HBn
    go_step
    simp [Act.put]
    go_wp2_with (fail)
    go_loopg [6, 7, 8] l.length (fun kq v6_ v7_ v8_ w' => ∃ (s : List S51) (v : S51) (md rest : List S51) (kk : Nat), v8_ = .int .i64 (kk : Int) ∧ Aside0 (kk = s.length + 1) ∧ Aside0 (s.length = kq) ∧ Aside0 (s.length + md.length ≤ l.length) ∧ Aside0 (pushUp (spec_HashChildren.f k a0 a1 a2 a3 a4 a5) s v = some (r.1, r.2.1, rest)) ∧ Aside0 (r.2.2 = md ++ rest) ∧ Aside0 (Kd.N k51 51 w' w.heap.size (fun q => ok q ∧ some q ≠ v7_.ownBlock) v6_ (s.reverse ++ [v])) ∧ Aside0 (Kd.N k51 51 w' w.heap.size (fun q => ok q ∧ some q ≠ v6_.ownBlock) v7_ md) ∧ Aside0 (w'.heap[gh]? = some (.cells #[.int .i64 a0, .int .i64 a1, .int .i64 a2, .int .u64 a3, .int .u64 a4, .int .u64 a5] 24 (0, 0))) ∧ Aside0 (Below w.heap.size w w'))
    case atStart =>
      refine ⟨l.reverse, ⟨⟨lv, ix⟩, x⟩, [], r.2.2, l.length + 1, ?_, ⟨by simp⟩, ⟨by simp⟩, ⟨by simp⟩, ⟨HH.out⟩, ⟨rfl⟩, ⟨?_⟩, ⟨Kd.N_nil _ _ _ _ _⟩, BHX, HB6⟩
      · first | rfl | simp
      · refine Kd.N_mono (ok := ok) ?_ (fun q hq => ⟨hq, by simp [Value.ownBlock]⟩)
        have h := HV6.out
        simpa using h
    case round =>
      clear HV6 HB6 BHX HH
      obtain ⟨s, v, md, rest, kk, rfl, HK, HI, HLL, HU, HM, HA, HMD, BHX, HB6⟩ := hrel
      obtain ⟨AM, cM, rfl⟩ := Kd.N_slice HMD.out
      cases s with
      | nil =>
        have hk1 : kk = 1 := HK.out
        subst hk1
        have d1 : decide ((1 : Int) > 1) = false := by decide
        have hu := HU.out
        rw [pushUp] at hu
        have hu := Option.some.inj hu
        have HR := Aside0.mk (show r.1 = [] ∧ r.2.1 = v ∧ r.2.2 = md from by
          have h1 := congrArg Prod.fst hu
          have h2 := congrArg (fun p => p.2.1) hu
          have h3 := congrArg (fun p => p.2.2) hu
          exact ⟨h1.symm, h2.symm, by rw [HM.out]; have h3 : [] = rest := h3; rw [← h3, List.append_nil]⟩)
        clear hu HU
        go_wp2_with (fail)
        go_ret2
        refine ⟨_, _, rfl, ?_, ?_, HB6.out⟩
        · rw [HR.out.1, HR.out.2.1]
          exact Kd.N_mono HA.out (fun q hq => ⟨HOKE.out q hq.1, hq.2⟩)
        · rw [HR.out.2.2]
          exact Kd.N_mono HMD.out (fun q hq => ⟨HOKE.out q hq.1, hq.2⟩)
      | cons a s =>
        obtain ⟨k1, rfl⟩ : ∃ k1, gk = k1 + 1 := ⟨s.length, by have := HI.out; rw [List.length_cons] at this; omega⟩
        obtain ⟨n, hn⟩ : ∃ n, n = s.length := ⟨_, rfl⟩
        have hkk : kk = n + 2 := by have := HK.out; rw [List.length_cons] at this; omega
        obtain ⟨m, hm⟩ : ∃ m, m = n + 1 := ⟨_, rfl⟩
        have hnl : n < 1000000000 := by have h1 := HLL.out; have h2 := HN.out; rw [List.length_cons] at h1; omega
        have HNN := Aside0.mk (show n = s.length ∧ m = n + 1 ∧ kk = n + 2 ∧ n < 1000000000 from ⟨hn, hm, hkk, hnl⟩)
        have hlen : ((a :: s).reverse ++ [v]).length = kk := by simp; omega
        have hA := HA.out
        obtain ⟨g, cg, rfl, hg1, hg2, hg3⟩ := Kd.N_form hA (by rw [hlen]; omega)
        rw [hlen] at hA
        have hga : ((a :: s).reverse ++ [v]).getD n (⟨⟨0, 0⟩, []⟩ : S51) = a := by
          rw [List.reverse_cons, List.append_assoc, List.getD_eq_getElem?_getD, List.getElem?_append_right (by simp; omega), List.length_reverse, hn, Nat.sub_self]; rfl
        have hgb : ((a :: s).reverse ++ [v]).getD m (⟨⟨0, 0⟩, []⟩ : S51) = v := by
          rw [List.reverse_cons, List.append_assoc, List.getD_eq_getElem?_getD, List.getElem?_append_right (by simp; omega), List.length_reverse, hm, hn, Nat.add_sub_cancel_left]; rfl
        obtain ⟨ca, _, fa, cella, _⟩ := Kd.N_elem hA (⟨⟨0, 0⟩, []⟩ : S51) (n : Int) (by omega) (by omega)
        obtain ⟨cb, _, fb, cellb, _⟩ := Kd.N_elem hA (⟨⟨0, 0⟩, []⟩ : S51) (m : Int) (by omega) (by omega)
        rw [Int.toNat_natCast] at fa cella fb cellb
        rw [hga] at fa
        rw [hgb] at fb
        obtain ⟨Aa, na, rfl, la, fa⟩ := k51_openF fa
        obtain ⟨Ab, nb, rfl, lb, fb⟩ := k51_openF fb
        have ya0 : wr.cell? ⟨g, n * 3, none⟩ = some (.int .u64 a.f0.f0) := cella 0 _ rfl
        have ya1 : wr.cell? ⟨g, n * 3 + 1, none⟩ = some (.int .u64 a.f0.f1) := cella 1 _ rfl
        have ya2 : wr.cell? ⟨g, n * 3 + 2, none⟩ = some (.slice Aa a.f1.length na) := cella 2 _ rfl
        have yb0 : wr.cell? ⟨g, m * 3, none⟩ = some (.int .u64 v.f0.f0) := cellb 0 _ rfl
        have yb1 : wr.cell? ⟨g, m * 3 + 1, none⟩ = some (.int .u64 v.f0.f1) := cellb 1 _ rfl
        have yb2 : wr.cell? ⟨g, m * 3 + 2, none⟩ = some (.slice Ab v.f1.length nb) := cellb 2 _ rfl
        have w1 : wrap64 ((kk : Int) - 2) = (n : Int) := by unfold wrap64; omega
        have w2 : wrap64 ((kk : Int) - 1) = (m : Int) := by unfold wrap64; omega
        have w3 : IntKind.i64.wrap ((kk : Int) - 2) = (n : Int) := (i64_small (by omega) (by omega)).trans (by omega)
        have w4 : IntKind.i64.wrap ((kk : Int) - 1) = (m : Int) := (i64_small (by omega) (by omega)).trans (by omega)
        have d0 : decide ((1 : Int) < (kk : Int)) = true := decide_eq_true (by omega)
        have d0' : decide (1 < kk) = true := decide_eq_true (by omega)
        have i1 : (n : Int) < (kk : Int) := by omega
        have i2 : (m : Int) < (kk : Int) := by omega
        have i3 : decide ((n : Int) < (kk : Int)) = true := decide_eq_true i1
        have i4 : decide ((m : Int) < (kk : Int)) = true := decide_eq_true i2
        have i5 : n < kk := by omega
        have i6 : m < kk := by omega
        have i7 : decide (n < kk) = true := decide_eq_true i5
        have i8 : decide (m < kk) = true := decide_eq_true i6
        have i9 : 0 ≤ (n : Int) := by omega
        have i10 : 0 ≤ (m : Int) := by omega
        have FA := Aside0.mk fa
        have FB := Aside0.mk fb
        have LA := Aside0.mk la
        have LB := Aside0.mk lb
        rw [hlen] at HA ⊢
        clear fa fb la lb hn hm hkk hA hlen cella cellb hga hgb
        go_wp2_with (fail)
        have q0 := World.new_ne wr _ ya0
        have q1 := World.new_ne wr _ ya1
        have q2 := World.new_ne wr _ ya2
        have q3 := World.new_ne wr _ yb0
        have q4 := World.new_ne wr _ yb1
        have q5 := World.new_ne wr _ yb2
        go_region_held_law (fun w' => w'.cell? ⟨g, n * 3, none⟩ = some (.int .u64 a.f0.f0) ∧ w'.cell? ⟨g, n * 3 + 1, none⟩ = some (.int .u64 a.f0.f1) ∧ w'.cell? ⟨g, n * 3 + 2, none⟩ = some (.slice Aa a.f1.length na) ∧ w'.cell? ⟨g, m * 3, none⟩ = some (.int .u64 v.f0.f0) ∧ w'.cell? ⟨g, m * 3 + 1, none⟩ = some (.int .u64 v.f0.f1) ∧ w'.cell? ⟨g, m * 3 + 2, none⟩ = some (.slice Ab v.f1.length nb)) (go_keep) (fail)
        all_goals
          clear q0 q1 q2 q3 q4 q5 ya0 ya1 ya2 yb0 yb1 yb2 i1 i2 i3 i4 i5 i6 i7 i8 i9 i10 d0 d0' w1 w2 w3 w4
          first
          | (obtain ⟨e1, e2, e3⟩ := two51 wr (Obj.cells #[Value.int IntKind.u64 a.f0.f0, Value.int IntKind.u64 a.f0.f1, Value.slice Aa a.f1.length na] 51) (Obj.cells #[Value.int IntKind.u64 v.f0.f0, Value.int IntKind.u64 v.f0.f1, Value.slice Ab v.f1.length nb] 51)
             change Exit.then _ _ _ _ ((wr.alloc (Obj.cells #[Value.int IntKind.u64 a.f0.f0, Value.int IntKind.u64 a.f0.f1, Value.slice Aa a.f1.length na] 51)).alloc (Obj.cells #[Value.int IntKind.u64 v.f0.f0, Value.int IntKind.u64 v.f0.f1, Value.slice Ab v.f1.length nb] 51)).drew
             generalize ((wr.alloc (Obj.cells #[Value.int IntKind.u64 a.f0.f0, Value.int IntKind.u64 a.f0.f1, Value.slice Aa a.f1.length na] 51)).alloc (Obj.cells #[Value.int IntKind.u64 v.f0.f0, Value.int IntKind.u64 v.f0.f1, Value.slice Ab v.f1.length nb] 51)).drew = W5 at e1 e2 e3 ⊢
             have HA5 := Aside0.mk (Kd.N_below HA.out e3)
             have HMD5 := Aside0.mk (Kd.N_below HMD.out e3)
             have FA5 := Aside0.mk (Kd.F_below FA.out e3)
             have FB5 := Aside0.mk (Kd.F_below FB.out e3)
             have BHX5 := Aside0.mk (blk_below BHX.out e3)
             have HB5 := Aside0.mk (below_step HB6.out e3)
             clear e3
             generalize wr.heap.size + 1 = gb at e2 ⊢
             generalize wr.heap.size = ga at e1 ⊢
             have BA := Aside0.mk e1
             have BB := Aside0.mk e2
             clear e1 e2)
          | (obtain ⟨e1, e2, e3⟩ := two51 wr (Obj.cells #[Value.int IntKind.u64 v.f0.f0, Value.int IntKind.u64 v.f0.f1, Value.slice Ab v.f1.length nb] 51) (Obj.cells #[Value.int IntKind.u64 a.f0.f0, Value.int IntKind.u64 a.f0.f1, Value.slice Aa a.f1.length na] 51)
             generalize ((wr.alloc (Obj.cells #[Value.int IntKind.u64 v.f0.f0, Value.int IntKind.u64 v.f0.f1, Value.slice Ab v.f1.length nb] 51)).alloc (Obj.cells #[Value.int IntKind.u64 a.f0.f0, Value.int IntKind.u64 a.f0.f1, Value.slice Aa a.f1.length na] 51)).drew = W5 at e1 e2 e3 ⊢
             have HA5 := Aside0.mk (Kd.N_below HA.out e3)
             have HMD5 := Aside0.mk (Kd.N_below HMD.out e3)
             have FA5 := Aside0.mk (Kd.F_below FA.out e3)
             have FB5 := Aside0.mk (Kd.F_below FB.out e3)
             have BHX5 := Aside0.mk (blk_below BHX.out e3)
             have HB5 := Aside0.mk (below_step HB6.out e3)
             clear e3
             generalize wr.heap.size + 1 = ga at e2 ⊢
             generalize wr.heap.size = gb at e1 ⊢
             have BA := Aside0.mk e2
             have BB := Aside0.mk e1
             clear e1 e2)
          clear HA HMD FA FB BHX HB6
          have ya0 : W5.cell? ⟨ga, 0, none⟩ = some (.int .u64 a.f0.f0) := blk_cell BA.out 0
          have ya1 : W5.cell? ⟨ga, 1, none⟩ = some (.int .u64 a.f0.f1) := blk_cell BA.out 1
          have ya2 : W5.cell? ⟨ga, 2, none⟩ = some (.slice Aa a.f1.length na) := blk_cell BA.out 2
          have yb0 : W5.cell? ⟨gb, 0, none⟩ = some (.int .u64 v.f0.f0) := blk_cell BB.out 0
          have yb1 : W5.cell? ⟨gb, 1, none⟩ = some (.int .u64 v.f0.f1) := blk_cell BB.out 1
          have yb2 : W5.cell? ⟨gb, 2, none⟩ = some (.slice Ab v.f1.length nb) := blk_cell BB.out 2
          go_wp2_with (fail)
          · have hu := HU.out
            rw [pushUp, if_neg (by rintro ⟨_, h2⟩; exact (bne_iff_ne.mp (by assumption : (a.f0.f1.tmod 2 != 0) = true)) h2)] at hu
            have HR := Aside0.mk (stop_of hu HM.out)
            clear hu HU
            go_ret2
            refine ⟨_, _, rfl, ?_, ?_, HB5.out⟩
            · rw [HR.out.1, HR.out.2.1]
              exact Kd.N_mono HA5.out (fun q hq => ⟨HOKE.out q hq.1, hq.2⟩)
            · rw [HR.out.2.2]
              exact Kd.N_mono HMD5.out (fun q hq => ⟨HOKE.out q hq.1, hq.2⟩)
          · have e0 : a.f0.f0 = v.f0.f0 := by assumption
            have hu := HU.out
            have e1 : a.f0.f1.tmod 2 = 0 := by
              have h3 : (a.f0.f1.tmod 2 != 0) = false := by assumption
              simpa using h3
            rw [pushUp, if_pos ⟨e0, e1⟩] at hu
            obtain ⟨y, hy, hu⟩ := Option.bind_eq_some_iff.mp hu
            obtain ⟨q9, hq9, hu⟩ := Option.bind_eq_some_iff.mp hu
            have HY := Aside0.mk (show spec_HashChildren.f k a0 a1 a2 a3 a4 a5 a.f1 v.f1 = some y from hy)
            have HU9 := Aside0.mk (show pushUp (spec_HashChildren.f k a0 a1 a2 a3 a4 a5) s (upOf a y) = some (r.1, r.2.1, q9.2.2) ∧ rest = upOf a y :: q9.2.2 from by
              have hu := Option.some.inj hu
              have h1 := congrArg Prod.fst hu
              have h2 := congrArg (fun p => p.2.1) hu
              have h3 : upOf a y :: q9.2.2 = rest := congrArg (fun p => p.2.2) hu
              refine ⟨?_, h3.symm⟩
              rw [hq9, ← show q9.1 = r.1 from h1, ← show q9.2.1 = r.2.1 from h2])
            have E0 := Aside0.mk e0
            replace ya0 : W5.cell? ⟨ga, 0, none⟩ = some (.int .u64 v.f0.f0) := by rw [← e0]; exact ya0
            have ye0 : W5.cell? ⟨gh, 0, none⟩ = some (.int .i64 a0) := blk_cell BHX5.out 0
            have ye1 : W5.cell? ⟨gh, 1, none⟩ = some (.int .i64 a1) := blk_cell BHX5.out 1
            have ye2 : W5.cell? ⟨gh, 2, none⟩ = some (.int .i64 a2) := blk_cell BHX5.out 2
            have ye3 : W5.cell? ⟨gh, 3, none⟩ = some (.int .u64 a3) := blk_cell BHX5.out 3
            have ye4 : W5.cell? ⟨gh, 4, none⟩ = some (.int .u64 a4) := blk_cell BHX5.out 4
            have ye5 : W5.cell? ⟨gh, 5, none⟩ = some (.int .u64 a5) := blk_cell BHX5.out 5
            have q0 := World.new_ne W5 _ ya0
            have q1 := World.new_ne W5 _ ya1
            have q2 := World.new_ne W5 _ ya2
            have q3 := World.new_ne W5 _ yb2
            have q4 := World.new_ne W5 _ ye0
            have BA7 := Aside0.mk (show W5.heap[ga]? = some (.cells #[.int .u64 v.f0.f0, .int .u64 a.f0.f1, .slice Aa a.f1.length na] 51 (0, 0)) by rw [← e0]; exact BA.out)
            have HSZ5 := Aside0.mk (show w.heap.size ≤ W5.heap.size from HB5.out.size)
            clear hu hy hq9 HU e0 BA yb0 yb1
            go_region_held_law (fun w' => w'.cell? ⟨ga, 0, none⟩ = some (.int .u64 v.f0.f0) ∧ w'.cell? ⟨ga, 1, none⟩ = some (.int .u64 a.f0.f1) ∧ w'.cell? ⟨ga, 2, none⟩ = some (.slice Aa a.f1.length na) ∧ w'.cell? ⟨gb, 2, none⟩ = some (.slice Ab v.f1.length nb) ∧ w'.cell? ⟨gh, 0, none⟩ = some (.int .i64 a0) ∧ w'.cell? ⟨gh, 1, none⟩ = some (.int .i64 a1) ∧ w'.cell? ⟨gh, 2, none⟩ = some (.int .i64 a2) ∧ w'.cell? ⟨gh, 3, none⟩ = some (.int .u64 a3) ∧ w'.cell? ⟨gh, 4, none⟩ = some (.int .u64 a4) ∧ w'.cell? ⟨gh, 5, none⟩ = some (.int .u64 a5)) (first | exact ⟨z0_, z1_, z2_, z3_, z4_, z5_, z6_, z7_, z8_, z9_⟩ | exact ⟨ya0, ya1, ya2, yb2, ye0, ye1, ye2, ye3, ye4, ye5⟩ | go_keep) (first
              | (go_simp; go_at_call 49
                 have hbd : Below W5.heap.size W5 W5.drew := below_drew (Below.refl _ _)
                 refine (spec_HashChildren.calls k a0 a1 a2 a3 a4 a5 Aa na a.f1 Ab nb v.f1 y W5.drew (Kd.F_now (Kd.F_below FA5.out hbd)) LA.out (Kd.F_now (Kd.F_below FB5.out hbd)) LB.out HY.out).mono ?_
                 rintro ex wq ⟨v8, rfl, hR8, hB8⟩
                 have hb8 := hbd.trans (hB8.mono hbd.size)
                 have HR8 := Aside0.mk (Kd.R_lower hR8 hbd.size)
                 have HB8 := Aside0.mk hb8
                 obtain ⟨A8, c8, rfl⟩ := Kd.R_slice hR8
                 have ba := blk_below BA7.out hb8
                 have bb := blk_below BB.out hb8
                 have bh := blk_below BHX5.out hb8
                 have z0_ := blk_cell ba 0
                 have z1_ := blk_cell ba 1
                 have z2_ := blk_cell ba 2
                 have z3_ := blk_cell bb 2
                 have z4_ := blk_cell bh 0
                 have z5_ := blk_cell bh 1
                 have z6_ := blk_cell bh 2
                 have z7_ := blk_cell bh 3
                 have z8_ := blk_cell bh 4
                 have z9_ := blk_cell bh 5
                 have n0_ := World.new_ne wq _ z0_
                 have n1_ := World.new_ne wq _ z3_
                 have n2_ := World.new_ne wq _ z4_
                 clear hR8 hB8 hbd hb8 ba bb bh
                 dsimp only)
              | (go_simp; go_at_call 49
                 have hbd : Below W5.heap.size W5 (W5.alloc (Obj.cells #[.int .u64 0, .int .u64 0, .slice none 0 0] 51)).drew := below_drew (below_alloc (Below.refl _ _) _)
                 refine (spec_HashChildren.calls k a0 a1 a2 a3 a4 a5 Aa na a.f1 Ab nb v.f1 y (W5.alloc (Obj.cells #[.int .u64 0, .int .u64 0, .slice none 0 0] 51)).drew (Kd.F_now (Kd.F_below FA5.out hbd)) LA.out (Kd.F_now (Kd.F_below FB5.out hbd)) LB.out HY.out).mono ?_
                 rintro ex wq ⟨v8, rfl, hR8, hB8⟩
                 have hb8 := hbd.trans (hB8.mono hbd.size)
                 have BP := Aside0.mk (blk_below (blk_drew (blk_new W5 (Obj.cells #[.int .u64 0, .int .u64 0, .slice none 0 0] 51))) hB8)
                 have p0_ := blk_cell BP.out 0
                 have p1_ := blk_cell BP.out 1
                 have p2_ := blk_cell BP.out 2
                 have p3_ := blk_frozen BP.out 0
                 have p4_ := blk_frozen BP.out 1
                 have p5_ := blk_frozen BP.out 2
                 have HR8 := Aside0.mk (Kd.R_lower hR8 hbd.size)
                 have HB8 := Aside0.mk hb8
                 obtain ⟨A8, c8, rfl⟩ := Kd.R_slice hR8
                 have ba := blk_below BA7.out hb8
                 have bb := blk_below BB.out hb8
                 have bh := blk_below BHX5.out hb8
                 have z0_ := blk_cell ba 0
                 have z1_ := blk_cell ba 1
                 have z2_ := blk_cell ba 2
                 have z3_ := blk_cell bb 2
                 have z4_ := blk_cell bh 0
                 have z5_ := blk_cell bh 1
                 have z6_ := blk_cell bh 2
                 have z7_ := blk_cell bh 3
                 have z8_ := blk_cell bh 4
                 have z9_ := blk_cell bh 5
                 have n0_ := World.new_ne wq _ z0_
                 have n1_ := World.new_ne wq _ z3_
                 have n2_ := World.new_ne wq _ z4_
                 clear hR8 hB8 hbd hb8 ba bb bh
                 dsimp only)
              | fail)
            all_goals
              clear z0_ z1_ z2_ z3_ z4_ z5_ z6_ z7_ z8_ z9_ n0_ n1_ n2_ q0 q1 q2 q3 q4 ya0 ya1 ya2 yb2 ye0 ye1 ye2 ye3 ye4 ye5 FA5 FB5
              have HG5 := Aside0.mk (show g < W5.heap.size from Kd.N_lt HA5.out g rfl)
              have HU7 := Aside0.mk (show ∀ q, (Value.slice AM md.length cM).ownBlock = some q → q < W5.heap.size from fun q hq => Kd.N_lt HMD5.out q hq)
              obtain ⟨hyc, hyf⟩ := text_F HR8.out
              have HYC := Aside0.mk hyc
              clear hyc
              first
              | (change Exit.then _ _ _ _ (wq.alloc (Obj.cells #[Value.int IntKind.u64 (IntKind.u64.wrap (v.f0.f0 + 1)), Value.int IntKind.u64 (IntKind.u64.wrap (a.f0.f1.tdiv 2)), Value.slice A8 y.length c8] 51))
                 have hbq := below_alloc (Below.refl wq.heap.size wq) (Obj.cells #[Value.int IntKind.u64 (IntKind.u64.wrap (v.f0.f0 + 1)), Value.int IntKind.u64 (IntKind.u64.wrap (a.f0.f1.tdiv 2)), Value.slice A8 y.length c8] 51)
                 have hbp := blk_new wq (Obj.cells #[Value.int IntKind.u64 (IntKind.u64.wrap (v.f0.f0 + 1)), Value.int IntKind.u64 (IntKind.u64.wrap (a.f0.f1.tdiv 2)), Value.slice A8 y.length c8] 51)
                 have HYF := Aside0.mk (Kd.F_mono (ok' := fun q => W5.heap.size ≤ q ∧ q < wq.heap.size) (Kd.F_below hyf hbq) (fun q hq => ⟨hq.1, hq.2.1⟩))
                 have hsz : wq.heap.size < (wq.alloc (Obj.cells #[Value.int IntKind.u64 (IntKind.u64.wrap (v.f0.f0 + 1)), Value.int IntKind.u64 (IntKind.u64.wrap (a.f0.f1.tdiv 2)), Value.slice A8 y.length c8] 51)).heap.size := by rw [sz_alloc]; omega
                 have hb57 := HB8.out.trans (hbq.mono HB8.out.size)
                 have hs57 : W5.heap.size ≤ wq.heap.size := HB8.out.size
                 generalize wq.alloc (Obj.cells #[Value.int IntKind.u64 (IntKind.u64.wrap (v.f0.f0 + 1)), Value.int IntKind.u64 (IntKind.u64.wrap (a.f0.f1.tdiv 2)), Value.slice A8 y.length c8] 51) = W7 at hbp HYF hsz hb57 ⊢
                 have HA7 := Aside0.mk (Kd.N_below HA5.out hb57)
                 have HMD7 := Aside0.mk (Kd.N_below HMD5.out hb57)
                 have BHX7 := Aside0.mk (blk_below BHX5.out hb57)
                 have HB7 := Aside0.mk (below_step HB5.out hb57)
                 generalize wq.heap.size = gp at hbp HYF hsz hs57
                 have HYF := Aside0.mk (Kd.F_mono (ok' := fun q => W5.heap.size ≤ q ∧ q < W7.heap.size) HYF.out (fun q hq => ⟨hq.1, Nat.lt_trans hq.2 hsz⟩))
                 have BP7 := Aside0.mk hbp
                 have HSW5 := Aside0.mk (show w.heap.size ≤ W5.heap.size ∧ W5.heap.size ≤ gp ∧ gp < W7.heap.size from ⟨HSZ5.out, hs57, hsz⟩)
                 clear hbq hbp hsz hb57 hs57 hyf)
              | (change Exit.then _ _ _ _ (((wq.setCell ⟨W5.heap.size, 0, none⟩ (Value.int IntKind.u64 (IntKind.u64.wrap (v.f0.f0 + 1)))).setCell ⟨W5.heap.size, 1, none⟩ (Value.int IntKind.u64 (IntKind.u64.wrap (a.f0.f1.tdiv 2)))).setCell ⟨W5.heap.size, 2, none⟩ (Value.slice A8 y.length c8))
                 have hbp := blk_set (blk_set (blk_set BP.out 0 (Value.int IntKind.u64 (IntKind.u64.wrap (v.f0.f0 + 1)))) 1 (Value.int IntKind.u64 (IntKind.u64.wrap (a.f0.f1.tdiv 2)))) 2 (Value.slice A8 y.length c8)
                 have hb57 := ((HB8.out.setCell (p := ⟨W5.heap.size, 0, none⟩) (Nat.le_refl _) (Value.int IntKind.u64 (IntKind.u64.wrap (v.f0.f0 + 1)))).setCell (p := ⟨W5.heap.size, 1, none⟩) (Nat.le_refl _) (Value.int IntKind.u64 (IntKind.u64.wrap (a.f0.f1.tdiv 2)))).setCell (p := ⟨W5.heap.size, 2, none⟩) (Nat.le_refl _) (Value.slice A8 y.length c8)
                 have HYF := Aside0.mk (Kd.F_mono (ok' := fun q => W5.heap.size ≤ q ∧ q < wq.heap.size) (Kd.F_far (Kd.F_far (Kd.F_far (p := ⟨W5.heap.size, 0, none⟩) hyf (fun q hq => ne_51 BP.out hq.2.2) (Value.int IntKind.u64 (IntKind.u64.wrap (v.f0.f0 + 1)))) (p := ⟨W5.heap.size, 1, none⟩) (fun q hq => ne_51 BP.out hq.2.2) (Value.int IntKind.u64 (IntKind.u64.wrap (a.f0.f1.tdiv 2)))) (p := ⟨W5.heap.size, 2, none⟩) (fun q hq => ne_51 BP.out hq.2.2) (Value.slice A8 y.length c8)) (fun q hq => ⟨hq.1, hq.2.1⟩))
                 have hsz : W5.heap.size < wq.heap.size := blk_lt BP.out
                 have hse : (((wq.setCell ⟨W5.heap.size, 0, none⟩ (Value.int IntKind.u64 (IntKind.u64.wrap (v.f0.f0 + 1)))).setCell ⟨W5.heap.size, 1, none⟩ (Value.int IntKind.u64 (IntKind.u64.wrap (a.f0.f1.tdiv 2)))).setCell ⟨W5.heap.size, 2, none⟩ (Value.slice A8 y.length c8)).heap.size = wq.heap.size := by simp
                 generalize ((wq.setCell ⟨W5.heap.size, 0, none⟩ (Value.int IntKind.u64 (IntKind.u64.wrap (v.f0.f0 + 1)))).setCell ⟨W5.heap.size, 1, none⟩ (Value.int IntKind.u64 (IntKind.u64.wrap (a.f0.f1.tdiv 2)))).setCell ⟨W5.heap.size, 2, none⟩ (Value.slice A8 y.length c8) = W7 at hbp hb57 HYF hse ⊢
                 rw [← hse] at hsz
                 have HYF := Aside0.mk (Kd.F_mono (ok' := fun q => W5.heap.size ≤ q ∧ q < W7.heap.size) HYF.out (fun q hq => ⟨hq.1, by rw [hse]; exact hq.2⟩))
                 have HA7 := Aside0.mk (Kd.N_below HA5.out hb57)
                 have HMD7 := Aside0.mk (Kd.N_below HMD5.out hb57)
                 have BHX7 := Aside0.mk (blk_below BHX5.out hb57)
                 have HB7 := Aside0.mk (below_step HB5.out hb57)
                 obtain ⟨gp, hgp⟩ : ∃ gp, gp = W5.heap.size := ⟨_, rfl⟩
                 rw [← hgp] at hbp
                 rw [← hgp]
                 have BP7 := Aside0.mk hbp
                 have HSW5 := Aside0.mk (show w.heap.size ≤ W5.heap.size ∧ W5.heap.size ≤ gp ∧ gp < W7.heap.size from ⟨HSZ5.out, Nat.le_of_eq hgp.symm, by rw [hgp]; exact hsz⟩)
                 clear hbp hb57 hsz hse hgp hyf p0_ p1_ p2_ p3_ p4_ p5_)
              clear HA5 HMD5 BHX5 HB5 HR8 HB8 BA7 BB
              have HPV := Aside0.mk (show (⟨⟨IntKind.u64.wrap (v.f0.f0 + 1), IntKind.u64.wrap (a.f0.f1.tdiv 2)⟩, y⟩ : S51) = upOf a y by rw [← E0.out]; rfl)
              generalize IntKind.u64.wrap (v.f0.f0 + 1) = L1 at BP7 HPV ⊢
              generalize IntKind.u64.wrap (a.f0.f1.tdiv 2) = I1 at BP7 HPV ⊢
              have htk : ((a :: s).reverse ++ [v]).take n = s.reverse := by
                have := HNN.out
                rw [List.reverse_cons, List.append_assoc, List.take_left' (by rw [List.length_reverse]; omega)]
              have HT7 := Aside0.mk (show Kd.N k51 51 W7 w.heap.size (fun q => ok q ∧ some q ≠ (Value.slice AM md.length cM).ownBlock) (.slice (some ⟨g, 0, none⟩) n cg) s.reverse by
                rw [← htk]
                exact Kd.N_take HA7.out (by have := HNN.out; simp; omega))
              have hlc := (Kd.N_reads' HA7.out).2.1
              obtain ⟨i0, hi0, _, hsz, _⟩ := info_parts info51
              have hcut := cut_to (P := Tryd.prog) 36 51 .i64 Tryd.underlying36 hi0 (some ⟨g, 0, none⟩) kk cg (n : Int) (by omega) (by have := HNN.out; omega) hlc
              rw [Int.toNat_natCast] at hcut
              have w3 : IntKind.i64.wrap ((kk : Int) - 2) = (n : Int) := (i64_small (by have := HNN.out; omega) (by have := HNN.out; omega)).trans (by have := HNN.out; omega)
              have yp0 : W7.cell? ⟨gp, 0, none⟩ = some (.int .u64 L1) := blk_cell BP7.out 0
              have yp1 : W7.cell? ⟨gp, 1, none⟩ = some (.int .u64 I1) := blk_cell BP7.out 1
              have yp2 : W7.cell? ⟨gp, 2, none⟩ = some (.slice A8 y.length c8) := blk_cell BP7.out 2
              have HGH9 := Aside0.mk (show gh ≠ g from fun e => by have h1 := Kd.N_ne HA7.out BHX7.out (by decide); exact h1 (by rw [e]; rfl))
              clear htk hlc hi0 hsz E0 HA7
              go_wp2_with (fail)
              go_region_held_law (fun w' => w'.cell? ⟨gp, 0, none⟩ = some (.int .u64 L1) ∧ w'.cell? ⟨gp, 1, none⟩ = some (.int .u64 I1) ∧ w'.cell? ⟨gp, 2, none⟩ = some (.slice A8 y.length c8)) (first | exact ⟨u0_, u1_, u2_⟩ | exact ⟨p0_, p1_, p2_⟩ | exact ⟨yp0, yp1, yp2⟩ | go_keep) (first
                | (refine Kd.N_append_rows_step k51 (w0 := W7) w.heap.size ?hw (.tmp 67) (.tmp 69) 36 51 (.agg #[.int .u64 0, .int .u64 0, .slice none 0 0]) 40 rfl Tryd.underlying36 info51 rfl (by decide) (by decide) (.slice (some ⟨g, 0, none⟩) n cg) s.reverse [⟨⟨L1, I1⟩, y⟩] (some ⟨W7.heap.size, 0, none⟩) 1 1 (fun q => ok q ∧ some q ≠ (Value.slice AM md.length cM).ownBlock) (fun q => (W5.heap.size ≤ q ∧ q < W7.heap.size) ∨ q = W7.heap.size) rfl rfl ?aO ?aR ?aK ?aF ?aB ?aS ?aL ?_
                   (case hw => simp [Region.wanted])
                   (case aO => exact Kd.N_drew (Kd.N_alloc (HT7.out) _))
                   (case aR => exact oneF51 (v := ⟨⟨L1, I1⟩, y⟩) (blk_drew (box27 W7 W7.heap.size rfl (.cells #[.int .u64 L1, .int .u64 I1, .slice A8 y.length c8] 51))) HYC.out (Kd.F_drew (Kd.F_alloc (HYF.out) _)))
                   (case aK =>
                     intro q hq
                     have h1 := HSW5.out
                     have h2 : w.heap.size ≤ q ∧ W5.heap.size ≤ q := hq.elim (fun h => ⟨by omega, h.1⟩) (fun h => by rw [h]; omega)
                     exact ⟨⟨HOKN.out q h2.1, fun e => by have := HU7.out q e.symm; omega⟩, fun e => by have h3 : q = g := Option.some.inj e; have := HG5.out; omega⟩)
                   (case aF =>
                     intro q hq
                     have h1 := HSW5.out
                     have h2 : W7.heap.size ≤ q := Nat.le_trans (by simp only [sz_drew, sz_alloc]; omega) hq
                     exact ⟨HOKN.out q (by omega), fun e => by have := HU7.out q e.symm; omega⟩)
                   (case aB => exact (below_drew (below_alloc (Below.refl W7.heap.size W7) _)).mono (by have h1 := HSW5.out; omega))
                   (case aS => have h1 := HSW5.out; simp only [sz_drew, sz_alloc]; omega)
                   (case aL => have h1 := HNN.out; rw [List.length_reverse]; omega)
                   intro v9 w9 hN1 hB1 hg1 hat1
                   have HV9 := Aside0.mk hN1
                   have HB9 := Aside0.mk hB1
                   have HM9 := Aside0.mk (Kd.N_after (u := .slice (some ⟨g, 0, none⟩) n cg) (Kd.N_drew (Kd.N_alloc (HMD7.out) _)) hg1 hat1)
                   have HO9 := Aside0.mk (show ∀ q, v9.ownBlock = some q → (q < W5.heap.size ∨ (W7.heap.size ≤ q)) from fun q hq => by
                     rcases hat1 with h | ⟨b, h, hb⟩
                     · rw [h] at hq; have h3 : g = q := Option.some.inj hq; have := HG5.out; omega
                     · rw [h] at hq; have h3 : b = q := Option.some.inj hq; simp only [sz_drew, sz_alloc] at hb; omega)
                   have BP9 := Aside0.mk (blk_grown (blk_drew (blk_alloc (BP7.out) _)) hg1 (fun e => by have h3 : gp = g := Option.some.inj e; have := HG5.out; have := HSW5.out; omega))
                   have BH9 := Aside0.mk (blk_grown (blk_drew (blk_alloc (BHX7.out) _)) hg1 (fun e => by have h3 : gh = g := Option.some.inj e; exact HGH9.out h3))
                   have HS9 := Aside0.mk (show W7.heap.size ≤ w9.heap.size from hB1.size)
                   have HYF9 := Aside0.mk (Kd.F_grown (Kd.F_drew (Kd.F_alloc (HYF.out) _)) hg1 (fun q hq e => by have h3 : q = g := Option.some.inj e; have h4 : W5.heap.size ≤ q := hq.1; have := HG5.out; omega))
                   have u0_ : w9.cell? ⟨gp, 0, none⟩ = some (.int .u64 L1) := blk_cell BP9.out 0
                   have u1_ : w9.cell? ⟨gp, 1, none⟩ = some (.int .u64 I1) := blk_cell BP9.out 1
                   have u2_ : w9.cell? ⟨gp, 2, none⟩ = some (.slice A8 y.length c8) := blk_cell BP9.out 2
                   clear hN1 hB1 hg1 hat1)
                | (refine Kd.N_append_rows_step k51 (w0 := W7) w.heap.size ?hw (.tmp 67) (.tmp 69) 36 51 (.agg #[.int .u64 0, .int .u64 0, .slice none 0 0]) 40 rfl Tryd.underlying36 info51 rfl (by decide) (by decide) (.slice (some ⟨g, 0, none⟩) n cg) s.reverse [⟨⟨L1, I1⟩, y⟩] (some ⟨W7.heap.size, 0, none⟩) 1 1 (fun q => ok q ∧ some q ≠ (Value.slice AM md.length cM).ownBlock) (fun q => (W5.heap.size ≤ q ∧ q < W7.heap.size) ∨ q = W7.heap.size) rfl rfl ?aO ?aR ?aK ?aF ?aB ?aS ?aL ?_
                   (case hw => simp [Region.wanted])
                   (case aO => exact Kd.N_drew (Kd.N_alloc (Kd.N_alloc (HT7.out) _) _))
                   (case aR => exact oneF51 (v := ⟨⟨L1, I1⟩, y⟩) (blk_drew (blk_alloc (box27 W7 W7.heap.size rfl (.cells #[.int .u64 L1, .int .u64 I1, .slice A8 y.length c8] 51)) _)) HYC.out (Kd.F_drew (Kd.F_alloc (Kd.F_alloc (HYF.out) _) _)))
                   (case aK =>
                     intro q hq
                     have h1 := HSW5.out
                     have h2 : w.heap.size ≤ q ∧ W5.heap.size ≤ q := hq.elim (fun h => ⟨by omega, h.1⟩) (fun h => by rw [h]; omega)
                     exact ⟨⟨HOKN.out q h2.1, fun e => by have := HU7.out q e.symm; omega⟩, fun e => by have h3 : q = g := Option.some.inj e; have := HG5.out; omega⟩)
                   (case aF =>
                     intro q hq
                     have h1 := HSW5.out
                     have h2 : W7.heap.size ≤ q := Nat.le_trans (by simp only [sz_drew, sz_alloc]; omega) hq
                     exact ⟨HOKN.out q (by omega), fun e => by have := HU7.out q e.symm; omega⟩)
                   (case aB => exact (below_drew (below_alloc (below_alloc (Below.refl W7.heap.size W7) _) _)).mono (by have h1 := HSW5.out; omega))
                   (case aS => have h1 := HSW5.out; simp only [sz_drew, sz_alloc]; omega)
                   (case aL => have h1 := HNN.out; rw [List.length_reverse]; omega)
                   intro v9 w9 hN1 hB1 hg1 hat1
                   have HV9 := Aside0.mk hN1
                   have HB9 := Aside0.mk hB1
                   have HM9 := Aside0.mk (Kd.N_after (u := .slice (some ⟨g, 0, none⟩) n cg) (Kd.N_drew (Kd.N_alloc (Kd.N_alloc (HMD7.out) _) _)) hg1 hat1)
                   have HO9 := Aside0.mk (show ∀ q, v9.ownBlock = some q → (q < W5.heap.size ∨ (W7.heap.size ≤ q ∧ q ≠ W7.heap.size + 1)) from fun q hq => by
                     rcases hat1 with h | ⟨b, h, hb⟩
                     · rw [h] at hq; have h3 : g = q := Option.some.inj hq; have := HG5.out; omega
                     · rw [h] at hq; have h3 : b = q := Option.some.inj hq; simp only [sz_drew, sz_alloc] at hb; omega)
                   have BP9 := Aside0.mk (blk_grown (blk_drew (blk_alloc (blk_alloc (BP7.out) _) _)) hg1 (fun e => by have h3 : gp = g := Option.some.inj e; have := HG5.out; have := HSW5.out; omega))
                   have BH9 := Aside0.mk (blk_grown (blk_drew (blk_alloc (blk_alloc (BHX7.out) _) _)) hg1 (fun e => by have h3 : gh = g := Option.some.inj e; exact HGH9.out h3))
                   have HS9 := Aside0.mk (show W7.heap.size ≤ w9.heap.size from hB1.size)
                   have HYF9 := Aside0.mk (Kd.F_grown (Kd.F_drew (Kd.F_alloc (Kd.F_alloc (HYF.out) _) _)) hg1 (fun q hq e => by have h3 : q = g := Option.some.inj e; have h4 : W5.heap.size ≤ q := hq.1; have := HG5.out; omega))
                   have BOX := Aside0.mk (blk_grown (blk_drew (box27 (W7.alloc _) (W7.heap.size + 1) (by simp only [sz_alloc]) (.cells #[.int .u64 L1, .int .u64 I1, .slice A8 y.length c8] 51))) hg1 (fun e => by have h3 : W7.heap.size + 1 = g := Option.some.inj e; have := HG5.out; have := HSW5.out; omega))
                   have u0_ : w9.cell? ⟨gp, 0, none⟩ = some (.int .u64 L1) := blk_cell BP9.out 0
                   have u1_ : w9.cell? ⟨gp, 1, none⟩ = some (.int .u64 I1) := blk_cell BP9.out 1
                   have u2_ : w9.cell? ⟨gp, 2, none⟩ = some (.slice A8 y.length c8) := blk_cell BP9.out 2
                   clear hN1 hB1 hg1 hat1)
                | (refine Kd.N_append_rows_step k51 (w0 := W7) w.heap.size ?hw (.tmp 67) (.tmp 69) 36 51 (.agg #[.int .u64 0, .int .u64 0, .slice none 0 0]) 40 rfl Tryd.underlying36 info51 rfl (by decide) (by decide) (.slice (some ⟨g, 0, none⟩) n cg) s.reverse [⟨⟨L1, I1⟩, y⟩] (some ⟨W7.heap.size + 1, 0, none⟩) 1 1 (fun q => ok q ∧ some q ≠ (Value.slice AM md.length cM).ownBlock) (fun q => (W5.heap.size ≤ q ∧ q < W7.heap.size) ∨ q = W7.heap.size + 1) rfl rfl ?aO ?aR ?aK ?aF ?aB ?aS ?aL ?_
                   (case hw => simp [Region.wanted])
                   (case aO => exact Kd.N_drew (Kd.N_alloc (Kd.N_alloc (HT7.out) _) _))
                   (case aR => exact oneF51 (v := ⟨⟨L1, I1⟩, y⟩) (blk_drew (box27 (W7.alloc _) (W7.heap.size + 1) (by simp only [sz_alloc]) (.cells #[.int .u64 L1, .int .u64 I1, .slice A8 y.length c8] 51))) HYC.out (Kd.F_drew (Kd.F_alloc (Kd.F_alloc (HYF.out) _) _)))
                   (case aK =>
                     intro q hq
                     have h1 := HSW5.out
                     have h2 : w.heap.size ≤ q ∧ W5.heap.size ≤ q := hq.elim (fun h => ⟨by omega, h.1⟩) (fun h => by rw [h]; omega)
                     exact ⟨⟨HOKN.out q h2.1, fun e => by have := HU7.out q e.symm; omega⟩, fun e => by have h3 : q = g := Option.some.inj e; have := HG5.out; omega⟩)
                   (case aF =>
                     intro q hq
                     have h1 := HSW5.out
                     have h2 : W7.heap.size ≤ q := Nat.le_trans (by simp only [sz_drew, sz_alloc]; omega) hq
                     exact ⟨HOKN.out q (by omega), fun e => by have := HU7.out q e.symm; omega⟩)
                   (case aB => exact (below_drew (below_alloc (below_alloc (Below.refl W7.heap.size W7) _) _)).mono (by have h1 := HSW5.out; omega))
                   (case aS => have h1 := HSW5.out; simp only [sz_drew, sz_alloc]; omega)
                   (case aL => have h1 := HNN.out; rw [List.length_reverse]; omega)
                   intro v9 w9 hN1 hB1 hg1 hat1
                   have HV9 := Aside0.mk hN1
                   have HB9 := Aside0.mk hB1
                   have HM9 := Aside0.mk (Kd.N_after (u := .slice (some ⟨g, 0, none⟩) n cg) (Kd.N_drew (Kd.N_alloc (Kd.N_alloc (HMD7.out) _) _)) hg1 hat1)
                   have HO9 := Aside0.mk (show ∀ q, v9.ownBlock = some q → (q < W5.heap.size ∨ (W7.heap.size ≤ q ∧ q ≠ W7.heap.size)) from fun q hq => by
                     rcases hat1 with h | ⟨b, h, hb⟩
                     · rw [h] at hq; have h3 : g = q := Option.some.inj hq; have := HG5.out; omega
                     · rw [h] at hq; have h3 : b = q := Option.some.inj hq; simp only [sz_drew, sz_alloc] at hb; omega)
                   have BP9 := Aside0.mk (blk_grown (blk_drew (blk_alloc (blk_alloc (BP7.out) _) _)) hg1 (fun e => by have h3 : gp = g := Option.some.inj e; have := HG5.out; have := HSW5.out; omega))
                   have BH9 := Aside0.mk (blk_grown (blk_drew (blk_alloc (blk_alloc (BHX7.out) _) _)) hg1 (fun e => by have h3 : gh = g := Option.some.inj e; exact HGH9.out h3))
                   have HS9 := Aside0.mk (show W7.heap.size ≤ w9.heap.size from hB1.size)
                   have HYF9 := Aside0.mk (Kd.F_grown (Kd.F_drew (Kd.F_alloc (Kd.F_alloc (HYF.out) _) _)) hg1 (fun q hq e => by have h3 : q = g := Option.some.inj e; have h4 : W5.heap.size ≤ q := hq.1; have := HG5.out; omega))
                   have BOX := Aside0.mk (blk_grown (blk_drew (blk_alloc (box27 W7 W7.heap.size rfl (.cells #[.int .u64 L1, .int .u64 I1, .slice A8 y.length c8] 51)) _)) hg1 (fun e => by have h3 : W7.heap.size = g := Option.some.inj e; have := HG5.out; have := HSW5.out; omega))
                   have u0_ : w9.cell? ⟨gp, 0, none⟩ = some (.int .u64 L1) := blk_cell BP9.out 0
                   have u1_ : w9.cell? ⟨gp, 1, none⟩ = some (.int .u64 I1) := blk_cell BP9.out 1
                   have u2_ : w9.cell? ⟨gp, 2, none⟩ = some (.slice A8 y.length c8) := blk_cell BP9.out 2
                   clear hN1 hB1 hg1 hat1)
                | (refine Kd.N_append_rows_step k51 (w0 := W7) w.heap.size ?hw (.tmp 71) (.tmp 73) 36 51 (.agg #[.int .u64 0, .int .u64 0, .slice none 0 0]) 40 rfl Tryd.underlying36 info51 rfl (by decide) (by decide) (.slice AM md.length cM) md [⟨⟨L1, I1⟩, y⟩] (some ⟨W7.heap.size, 0, none⟩) 1 1 (fun q => ok q ∧ some q ≠ v9.ownBlock) (fun q => (W5.heap.size ≤ q ∧ q < W7.heap.size) ∨ q = W7.heap.size) rfl rfl ?aO ?aR ?aK ?aF ?aB ?aS ?aL ?_
                   (case hw => simp [Region.wanted])
                   (case aO => exact HM9.out)
                   (case aR => exact oneF51 (v := ⟨⟨L1, I1⟩, y⟩) (BOX.out) HYC.out (HYF9.out))
                   (case aK =>
                     intro q hq
                     have h1 := HSW5.out
                     have h4 := HS9.out
                     have h7 : (W5.heap.size ≤ q ∧ q < W7.heap.size) ∨ q = W7.heap.size := hq
                     have h2 : w.heap.size ≤ q ∧ W5.heap.size ≤ q := hq.elim (fun h => ⟨by omega, h.1⟩) (fun h => by rw [h]; omega)
                     exact ⟨⟨HOKN.out q h2.1, fun e => by have h5 := HO9.out q e.symm; have h6 := Kd.N_lt HV9.out q e.symm; omega⟩, fun e => by have := HU7.out q e.symm; omega⟩)
                   (case aF =>
                     intro q hq
                     have h1 := HSW5.out
                     have h4 := HS9.out
                     have h2 : w9.heap.size ≤ q := Nat.le_trans (by first | exact Nat.le_refl _ | (simp only [sz_drew, sz_alloc]; omega)) hq
                     exact ⟨HOKN.out q (by omega), fun e => by have h6 := Kd.N_lt HV9.out q e.symm; omega⟩)
                   (case aB => exact HB9.out)
                   (case aS => have h1 := HSW5.out; have h4 := HS9.out; omega)
                   (case aL => have h1 := HLL.out; have h2 := HN.out; rw [List.length_cons] at h1; omega)
                   intro v10 w10 hN2 hB2 hg2 hat2
                   have HV10 := Aside0.mk hN2
                   have HA10 := Aside0.mk (Kd.N_after (u := .slice AM md.length cM) (HV9.out) hg2 hat2)
                   have HB10 := Aside0.mk hB2
                   have BP10 := Aside0.mk (blk_grown (BP9.out) hg2 (fun e => by have h3 := HU7.out gp e.symm; have := HSW5.out; omega))
                   have BH10 := Aside0.mk (blk_grown (BH9.out) hg2 (Kd.N_ne HM9.out BH9.out (by decide)))
                   have p0_ : w10.cell? ⟨gp, 0, none⟩ = some (.int .u64 L1) := blk_cell BP10.out 0
                   have p1_ : w10.cell? ⟨gp, 1, none⟩ = some (.int .u64 I1) := blk_cell BP10.out 1
                   have p2_ : w10.cell? ⟨gp, 2, none⟩ = some (.slice A8 y.length c8) := blk_cell BP10.out 2
                   clear hN2 hB2 hg2 hat2)
                | (refine Kd.N_append_rows_step k51 (w0 := W7) w.heap.size ?hw (.tmp 71) (.tmp 73) 36 51 (.agg #[.int .u64 0, .int .u64 0, .slice none 0 0]) 40 rfl Tryd.underlying36 info51 rfl (by decide) (by decide) (.slice AM md.length cM) md [⟨⟨L1, I1⟩, y⟩] (some ⟨W7.heap.size + 1, 0, none⟩) 1 1 (fun q => ok q ∧ some q ≠ v9.ownBlock) (fun q => (W5.heap.size ≤ q ∧ q < W7.heap.size) ∨ q = W7.heap.size + 1) rfl rfl ?aO ?aR ?aK ?aF ?aB ?aS ?aL ?_
                   (case hw => simp [Region.wanted])
                   (case aO => exact HM9.out)
                   (case aR => exact oneF51 (v := ⟨⟨L1, I1⟩, y⟩) (BOX.out) HYC.out (HYF9.out))
                   (case aK =>
                     intro q hq
                     have h1 := HSW5.out
                     have h4 := HS9.out
                     have h7 : (W5.heap.size ≤ q ∧ q < W7.heap.size) ∨ q = W7.heap.size + 1 := hq
                     have h2 : w.heap.size ≤ q ∧ W5.heap.size ≤ q := hq.elim (fun h => ⟨by omega, h.1⟩) (fun h => by rw [h]; omega)
                     exact ⟨⟨HOKN.out q h2.1, fun e => by have h5 := HO9.out q e.symm; have h6 := Kd.N_lt HV9.out q e.symm; omega⟩, fun e => by have := HU7.out q e.symm; omega⟩)
                   (case aF =>
                     intro q hq
                     have h1 := HSW5.out
                     have h4 := HS9.out
                     have h2 : w9.heap.size ≤ q := Nat.le_trans (by first | exact Nat.le_refl _ | (simp only [sz_drew, sz_alloc]; omega)) hq
                     exact ⟨HOKN.out q (by omega), fun e => by have h6 := Kd.N_lt HV9.out q e.symm; omega⟩)
                   (case aB => exact HB9.out)
                   (case aS => have h1 := HSW5.out; have h4 := HS9.out; omega)
                   (case aL => have h1 := HLL.out; have h2 := HN.out; rw [List.length_cons] at h1; omega)
                   intro v10 w10 hN2 hB2 hg2 hat2
                   have HV10 := Aside0.mk hN2
                   have HA10 := Aside0.mk (Kd.N_after (u := .slice AM md.length cM) (HV9.out) hg2 hat2)
                   have HB10 := Aside0.mk hB2
                   have BP10 := Aside0.mk (blk_grown (BP9.out) hg2 (fun e => by have h3 := HU7.out gp e.symm; have := HSW5.out; omega))
                   have BH10 := Aside0.mk (blk_grown (BH9.out) hg2 (Kd.N_ne HM9.out BH9.out (by decide)))
                   have p0_ : w10.cell? ⟨gp, 0, none⟩ = some (.int .u64 L1) := blk_cell BP10.out 0
                   have p1_ : w10.cell? ⟨gp, 1, none⟩ = some (.int .u64 I1) := blk_cell BP10.out 1
                   have p2_ : w10.cell? ⟨gp, 2, none⟩ = some (.slice A8 y.length c8) := blk_cell BP10.out 2
                   clear hN2 hB2 hg2 hat2)
                | (refine Kd.N_append_rows_step k51 (w0 := W7) w.heap.size ?hw (.tmp 71) (.tmp 73) 36 51 (.agg #[.int .u64 0, .int .u64 0, .slice none 0 0]) 40 rfl Tryd.underlying36 info51 rfl (by decide) (by decide) (.slice AM md.length cM) md [⟨⟨L1, I1⟩, y⟩] (some ⟨w9.heap.size, 0, none⟩) 1 1 (fun q => ok q ∧ some q ≠ v9.ownBlock) (fun q => (W5.heap.size ≤ q ∧ q < W7.heap.size) ∨ q = w9.heap.size) rfl rfl ?aO ?aR ?aK ?aF ?aB ?aS ?aL ?_
                   (case hw => simp [Region.wanted])
                   (case aO => exact Kd.N_alloc HM9.out _)
                   (case aR => exact oneF51 (v := ⟨⟨L1, I1⟩, y⟩) (box27 w9 _ rfl (.cells #[.int .u64 L1, .int .u64 I1, .slice A8 y.length c8] 51)) HYC.out (Kd.F_alloc HYF9.out _))
                   (case aK =>
                     intro q hq
                     have h1 := HSW5.out
                     have h4 := HS9.out
                     have h7 : (W5.heap.size ≤ q ∧ q < W7.heap.size) ∨ q = w9.heap.size := hq
                     have h2 : w.heap.size ≤ q ∧ W5.heap.size ≤ q := hq.elim (fun h => ⟨by omega, h.1⟩) (fun h => by rw [h]; omega)
                     exact ⟨⟨HOKN.out q h2.1, fun e => by have h5 := HO9.out q e.symm; have h6 := Kd.N_lt HV9.out q e.symm; omega⟩, fun e => by have := HU7.out q e.symm; omega⟩)
                   (case aF =>
                     intro q hq
                     have h1 := HSW5.out
                     have h4 := HS9.out
                     have h2 : w9.heap.size ≤ q := Nat.le_trans (by first | exact Nat.le_refl _ | (simp only [sz_drew, sz_alloc]; omega)) hq
                     exact ⟨HOKN.out q (by omega), fun e => by have h6 := Kd.N_lt HV9.out q e.symm; omega⟩)
                   (case aB => exact HB9.out.alloc (by have h1 := HSW5.out; have h4 := HS9.out; omega) _)
                   (case aS => have h1 := HSW5.out; have h4 := HS9.out; simp only [sz_drew, sz_alloc]; omega)
                   (case aL => have h1 := HLL.out; have h2 := HN.out; rw [List.length_cons] at h1; omega)
                   intro v10 w10 hN2 hB2 hg2 hat2
                   have HV10 := Aside0.mk hN2
                   have HA10 := Aside0.mk (Kd.N_after (u := .slice AM md.length cM) (Kd.N_alloc HV9.out _) hg2 hat2)
                   have HB10 := Aside0.mk hB2
                   have BP10 := Aside0.mk (blk_grown (blk_alloc BP9.out _) hg2 (fun e => by have h3 := HU7.out gp e.symm; have := HSW5.out; omega))
                   have BH10 := Aside0.mk (blk_grown (blk_alloc BH9.out _) hg2 (Kd.N_ne HM9.out BH9.out (by decide)))
                   have p0_ : w10.cell? ⟨gp, 0, none⟩ = some (.int .u64 L1) := blk_cell BP10.out 0
                   have p1_ : w10.cell? ⟨gp, 1, none⟩ = some (.int .u64 I1) := blk_cell BP10.out 1
                   have p2_ : w10.cell? ⟨gp, 2, none⟩ = some (.slice A8 y.length c8) := blk_cell BP10.out 2
                   clear hN2 hB2 hg2 hat2)
                | fail)
              all_goals
                clear p0_ p1_ p2_ u0_ u1_ u2_ yp0 yp1 yp2 HM9 HV9 HYF9 BP9 BH9 HT7 HMD7 BHX7 hcut w3
                obtain ⟨A9, c9, rfl⟩ := Kd.N_slice HA10.out
                obtain ⟨A10, c10, rfl⟩ := Kd.N_slice HV10.out
                have HPL := Aside0.mk (show (s.reverse ++ [(⟨⟨L1, I1⟩, y⟩ : S51)]).length = s.length + 1 by simp)
                generalize (s.reverse ++ [(⟨⟨L1, I1⟩, y⟩ : S51)]).length = j9 at HPL HA10 HV10 ⊢
                go_step
                simp [Act.put]
                go_wp2_with (fail)
                go_roundg k1
                case measure => omega
                case rel =>
                  refine ⟨s, upOf a y, md ++ [upOf a y], q9.2.2, j9, ?_, ⟨HPL.out⟩, ⟨?_⟩, ⟨?_⟩, ⟨HU9.out.1⟩, ⟨?_⟩, ⟨?_⟩, ⟨?_⟩, BH10, ⟨?_⟩⟩
                  · rfl
                  · have h := HI.out; rw [List.length_cons] at h; omega
                  · have h := HLL.out; rw [List.length_cons] at h; rw [List.length_append, List.length_singleton]; omega
                  · rw [HM.out, HU9.out.2, List.append_assoc]; rfl
                  · rw [← HPV.out]
                    have h := HA10.out
                    rw [List.length_append, List.length_singleton] at h
                    exact h
                  · rw [← HPV.out]
                    have h := HV10.out
                    rw [List.length_append, List.length_singleton] at h
                    exact h
                  · exact HB7.out.trans HB10.out
          · have hu := HU.out
            rw [pushUp, if_neg (by rintro ⟨h2, _⟩; exact (by assumption : ¬ a.f0.f0 = v.f0.f0) h2)] at hu
            have HR := Aside0.mk (stop_of hu HM.out)
            clear hu HU
            go_ret2
            refine ⟨_, _, rfl, ?_, ?_, HB5.out⟩
            · rw [HR.out.1, HR.out.2.1]
              exact Kd.N_mono HA5.out (fun q hq => ⟨HOKE.out q hq.1, hq.2⟩)
            · rw [HR.out.2.2]
              exact Kd.N_mono HMD5.out (fun q hq => ⟨HOKE.out q hq.1, hq.2⟩)
end Go.Proofs.YtielnphmcaecdaaDoor.PAll
