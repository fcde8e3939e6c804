-- Written by a program of this session (wip/tools)
import Derived.Test.YtielnphmcaecdaaDoorQRLExtRangeF
namespace Go.Proofs.YtielnphmcaecdaaDoor.PAll
open Go.IntWalk Go.RowKit Go.Proofs.YtielnphmcaecdaaDoor.Num Go.Proofs.YtielnphmcaecdaaDoor.Mth Go.Proofs.YtielnphmcaecdaaDoorW.PrintWords Go.Proofs.YtielnphmcaecdaaDoorW.PrintLast Go.Proofs.YtielnphmcaecdaaDoorW.PrintMore
set_option linter.unusedVariables false
set_option linter.unusedSimpArgs false
theorem Fx.blk {p q g t : Nat} {row : Option Nat} {w w' : World} {c : Array Value} (h : Fx p q row w w') (hb : w.heap[g]? = some (.cells c t (0, 0))) (hp : g ≠ p) (hq : g ≠ q) (hr : some g ≠ row) (ht : t ≠ 51) : w'.heap[g]? = some (.cells c t (0, 0)) :=
  (h.block g (blk_lt hb) hp hq hr (fun d hd => by rw [hb] at hd; injection hd with hd; injection hd with _ hd; exact ht hd)).trans hb
theorem Fx.ty {w w' : World} {tb p fq q g t : Nat} {a0 a1 a2 a3 a4 a5 b e : Int} {A : Option Addr} {c : Nat} {ss : List SH} {xs : List (List Int)} {SV cs : Array Value} (h : Fx p q (Value.slice A ss.length c).ownBlock w w') (R : RgAt w tb p fq a0 a1 a2 a3 a4 a5 b e A c ss xs) (hq : w.heap[q]? = some (.cells SV 36 (0, 0)))
    (hb : w.heap[g]? = some (.cells cs t (0, 0))) (h1 : t ≠ 148) (h2 : t ≠ 36) (h3 : t ≠ 27) (h4 : t ≠ 51) : w'.heap[g]? = some (.cells cs t (0, 0)) :=
  h.blk hb (ty_ne hb R.cell h1) (ty_ne hb hq h2) (fun e => by obtain ⟨d, hd⟩ := Kd.R_typed R.row g e.symm; exact ty_ne hb hd h3 rfl) h4
theorem Fx.pres {w w' : World} {tb p fq q : Nat} {a0 a1 a2 a3 a4 a5 b e : Int} {A : Option Addr} {c : Nat} {ss : List SH} {xs : List (List Int)} {SV : Array Value} (h : Fx p q (Value.slice A ss.length c).ownBlock w w') (R : RgAt w tb p fq a0 a1 a2 a3 a4 a5 b e A c ss xs) (hq : w.heap[q]? = some (.cells SV 36 (0, 0))) : Pres5 w w' := fun k hk => by
  obtain ⟨c, hc⟩ := hk
  rw [h.ty R hq hc (by decide) (by decide) (by decide) (by decide), hc]
theorem Fx.rw {w w' : World} {tb p fq q : Nat} {a0 a1 a2 a3 a4 a5 b e : Int} {A : Option Addr} {c : Nat} {ss : List SH} {xs : List (List Int)} {SV : Array Value} {v : Value} {rs : List SH} (h : Fx p q (Value.slice A ss.length c).ownBlock w w') (R : RgAt w tb p fq a0 a1 a2 a3 a4 a5 b e A c ss xs) (hq : w.heap[q]? = some (.cells SV 36 (0, 0))) (hR : Rw w tb v rs) (hap : ∀ k, v.ownBlock = some k → some k ≠ (Value.slice A ss.length c).ownBlock) : Rw w' tb v rs :=
  Kd.R_mono (Kd.R_step (Kd.R_tight rfl hR) (fun k hk hlt => by
    obtain ⟨d, hd⟩ := Kd.R_typed hR k hk.symm
    rw [h.blk hd (ty_ne hd R.cell (by decide)) (ty_ne hd hq (by decide)) (hap k hk.symm) (by decide), hd])) (fun _ _ => trivial)
theorem four (w : World) (o0 o1 o2 o3 : Obj) : ((((w.alloc o0).alloc o1).alloc o2).alloc o3).heap[w.heap.size + 1]? = some o1 ∧ ((((w.alloc o0).alloc o1).alloc o2).alloc o3).heap[w.heap.size + 1 + 1]? = some o2 ∧ ((((w.alloc o0).alloc o1).alloc o2).alloc o3).heap[w.heap.size + 1 + 1 + 1]? = some o3 ∧ Below w.heap.size w ((((w.alloc o0).alloc o1).alloc o2).alloc o3) := by
  have s1 : (w.alloc o0).heap.size = w.heap.size + 1 := World.size_alloc _ _
  have s2 : ((w.alloc o0).alloc o1).heap.size = w.heap.size + 1 + 1 := by rw [World.size_alloc, s1]
  have s3 : (((w.alloc o0).alloc o1).alloc o2).heap.size = w.heap.size + 1 + 1 + 1 := by rw [World.size_alloc, s2]
  have b1 := blk_new (w.alloc o0) o1
  have b2 := blk_new ((w.alloc o0).alloc o1) o2
  have b3 := blk_new (((w.alloc o0).alloc o1).alloc o2) o3
  rw [s1] at b1
  rw [s2] at b2
  rw [s3] at b3
  exact ⟨blk_alloc (blk_alloc b1 _) _, blk_alloc b2 _, b3, below_alloc (below_alloc (below_alloc (below_alloc (Below.refl _ _) _) _) _) _⟩
set_option maxHeartbeats 8000000 in
set_option maxRecDepth 100000 in
theorem impl_Append.calls (k : Nat) (a0 a1 a2 a3 a4 a5 b e : Int) (A : Option Addr) (c : Nat) (hs : List (List Int)) (A2 : Option Addr) (c2 : Nat) (l : List (List Int)) (r0 r1 : Int) (r2 : List (List Int)) (r3 : List S51) (r4 : Bool) (w : World) (hG : Glob w)
    (hr : Kd.C (Kd.slice 5 (Kd.int .u8)) w A hs.length hs) (hc : hs.length ≤ c) (hr2 : Kd.C (Kd.slice 5 (Kd.int .u8)) w A2 l.length l) (hc2 : l.length ≤ c2) (h : impl_Append.f k a0 a1 a2 a3 a4 a5 b e hs l = some (r0, r1, r2, r3, r4)) :
    Calls Tryd.prog 23 #[.agg #[.int .i64 a0, .int .i64 a1, .int .i64 a2, .int .u64 a3, .int .u64 a4, .int .u64 a5], .agg #[.int .u64 b, .int .u64 e, .slice A hs.length c], .slice A2 l.length c2] w fun ex w' => ∃ v0 v1, ex = .returned (.tuple #[.agg #[.int .u64 r0, .int .u64 r1, v0], v1, .bool r4]) ∧ Kd.S (Kd.slice 5 (Kd.int .u8)) 27 w' w.heap.size (fun _ => True) v0 r2 ∧ Kd.S k51 51 w' w.heap.size (fun _ => True) v1 r3 ∧ Below w.heap.size w w' := by
  unfold impl_Append.f at h
  by_cases hq : b = 0 ∧ 0 ≤ e ∧ e + (l.length : Int) < 4611686018427387904 ∧ compact_RangeSize.f k b e = some (hs.length : Int)
  case neg => rw [if_neg hq] at h; cases h
  rw [if_pos hq] at h
  obtain ⟨rfl, he0, hel, hrs⟩ := hq
  obtain ⟨E, rfl⟩ : ∃ E : Nat, e = (E : Int) := ⟨e.toNat, by omega⟩
  obtain ⟨xs, hxs, h⟩ := Option.bind_eq_some_iff.mp h
  obtain ⟨ls, hls, h⟩ := Option.bind_eq_some_iff.mp h
  by_cases hlen : xs.length = hs.length ∧ ls.length = l.length
  case neg => rw [if_neg hlen] at h; cases h
  rw [if_pos hlen] at h
  obtain ⟨⟨xe, ve⟩, ha, h⟩ := Option.bind_eq_some_iff.mp h
  obtain ⟨rr, hrr, h⟩ := Option.bind_eq_some_iff.mp h
  have h := Option.some.inj h
  simp only [Prod.mk.injEq] at h
  obtain ⟨rfl, rfl, rfl, rfl, rfl⟩ := h
  rw [Int.toNat_natCast] at ha
  dsimp only at hrr
  rw [Int.toNat_natCast]
  have HG := Aside0.mk hG
  have HR := Aside0.mk hr
  have HC := Aside0.mk hc
  have HR2 := Aside0.mk hr2
  have HC2 := Aside0.mk hc2
  have HRS := Aside0.mk hrs
  have HXS := Aside0.mk hxs
  have HLS := Aside0.mk hls
  have HL1 := Aside0.mk hlen.1
  have HL2 := Aside0.mk hlen.2
  have HAA := Aside0.mk ha
  have HRR := Aside0.mk hrr
  have HEL := Aside0.mk hel
  clear hG hr hc hr2 hc2 hrs hxs hls hlen ha hrr hel he0 h
  go_enter Tryd.func23, Tryd.ntmps23
  go_wp2_with (fail)
  obtain ⟨f1, f2, f3, f4⟩ := four w (Obj.cells #[Value.int IntKind.i64 a0, Value.int IntKind.i64 a1, Value.int IntKind.i64 a2, Value.int IntKind.u64 a3, Value.int IntKind.u64 a4, Value.int IntKind.u64 a5] 24) (Obj.cells #[Value.int IntKind.u64 0, Value.int IntKind.u64 (E : Int), Value.slice A hs.length c] 34) (Obj.cells #[Value.int IntKind.u64 0, Value.int IntKind.u64 0, Value.slice none 0 0] 34) (Obj.cells #[Value.func (Fn.func 50) #[Value.agg #[Value.int IntKind.i64 a0, Value.int IntKind.i64 a1, Value.int IntKind.i64 a2, Value.int IntKind.u64 a3, Value.int IntKind.u64 a4, Value.int IntKind.u64 a5]] #[]] 92)
  generalize ((((w.alloc (Obj.cells #[Value.int IntKind.i64 a0, Value.int IntKind.i64 a1, Value.int IntKind.i64 a2, Value.int IntKind.u64 a3, Value.int IntKind.u64 a4, Value.int IntKind.u64 a5] 24)).alloc (Obj.cells #[Value.int IntKind.u64 0, Value.int IntKind.u64 (E : Int), Value.slice A hs.length c] 34)).alloc (Obj.cells #[Value.int IntKind.u64 0, Value.int IntKind.u64 0, Value.slice none 0 0] 34)).alloc (Obj.cells #[Value.func (Fn.func 50) #[Value.agg #[Value.int IntKind.i64 a0, Value.int IntKind.i64 a1, Value.int IntKind.i64 a2, Value.int IntKind.u64 a3, Value.int IntKind.u64 a4, Value.int IntKind.u64 a5]] #[]] 92)) = W0 at f1 f2 f3 f4 ⊢
  obtain ⟨g1, hg1⟩ : ∃ g, g = w.heap.size + 1 := ⟨_, rfl⟩
  obtain ⟨g2, hg2⟩ : ∃ g, g = w.heap.size + 1 + 1 := ⟨_, rfl⟩
  obtain ⟨fq, hg3⟩ : ∃ g, g = w.heap.size + 1 + 1 + 1 := ⟨_, rfl⟩
  rw [← hg1] at f1
  rw [← hg2] at f2
  rw [← hg3] at f3
  rw [← hg3, ← hg2, ← hg1]
  have y0 : W0.cell? ⟨g1, 0, none⟩ = some (.int .u64 0) := blk_cell f1 0
  have y1 : W0.cell? ⟨g1, 1, none⟩ = some (.int .u64 (E : Int)) := blk_cell f1 1
  have y2 : W0.cell? ⟨g1, 2, none⟩ = some (.slice A hs.length c) := blk_cell f1 2
  have BR := Aside0.mk f2
  have BF := Aside0.mk f3
  have HB := Aside0.mk f4
  have HG1 := Aside0.mk (blk_lt f1)
  have HW1 := Aside0.mk (show w.heap.size ≤ g1 ∧ w.heap.size ≤ g2 ∧ w.heap.size ≤ fq by omega)
  clear f1 f2 f3 f4 hg1 hg2 hg3
  have HBn := Aside0.mk (Below.refl W0.heap.size W0)
  go_region_held_law (fun w' => w'.cell? ⟨g1, 0, none⟩ = some (.int .u64 0) ∧ w'.cell? ⟨g1, 1, none⟩ = some (.int .u64 (E : Int)) ∧ w'.cell? ⟨g1, 2, none⟩ = some (.slice A hs.length c)) (first | exact ⟨u0_, u1_, u2_⟩ | exact ⟨v0_, v1_, v2_⟩ | exact ⟨y0, y1, y2⟩ | go_keep) (first
    | (go_simp; go_at_call 45
       have hbd : Below W0.heap.size W0 W0.drew := below_drew (Below.refl _ _)
       have hbw : Below w.heap.size w W0.drew := below_step HB.out hbd
       refine (impl_texts.calls k A c hs xs _ (Kd.C_below HR.out hbw) HC.out HXS.out).mono ?_
       rintro ex wq ⟨v3, rfl, hS3, hb3⟩
       have HB3 := Aside0.mk (show Below W0.heap.size W0 wq from below_step hbd hb3)
       have HS3 := Aside0.mk (Kd.S_lower hS3 (below_size hbw))
       obtain ⟨A3, c3, rfl⟩ := Kd.S_slice hS3
       have v0_ := (HB3.out.cell (p := ⟨g1, 0, none⟩) HG1.out).trans y0
       have v1_ := (HB3.out.cell (p := ⟨g1, 1, none⟩) HG1.out).trans y1
       have v2_ := (HB3.out.cell (p := ⟨g1, 2, none⟩) HG1.out).trans y2
       clear hS3 hb3 hbw hbd)
    | (go_simp; go_at_call 51
       refine (newRange.calls k fq 0 (E : Int) A3 xs.length c3 _ (HG.out.below (below_step HB.out HB3.out)) (by omega) (by rw [HL1.out]; exact HRS.out)).mono ?_
       rintro ex wn ⟨nd, rfl, rfl⟩
       have hp : ((wq.drewN nd).alloc (Obj.cells #[.pointer (some ⟨fq, 0, none⟩), .int .u64 0, .int .u64 (E : Int), .slice A3 xs.length c3] 148)).heap[wq.heap.size]? = some (Obj.cells #[.pointer (some ⟨fq, 0, none⟩), .int .u64 0, .int .u64 (E : Int), .slice A3 xs.length c3] 148) := blk_new (wq.drewN nd) _
       have hbn : Below W0.heap.size W0 ((wq.drewN nd).alloc (Obj.cells #[.pointer (some ⟨fq, 0, none⟩), .int .u64 0, .int .u64 (E : Int), .slice A3 xs.length c3] 148)) := below_alloc (pw_below_drewN HB3.out nd) _
       have hSn := Kd.S_alloc (Kd.S_drewN HS3.out nd) (Obj.cells #[.pointer (some ⟨fq, 0, none⟩), .int .u64 0, .int .u64 (E : Int), .slice A3 xs.length c3] 148)
       have hpp : w.heap.size ≤ wq.heap.size := below_size (below_step HB.out HB3.out)
       generalize (wq.drewN nd).alloc (Obj.cells #[.pointer (some ⟨fq, 0, none⟩), .int .u64 0, .int .u64 (E : Int), .slice A3 xs.length c3] 148) = wn at hp hbn hSn ⊢
       generalize wq.heap.size = p at hp hpp ⊢
       have HP := Aside0.mk hp
       have HBN := Aside0.mk hbn
       have HSN := Aside0.mk hSn
       have HPP := Aside0.mk hpp
       have u0_ := (HBN.out.cell (p := ⟨g1, 0, none⟩) HG1.out).trans y0
       have u1_ := (HBN.out.cell (p := ⟨g1, 1, none⟩) HG1.out).trans y1
       have u2_ := (HBN.out.cell (p := ⟨g1, 2, none⟩) HG1.out).trans y2
       clear hp hbn hSn hpp)
    | fail)
  go_wp2_with (fail)
  have hqn := blk_new wn (Obj.cells #[Value.slice none 0 0] 36)
  have HBQ := Aside0.mk (show Below w.heap.size w (wn.alloc (Obj.cells #[Value.slice none 0 0] 36)) from below_alloc (below_step HB.out HBN.out) _)
  have HPQ := Aside0.mk (blk_alloc HP.out (Obj.cells #[Value.slice none 0 0] 36))
  have HSQ := Aside0.mk (Kd.S_alloc HSN.out (Obj.cells #[Value.slice none 0 0] 36))
  have HFQ := Aside0.mk (blk_alloc (blk_below BF.out HBN.out) (Obj.cells #[Value.slice none 0 0] 36))
  have HRQ := Aside0.mk (blk_alloc (blk_below BR.out HBN.out) (Obj.cells #[Value.slice none 0 0] 36))
  have hqs : w.heap.size ≤ wn.heap.size := below_size (below_step HB.out HBN.out)
  generalize wn.alloc (Obj.cells #[Value.slice none 0 0] 36) = Wq at hqn HBQ HPQ HSQ HFQ HRQ ⊢
  generalize wn.heap.size = q at hqn hqs ⊢
  have HQS := Aside0.mk hqs
  clear hqs u0_ u1_ u2_ v0_ v1_ v2_ y0 y1 y2 HB3 HS3 HBN HSN HP BF BR HB HG1 HR
  refine (impl_texts.calls k A2 c2 l ls Wq (Kd.C_below HR2.out HBQ.out) HC2.out HLS.out).mono ?_
  rintro ex w2 ⟨v4, rfl, hS4, hb4⟩
  obtain ⟨A4, c4, rfl⟩ := Kd.S_slice hS4
  obtain ⟨ss, hsl, hRw, hTx⟩ := rows_SH (Kd.S_R (Kd.S_below HSQ.out hb4))
  obtain ⟨st, htl, hRt, hTt⟩ := rows_SH (Kd.S_R hS4)
  have HRG := Aside0.mk (show RgAt w2 w.heap.size p fq a0 a1 a2 a3 a4 a5 0 (E : Int) A3 c3 ss xs from ⟨by rw [hsl]; exact blk_below HPQ.out hb4, blk_below HFQ.out hb4, by rw [hsl]; exact hRw, hsl, hTx⟩)
  have HQ := Aside0.mk (blk_below hqn hb4)
  have HLR := Aside0.mk (show Rw w2 w.heap.size (.slice A4 ls.length c4) st from Kd.R_lower hRt HBQ.out.size)
  have HLT := Aside0.mk (show ∀ (j : Nat) (s : SH) (x : List Int), st[j]? = some s → ls[j]? = some x → Txt w.heap.size w2 s x from fun j s x h1 h2 => Txt.of_R (hTt j s x h1 h2) HBQ.out.size)
  have HLL := Aside0.mk htl
  have HAP := Aside0.mk (show ∀ k, (Value.slice A4 ls.length c4).ownBlock = some k → some k ≠ (Value.slice A3 ss.length c3).ownBlock from fun k hk e => by
    have h1 := Kd.S_base hS4 k hk
    have h2 := Kd.S_lt HSQ.out k (by rw [own_at A3 xs.length ss.length c3 c3]; exact e.symm)
    omega)
  have HRB := Aside0.mk (blk_below HRQ.out hb4)
  have HB := Aside0.mk (below_step HBQ.out hb4)
  clear hS4 hb4 hsl hRw hTx htl hRt hTt HBQ HPQ HSQ HFQ HRQ hqn HR2
  dsimp only
  go_wp2_with (fail)
  have HA0 := HAA.out
  clear HAA
  go_loopg [11, 38] ls.length (fun kq v11 v38 w' => ∃ (i : Nat) (A : Option Addr) (c : Nat) (ss : List SH) (ys : List (List Int)) (SV : Value) (vs : List S51), v11 = .nilIface ∧ v38 = .int .i64 (i : Int) ∧ Aside0 (i + kq = ls.length) ∧ Aside0 (appAll (impl_toy_HashChildren.f k a0 a1 a2 a3 a4 a5) k (E + i) ys vs (ls.drop i) = some (xe, ve)) ∧ Aside0 (RgAt w' w.heap.size p fq a0 a1 a2 a3 a4 a5 0 ((E + i : Nat) : Int) A c ss ys) ∧ Aside0 (w'.heap[q]? = some (.cells #[SV] 36 (0, 0))) ∧ Aside0 (Kd.S k51 51 w' w.heap.size (fun _ => True) SV vs) ∧ Aside0 (Rw w' w.heap.size (.slice A4 ls.length c4) st) ∧ Aside0 (∀ (j : Nat) (s : SH) (x : List Int), st[j]? = some s → ls[j]? = some x → Txt w.heap.size w' s x) ∧ Aside0 (∀ k, (Value.slice A4 ls.length c4).ownBlock = some k → some k ≠ (Value.slice A ss.length c).ownBlock) ∧ Aside0 (w'.heap[g2]? = some (.cells #[.int .u64 0, .int .u64 0, .slice none 0 0] 34 (0, 0))) ∧ Aside0 (Below w.heap.size w w'))
  case atStart => exact ⟨0, A3, c3, ss, xs, .slice none 0 0, [], rfl, rfl, ⟨by omega⟩, ⟨by rw [Nat.add_zero, List.drop_zero]; exact HA0⟩, HRG, HQ, ⟨Kd.S_nil _ _ _ _ _⟩, HLR, HLT, HAP, HRB, HB⟩
  case round =>
    clear HA0 HRG HQ HLR HLT HAP HRB HB
    obtain ⟨i, A, c, ss, ys, SV, vs, rfl, rfl, HI, HA1, HRG, HQ, HV, HLR, HLT, HAP, HRB, HB⟩ := hrel
    cases gk with
    | zero =>
      have ei : i = ls.length := by have := HI.out; omega
      subst ei
      have ha := HA1.out
      rw [List.drop_length, appAll] at ha
      have ha := Option.some.inj ha
      simp only [Prod.mk.injEq] at ha
      obtain ⟨rfl, rfl⟩ := ha
      go_wp2_with (fail)
      obtain ⟨AV, cV, rfl⟩ := Kd.S_slice HV.out
      have y0 : wr.cell? ⟨q, 0, none⟩ = some (.slice AV vs.length cV) := blk_cell HQ.out 0
      have HQL := Aside0.mk (show q < wr.heap.size from blk_lt HQ.out)
      have hqg : q ≠ g2 := ty_ne HQ.out HRB.out (by decide)
      have hqg' : g2 ≠ q := fun e => hqg e.symm
      go_region_held_law (fun w' => w'.cell? ⟨q, 0, none⟩ = some (.slice AV vs.length cV)) (first | exact v0_ | exact y0 | go_keep) (first
        | (go_simp; go_at_call 55
           have hbd : Below wr.heap.size wr wr.drew := below_drew (Below.refl _ _)
           refine (fromRange.calls k w.heap.size p fq a0 a1 a2 a3 a4 a5 0 _ A c ss ys rr _ (HRG.out.below hbd) HRR.out).mono ?_
           rintro ex w5 ⟨v5, rfl, hS5, hb5⟩
           have HB5 := Aside0.mk (show Below wr.heap.size wr w5 from below_step hbd hb5)
           have HS5 := Aside0.mk (Kd.S_lower hS5 (Nat.le_trans HB.out.size hbd.size))
           obtain ⟨A5, c5, rfl⟩ := Kd.S_slice hS5
           have v0_ := (HB5.out.cell (p := ⟨q, 0, none⟩) HQL.out).trans y0
           have hbx := blk_below HRB.out HB5.out
           have s0 : w5.cell? ⟨g2, 0, none⟩ = some (.int .u64 0) := blk_cell hbx 0
           have s1 : w5.cell? ⟨g2, 1, none⟩ = some (.int .u64 0) := blk_cell hbx 1
           have s2 : w5.cell? ⟨g2, 2, none⟩ = some (.slice none 0 0) := blk_cell hbx 2
           have z0 := blk_frozen hbx 0
           have z1 := blk_frozen hbx 1
           have z2 := blk_frozen hbx 2
           have HBX := Aside0.mk hbx
           clear hS5 hb5 hbd hbx)
        | fail)
      go_wp2_with (fail)
      have eE : ((E : Int) + (ls.length : Int)) = ((E + l.length : Nat) : Int) := by rw [← HL2.out]; omega
      rw [eE]
      have k1 := blk_set HBX.out 0 (.int .u64 0)
      have k2 := blk_set k1 1 (.int .u64 ((E + l.length : Nat) : Int))
      have k3 := blk_set k2 2 (.slice A5 rr.length c5)
      refine bodyPost_ret (results_ctt rfl _ _ g2 34 #[.int .u64 0, .int .u64 ((E + l.length : Nat) : Int), .slice A5 rr.length c5] (0, 0) _ rfl k3 Tryd.underlying34 rfl (by kernel_rfl)) rfl ?_
      refine ⟨_, _, rfl, Kd.S_set (Kd.S_set (Kd.S_set HS5.out HBX.out (by decide) _ _) k1 (by decide) _ _) k2 (by decide) _ _, Kd.S_set (Kd.S_set (Kd.S_set (Kd.S_below HV.out HB5.out) HBX.out (by decide) _ _) k1 (by decide) _ _) k2 (by decide) _ _, ?_⟩
      exact (((HB.out.trans (HB5.out.mono HB.out.size)).setCell (p := ⟨g2, 0, none⟩) HW1.out.2.1 _).setCell (p := ⟨g2, 1, none⟩) HW1.out.2.1 _).setCell (p := ⟨g2, 2, none⟩) HW1.out.2.1 _
    | succ k1 =>
      have hi : i < ls.length := by have := HI.out; omega
      have htl : st.length = ls.length := HLL.out
      obtain ⟨⟨As, ns, cs⟩, hsi⟩ : ∃ s, st[i]? = some s := ⟨_, List.getElem?_eq_getElem (by omega)⟩
      obtain ⟨x, hxi⟩ : ∃ x, ls[i]? = some x := ⟨_, List.getElem?_eq_getElem hi⟩
      have HX := Aside0.mk (HLT.out i _ _ hsi hxi)
      have hdr : ls.drop i = x :: ls.drop (i + 1) := by
        rw [List.drop_eq_getElem_cons hi]
        congr 1
        rw [List.getElem?_eq_getElem hi] at hxi
        exact Option.some.inj hxi
      have ha := HA1.out
      rw [hdr, appAll] at ha
      obtain ⟨⟨ys2, V2⟩, hst, ha⟩ := Option.bind_eq_some_iff.mp ha
      dsimp only at ha
      obtain ⟨g4, cc, e4, hg4⟩ := kSH_form (s := (A4, ls.length, c4)) HLR.out (by omega)
      simp only [Prod.mk.injEq] at e4
      obtain ⟨rfl, -, rfl⟩ := e4
      have x1 : wr.cell? ⟨g4, i, none⟩ = some (.slice As ns cs) := (kSH_cell HLR.out hsi).1
      have d0 : 0 ≤ (i : Int) := by omega
      have d1 : (i : Int) < (ls.length : Int) := by omega
      have d2 : decide ((i : Int) < (ls.length : Int)) = true := decide_eq_true d1
      have d3 : decide (i < ls.length) = true := decide_eq_true hi
      have HST := Aside0.mk hst
      have HA2 := Aside0.mk ha
      have HII := Aside0.mk hi
      have H1 := Aside0.mk (show 1 ≤ w.heap.size from World.block_lt_of_cell? _ _ (HG.out 0 (by omega)))
      clear hsi hxi hdr ha hst hg4 hi htl HA1
      go_wp2_with (fail)
      refine (stepApp.calls k a0 a1 a2 a3 a4 a5 w.heap.size p fq q (E + i) A c ss ys As ns cs x SV vs _ ys2 V2 H1.out (Nat.le_trans H1.out HQS.out) (HG.out.below HB.out) HB.out.size HRG.out HX.out HQ.out HV.out (by have := HEL.out; have := HL2.out; have := HII.out; omega) HST.out).mono ?_
      rintro ex w5 ⟨rfl, hA⟩
      obtain ⟨A', c', ss', SV', R', q', S', F, hB', hat⟩ := hA
      have HRG' := Aside0.mk R'
      have HQ' := Aside0.mk q'
      have HV' := Aside0.mk S'
      have HLR' := Aside0.mk (F.rw HRG.out HQ.out HLR.out HAP.out)
      have HLT' := Aside0.mk (show ∀ (j : Nat) (s : SH) (x : List Int), st[j]? = some s → ls[j]? = some x → Txt w.heap.size w5 s x from fun j s x h1 h2 => (HLT.out j s x h1 h2).pres (F.pres HRG.out HQ.out))
      have HRB' := Aside0.mk (F.ty HRG.out HQ.out HRB.out (by decide) (by decide) (by decide) (by decide))
      have HB' := Aside0.mk (HB.out.trans (hB' _ (Nat.le_refl _) HQS.out HPP.out))
      have HAP' := Aside0.mk (show ∀ k, (Value.slice (some ⟨g4, 0, none⟩) ls.length c4).ownBlock = some k → some k ≠ (Value.slice A' ss'.length c').ownBlock from fun k hk e => by
        rcases hat with h | ⟨g, h, hle⟩
        · exact HAP.out k hk (e.trans h)
        · have := Kd.R_lt HLR.out k hk
          rw [h] at e
          injection e with e
          omega)
      clear R' q' S' F hB' hat HRG HQ HV HLR HLT HRB HB HAP x1 HX HST
      dsimp only
      go_wp2
      go_roundg k1
      case measure => omega
      case rel => exact ⟨i + 1, A', c', ss', ys2, SV', vs ++ V2, rfl, by rw [nxt_ (by have := HEL.out; have := HL2.out; have := HII.out; omega)], ⟨by have := HI.out; omega⟩, HA2, HRG', HQ', HV', HLR', HLT', HAP', HRB', HB'⟩
end Go.Proofs.YtielnphmcaecdaaDoor.PAll
namespace Go.Proofs.YtielnphmcaecdaaDoor.PAll
open Go.IntWalk Go.RowKit Go.Proofs.YtielnphmcaecdaaDoor.Num Go.Proofs.YtielnphmcaecdaaDoor.Mth Go.Proofs.YtielnphmcaecdaaDoorW.PrintWords Go.Proofs.YtielnphmcaecdaaDoorW.PrintLast Go.Proofs.YtielnphmcaecdaaDoorW.PrintMore
set_option linter.unusedVariables false
set_option linter.unusedSimpArgs false
def rseed (F : List Int → List Int → Option (List Int)) (xs : List (List Int)) (M : Nat) : Nat → Option (List Int)
  | 0 => some (xs.getD M [])
  | i + 1 => (rseed F xs M i).bind fun t => F (xs.getD (M - 1 - i) []) t
theorem rseed_some {F : List Int → List Int → Option (List Int)} {xs : List (List Int)} {M : Nat} : ∀ (T : Nat) (r : List Int), rseed F xs M T = some r → ∀ t, t ≤ T → ∃ s, rseed F xs M t = some s
  | 0, r, h, t, ht => by
    obtain rfl : t = 0 := by omega
    exact ⟨r, h⟩
  | T + 1, r, h, t, ht => by
    by_cases e : t = T + 1
    · subst e; exact ⟨r, h⟩
    · rw [rseed] at h
      obtain ⟨s, hs, _⟩ := Option.bind_eq_some_iff.mp h
      exact rseed_some T s hs t (by omega)
def rsOf (F : List Int → List Int → Option (List Int)) (xs : List (List Int)) (M t : Nat) : List Int := (rseed F xs M t).getD []
theorem rseed_of {F : List Int → List Int → Option (List Int)} {xs : List (List Int)} {M T : Nat} {r : List Int} (h : rseed F xs M T = some r) {t : Nat} (ht : t ≤ T) : rseed F xs M t = some (rsOf F xs M t) := by
  obtain ⟨s, hs⟩ := rseed_some T r h t ht
  unfold rsOf
  rw [hs]; rfl
def zI (e : Int) : Nat → Int
  | 0 => e
  | i + 1 => Go.bits .and .u64 (zI e i) (IntKind.u64.wrap (zI e i - 1))
def lvI (e : Int) (i : Nat) : Nat := ((bits_TrailingZeros64.f (zI e (i + 1))).getD 0).toNat
def rootOk (F : List Int → List Int → Option (List Int)) (e : Int) (xs : List (List Int)) (M : Nat) : Bool :=
  decide (M < 1099511627776) && ((List.range M).all (fun i => decide (bits_TrailingZeros64.f (zI e (i + 1)) = some (lvI e i : Int)) && decide (lvI e i ≤ 64)) && (List.range (M + 1)).all fun i => decide ((rsOf F xs M i).length ≤ 140737488355328))
def rootV (F : List Int → List Int → Option (List Int)) (e : Int) (xs : List (List Int)) (M : Nat) : List S51 := visR (lvI e) (fun i => zI e (i + 1) / 2 ^ min (lvI e i + 1) 64) (rsOf F xs M) M
def rootF (F : List Int → List Int → Option (List Int)) (e : Int) (xs : List (List Int)) (M : Nat) : Option (List Int × List S51 × Bool) :=
  (rseed F xs M M).bind fun r => if rootOk F e xs M = true then some (r, rootV F e xs M, true) else none
def impl_RootHash.f (k : Nat) (a0 a1 a2 a3 a4 a5 b e : Int) (hs : List (List Int)) : Option (List Int × List S51 × Bool) :=
  if b = 0 ∧ 0 ≤ e ∧ compact_RangeSize.f k b e = some (hs.length : Int) then (impl_texts.f k hs).bind fun xs => if xs.length = hs.length ∧ 0 < xs.length then rootF (impl_toy_HashChildren.f k a0 a1 a2 a3 a4 a5) e xs (xs.length - 1) else none else none
theorem rseed_mono {F F' : List Int → List Int → Option (List Int)} (h : ∀ a b, LeO (F a b) (F' a b)) (xs : List (List Int)) (M : Nat) : ∀ t, LeO (rseed F xs M t) (rseed F' xs M t)
  | 0 => LeO.refl _
  | t + 1 => LeO.bind (rseed_mono h xs M t) (fun s => h _ s)
theorem rootF_mono {F F' : List Int → List Int → Option (List Int)} (h : ∀ a b, LeO (F a b) (F' a b)) (e : Int) (xs : List (List Int)) (M : Nat) : LeO (rootF F e xs M) (rootF F' e xs M) := by
  intro r hr
  unfold rootF at hr ⊢
  obtain ⟨s, hs, hr⟩ := Option.bind_eq_some_iff.mp hr
  have e1 : ∀ t, t ≤ M → rsOf F' xs M t = rsOf F xs M t := fun t ht => by
    have h1 := rseed_of hs ht
    have h2 := rseed_mono h xs M t _ h1
    unfold rsOf at h2 ⊢
    rw [h2]; rfl
  by_cases hok : rootOk F e xs M = true
  case neg => rw [if_neg hok] at hr; cases hr
  rw [if_pos hok] at hr
  have hok' : rootOk F' e xs M = true := by
    unfold rootOk at hok ⊢
    simp only [Bool.and_eq_true] at hok ⊢
    refine ⟨hok.1, hok.2.1, ?_⟩
    refine List.all_eq_true.mpr (fun t ht => ?_)
    rw [e1 t (by have := List.mem_range.mp ht; omega)]
    exact List.all_eq_true.mp hok.2.2 t ht
  have hv : rootV F' e xs M = rootV F e xs M := by
    unfold rootV visR
    refine List.map_congr_left (fun t ht => ?_)
    rw [e1 (t + 1) (by have := List.mem_range.mp ht; omega)]
  rw [rseed_mono h xs M _ _ hs, Option.bind_some, if_pos hok', hv]
  exact hr
theorem impl_RootHash.mono : ∀ a0 a1 a2 a3 a4 a5 b e hs k, LeO (impl_RootHash.f k a0 a1 a2 a3 a4 a5 b e hs) (impl_RootHash.f (k + 1) a0 a1 a2 a3 a4 a5 b e hs) := by
  intro a0 a1 a2 a3 a4 a5 b e hs k
  unfold impl_RootHash.f
  by_cases h : b = 0 ∧ 0 ≤ e ∧ compact_RangeSize.f k b e = some (hs.length : Int)
  case neg => rw [if_neg h]; exact LeO.none _
  rw [if_pos h, if_pos ⟨h.1, h.2.1, compact_RangeSize.mono _ _ _ _ h.2.2⟩]
  exact LeO.bind (impl_texts.mono _ _) (fun x => LeO.ite (rootF_mono (fun a b => impl_toy_HashChildren.mono _ _ _ _ _ _ _ _ _) _ _ _) (LeO.refl _))
theorem three (w : World) (o0 o1 o3 : Obj) : (((w.alloc o0).alloc o1).alloc o3).heap[w.heap.size + 1]? = some o1 ∧ (((w.alloc o0).alloc o1).alloc o3).heap[w.heap.size + 1 + 1]? = some o3 ∧ Below w.heap.size w (((w.alloc o0).alloc o1).alloc o3) := by
  have s1 : (w.alloc o0).heap.size = w.heap.size + 1 := World.size_alloc _ _
  have s2 : ((w.alloc o0).alloc o1).heap.size = w.heap.size + 1 + 1 := by rw [World.size_alloc, s1]
  have b1 := blk_new (w.alloc o0) o1
  have b2 := blk_new ((w.alloc o0).alloc o1) o3
  rw [s1] at b1
  rw [s2] at b2
  exact ⟨blk_alloc b1 _, b2, below_alloc (below_alloc (below_alloc (Below.refl _ _) _) _) _⟩
set_option maxHeartbeats 8000000 in
set_option maxRecDepth 100000 in
theorem impl_RootHash.calls (k : Nat) (a0 a1 a2 a3 a4 a5 b e : Int) (A : Option Addr) (c : Nat) (hs : List (List Int)) (r0 : List Int) (r1 : List S51) (r2 : Bool) (w : World) (hG : Glob w)
    (hr : Kd.C (Kd.slice 5 (Kd.int .u8)) w A hs.length hs) (hc : hs.length ≤ c) (h : impl_RootHash.f k a0 a1 a2 a3 a4 a5 b e hs = some (r0, r1, r2)) :
    Calls Tryd.prog 24 #[.agg #[.int .i64 a0, .int .i64 a1, .int .i64 a2, .int .u64 a3, .int .u64 a4, .int .u64 a5], .agg #[.int .u64 b, .int .u64 e, .slice A hs.length c]] w fun ex w' => ∃ v0 v1, ex = .returned (.tuple #[v0, v1, .bool r2]) ∧ Kd.R (Kd.int .u8) 5 w' w.heap.size (fun _ => True) v0 r0 ∧ Kd.S k51 51 w' w.heap.size (fun _ => True) v1 r1 ∧ Below w.heap.size w w' := by
  unfold impl_RootHash.f at h
  by_cases hq : b = 0 ∧ 0 ≤ e ∧ compact_RangeSize.f k b e = some (hs.length : Int)
  case neg => rw [if_neg hq] at h; cases h
  rw [if_pos hq] at h
  obtain ⟨rfl, he0, hrs⟩ := hq
  obtain ⟨E, rfl⟩ : ∃ E : Nat, e = (E : Int) := ⟨e.toNat, by omega⟩
  obtain ⟨xs, hxs, h⟩ := Option.bind_eq_some_iff.mp h
  by_cases hlen : xs.length = hs.length ∧ 0 < xs.length
  case neg => rw [if_neg hlen] at h; cases h
  rw [if_pos hlen] at h
  obtain ⟨M, hM⟩ : ∃ M, xs.length = M + 1 := ⟨xs.length - 1, by omega⟩
  rw [show xs.length - 1 = M by omega] at h
  unfold rootF at h
  obtain ⟨r, hsd, h⟩ := Option.bind_eq_some_iff.mp h
  by_cases hok : rootOk (impl_toy_HashChildren.f k a0 a1 a2 a3 a4 a5) (E : Int) xs M = true
  case neg => rw [if_neg hok] at h; cases h
  rw [if_pos hok] at h
  have h := Option.some.inj h
  simp only [Prod.mk.injEq] at h
  obtain ⟨rfl, rfl, rfl⟩ := h
  unfold rootOk at hok
  simp only [Bool.and_eq_true, decide_eq_true_eq] at hok
  obtain ⟨o1, o2, o3⟩ := hok
  have HO1 := Aside0.mk o1
  have HO2 := Aside0.mk (show ∀ i, i < M → bits_TrailingZeros64.f (zI (E : Int) (i + 1)) = some (lvI (E : Int) i : Int) ∧ lvI (E : Int) i ≤ 64 from fun i hi => by
    have := List.all_eq_true.mp o2 i (List.mem_range.mpr hi)
    simp only [Bool.and_eq_true, decide_eq_true_eq] at this
    exact this)
  have HO3 := Aside0.mk (show ∀ i, i ≤ M → (rsOf (impl_toy_HashChildren.f k a0 a1 a2 a3 a4 a5) xs M i).length ≤ 140737488355328 from fun i hi => by
    have := List.all_eq_true.mp o3 i (List.mem_range.mpr (by omega))
    simpa using this)
  have HSD := Aside0.mk hsd
  have HG := Aside0.mk hG
  have HR := Aside0.mk hr
  have HC := Aside0.mk hc
  have HRS := Aside0.mk hrs
  have HXS := Aside0.mk hxs
  have HL1 := Aside0.mk hlen.1
  have HM := Aside0.mk hM
  clear hG hr hc hrs hxs hlen hM hsd o1 o2 o3 he0 h
  go_enter Tryd.func24, Tryd.ntmps24
  go_wp2_with (fail)
  obtain ⟨f1, f3, f4⟩ := three w (Obj.cells #[Value.int IntKind.i64 a0, Value.int IntKind.i64 a1, Value.int IntKind.i64 a2, Value.int IntKind.u64 a3, Value.int IntKind.u64 a4, Value.int IntKind.u64 a5] 24) (Obj.cells #[Value.int IntKind.u64 0, Value.int IntKind.u64 (E : Int), Value.slice A hs.length c] 34) (Obj.cells #[Value.func (Fn.func 50) #[Value.agg #[Value.int IntKind.i64 a0, Value.int IntKind.i64 a1, Value.int IntKind.i64 a2, Value.int IntKind.u64 a3, Value.int IntKind.u64 a4, Value.int IntKind.u64 a5]] #[]] 92)
  generalize ((w.alloc (Obj.cells #[Value.int IntKind.i64 a0, Value.int IntKind.i64 a1, Value.int IntKind.i64 a2, Value.int IntKind.u64 a3, Value.int IntKind.u64 a4, Value.int IntKind.u64 a5] 24)).alloc (Obj.cells #[Value.int IntKind.u64 0, Value.int IntKind.u64 (E : Int), Value.slice A hs.length c] 34)).alloc (Obj.cells #[Value.func (Fn.func 50) #[Value.agg #[Value.int IntKind.i64 a0, Value.int IntKind.i64 a1, Value.int IntKind.i64 a2, Value.int IntKind.u64 a3, Value.int IntKind.u64 a4, Value.int IntKind.u64 a5]] #[]] 92) = W0 at f1 f3 f4 ⊢
  obtain ⟨g1, hg1⟩ : ∃ g, g = w.heap.size + 1 := ⟨_, rfl⟩
  obtain ⟨fq, hg3⟩ : ∃ g, g = w.heap.size + 1 + 1 := ⟨_, rfl⟩
  rw [← hg1] at f1
  rw [← hg3] at f3
  rw [← hg3, ← hg1]
  have y0 : W0.cell? ⟨g1, 0, none⟩ = some (.int .u64 0) := blk_cell f1 0
  have y1 : W0.cell? ⟨g1, 1, none⟩ = some (.int .u64 (E : Int)) := blk_cell f1 1
  have y2 : W0.cell? ⟨g1, 2, none⟩ = some (.slice A hs.length c) := blk_cell f1 2
  have BF := Aside0.mk f3
  have HB := Aside0.mk f4
  have HG1 := Aside0.mk (blk_lt f1)
  have HW1 := Aside0.mk (show w.heap.size ≤ g1 ∧ w.heap.size ≤ fq by omega)
  clear f1 f3 f4 hg1 hg3
  have HBn := Aside0.mk (Below.refl W0.heap.size W0)
  go_region_held_law (fun w' => w'.cell? ⟨g1, 0, none⟩ = some (.int .u64 0) ∧ w'.cell? ⟨g1, 1, none⟩ = some (.int .u64 (E : Int)) ∧ w'.cell? ⟨g1, 2, none⟩ = some (.slice A hs.length c)) (first | exact ⟨u0_, u1_, u2_⟩ | exact ⟨v0_, v1_, v2_⟩ | exact ⟨y0, y1, y2⟩ | go_keep) (first
    | (go_simp; go_at_call 45
       have hbd : Below W0.heap.size W0 W0.drew := below_drew (Below.refl _ _)
       have hbw : Below w.heap.size w W0.drew := below_step HB.out hbd
       refine (impl_texts.calls k A c hs xs _ (Kd.C_below HR.out hbw) HC.out HXS.out).mono ?_
       rintro ex wq ⟨v3, rfl, hS3, hb3⟩
       have HB3 := Aside0.mk (show Below W0.heap.size W0 wq from below_step hbd hb3)
       have HS3 := Aside0.mk (Kd.S_lower hS3 (below_size hbw))
       obtain ⟨A3, c3, rfl⟩ := Kd.S_slice hS3
       have v0_ := (HB3.out.cell (p := ⟨g1, 0, none⟩) HG1.out).trans y0
       have v1_ := (HB3.out.cell (p := ⟨g1, 1, none⟩) HG1.out).trans y1
       have v2_ := (HB3.out.cell (p := ⟨g1, 2, none⟩) HG1.out).trans y2
       clear hS3 hb3 hbw hbd)
    | (go_simp; go_at_call 51
       refine (newRange.calls k fq 0 (E : Int) A3 xs.length c3 _ (HG.out.below (below_step HB.out HB3.out)) (by omega) (by rw [HL1.out]; exact HRS.out)).mono ?_
       rintro ex wn ⟨nd, rfl, rfl⟩
       have hp : ((wq.drewN nd).alloc (Obj.cells #[.pointer (some ⟨fq, 0, none⟩), .int .u64 0, .int .u64 (E : Int), .slice A3 xs.length c3] 148)).heap[wq.heap.size]? = some (Obj.cells #[.pointer (some ⟨fq, 0, none⟩), .int .u64 0, .int .u64 (E : Int), .slice A3 xs.length c3] 148) := blk_new (wq.drewN nd) _
       have hbn : Below W0.heap.size W0 ((wq.drewN nd).alloc (Obj.cells #[.pointer (some ⟨fq, 0, none⟩), .int .u64 0, .int .u64 (E : Int), .slice A3 xs.length c3] 148)) := below_alloc (pw_below_drewN HB3.out nd) _
       have hSn := Kd.S_alloc (Kd.S_drewN HS3.out nd) (Obj.cells #[.pointer (some ⟨fq, 0, none⟩), .int .u64 0, .int .u64 (E : Int), .slice A3 xs.length c3] 148)
       have hpp : w.heap.size ≤ wq.heap.size := below_size (below_step HB.out HB3.out)
       generalize (wq.drewN nd).alloc (Obj.cells #[.pointer (some ⟨fq, 0, none⟩), .int .u64 0, .int .u64 (E : Int), .slice A3 xs.length c3] 148) = wn at hp hbn hSn ⊢
       generalize wq.heap.size = p at hp hpp ⊢
       have HP := Aside0.mk hp
       have HBN := Aside0.mk hbn
       have HSN := Aside0.mk hSn
       have HPP := Aside0.mk hpp
       have u0_ := (HBN.out.cell (p := ⟨g1, 0, none⟩) HG1.out).trans y0
       have u1_ := (HBN.out.cell (p := ⟨g1, 1, none⟩) HG1.out).trans y1
       have u2_ := (HBN.out.cell (p := ⟨g1, 2, none⟩) HG1.out).trans y2
       clear hp hbn hSn hpp)
    | fail)
  go_wp2_with (fail)
  have hqn := blk_new wn (Obj.cells #[Value.slice none 0 0] 36)
  have HBQ := Aside0.mk (show Below w.heap.size w (wn.alloc (Obj.cells #[Value.slice none 0 0] 36)) from below_alloc (below_step HB.out HBN.out) _)
  have HPQ := Aside0.mk (blk_alloc HP.out (Obj.cells #[Value.slice none 0 0] 36))
  have HSQ := Aside0.mk (Kd.S_alloc HSN.out (Obj.cells #[Value.slice none 0 0] 36))
  have HFQ := Aside0.mk (blk_alloc (blk_below BF.out HBN.out) (Obj.cells #[Value.slice none 0 0] 36))
  have hqs : w.heap.size ≤ wn.heap.size := below_size (below_step HB.out HBN.out)
  generalize wn.alloc (Obj.cells #[Value.slice none 0 0] 36) = Wq at hqn HBQ HPQ HSQ HFQ ⊢
  generalize wn.heap.size = q at hqn hqs ⊢
  have HQS := Aside0.mk hqs
  clear hqs u0_ u1_ u2_ v0_ v1_ v2_ y0 y1 y2 HB3 HS3 HBN HSN HP BF HB HG1 HR
  obtain ⟨ss, hsl, hRw, hTx⟩ := rows_SH (Kd.S_R HSQ.out)
  have HRG := Aside0.mk (show RgAt Wq w.heap.size p fq a0 a1 a2 a3 a4 a5 0 (E : Int) A3 c3 ss xs from ⟨by rw [hsl]; exact HPQ.out, HFQ.out, by rw [hsl]; exact hRw, hsl, hTx⟩)
  have H1 := Aside0.mk (show 1 ≤ w.heap.size from World.block_lt_of_cell? _ _ (HG.out 0 (by omega)))
  clear hsl hRw hTx HPQ HFQ HSQ
  refine (getRoot.calls k a0 a1 a2 a3 a4 a5 w.heap.size p fq q (E : Int) M A3 c3 ss xs (.slice none 0 0) [] (zI (E : Int)) (lvI (E : Int)) (rsOf (impl_toy_HashChildren.f k a0 a1 a2 a3 a4 a5) xs M) Wq H1.out (Nat.le_trans H1.out HQS.out) (HG.out.below HBQ.out) HBQ.out.size HRG.out hqn (Kd.S_nil _ _ _ _ _) HM.out HO1.out (by have := HO1.out; simp only [List.length_nil]; omega) rfl (fun i _ => rfl) (fun i hi => (HO2.out i hi).1) (fun i hi => (HO2.out i hi).2) rfl (fun i hi => ?hs_) HO3.out).mono ?_
  case hs_ =>
    have g1 := rseed_of HSD.out (show i ≤ M by omega)
    have g2 := rseed_of HSD.out (show i + 1 ≤ M by omega)
    rw [rseed, g1, Option.bind_some] at g2
    exact g2
  rintro ex w5 ⟨A5, c5, SV5, rfl, hT5, hq5, hS5, hVs5, hBB5⟩
  rw [List.nil_append] at hS5
  obtain ⟨AV, cV, rfl⟩ := Kd.S_slice hS5
  have hrs : rsOf (impl_toy_HashChildren.f k a0 a1 a2 a3 a4 a5) xs M M = r := by unfold rsOf; rw [HSD.out]; rfl
  rw [hrs] at hT5 ⊢
  have hrl := HO3.out M (Nat.le_refl _)
  rw [hrs] at hrl
  obtain ⟨_, t2, t3⟩ := hT5.read
  have HT2 := Aside0.mk t2
  have HT3 := Aside0.mk t3
  have HQ5 := Aside0.mk hq5
  have HS5 := Aside0.mk hS5
  have HRL := Aside0.mk hrl
  have HB5 := Aside0.mk (HBQ.out.trans (hBB5 _ (Nat.le_refl _) HQS.out))
  have y0 : w5.cell? ⟨q, 0, none⟩ = some (.slice AV (rootV (impl_toy_HashChildren.f k a0 a1 a2 a3 a4 a5) (E : Int) xs M).length cV) := blk_cell hq5 0
  have HQL := Aside0.mk (show q < w5.heap.size from blk_lt hq5)
  clear hT5 hq5 hS5 hVs5 hBB5 t2 t3 hrl hqn HRG HBQ hrs
  obtain ⟨V, hV⟩ : ∃ V, rootV (impl_toy_HashChildren.f k a0 a1 a2 a3 a4 a5) (E : Int) xs M = V := ⟨_, rfl⟩
  rw [hV] at y0
  replace HS5 := Aside0.mk (show Kd.S k51 51 w5 w.heap.size (fun _ => True) (.slice AV V.length cV) V from by rw [← hV]; exact HS5.out)
  dsimp only
  go_wp2_with (fail)
  go_region_held_law (fun w' => w'.cell? ⟨q, 0, none⟩ = some (.slice AV V.length cV)) (first | exact v0_ | exact y0 | go_keep) (first
    | (refine Kd.R_append_rows_step (Kd.int .u8) (w0 := w5) (W := w5.drew) w.heap.size ?hw (.const (.slice none 0 0)) (.tmp 39) 27 5 (.int .u8 0) 1 rfl Tryd.underlying27 info5 rfl (by decide) (by omega) (.slice none 0 0) [] r A5 r.length c5 (fun _ => True) (fun _ => False) rfl rfl (Kd.R_nil _ _ _ _ _) (Kd.C_drew HT3.out) (fun _ _ h => h) (fun _ h => h.elim) (fun _ _ => trivial) ?hB ?hbase ?aL ?_
       (case hw => simp [Region.wanted])
       (case hB => exact below_drew (Below.refl _ _))
       (case hbase => exact HB5.out.size)
       (case aL => have := HRL.out; simp; omega)
       intro v10 wq ho hB hg hat
       have HR6 := Aside0.mk (show Kd.R (Kd.int .u8) 5 wq w.heap.size (fun _ => True) v10 r from ho)
       obtain ⟨A10, c10, rfl⟩ := Kd.R_slice HR6.out
       have HB6 := Aside0.mk (show Below w5.heap.size w5 wq from (below_drew (Below.refl _ _)).grown hg (Nat.le_refl _) (fun b hb => by cases hb))
       have v0_ := (HB6.out.cell (p := ⟨q, 0, none⟩) HQL.out).trans y0
       clear ho hB hg hat)
    | fail)
  all_goals
    go_step
    try simp [Act.put]
    try go_step
    go_wp2
    refine ⟨rfl, _, results_tmp3 (fn := Tryd.f24) rfl _ _ _, ?_⟩
    rw [hV]
    exact ⟨_, _, rfl, HR6.out, Kd.S_below HS5.out HB6.out, HB5.out.trans (HB6.out.mono HB5.out.size)⟩
end Go.Proofs.YtielnphmcaecdaaDoor.PAll
