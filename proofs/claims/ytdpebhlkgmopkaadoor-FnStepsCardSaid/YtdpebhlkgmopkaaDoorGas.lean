/-
 FnSteps: all segments of the ring.
-/
import Derived.Test.YtdpebhlkgmopkaaDoorMeo
namespace Go.Proofs.YtdpebhlkgmopkaaDoor
open Go.RowKit
set_option maxRecDepth 100000
/-- a loop that counts from s on, m times, in slot si -/
theorem loop_s {s id si m : Nat} {ty : IntKind} {c : Code} {Q : Exit → Act → World → Prop} {a : Act} {w : World} (I : Nat → Act → World → Prop) (h0 : I 0 a w) (hi : ∀ j a w, I j a w → a.tmps.getD si undef = .int ty (s + j : Nat))
   (hr : ∀ j a w, j < m → I j a w → ∀ R : Exit → Act → World → Prop, (∀ a' w', I (j + 1) a' w' → R .normal a' w') → c.wp Tryd.prog R a w) (hx : ∀ a w, I m a w → c.wp Tryd.prog (Exit.then (fun _ _ => False) (Exit.inBlock id Q)) a w) : (Code.block id (Code.loop c)).wp Tryd.prog Q a w := by
 refine wp_block (wp_loop (fun a w => ∃ j, j ≤ m ∧ I j a w) (fun a _ => s + m - (intOf (a.tmps.getD si undef)).toNat) ⟨0, Nat.zero_le _, h0⟩ ?_)
 rintro a w ⟨j, hj, hI⟩
 by_cases h : j < m
 · refine hr j a w h hI _ fun a' w' h' => ⟨⟨j + 1, h, h'⟩, ?_⟩
   rw [hi _ _ _ h', hi _ _ _ hI]
   simp only [intOf]
   omega
 · obtain rfl : j = m := by omega
   refine Code.wp_mono ?_ (hx a w hI)
   intro e a' w' h'
   cases e <;> first | exact h'.elim | exact h'
theorem mk0_run {w : World} {g : Nat} (hg : w.heap.size = g) (cap : Nat) (hc : cap ≤ 1024) :
   ∃ w', (Instr.makeSlice 88 (.int .i64 0) (.int .u64 cap)).run Tryd.prog w = .ok (.slice (some ⟨g, 0, none⟩) 0 cap) w' ∧ GR w' g 90 pt (.slice (some ⟨g, 0, none⟩) 0 cap) [] ∧ w.grownBy w' none := by
 subst hg
 obtain ⟨i, hi, hz, hs, hb⟩ : ∃ i, Tryd.prog.info? 90 = some i ∧ i.zero = some (.pointer none) ∧ i.size = 1 ∧ i.bytes = 8 := by
   have h : (Tryd.prog.info? 90).map (fun i => (i.zero, i.size, i.bytes)) = some (some (.pointer none), 1, 8) := by kernel_rfl
   obtain ⟨i, hi, he⟩ := Option.map_eq_some_iff.1 h
   simp only [Prod.mk.injEq] at he
   exact ⟨i, hi, he.1, he.2.1, he.2.2⟩
 have hr := run_make (P := Tryd.prog) w 88 90 i (.pointer none) Tryd.underlying88 hi hz .i64 .u64 0 cap (Int.le_refl _) (by omega) (by rw [hb]; omega) (by omega)
 have hm : madeCells (Value.pointer none).cells (((cap : Int).toNat) * i.size) = Array.replicate cap (.pointer none) := by
   rw [hs, Nat.mul_one, Int.toNat_natCast]
   unfold madeCells
   apply Array.ext
   · simp
   · intro j h1 h2
     have : (Value.pointer none).cells = #[.pointer none] := rfl
     simp [this, Nat.mod_one j]
 rw [hm, Int.toNat_natCast] at hr
 refine ⟨_, hr, ⟨rfl, .inr ⟨w.heap.size, 0, cap, _, rfl, Nat.le_refl _, Blk.new rfl, Nat.zero_le _, by simp only [maxLen]; omega, by simp, by simp⟩⟩, grown_alloc _ _⟩
theorem RingOk.get {cap hd i : Nat} {ms : List Nat} {arr : Array Value} (h : RingOk cap hd ms arr) (hi : i < cap) (hh : (hd ≤ i ∧ i - hd < ms.length) ∨ (i < hd ∧ i + cap - hd < ms.length)) : ∃ m, m ∈ ms ∧ arr[i]? = some (pt m) := by
 have h1 := h.hlt
 rcases hh with ⟨h2, h3⟩ | ⟨h2, h3⟩
 · have := h.at_ (i - hd) _ (List.getElem?_eq_getElem h3)
   rw [show hd + (i - hd) = i by omega, Nat.mod_eq_of_lt hi] at this
   exact ⟨_, List.getElem_mem h3, this⟩
 · have := h.at_ (i + cap - hd) _ (List.getElem?_eq_getElem h3)
   rw [show hd + (i + cap - hd) = i + cap by omega, Nat.add_mod_right, Nat.mod_eq_of_lt hi] at this
   exact ⟨_, List.getElem_mem h3, this⟩
theorem mem_snoc {ms xs : List Nat} {m : Nat} (h : ∀ x, x ∈ xs → x ∈ ms) (hm : m ∈ ms) : ∀ x, x ∈ xs ++ [m] → x ∈ ms := fun x hx => by
 rcases List.mem_append.1 hx with hx | hx
 · exact h x hx
 · rw [List.mem_singleton.1 hx]; exact hm
theorem GR.lower {α : Type} {f : α → Value} {w : World} {base b2 e : Nat} {v : Value} {l : List α} (h : GR w base e f v l) (hb : b2 ≤ base) : GR w b2 e f v l := by
 refine ⟨h.1, ?_⟩
 rcases h.2 with h | ⟨g, o, cap, cur, rfl, h1, h2⟩
 · exact .inl h
 · exact .inr ⟨g, o, cap, cur, rfl, Nat.le_trans hb h1, h2⟩
theorem gas_nil {d : WinD} {B b g hd : Nat} {ms : List Nat} {kp mp : Option Nat} {arr : Array Value} {w0 : World} (H : PlP w0 B b d g hd ms kp mp arr) (hp12 : d.places ≤ 12) (h0 : d.segs.length = 0) : Calls Tryd.prog 29 #[pt b] w0 fun e w' => e = .returned (.slice none 0 0) ∧ w0 = w' := by
 have Bb0 := H.blk
 have Bg0 := H.row
 have hw : w0.heap.size ≤ w0.heap.size := Nat.le_refl _
 have hhd := H.ring.hlt
 have hml := H.fms.1
 have hrl := H.ring.le
 obtain ⟨tl, htl⟩ : ∃ tl, (hd + d.segs.length) % d.places = tl := ⟨_, rfl⟩
 have hwr : (hd + d.segs.length < d.places ∧ tl = hd + d.segs.length) ∨ (d.places ≤ hd + d.segs.length ∧ tl = hd + d.segs.length - d.places) := by
   rw [← htl]; exact mod_two (by omega)
 have Bb0 : Blk w0 b 104 #[(.float .f64 (fn d.tgt)), (.int .u64 d.seq), (.slice (some ⟨g, 0, none⟩) d.places d.places), (.string ⟨#[]⟩), (.bool d.ifr), (.bool d.clo), (.int .u64 0), (.int .u64 0), (.float .f64 0), (.bool false), (.bool false), (.int .i64 0), (.int .u64 d.written), (.int .u64 d.places), (.int .u64 hd), (.int .u64 tl), (.int .u64 d.segs.length), (.slice none 0 0), (.int .i64 0), (.int .i8 0), (.int .u8 d.ver), (pto kp), (pto mp)] := by
   have h := H.blk
   unfold plC at h
   rw [htl] at h
   exact h
 refine calls_of_wp Tryd.func29 rfl ?_
 generalize hA : Act.mk _ _ = a0
 have F0 : Fz 90 a0 := by subst hA; exact ⟨by simp [Tryd.ntmps29], rfl⟩
 have h0_0 : a0.tmps.getD 0 undef = (.pointer (some ⟨b, 0, none⟩)) := by subst hA; exact fr_arg rfl
 refine wp_sr ?_
 refine wl_pq F0 (ex_as (v := (.slice none 0 0)) rfl) fun a1 u1 F1 h2_1 => ?_
 change Code.wp _ _ _ _ _
 refine wp_seq ?_
 refine wp_sr ?_
 refine wl_pq F1 (ex_mv (u1.w h0_0)) fun a2 u2 F2 h7_2 => ?_
 refine wl_pq F2 (ex_nil h7_2) fun a3 u3 F3 h8_3 => ?_
 refine wl_pq F3 (ex_fb 16 h8_3) fun a4 u4 F4 h9_4 => ?_
 refine wl_pq F4 (ex_le (v := (.int .u64 d.segs.length)) h9_4 (Bb0.cell 16)) fun a5 u5 F5 h10_5 => ?_
 refine wl_pq F5 (ex_bin (vy := (.int .u64 0)) (v := (.bool true)) h10_5 rfl ((uo_eq d.segs.length 0 _).trans (by rw [decide_eq_true (by omega)]))) fun a6 u6 F6 h11_6 => ?_
 change Code.wp _ _ _ _ _
 refine wp_cond_true h11_6 ?_
 refine wp_sr ?_
 refine wl_pq F6 (ex_as (v := (.slice none 0 0)) rfl) fun a7 u7 F7 h2_7 => ?_
 change Code.wp _ _ _ _ _
 refine wp_ret ?_
 try simp only [Exit.then, Exit.inBlock]
 exact bodyPost_ret (v := (.slice none 0 0)) ((results_tmp rfl _ _ _).trans (by rw [h2_7])) F7.defers ⟨rfl, rfl⟩
theorem gas_one {d : WinD} {B b g hd : Nat} {ms : List Nat} {kp mp : Option Nat} {arr : Array Value} {w0 : World} (H : PlP w0 B b d g hd ms kp mp arr) (hp12 : d.places ≤ 12) (h0 : 0 < d.segs.length) (hlt : (hd < (hd + d.segs.length) % d.places)) : Calls Tryd.prog 29 #[pt b] w0 fun e w' => ∃ v xs, e = .returned v ∧ GR w' w0.heap.size 90 pt v xs ∧ (∀ x, x ∈ xs → x ∈ ms) ∧ xs.length ≤ 24 ∧ Kt w0.heap.size [90] w0 w' := by
 have Bb0 := H.blk
 have Bg0 := H.row
 have hw : w0.heap.size ≤ w0.heap.size := Nat.le_refl _
 have hhd := H.ring.hlt
 have hml := H.fms.1
 have hrl := H.ring.le
 obtain ⟨tl, htl⟩ : ∃ tl, (hd + d.segs.length) % d.places = tl := ⟨_, rfl⟩
 rw [htl] at hlt
 have hwr : (hd + d.segs.length < d.places ∧ tl = hd + d.segs.length) ∨ (d.places ≤ hd + d.segs.length ∧ tl = hd + d.segs.length - d.places) := by
   rw [← htl]; exact mod_two (by omega)
 have Bb0 : Blk w0 b 104 #[(.float .f64 (fn d.tgt)), (.int .u64 d.seq), (.slice (some ⟨g, 0, none⟩) d.places d.places), (.string ⟨#[]⟩), (.bool d.ifr), (.bool d.clo), (.int .u64 0), (.int .u64 0), (.float .f64 0), (.bool false), (.bool false), (.int .i64 0), (.int .u64 d.written), (.int .u64 d.places), (.int .u64 hd), (.int .u64 tl), (.int .u64 d.segs.length), (.slice none 0 0), (.int .i64 0), (.int .i8 0), (.int .u8 d.ver), (pto kp), (pto mp)] := by
   have h := H.blk
   unfold plC at h
   rw [htl] at h
   exact h
 refine calls_of_wp Tryd.func29 rfl ?_
 generalize hA : Act.mk _ _ = a0
 have F0 : Fz 90 a0 := by subst hA; exact ⟨by simp [Tryd.ntmps29], rfl⟩
 have h0_0 : a0.tmps.getD 0 undef = (.pointer (some ⟨b, 0, none⟩)) := by subst hA; exact fr_arg rfl
 have K_0 := Kt.refl w0.heap.size [90] w0
 have Bb_0 := Bb0
 have Bg_0 := Bg0
 refine wp_sr ?_
 refine wl_pq F0 (ex_as (v := (.slice none 0 0)) rfl) fun a1 u1 F1 h2_1 => ?_
 change Code.wp _ _ _ _ _
 refine wp_seq ?_
 refine wp_sr ?_
 refine wl_pq F1 (ex_mv (u1.w h0_0)) fun a2 u2 F2 h7_2 => ?_
 refine wl_pq F2 (ex_nil h7_2) fun a3 u3 F3 h8_3 => ?_
 refine wl_pq F3 (ex_fb 16 h8_3) fun a4 u4 F4 h9_4 => ?_
 refine wl_pq F4 (ex_le (v := (.int .u64 d.segs.length)) h9_4 (Bb_0.cell 16)) fun a5 u5 F5 h10_5 => ?_
 refine wl_pq F5 (ex_bin (vy := (.int .u64 0)) (v := (.bool false)) h10_5 rfl ((uo_eq d.segs.length 0 _).trans (by rw [decide_eq_false (by omega)]))) fun a6 u6 F6 h11_6 => ?_
 change Code.wp _ _ _ _ _
 refine wp_cond_false h11_6 ?_
 refine wp_skip ?_
 change Code.wp _ _ _ _ _
 refine wp_sr ?_
 have h0_6 := u6.w (u5.w (u4.w (u3.w (u2.w (u1.w h0_0)))))
 refine wl_pq F6 (ex_mv h0_6) fun a7 u7 F7 h12_7 => ?_
 refine wl_pq F7 (ex_nil h12_7) fun a8 u8 F8 h13_8 => ?_
 refine wl_pq F8 (ex_fb 16 h13_8) fun a9 u9 F9 h14_9 => ?_
 refine wl_pq F9 (ex_le (v := (.int .u64 d.segs.length)) h14_9 (Bb_0.cell 16)) fun a10 u10 F10 h15_10 => ?_
 obtain ⟨gs, hgs⟩ : ∃ g, w0.heap.size = g := ⟨_, rfl⟩
 have hgs2 : w0.heap.size ≤ gs := by have := K_0.bel.size; omega
 obtain ⟨w1, hr1, pr_1, G1⟩ := mk0_run hgs d.segs.length (by omega)
 have Bg_1 := Bg_0.gn G1
 have Bb_1 := Bb_0.gn G1
 have K_1 := K_0.nw hw G1
 have pr_1 : GR w1 w0.heap.size 90 pt (.slice (some ⟨gs, 0, none⟩) 0 d.segs.length) [] := pr_1.lower hgs2
 refine wl_pq F10 (ex_ms rfl h15_10 hr1) fun a11 u11 F11 (h16_11 : a11.tmps.getD 16 undef = (.slice (some ⟨gs, 0, none⟩) 0 d.segs.length)) => ?_
 clear K_0
 refine wl_pq F11 (ex_as h16_11) fun a12 u12 F12 h3_12 => ?_
 change Code.wp _ _ _ _ _
 refine wp_seq ?_
 refine wp_seq ?_
 obtain ⟨w2, hw2⟩ : ∃ w, w = w1.drew := ⟨_, rfl⟩
 have G2 : w1.grownBy w2 none := hw2 ▸ grown_drew _
 have Bg_2 := Bg_1.gn G2
 have Bb_2 := Bb_1.gn G2
 have K_2 := K_1.nw hw G2
 have pr_2 := pr_1.kt (Kt.of_none G2) (by decide)
 refine rg_still hw2 hmix (by kernel_rfl) ?_
 clear K_1 pr_1
 have h0_12 := u12.w (u11.w (u10.w (u9.w (u8.w (u7.w h0_6)))))
 refine st_pq F12 (ex_mv h0_12) fun a13 u13 F13 h17_13 => ?_
 refine st_pq F13 (ex_nil h17_13) fun a14 u14 F14 h18_14 => ?_
 refine st_pq F14 (ex_fb 14 h18_14) fun a15 u15 F15 h19_15 => ?_
 refine st_pq F15 (ex_le (v := (.int .u64 hd)) h19_15 (Bb_2.cell 14)) fun a16 u16 F16 h20_16 => ?_
 have h0_16 := u16.w (u15.w (u14.w (u13.w h0_12)))
 refine st_pq F16 (ex_mv h0_16) fun a17 u17 F17 h21_17 => ?_
 refine st_pq F17 (ex_nil h21_17) fun a18 u18 F18 h22_18 => ?_
 refine st_pq F18 (ex_fb 15 h22_18) fun a19 u19 F19 h23_19 => ?_
 refine st_pq F19 (ex_le (v := (.int .u64 tl)) h23_19 (Bb_2.cell 15)) fun a20 u20 F20 h24_20 => ?_
 have h20_20 := u20.w (u19.w (u18.w (u17.w h20_16)))
 refine st_pq F20 (ex_bin (v := (.bool true)) h20_20 h24_20 ((uo_lt hd tl _).trans (by rw [decide_eq_true (by omega)]))) fun a21 u21 F21 h25_21 => ?_
 change Code.wp _ _ _ _ _
 refine wp_cond_true h25_21 ?_
 refine wp_seq ?_
 refine wp_sr ?_
 have h0_21 := u21.w (u20.w (u19.w (u18.w (u17.w h0_16))))
 refine wl_pq F21 (ex_mv h0_21) fun a22 u22 F22 h26_22 => ?_
 refine wl_pq F22 (ex_nil h26_22) fun a23 u23 F23 h27_23 => ?_
 refine wl_pq F23 (ex_fb 14 h27_23) fun a24 u24 F24 h28_24 => ?_
 refine wl_pq F24 (ex_le (v := (.int .u64 hd)) h28_24 (Bb_2.cell 14)) fun a25 u25 F25 h29_25 => ?_
 refine wl_pq F25 (ex_as h29_25) fun a26 u26 F26 h4_26 => ?_
 change Code.wp _ _ _ _ _
 have h0_26 := u26.w (u25.w (u24.w (u23.w (u22.w h0_21))))
 have h3_26 := u26.w (u25.w (u24.w (u23.w (u22.w (u21.w (u20.w (u19.w (u18.w (u17.w (u16.w (u15.w (u14.w (u13.w h3_12)))))))))))))
 refine loop_s (s := hd) (si := 4) (ty := .u64) (m := (tl - hd)) (fun (j : Nat) a w => ∃ ov : Value, ∃ xs : List Nat, (Fz 90 a) ∧ (a.tmps.getD 4 undef = .int .u64 (hd + j : Nat)) ∧ (a.tmps.getD 0 undef = (.pointer (some ⟨b, 0, none⟩))) ∧ (a.tmps.getD 3 undef = ov) ∧ (Kt w0.heap.size [90] w0 w) ∧ (GR w w0.heap.size 90 pt ov xs) ∧ (∀ x, x ∈ xs → x ∈ ms) ∧ (xs.length ≤ 0 + j)) ⟨(.slice (some ⟨gs, 0, none⟩) 0 d.segs.length), ([] : List Nat), F26, h4_26, h0_26, h3_26, K_2, pr_2, (by simp), (by simp)⟩ (fun _ _ _ ⟨_, _, h⟩ => h.2.1) ?_ ?_
 · clear K_2 pr_2
   intro j a27 w3 hj ⟨ov, xs, F27, h4_27, h0_27, h3_27, K_3, pr_3, hx_3, hn_3⟩ R hR
   have Bb_3 := Bb0.bl K_3.bel
   have Bg_3 := Bg0.bl K_3.bel
   obtain ⟨m, hmem, harr⟩ := H.ring.get (i := hd + j) (by omega) (by omega)
   refine wp_seq ?_
   refine wp_sr ?_
   refine wl_pq F27 (ex_mv h4_27) fun a28 u28 F28 h30_28 => ?_
   refine wl_pq F28 (ex_mv (u28.w h0_27)) fun a29 u29 F29 h31_29 => ?_
   refine wl_pq F29 (ex_nil h31_29) fun a30 u30 F30 h32_30 => ?_
   refine wl_pq F30 (ex_fb 15 h32_30) fun a31 u31 F31 h33_31 => ?_
   refine wl_pq F31 (ex_le (v := (.int .u64 tl)) h33_31 (Bb_3.cell 15)) fun a32 u32 F32 h34_32 => ?_
   have h30_32 := u32.w (u31.w (u30.w (u29.w h30_28)))
   refine wl_pq F32 (ex_bin (v := (.bool true)) h30_32 h34_32 ((uo_lt (hd + j : Nat) tl _).trans (by rw [decide_eq_true (by omega)]))) fun a33 u33 F33 h35_33 => ?_
   change Code.wp _ _ _ _ _
   refine wp_cond_true h35_33 ?_
   refine wp_skip ?_
   change Code.wp _ _ _ _ _
   refine wp_seq ?_
   refine wp_block ?_
   refine rg_list ?_
   have h3_33 := u33.w (u32.w (u31.w (u30.w (u29.w (u28.w h3_27)))))
   refine wl_pq F33 (ex_mv h3_33) fun a34 u34 F34 h38_34 => ?_
   have h0_34 := u34.w (u33.w (u32.w (u31.w (u30.w (u29.w (u28.w h0_27))))))
   refine wl_pq F34 (ex_mv h0_34) fun a35 u35 F35 h39_35 => ?_
   refine wl_pq F35 (ex_nil h39_35) fun a36 u36 F36 h40_36 => ?_
   refine wl_pq F36 (ex_fb 2 h40_36) fun a37 u37 F37 h41_37 => ?_
   refine wl_pq F37 (ex_le (v := (.slice (some ⟨g, 0, none⟩) d.places d.places)) h41_37 (Bb_3.cell 2)) fun a38 u38 F38 h42_38 => ?_
   have h4_38 := u38.w (u37.w (u36.w (u35.w (u34.w (u33.w (u32.w (u31.w (u30.w (u29.w (u28.w h4_27))))))))))
   refine wl_pq F38 (ex_mv h4_38) fun a39 u39 F39 h43_39 => ?_
   refine wl_pq F39 (ex_ixg (vx := (.slice (some ⟨g, 0, none⟩) d.places d.places)) (vy := (.int .u64 (hd + j : Nat))) (v := (.pointer (some ⟨g, (hd + j : Nat), none⟩))) (u39.w h42_38) h43_39 (ix_pm g d.places (hd + j : Nat) (by first | omega | exact Nat.mod_lt _ (by omega)) _)) fun a40 u40 F40 h44_40 => ?_
   refine wl_pq F40 (ex_le (v := pt m) h44_40 ((Bg_3.cell _).trans harr)) fun a41 u41 F41 h45_41 => ?_
   obtain ⟨gx, hgx⟩ : ∃ g, w3.heap.size = g := ⟨_, rfl⟩
   have ne_g_x : g ≠ gx := by have := Bg_3.lt; omega
   have ne_b_x : b ≠ gx := by have := Bb_3.lt; omega
   obtain ⟨w4, hr4, Bx_4, G4, hs4⟩ := bs_run (op := Instr.buildSlice 88 1 #[(0, (pt m))]) (n := 1) (T := 90) (cs := #[(pt m)]) hgx (fun _ => by kernel_rfl)
   have Bg_4 := Bg_3.gn G4
   have Bb_4 := Bb_3.gn G4
   have K_4 := K_3.nw hw G4
   have pr_4 := pr_3.kt (Kt.of_none G4) (by decide)
   refine wl_pq F41 (ex_bs (vs := #[(0, (pt m))]) (by have e0 : a41.eval (.tmp 45) = (pt m) := h45_41; simp only [List.map_toArray, List.map_cons, List.map_nil, e0]) hr4) fun a42 u42 F42 (h46_42 : a42.tmps.getD 46 undef = (.slice (some ⟨gx, 0, none⟩) 1 1)) => ?_
   clear K_3 pr_3 hgx
   obtain ⟨v5, w5, hr5, pr_5, G5⟩ := pr_4.push (f := pt) (x := m) (ty := 88) (c := 1) (z := .pointer none) (by_ := 8) Tryd.underlying88 (by kernel_rfl) rfl (by decide) (by decide) Bx_4 rfl (K_4.le hw) (by have := hn_3; omega)
   have KR5 := pr_4.ktof G5
   have Bb_5 := Bb_4.kt KR5 (by decide)
   have K_5 := pr_4.ktr K_4 hw (Nat.le_refl _) (by decide) G5
   have h38_42 := u42.w (u41.w (u40.w (u39.w (u38.w (u37.w (u36.w (u35.w h38_34)))))))
   refine wl_pq F42 (ex_app h38_42 h46_42 hr5) fun a43 u43 F43 (h47_43 : a43.tmps.getD 47 undef = v5) => ?_
   clear KR5 K_4 pr_4
   refine wl_pq F43 (ex_as h47_43) fun a44 u44 F44 h3_44 => ?_
   change Code.wp _ _ _ _ _
   refine rg_list ?_
   have h4_44 := u44.w (u43.w (u42.w (u41.w (u40.w (u39.w h4_38)))))
   refine wl_pq F44 (ex_mv h4_44) fun a45 u45 F45 h36_45 => ?_
   refine wl_pq F45 (ex_bin (vy := (.int .u64 1)) (v := (.int .u64 ((hd + j : Nat) + 1 : Nat))) h36_45 rfl (uo_add (hd + j : Nat) 1 (by omega) _)) fun a46 u46 F46 h37_46 => ?_
   refine wl_pq F46 (ex_as h37_46) fun a47 u47 F47 h4_47 => ?_
   have h0_47 := u47.w (u46.w (u45.w (u44.w (u43.w (u42.w (u41.w (u40.w (u39.w (u38.w (u37.w (u36.w (u35.w h0_34))))))))))))
   have h3_47 := u47.w (u46.w (u45.w h3_44))
   exact hR _ _ ⟨v5, (xs ++ [m]), F47, h4_47, h0_47, h3_47, K_5, pr_5, (mem_snoc hx_3 hmem), (by rw [List.length_append]; have := hn_3; simp only [List.length_cons, List.length_nil]; omega)⟩
 · clear K_2 pr_2
   intro a27 w3 ⟨ov, xs, F27, h4_27, h0_27, h3_27, K_3, pr_3, hx_3, hn_3⟩
   have Bb_3 := Bb0.bl K_3.bel
   have Bg_3 := Bg0.bl K_3.bel
   refine wp_seq ?_
   refine wp_sr ?_
   refine wl_pq F27 (ex_mv h4_27) fun a28 u28 F28 h30_28 => ?_
   refine wl_pq F28 (ex_mv (u28.w h0_27)) fun a29 u29 F29 h31_29 => ?_
   refine wl_pq F29 (ex_nil h31_29) fun a30 u30 F30 h32_30 => ?_
   refine wl_pq F30 (ex_fb 15 h32_30) fun a31 u31 F31 h33_31 => ?_
   refine wl_pq F31 (ex_le (v := (.int .u64 tl)) h33_31 (Bb_3.cell 15)) fun a32 u32 F32 h34_32 => ?_
   have h30_32 := u32.w (u31.w (u30.w (u29.w h30_28)))
   refine wl_pq F32 (ex_bin (v := (.bool false)) h30_32 h34_32 ((uo_lt (hd + ((tl - hd)) : Nat) tl _).trans (by rw [decide_eq_false (by omega)]))) fun a33 u33 F33 h35_33 => ?_
   change Code.wp _ _ _ _ _
   refine wp_cond_false h35_33 ?_
   refine wp_exit ?_
   try simp only [Exit.then]
   refine inBlock_exit ?_
   change Code.wp _ _ _ _ _
   refine wp_sr ?_
   have h3_33 := u33.w (u32.w (u31.w (u30.w (u29.w (u28.w h3_27)))))
   refine wl_pq F33 (ex_mv h3_33) fun a34 u34 F34 h48_34 => ?_
   refine wl_pq F34 (ex_as h48_34) fun a35 u35 F35 h2_35 => ?_
   change Code.wp _ _ _ _ _
   refine wp_ret ?_
   try simp only [Exit.then, Exit.inBlock]
   exact bodyPost_ret (v := ov) ((results_tmp rfl _ _ _).trans (by rw [h2_35])) F35.defers ⟨_, xs, rfl, pr_3, hx_3, (by have := hn_3; omega), K_3⟩
theorem gas_two {d : WinD} {B b g hd : Nat} {ms : List Nat} {kp mp : Option Nat} {arr : Array Value} {w0 : World} (H : PlP w0 B b d g hd ms kp mp arr) (hp12 : d.places ≤ 12) (h0 : 0 < d.segs.length) (hlt : ¬ (hd < (hd + d.segs.length) % d.places)) : Calls Tryd.prog 29 #[pt b] w0 fun e w' => ∃ v xs, e = .returned v ∧ GR w' w0.heap.size 90 pt v xs ∧ (∀ x, x ∈ xs → x ∈ ms) ∧ xs.length ≤ 24 ∧ Kt w0.heap.size [90] w0 w' := by
 have Bb0 := H.blk
 have Bg0 := H.row
 have hw : w0.heap.size ≤ w0.heap.size := Nat.le_refl _
 have hhd := H.ring.hlt
 have hml := H.fms.1
 have hrl := H.ring.le
 obtain ⟨tl, htl⟩ : ∃ tl, (hd + d.segs.length) % d.places = tl := ⟨_, rfl⟩
 rw [htl] at hlt
 have hwr : (hd + d.segs.length < d.places ∧ tl = hd + d.segs.length) ∨ (d.places ≤ hd + d.segs.length ∧ tl = hd + d.segs.length - d.places) := by
   rw [← htl]; exact mod_two (by omega)
 have Bb0 : Blk w0 b 104 #[(.float .f64 (fn d.tgt)), (.int .u64 d.seq), (.slice (some ⟨g, 0, none⟩) d.places d.places), (.string ⟨#[]⟩), (.bool d.ifr), (.bool d.clo), (.int .u64 0), (.int .u64 0), (.float .f64 0), (.bool false), (.bool false), (.int .i64 0), (.int .u64 d.written), (.int .u64 d.places), (.int .u64 hd), (.int .u64 tl), (.int .u64 d.segs.length), (.slice none 0 0), (.int .i64 0), (.int .i8 0), (.int .u8 d.ver), (pto kp), (pto mp)] := by
   have h := H.blk
   unfold plC at h
   rw [htl] at h
   exact h
 refine calls_of_wp Tryd.func29 rfl ?_
 generalize hA : Act.mk _ _ = a0
 have F0 : Fz 90 a0 := by subst hA; exact ⟨by simp [Tryd.ntmps29], rfl⟩
 have h0_0 : a0.tmps.getD 0 undef = (.pointer (some ⟨b, 0, none⟩)) := by subst hA; exact fr_arg rfl
 have K_0 := Kt.refl w0.heap.size [90] w0
 have Bb_0 := Bb0
 have Bg_0 := Bg0
 refine wp_sr ?_
 refine wl_pq F0 (ex_as (v := (.slice none 0 0)) rfl) fun a1 u1 F1 h2_1 => ?_
 change Code.wp _ _ _ _ _
 refine wp_seq ?_
 refine wp_sr ?_
 refine wl_pq F1 (ex_mv (u1.w h0_0)) fun a2 u2 F2 h7_2 => ?_
 refine wl_pq F2 (ex_nil h7_2) fun a3 u3 F3 h8_3 => ?_
 refine wl_pq F3 (ex_fb 16 h8_3) fun a4 u4 F4 h9_4 => ?_
 refine wl_pq F4 (ex_le (v := (.int .u64 d.segs.length)) h9_4 (Bb_0.cell 16)) fun a5 u5 F5 h10_5 => ?_
 refine wl_pq F5 (ex_bin (vy := (.int .u64 0)) (v := (.bool false)) h10_5 rfl ((uo_eq d.segs.length 0 _).trans (by rw [decide_eq_false (by omega)]))) fun a6 u6 F6 h11_6 => ?_
 change Code.wp _ _ _ _ _
 refine wp_cond_false h11_6 ?_
 refine wp_skip ?_
 change Code.wp _ _ _ _ _
 refine wp_sr ?_
 have h0_6 := u6.w (u5.w (u4.w (u3.w (u2.w (u1.w h0_0)))))
 refine wl_pq F6 (ex_mv h0_6) fun a7 u7 F7 h12_7 => ?_
 refine wl_pq F7 (ex_nil h12_7) fun a8 u8 F8 h13_8 => ?_
 refine wl_pq F8 (ex_fb 16 h13_8) fun a9 u9 F9 h14_9 => ?_
 refine wl_pq F9 (ex_le (v := (.int .u64 d.segs.length)) h14_9 (Bb_0.cell 16)) fun a10 u10 F10 h15_10 => ?_
 obtain ⟨gs, hgs⟩ : ∃ g, w0.heap.size = g := ⟨_, rfl⟩
 have hgs2 : w0.heap.size ≤ gs := by have := K_0.bel.size; omega
 obtain ⟨w1, hr1, pr_1, G1⟩ := mk0_run hgs d.segs.length (by omega)
 have Bg_1 := Bg_0.gn G1
 have Bb_1 := Bb_0.gn G1
 have K_1 := K_0.nw hw G1
 have pr_1 : GR w1 w0.heap.size 90 pt (.slice (some ⟨gs, 0, none⟩) 0 d.segs.length) [] := pr_1.lower hgs2
 refine wl_pq F10 (ex_ms rfl h15_10 hr1) fun a11 u11 F11 (h16_11 : a11.tmps.getD 16 undef = (.slice (some ⟨gs, 0, none⟩) 0 d.segs.length)) => ?_
 clear K_0
 refine wl_pq F11 (ex_as h16_11) fun a12 u12 F12 h3_12 => ?_
 change Code.wp _ _ _ _ _
 refine wp_seq ?_
 refine wp_seq ?_
 obtain ⟨w2, hw2⟩ : ∃ w, w = w1.drew := ⟨_, rfl⟩
 have G2 : w1.grownBy w2 none := hw2 ▸ grown_drew _
 have Bg_2 := Bg_1.gn G2
 have Bb_2 := Bb_1.gn G2
 have K_2 := K_1.nw hw G2
 have pr_2 := pr_1.kt (Kt.of_none G2) (by decide)
 refine rg_still hw2 hmix (by kernel_rfl) ?_
 clear K_1 pr_1
 have h0_12 := u12.w (u11.w (u10.w (u9.w (u8.w (u7.w h0_6)))))
 refine st_pq F12 (ex_mv h0_12) fun a13 u13 F13 h17_13 => ?_
 refine st_pq F13 (ex_nil h17_13) fun a14 u14 F14 h18_14 => ?_
 refine st_pq F14 (ex_fb 14 h18_14) fun a15 u15 F15 h19_15 => ?_
 refine st_pq F15 (ex_le (v := (.int .u64 hd)) h19_15 (Bb_2.cell 14)) fun a16 u16 F16 h20_16 => ?_
 have h0_16 := u16.w (u15.w (u14.w (u13.w h0_12)))
 refine st_pq F16 (ex_mv h0_16) fun a17 u17 F17 h21_17 => ?_
 refine st_pq F17 (ex_nil h21_17) fun a18 u18 F18 h22_18 => ?_
 refine st_pq F18 (ex_fb 15 h22_18) fun a19 u19 F19 h23_19 => ?_
 refine st_pq F19 (ex_le (v := (.int .u64 tl)) h23_19 (Bb_2.cell 15)) fun a20 u20 F20 h24_20 => ?_
 have h20_20 := u20.w (u19.w (u18.w (u17.w h20_16)))
 refine st_pq F20 (ex_bin (v := (.bool false)) h20_20 h24_20 ((uo_lt hd tl _).trans (by rw [decide_eq_false (by omega)]))) fun a21 u21 F21 h25_21 => ?_
 change Code.wp _ _ _ _ _
 refine wp_cond_false h25_21 ?_
 refine wp_skip ?_
 change Code.wp _ _ _ _ _
 refine wp_seq ?_
 refine wp_sr ?_
 refine wl_pq F21 (ex_as (v := (.int .u64 0)) rfl) fun a22 u22 F22 h5_22 => ?_
 change Code.wp _ _ _ _ _
 have h0_22 := u22.w (u21.w (u20.w (u19.w (u18.w (u17.w h0_16)))))
 have h3_22 := u22.w (u21.w (u20.w (u19.w (u18.w (u17.w (u16.w (u15.w (u14.w (u13.w h3_12)))))))))
 refine loop_k (si := 5) (ty := .u64) (m := tl) (fun (j : Nat) a w => ∃ ov : Value, ∃ xs : List Nat, (Fz 90 a) ∧ (a.tmps.getD 5 undef = .int .u64 j) ∧ (a.tmps.getD 0 undef = (.pointer (some ⟨b, 0, none⟩))) ∧ (a.tmps.getD 3 undef = ov) ∧ (Kt w0.heap.size [90] w0 w) ∧ (GR w w0.heap.size 90 pt ov xs) ∧ (∀ x, x ∈ xs → x ∈ ms) ∧ (xs.length ≤ 0 + j)) ⟨(.slice (some ⟨gs, 0, none⟩) 0 d.segs.length), ([] : List Nat), F22, h5_22, h0_22, h3_22, K_2, pr_2, (by simp), (by simp)⟩ (fun _ _ _ ⟨_, _, h⟩ => h.2.1) ?_ ?_
 · clear K_2 pr_2
   intro j a23 w3 hj ⟨ov, xs, F23, h5_23, h0_23, h3_23, K_3, pr_3, hx_3, hn_3⟩ R hR
   have Bb_3 := Bb0.bl K_3.bel
   have Bg_3 := Bg0.bl K_3.bel
   obtain ⟨m, hmem, harr⟩ := H.ring.get (i := j) (by omega) (by omega)
   refine wp_seq ?_
   refine wp_sr ?_
   refine wl_pq F23 (ex_mv h5_23) fun a24 u24 F24 h49_24 => ?_
   refine wl_pq F24 (ex_mv (u24.w h0_23)) fun a25 u25 F25 h50_25 => ?_
   refine wl_pq F25 (ex_nil h50_25) fun a26 u26 F26 h51_26 => ?_
   refine wl_pq F26 (ex_fb 15 h51_26) fun a27 u27 F27 h52_27 => ?_
   refine wl_pq F27 (ex_le (v := (.int .u64 tl)) h52_27 (Bb_3.cell 15)) fun a28 u28 F28 h53_28 => ?_
   have h49_28 := u28.w (u27.w (u26.w (u25.w h49_24)))
   refine wl_pq F28 (ex_bin (v := (.bool true)) h49_28 h53_28 ((uo_lt j tl _).trans (by rw [decide_eq_true (by omega)]))) fun a29 u29 F29 h54_29 => ?_
   change Code.wp _ _ _ _ _
   refine wp_cond_true h54_29 ?_
   refine wp_skip ?_
   change Code.wp _ _ _ _ _
   refine wp_seq ?_
   refine wp_block ?_
   refine rg_list ?_
   have h3_29 := u29.w (u28.w (u27.w (u26.w (u25.w (u24.w h3_23)))))
   refine wl_pq F29 (ex_mv h3_29) fun a30 u30 F30 h57_30 => ?_
   have h0_30 := u30.w (u29.w (u28.w (u27.w (u26.w (u25.w (u24.w h0_23))))))
   refine wl_pq F30 (ex_mv h0_30) fun a31 u31 F31 h58_31 => ?_
   refine wl_pq F31 (ex_nil h58_31) fun a32 u32 F32 h59_32 => ?_
   refine wl_pq F32 (ex_fb 2 h59_32) fun a33 u33 F33 h60_33 => ?_
   refine wl_pq F33 (ex_le (v := (.slice (some ⟨g, 0, none⟩) d.places d.places)) h60_33 (Bb_3.cell 2)) fun a34 u34 F34 h61_34 => ?_
   have h5_34 := u34.w (u33.w (u32.w (u31.w (u30.w (u29.w (u28.w (u27.w (u26.w (u25.w (u24.w h5_23))))))))))
   refine wl_pq F34 (ex_mv h5_34) fun a35 u35 F35 h62_35 => ?_
   refine wl_pq F35 (ex_ixg (vx := (.slice (some ⟨g, 0, none⟩) d.places d.places)) (vy := (.int .u64 j)) (v := (.pointer (some ⟨g, j, none⟩))) (u35.w h61_34) h62_35 (ix_pm g d.places j (by first | omega | exact Nat.mod_lt _ (by omega)) _)) fun a36 u36 F36 h63_36 => ?_
   refine wl_pq F36 (ex_le (v := pt m) h63_36 ((Bg_3.cell _).trans harr)) fun a37 u37 F37 h64_37 => ?_
   obtain ⟨gy, hgy⟩ : ∃ g, w3.heap.size = g := ⟨_, rfl⟩
   have ne_g_y : g ≠ gy := by have := Bg_3.lt; omega
   have ne_b_y : b ≠ gy := by have := Bb_3.lt; omega
   obtain ⟨w4, hr4, By_4, G4, hs4⟩ := bs_run (op := Instr.buildSlice 88 1 #[(0, (pt m))]) (n := 1) (T := 90) (cs := #[(pt m)]) hgy (fun _ => by kernel_rfl)
   have Bg_4 := Bg_3.gn G4
   have Bb_4 := Bb_3.gn G4
   have K_4 := K_3.nw hw G4
   have pr_4 := pr_3.kt (Kt.of_none G4) (by decide)
   refine wl_pq F37 (ex_bs (vs := #[(0, (pt m))]) (by have e0 : a37.eval (.tmp 64) = (pt m) := h64_37; simp only [List.map_toArray, List.map_cons, List.map_nil, e0]) hr4) fun a38 u38 F38 (h65_38 : a38.tmps.getD 65 undef = (.slice (some ⟨gy, 0, none⟩) 1 1)) => ?_
   clear K_3 pr_3 hgy
   obtain ⟨v5, w5, hr5, pr_5, G5⟩ := pr_4.push (f := pt) (x := m) (ty := 88) (c := 1) (z := .pointer none) (by_ := 8) Tryd.underlying88 (by kernel_rfl) rfl (by decide) (by decide) By_4 rfl (K_4.le hw) (by have := hn_3; omega)
   have KR5 := pr_4.ktof G5
   have Bb_5 := Bb_4.kt KR5 (by decide)
   have K_5 := pr_4.ktr K_4 hw (Nat.le_refl _) (by decide) G5
   have h57_38 := u38.w (u37.w (u36.w (u35.w (u34.w (u33.w (u32.w (u31.w h57_30)))))))
   refine wl_pq F38 (ex_app h57_38 h65_38 hr5) fun a39 u39 F39 (h66_39 : a39.tmps.getD 66 undef = v5) => ?_
   clear KR5 K_4 pr_4
   refine wl_pq F39 (ex_as h66_39) fun a40 u40 F40 h3_40 => ?_
   change Code.wp _ _ _ _ _
   refine rg_list ?_
   have h5_40 := u40.w (u39.w (u38.w (u37.w (u36.w (u35.w h5_34)))))
   refine wl_pq F40 (ex_mv h5_40) fun a41 u41 F41 h55_41 => ?_
   refine wl_pq F41 (ex_bin (vy := (.int .u64 1)) (v := (.int .u64 (j + 1 : Nat))) h55_41 rfl (uo_add j 1 (by omega) _)) fun a42 u42 F42 h56_42 => ?_
   refine wl_pq F42 (ex_as h56_42) fun a43 u43 F43 h5_43 => ?_
   have h0_43 := u43.w (u42.w (u41.w (u40.w (u39.w (u38.w (u37.w (u36.w (u35.w (u34.w (u33.w (u32.w (u31.w h0_30))))))))))))
   have h3_43 := u43.w (u42.w (u41.w h3_40))
   exact hR _ _ ⟨v5, (xs ++ [m]), F43, h5_43, h0_43, h3_43, K_5, pr_5, (mem_snoc hx_3 hmem), (by rw [List.length_append]; have := hn_3; simp only [List.length_cons, List.length_nil]; omega)⟩
 · clear K_2 pr_2
   intro a23 w3 ⟨ov, xs, F23, h5_23, h0_23, h3_23, K_3, pr_3, hx_3, hn_3⟩
   have Bb_3 := Bb0.bl K_3.bel
   have Bg_3 := Bg0.bl K_3.bel
   refine wp_seq ?_
   refine wp_sr ?_
   refine wl_pq F23 (ex_mv h5_23) fun a24 u24 F24 h49_24 => ?_
   refine wl_pq F24 (ex_mv (u24.w h0_23)) fun a25 u25 F25 h50_25 => ?_
   refine wl_pq F25 (ex_nil h50_25) fun a26 u26 F26 h51_26 => ?_
   refine wl_pq F26 (ex_fb 15 h51_26) fun a27 u27 F27 h52_27 => ?_
   refine wl_pq F27 (ex_le (v := (.int .u64 tl)) h52_27 (Bb_3.cell 15)) fun a28 u28 F28 h53_28 => ?_
   have h49_28 := u28.w (u27.w (u26.w (u25.w h49_24)))
   refine wl_pq F28 (ex_bin (v := (.bool false)) h49_28 h53_28 ((uo_lt tl tl _).trans (by rw [decide_eq_false (by omega)]))) fun a29 u29 F29 h54_29 => ?_
   change Code.wp _ _ _ _ _
   refine wp_cond_false h54_29 ?_
   refine wp_exit ?_
   try simp only [Exit.then]
   refine inBlock_exit ?_
   change Code.wp _ _ _ _ _
   refine wp_seq ?_
   refine wp_sr ?_
   have h0_29 := u29.w (u28.w (u27.w (u26.w (u25.w (u24.w h0_23)))))
   refine wl_pq F29 (ex_mv h0_29) fun a30 u30 F30 h67_30 => ?_
   refine wl_pq F30 (ex_nil h67_30) fun a31 u31 F31 h68_31 => ?_
   refine wl_pq F31 (ex_fb 14 h68_31) fun a32 u32 F32 h69_32 => ?_
   refine wl_pq F32 (ex_le (v := (.int .u64 hd)) h69_32 (Bb_3.cell 14)) fun a33 u33 F33 h70_33 => ?_
   refine wl_pq F33 (ex_as h70_33) fun a34 u34 F34 h6_34 => ?_
   change Code.wp _ _ _ _ _
   have h0_34 := u34.w (u33.w (u32.w (u31.w (u30.w h0_29))))
   have h3_34 := u34.w (u33.w (u32.w (u31.w (u30.w (u29.w (u28.w (u27.w (u26.w (u25.w (u24.w h3_23))))))))))
   refine loop_s (s := hd) (si := 6) (ty := .u64) (m := (d.places - hd)) (fun (j : Nat) a w => ∃ ov : Value, ∃ xs : List Nat, (Fz 90 a) ∧ (a.tmps.getD 6 undef = .int .u64 (hd + j : Nat)) ∧ (a.tmps.getD 0 undef = (.pointer (some ⟨b, 0, none⟩))) ∧ (a.tmps.getD 3 undef = ov) ∧ (Kt w0.heap.size [90] w0 w) ∧ (GR w w0.heap.size 90 pt ov xs) ∧ (∀ x, x ∈ xs → x ∈ ms) ∧ (xs.length ≤ tl + j)) ⟨ov, xs, F34, h6_34, h0_34, h3_34, K_3, pr_3, hx_3, (by have := hn_3; omega)⟩ (fun _ _ _ ⟨_, _, h⟩ => h.2.1) ?_ ?_
   · clear K_3 pr_3
     intro j a35 w4 hj ⟨ov, xs, F35, h6_35, h0_35, h3_35, K_4, pr_4, hx_4, hn_4⟩ R hR
     have Bb_4 := Bb0.bl K_4.bel
     have Bg_4 := Bg0.bl K_4.bel
     obtain ⟨m, hmem, harr⟩ := H.ring.get (i := hd + j) (by omega) (by omega)
     refine wp_seq ?_
     refine wp_sr ?_
     refine wl_pq F35 (ex_mv h6_35) fun a36 u36 F36 h71_36 => ?_
     refine wl_pq F36 (ex_mv (u36.w h0_35)) fun a37 u37 F37 h72_37 => ?_
     refine wl_pq F37 (ex_nil h72_37) fun a38 u38 F38 h73_38 => ?_
     refine wl_pq F38 (ex_fb 13 h73_38) fun a39 u39 F39 h74_39 => ?_
     refine wl_pq F39 (ex_le (v := (.int .u64 d.places)) h74_39 (Bb_4.cell 13)) fun a40 u40 F40 h75_40 => ?_
     have h71_40 := u40.w (u39.w (u38.w (u37.w h71_36)))
     refine wl_pq F40 (ex_bin (v := (.bool true)) h71_40 h75_40 ((uo_lt (hd + j : Nat) d.places _).trans (by rw [decide_eq_true (by omega)]))) fun a41 u41 F41 h76_41 => ?_
     change Code.wp _ _ _ _ _
     refine wp_cond_true h76_41 ?_
     refine wp_skip ?_
     change Code.wp _ _ _ _ _
     refine wp_seq ?_
     refine wp_block ?_
     refine rg_list ?_
     have h3_41 := u41.w (u40.w (u39.w (u38.w (u37.w (u36.w h3_35)))))
     refine wl_pq F41 (ex_mv h3_41) fun a42 u42 F42 h79_42 => ?_
     have h0_42 := u42.w (u41.w (u40.w (u39.w (u38.w (u37.w (u36.w h0_35))))))
     refine wl_pq F42 (ex_mv h0_42) fun a43 u43 F43 h80_43 => ?_
     refine wl_pq F43 (ex_nil h80_43) fun a44 u44 F44 h81_44 => ?_
     refine wl_pq F44 (ex_fb 2 h81_44) fun a45 u45 F45 h82_45 => ?_
     refine wl_pq F45 (ex_le (v := (.slice (some ⟨g, 0, none⟩) d.places d.places)) h82_45 (Bb_4.cell 2)) fun a46 u46 F46 h83_46 => ?_
     have h6_46 := u46.w (u45.w (u44.w (u43.w (u42.w (u41.w (u40.w (u39.w (u38.w (u37.w (u36.w h6_35))))))))))
     refine wl_pq F46 (ex_mv h6_46) fun a47 u47 F47 h84_47 => ?_
     refine wl_pq F47 (ex_ixg (vx := (.slice (some ⟨g, 0, none⟩) d.places d.places)) (vy := (.int .u64 (hd + j : Nat))) (v := (.pointer (some ⟨g, (hd + j : Nat), none⟩))) (u47.w h83_46) h84_47 (ix_pm g d.places (hd + j : Nat) (by first | omega | exact Nat.mod_lt _ (by omega)) _)) fun a48 u48 F48 h85_48 => ?_
     refine wl_pq F48 (ex_le (v := pt m) h85_48 ((Bg_4.cell _).trans harr)) fun a49 u49 F49 h86_49 => ?_
     obtain ⟨gz, hgz⟩ : ∃ g, w4.heap.size = g := ⟨_, rfl⟩
     have ne_g_z : g ≠ gz := by have := Bg_4.lt; omega
     have ne_b_z : b ≠ gz := by have := Bb_4.lt; omega
     obtain ⟨w5, hr5, Bz_5, G5, hs5⟩ := bs_run (op := Instr.buildSlice 88 1 #[(0, (pt m))]) (n := 1) (T := 90) (cs := #[(pt m)]) hgz (fun _ => by kernel_rfl)
     have Bg_5 := Bg_4.gn G5
     have Bb_5 := Bb_4.gn G5
     have K_5 := K_4.nw hw G5
     have pr_5 := pr_4.kt (Kt.of_none G5) (by decide)
     refine wl_pq F49 (ex_bs (vs := #[(0, (pt m))]) (by have e0 : a49.eval (.tmp 86) = (pt m) := h86_49; simp only [List.map_toArray, List.map_cons, List.map_nil, e0]) hr5) fun a50 u50 F50 (h87_50 : a50.tmps.getD 87 undef = (.slice (some ⟨gz, 0, none⟩) 1 1)) => ?_
     clear K_4 pr_4 hgz
     obtain ⟨v6, w6, hr6, pr_6, G6⟩ := pr_5.push (f := pt) (x := m) (ty := 88) (c := 1) (z := .pointer none) (by_ := 8) Tryd.underlying88 (by kernel_rfl) rfl (by decide) (by decide) Bz_5 rfl (K_5.le hw) (by have := hn_4; omega)
     have KR6 := pr_5.ktof G6
     have Bb_6 := Bb_5.kt KR6 (by decide)
     have K_6 := pr_5.ktr K_5 hw (Nat.le_refl _) (by decide) G6
     have h79_50 := u50.w (u49.w (u48.w (u47.w (u46.w (u45.w (u44.w (u43.w h79_42)))))))
     refine wl_pq F50 (ex_app h79_50 h87_50 hr6) fun a51 u51 F51 (h88_51 : a51.tmps.getD 88 undef = v6) => ?_
     clear KR6 K_5 pr_5
     refine wl_pq F51 (ex_as h88_51) fun a52 u52 F52 h3_52 => ?_
     change Code.wp _ _ _ _ _
     refine rg_list ?_
     have h6_52 := u52.w (u51.w (u50.w (u49.w (u48.w (u47.w h6_46)))))
     refine wl_pq F52 (ex_mv h6_52) fun a53 u53 F53 h77_53 => ?_
     refine wl_pq F53 (ex_bin (vy := (.int .u64 1)) (v := (.int .u64 ((hd + j : Nat) + 1 : Nat))) h77_53 rfl (uo_add (hd + j : Nat) 1 (by omega) _)) fun a54 u54 F54 h78_54 => ?_
     refine wl_pq F54 (ex_as h78_54) fun a55 u55 F55 h6_55 => ?_
     have h0_55 := u55.w (u54.w (u53.w (u52.w (u51.w (u50.w (u49.w (u48.w (u47.w (u46.w (u45.w (u44.w (u43.w h0_42))))))))))))
     have h3_55 := u55.w (u54.w (u53.w h3_52))
     exact hR _ _ ⟨v6, (xs ++ [m]), F55, h6_55, h0_55, h3_55, K_6, pr_6, (mem_snoc hx_4 hmem), (by rw [List.length_append]; have := hn_4; simp only [List.length_cons, List.length_nil]; omega)⟩
   · clear K_3 pr_3
     intro a35 w4 ⟨ov, xs, F35, h6_35, h0_35, h3_35, K_4, pr_4, hx_4, hn_4⟩
     have Bb_4 := Bb0.bl K_4.bel
     have Bg_4 := Bg0.bl K_4.bel
     refine wp_seq ?_
     refine wp_sr ?_
     refine wl_pq F35 (ex_mv h6_35) fun a36 u36 F36 h71_36 => ?_
     refine wl_pq F36 (ex_mv (u36.w h0_35)) fun a37 u37 F37 h72_37 => ?_
     refine wl_pq F37 (ex_nil h72_37) fun a38 u38 F38 h73_38 => ?_
     refine wl_pq F38 (ex_fb 13 h73_38) fun a39 u39 F39 h74_39 => ?_
     refine wl_pq F39 (ex_le (v := (.int .u64 d.places)) h74_39 (Bb_4.cell 13)) fun a40 u40 F40 h75_40 => ?_
     have h71_40 := u40.w (u39.w (u38.w (u37.w h71_36)))
     refine wl_pq F40 (ex_bin (v := (.bool false)) h71_40 h75_40 ((uo_lt (hd + ((d.places - hd)) : Nat) d.places _).trans (by rw [decide_eq_false (by omega)]))) fun a41 u41 F41 h76_41 => ?_
     change Code.wp _ _ _ _ _
     refine wp_cond_false h76_41 ?_
     refine wp_exit ?_
     try simp only [Exit.then]
     refine inBlock_exit ?_
     change Code.wp _ _ _ _ _
     refine wp_sr ?_
     have h3_41 := u41.w (u40.w (u39.w (u38.w (u37.w (u36.w h3_35)))))
     refine wl_pq F41 (ex_mv h3_41) fun a42 u42 F42 h89_42 => ?_
     refine wl_pq F42 (ex_as h89_42) fun a43 u43 F43 h2_43 => ?_
     change Code.wp _ _ _ _ _
     refine wp_ret ?_
     try simp only [Exit.then, Exit.inBlock]
     exact bodyPost_ret (v := ov) ((results_tmp rfl _ _ _).trans (by rw [h2_43])) F43.defers ⟨_, xs, rfl, pr_4, hx_4, (by have := hn_4; omega), K_4⟩
theorem gas_any {d : WinD} {B b g hd : Nat} {ms : List Nat} {kp mp : Option Nat} {arr : Array Value} {w0 : World} (H : PlP w0 B b d g hd ms kp mp arr) (hp12 : d.places ≤ 12) : Calls Tryd.prog 29 #[pt b] w0 fun e w' => ∃ v xs ba, e = .returned v ∧ GR w' ba 90 pt v xs ∧ (∀ x, x ∈ xs → x ∈ ms) ∧ xs.length ≤ 24 ∧ Kt w0.heap.size [90] w0 w' := by
 rcases Nat.eq_zero_or_pos d.segs.length with h0 | h0
 · refine (gas_nil H hp12 h0).mono ?_
   rintro e w' ⟨rfl, rfl⟩
   exact ⟨_, [], 0, rfl, GR.nil, by simp, by simp, Kt.refl _ _ _⟩
 · by_cases hlt : hd < (hd + d.segs.length) % d.places
   · refine (gas_one H hp12 h0 hlt).mono ?_
     rintro e w' ⟨v, xs, rfl, h1, h2, h3, h4⟩
     exact ⟨v, xs, _, rfl, h1, h2, h3, h4⟩
   · refine (gas_two H hp12 h0 hlt).mono ?_
     rintro e w' ⟨v, xs, rfl, h1, h2, h3, h4⟩
     exact ⟨v, xs, _, rfl, h1, h2, h3, h4⟩
end Go.Proofs.YtdpebhlkgmopkaaDoor
