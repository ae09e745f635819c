/-
 FnSteps: the methods of the library's playlist as plain steps.
-/
import Derived.Test.YtdpebhlkgmopkaaDoorPlm
namespace Go.Proofs.YtdpebhlkgmopkaaDoor
open Go.RowKit
set_option maxRecDepth 100000
theorem ix_pm (g n j : Nat) (hj : j < n) (w : World) : (Instr.indexAt 88 (.slice (some ⟨g, 0, none⟩) n n) (.int .u64 j)).run Tryd.prog w = .ok (.pointer (some ⟨g, j, none⟩)) w := by
 have h1 : (j : Int) < (n : Int) := by omega
 have h2 : (0 : Int) ≤ (j : Int) := by omega
 simp [go_sem, h1, h2]
theorem PlP.rem {w w' : World} {B b g hd m n : Nat} {d d' : WinD} {s : SegD} {ms : List Nat} {kp mp : Option Nat} {arr : Array Value} (H : PlP w B b d g hd (m :: ms) kp mp arr) (K : Kp [b] w w') (hB : Blk w' b 104 (plC d' g ((hd + 1) % d.places) kp mp)) (hs : d.segs = s :: d'.segs) (hn : d.nums = n :: d'.nums) (hp : d'.places = d.places) (hk : d'.key = d.key) (hmm : d'.map = d.map) : PlS w' B b d' ∧ Kt B DP w w' := by
 have hx : ∀ x, x ∈ [b] → x = b := fun x h => by simpa using h
 refine ⟨⟨g, _, ms, kp, mp, arr, hB, ?_, ?_, H.row.kp K (by simpa using H.row.ne_ H.blk (by decide)), ?_, ?_, H.hb, H.hg, Nat.le_trans H.hw K.size, H.ev.ofkp K (fun x h => by rw [hx x h]; exact H.hb) H.hw H.lo, H.lo⟩, Kt.of_kp K H.hw (fun x h => by rw [hx x h]; exact ⟨H.hb, _, _, H.blk, by decide⟩)⟩
 · rw [hk]; exact H.keyk K
 · rw [hmm]; exact H.mapk K
 · rw [hp]; exact H.ring.tail
 · have h := H.fms
   rw [hs, hn] at h
   exact h.tail.kpn K (fun x h => by rw [hx x h]; exact ⟨_, _, H.blk, by decide, by decide, by decide⟩)
theorem rem_nil {d : WinD} {k B b : Nat} {w0 : World} (hO : d.Ok k) (hk : k ≤ 900) (H : PlS w0 B b d) (h0 : d.segs.length = 0) : Calls Tryd.prog 35 #[pt b] w0 fun e w' => ∃ t p, e = .returned (.iface t p) ∧ PlS w' B b d ∧ Kt B DP w0 w' := by
 obtain ⟨g, hd, ms, kp, mp, arr, H⟩ := H
 obtain ⟨tl, htl⟩ : ∃ tl, (hd + d.segs.length) % d.places = tl := ⟨_, rfl⟩
 have hp1 := hO.p1
 have hp12 := hO.p12
 have hroom := hO.room
 have hseq := hO.seq
 have hhd := H.ring.hlt
 have htlt : tl < d.places := htl ▸ Nat.mod_lt _ (by omega)
 have hgb : g ≠ b := H.row.ne_ H.blk (by decide)
 have Bb_0 : Blk w0 b 104 #[(.float .f64 (fn d.tgt)), (.int .u64 d.seq), (.slice (some ⟨g, 0, none⟩) d.places d.places), (.string ⟨#[]⟩), (.bool d.ifr), (.bool d.clo), (.int .u64 0), (.int .u64 0), (.float .f64 0), (.bool false), (.bool false), (.int .i64 0), (.int .u64 d.written), (.int .u64 d.places), (.int .u64 hd), (.int .u64 tl), (.int .u64 d.segs.length), (.slice none 0 0), (.int .i64 0), (.int .i8 0), (.int .u8 d.ver), (pto kp), (pto mp)] := by
   have h := H.blk
   unfold plC at h
   rw [htl] at h
   exact h
 have Bg_0 := H.row
 refine calls_of_wp Tryd.func35 rfl ?_
 generalize hA : Act.mk _ _ = a0
 have F0 : Fz 45 a0 := by subst hA; exact ⟨by simp [Tryd.ntmps35], rfl⟩
 have h0_0 : a0.tmps.getD 0 undef = (.pointer (some ⟨b, 0, none⟩)) := by subst hA; exact fr_arg rfl
 have Kp0 := Kp.refl [b] w0
 have H_0 := H
 have Q_0 := grown_refl w0 none
 refine wp_sr ?_
 refine wl_pq F0 (ex_as (v := .nilIface) rfl) fun a1 u1 F1 h2_1 => ?_
 change Code.wp _ _ _ _ _
 refine wp_seq ?_
 refine wp_sr ?_
 refine wl_pq F1 (ex_mv (u1.w h0_0)) fun a2 u2 F2 h3_2 => ?_
 refine wl_pq F2 (ex_nil h3_2) fun a3 u3 F3 h4_3 => ?_
 refine wl_pq F3 (ex_fb 16 h4_3) fun a4 u4 F4 h5_4 => ?_
 refine wl_pq F4 (ex_le (v := (.int .u64 d.segs.length)) h5_4 (Bb_0.cell 16)) fun a5 u5 F5 h6_5 => ?_
 refine wl_pq F5 (ex_bin (vy := (.int .u64 0)) (v := (.bool true)) h6_5 rfl ((uo_eq d.segs.length 0 _).trans (by rw [decide_eq_true (by omega)]))) fun a6 u6 F6 h7_6 => ?_
 change Code.wp _ _ _ _ _
 refine wp_cond_true h7_6 ?_
 refine wp_sr ?_
 refine wl_cl (args := #[(.string { data := #[112, 108, 97, 121, 108, 105, 115, 116, 32, 105, 115, 32, 101, 109, 112, 116, 121] })]) (R := fun v w' => (∃ t p, v = .iface t p) ∧ w0.grownBy w' none) (ex_cl (fun _ _ => by kernel_rfl) (arg1 rfl)) ((errnew _ _).mono fun _ _ ⟨t, p, h, G⟩ => ⟨_, h, ⟨t, p, rfl⟩, G⟩) F6.l ?_
 rintro v w1 ⟨⟨et, ep, rfl⟩, G1⟩
 have Bg_1 := Bg_0.gn G1
 have Bb_1 := Bb_0.gn G1
 have Kp1 := Kp0.new G1
 have H_1 := H_0.gn G1
 have Q_1 := grown_trans Q_0 G1
 intro a7 u7 h8_7
 have F7 := F6.pt u7
 clear H_0 Q_0
 refine wl_pq F7 (ex_as h8_7) fun a8 u8 F8 h2_8 => ?_
 change Code.wp _ _ _ _ _
 refine wp_ret ?_
 try simp only [Exit.then, Exit.inBlock]
 exact bodyPost_ret (v := (.iface et ep)) ((results_tmp rfl _ _ _).trans (by rw [h2_8])) F8.defers ⟨_, _, rfl, ⟨g, hd, ms, kp, mp, arr, H_1⟩, (Kt.refl B DP w0).nw H.hw Q_1⟩
theorem rem_true {d : WinD} {k B b : Nat} {w0 : World} (hO : d.Ok k) (hk : k ≤ 900) (H : PlS w0 B b d) (h0 : 0 < d.segs.length) (hc : d.clo = true) : Calls Tryd.prog 35 #[pt b] w0 fun e w' => e = .returned .nilIface ∧ PlS w' B b d.take ∧ Kt B DP w0 w' := by
 obtain ⟨g, hd, ms, kp, mp, arr, H⟩ := H
 obtain ⟨s, hs⟩ : ∃ s, d.segs = s :: d.segs.tail := by
   cases hq : d.segs with
   | nil => rw [hq] at h0; simp at h0
   | cons s r => exact ⟨s, rfl⟩
 obtain ⟨n0, hn'⟩ : ∃ n, d.nums = n :: d.nums.tail := by
   have hl := hO.len
   cases hq : d.nums with
   | nil => rw [hq] at hl; simp at hl; omega
   | cons s r => exact ⟨s, rfl⟩
 obtain ⟨m0, ms, rfl⟩ : ∃ m0 ms', ms = m0 :: ms' := by
   have hl := H.fms.1
   cases ms with
   | nil => simp at hl; omega
   | cons s r => exact ⟨s, r, rfl⟩
 obtain ⟨tl, htl⟩ : ∃ tl, (hd + d.segs.length) % d.places = tl := ⟨_, rfl⟩
 have hp1 := hO.p1
 have hp12 := hO.p12
 have hroom := hO.room
 have hseq := hO.seq
 have hhd := H.ring.hlt
 have htlt : tl < d.places := htl ▸ Nat.mod_lt _ (by omega)
 have hgb : g ≠ b := H.row.ne_ H.blk (by decide)
 have Bb_0 : Blk w0 b 104 #[(.float .f64 (fn d.tgt)), (.int .u64 d.seq), (.slice (some ⟨g, 0, none⟩) d.places d.places), (.string ⟨#[]⟩), (.bool d.ifr), (.bool true), (.int .u64 0), (.int .u64 0), (.float .f64 0), (.bool false), (.bool false), (.int .i64 0), (.int .u64 d.written), (.int .u64 d.places), (.int .u64 hd), (.int .u64 tl), (.int .u64 d.segs.length), (.slice none 0 0), (.int .i64 0), (.int .i8 0), (.int .u8 d.ver), (pto kp), (pto mp)] := by
   have h := H.blk
   unfold plC at h
   rw [htl, hc] at h
   exact h
 have Bg_0 := H.row
 refine calls_of_wp Tryd.func35 rfl ?_
 generalize hA : Act.mk _ _ = a0
 have F0 : Fz 45 a0 := by subst hA; exact ⟨by simp [Tryd.ntmps35], rfl⟩
 have h0_0 : a0.tmps.getD 0 undef = (.pointer (some ⟨b, 0, none⟩)) := by subst hA; exact fr_arg rfl
 have Kp0 := Kp.refl [b] w0
 refine wp_sr ?_
 refine wl_pq F0 (ex_as (v := .nilIface) rfl) fun a1 u1 F1 h2_1 => ?_
 change Code.wp _ _ _ _ _
 refine wp_seq ?_
 refine wp_sr ?_
 refine wl_pq F1 (ex_mv (u1.w h0_0)) fun a2 u2 F2 h3_2 => ?_
 refine wl_pq F2 (ex_nil h3_2) fun a3 u3 F3 h4_3 => ?_
 refine wl_pq F3 (ex_fb 16 h4_3) fun a4 u4 F4 h5_4 => ?_
 refine wl_pq F4 (ex_le (v := (.int .u64 d.segs.length)) h5_4 (Bb_0.cell 16)) fun a5 u5 F5 h6_5 => ?_
 refine wl_pq F5 (ex_bin (vy := (.int .u64 0)) (v := (.bool false)) h6_5 rfl ((uo_eq d.segs.length 0 _).trans (by rw [decide_eq_false (by omega)]))) fun a6 u6 F6 h7_6 => ?_
 change Code.wp _ _ _ _ _
 refine wp_cond_false h7_6 ?_
 refine wp_skip ?_
 change Code.wp _ _ _ _ _
 refine wp_seq ?_
 obtain ⟨w1, hw1⟩ : ∃ w, w = w0.drew := ⟨_, rfl⟩
 have G1 : w0.grownBy w1 none := hw1 ▸ grown_drew _
 have Bg_1 := Bg_0.gn G1
 have Bb_1 := Bb_0.gn G1
 have Kp1 := Kp0.new G1
 refine rg_stillt 12 hw1 hmix (by kernel_rfl) ?_
 have h0_6 := u6.w (u5.w (u4.w (u3.w (u2.w (u1.w h0_0)))))
 refine st_pq F6 (ex_mv h0_6) fun a7 u7 F7 h9_7 => ?_
 refine st_pq F7 (ex_mv (u7.w h0_6)) fun a8 u8 F8 h10_8 => ?_
 refine st_pq F8 (ex_nil h10_8) fun a9 u9 F9 h11_9 => ?_
 refine st_pq F9 (ex_fb 14 h11_9) fun a10 u10 F10 h12_10 => ?_
 refine st_pq F10 (ex_le (v := (.int .u64 hd)) h12_10 (Bb_1.cell 14)) fun a11 u11 F11 h13_11 => ?_
 refine st_pq F11 (ex_bin (vy := (.int .u64 1)) (v := (.int .u64 (hd + 1 : Nat))) h13_11 rfl (uo_add hd 1 (by omega) _)) fun a12 u12 F12 h14_12 => ?_
 have h0_12 := u12.w (u11.w (u10.w (u9.w (u8.w (u7.w h0_6)))))
 refine st_pq F12 (ex_mv h0_12) fun a13 u13 F13 h15_13 => ?_
 refine st_pq F13 (ex_nil h15_13) fun a14 u14 F14 h16_14 => ?_
 refine st_pq F14 (ex_fb 13 h16_14) fun a15 u15 F15 h17_15 => ?_
 refine st_pq F15 (ex_le (v := (.int .u64 d.places)) h17_15 (Bb_1.cell 13)) fun a16 u16 F16 h18_16 => ?_
 have h14_16 := u16.w (u15.w (u14.w (u13.w h14_12)))
 refine st_pq F16 (ex_bin (v := (.int .u64 ((hd + 1 : Nat) % d.places : Nat))) h14_16 h18_16 (uo_rem (hd + 1 : Nat) d.places (by omega) (by omega) _)) fun a17 u17 F17 h19_17 => ?_
 have h9_17 := u17.w (u16.w (u15.w (u14.w (u13.w (u12.w (u11.w (u10.w (u9.w (u8.w h9_7)))))))))
 refine st_pq F17 (ex_nil h9_17) fun a18 u18 F18 h20_18 => ?_
 refine wl_pq F18 (ex_fb 14 h20_18) fun a19 u19 F19 h21_19 => ?_
 obtain ⟨w2, hr2, Bb_2, G2⟩ := st_run (T := 42) (o := 14) (v := (.int .u64 ((hd + 1 : Nat) % d.places : Nat))) (cs' := #[(.float .f64 (fn d.tgt)), (.int .u64 d.seq), (.slice (some ⟨g, 0, none⟩) d.places d.places), (.string ⟨#[]⟩), (.bool d.ifr), (.bool true), (.int .u64 0), (.int .u64 0), (.float .f64 0), (.bool false), (.bool false), (.int .i64 0), (.int .u64 d.written), (.int .u64 d.places), (.int .u64 ((hd + 1 : Nat) % d.places : Nat)), (.int .u64 tl), (.int .u64 d.segs.length), (.slice none 0 0), (.int .i64 0), (.int .i8 0), (.int .u8 d.ver), (pto kp), (pto mp)]) (fun _ => by kernel_rfl) Bb_1 rfl (Nat.le_of_ble_eq_true rfl) rfl
 have Bg_2 := Bg_1.gk G2 hgb
 have Kp2 := Kp1.set G2 (Or.inl (by simp))
 refine wl_n (ex_st h21_19 (u19.w (u18.w h19_17)) hr2) ?_
 change Code.wp _ _ _ _ _
 refine wp_sr ?_
 have h0_19 := u19.w (u18.w (u17.w (u16.w (u15.w (u14.w (u13.w h0_12))))))
 refine wl_pq F19 (ex_mv h0_19) fun a20 u20 F20 h22_20 => ?_
 refine wl_pq F20 (ex_nil h22_20) fun a21 u21 F21 h23_21 => ?_
 refine wl_pq F21 (ex_fb 16 h23_21) fun a22 u22 F22 h24_22 => ?_
 refine wl_pq F22 (ex_le (v := (.int .u64 d.segs.length)) h24_22 (Bb_2.cell 16)) fun a23 u23 F23 h25_23 => ?_
 refine wl_pq F23 (ex_bin (vy := (.int .u64 1)) (v := (.int .u64 (d.segs.length - 1 : Nat))) h25_23 rfl (uo_sub d.segs.length 1 (by omega) (by omega) _)) fun a24 u24 F24 h26_24 => ?_
 have h22_24 := u24.w (u23.w (u22.w (u21.w h22_20)))
 refine wl_pq F24 (ex_nil h22_24) fun a25 u25 F25 h27_25 => ?_
 refine wl_pq F25 (ex_fb 16 h27_25) fun a26 u26 F26 h28_26 => ?_
 obtain ⟨w3, hr3, Bb_3, G3⟩ := st_run (T := 42) (o := 16) (v := (.int .u64 (d.segs.length - 1 : Nat))) (cs' := #[(.float .f64 (fn d.tgt)), (.int .u64 d.seq), (.slice (some ⟨g, 0, none⟩) d.places d.places), (.string ⟨#[]⟩), (.bool d.ifr), (.bool true), (.int .u64 0), (.int .u64 0), (.float .f64 0), (.bool false), (.bool false), (.int .i64 0), (.int .u64 d.written), (.int .u64 d.places), (.int .u64 ((hd + 1 : Nat) % d.places : Nat)), (.int .u64 tl), (.int .u64 (d.segs.length - 1 : Nat)), (.slice none 0 0), (.int .i64 0), (.int .i8 0), (.int .u8 d.ver), (pto kp), (pto mp)]) (fun _ => by kernel_rfl) Bb_2 rfl (Nat.le_of_ble_eq_true rfl) rfl
 have Bg_3 := Bg_2.gk G3 hgb
 have Kp3 := Kp2.set G3 (Or.inl (by simp))
 refine wl_n (ex_st h28_26 (u26.w (u25.w h26_24)) hr3) ?_
 change Code.wp _ _ _ _ _
 refine wp_seq ?_
 refine wp_sr ?_
 have h0_26 := u26.w (u25.w (u24.w (u23.w (u22.w (u21.w (u20.w h0_19))))))
 refine wl_pq F26 (ex_mv h0_26) fun a27 u27 F27 h29_27 => ?_
 refine wl_pq F27 (ex_nil h29_27) fun a28 u28 F28 h30_28 => ?_
 refine wl_pq F28 (ex_fb 5 h30_28) fun a29 u29 F29 h31_29 => ?_
 refine wl_pq F29 (ex_le (v := (.bool true)) h31_29 (Bb_3.cell 5)) fun a30 u30 F30 h32_30 => ?_
 refine wl_pq F30 (ex_un (vx := (.bool true)) (v := (.bool false)) h32_30 rfl) fun a31 u31 F31 h33_31 => ?_
 change Code.wp _ _ _ _ _
 refine wp_cond_false h33_31 ?_
 refine wp_skip ?_
 change Code.wp _ _ _ _ _
 refine wp_sr ?_
 have h0_31 := u31.w (u30.w (u29.w (u28.w (u27.w h0_26))))
 refine wl_pq F31 (ex_mv h0_31) fun a32 u32 F32 h41_32 => ?_
 refine wl_pq F32 (ex_nil h41_32) fun a33 u33 F33 h42_33 => ?_
 refine wl_pq F33 (ex_fb 17 h42_33) fun a34 u34 F34 h43_34 => ?_
 refine wl_cl (args := #[(.pointer (some ⟨b, 17, none⟩))]) (R := fun v w' => v = .tuple #[] ∧ Blk w' b 104 #[(.float .f64 (fn d.tgt)), (.int .u64 d.seq), (.slice (some ⟨g, 0, none⟩) d.places d.places), (.string ⟨#[]⟩), (.bool d.ifr), (.bool true), (.int .u64 0), (.int .u64 0), (.float .f64 0), (.bool false), (.bool false), (.int .i64 0), (.int .u64 d.written), (.int .u64 d.places), (.int .u64 ((hd + 1 : Nat) % d.places : Nat)), (.int .u64 tl), (.int .u64 (d.segs.length - 1 : Nat)), (.slice none 0 0), (.int .i64 0), (.int .i8 0), (.int .u8 d.ver), (pto kp), (pto mp)] ∧ w3.grownBy w' (some b)) (ex_cl (fun _ _ => by kernel_rfl) (arg1 h43_34)) ((reset17 Bb_3).mono fun _ _ h => ⟨_, h.1, rfl, h.2⟩) F34.l ?_
 rintro v w4 ⟨rfl, Bb_4, G4⟩
 have Bg_4 := Bg_3.gk G4 hgb
 have Kp4 := Kp3.set G4 (Or.inl (by simp))
 intro a35 u35 h44_35
 have F35 := F34.pt u35
 change Code.wp _ _ _ _ _
 refine wp_sr ?_
 refine wl_pq F35 (ex_as (v := .nilIface) rfl) fun a36 u36 F36 h2_36 => ?_
 change Code.wp _ _ _ _ _
 refine wp_ret ?_
 have hseg : d.segs = s :: d.segs.tail := hs
 have e2 : d.segs.tail.length = d.segs.length - 1 := List.length_tail
 have e1 : ((hd + 1) % d.places + d.segs.tail.length) % d.places = tl := by rw [Nat.mod_add_mod, ← htl, e2]; congr 1; omega
 obtain ⟨hS, hK⟩ := H.rem (d' := { d with segs := d.segs.tail, nums := d.nums.tail }) Kp4 (by have h := Bb_4; rw [← e2, ← e1] at h; simpa only [plC, hc] using h) hs hn' rfl rfl rfl
 have ht : d.take = { d with segs := d.segs.tail, nums := d.nums.tail } := by unfold WinD.take; rw [if_neg (by omega), hc]; rfl
 try simp only [Exit.then, Exit.inBlock]
 exact bodyPost_ret (v := .nilIface) ((results_tmp rfl _ _ _).trans (by rw [h2_36])) F36.defers ⟨rfl, by rw [ht]; exact hS, hK⟩
theorem rem_false {d : WinD} {k B b : Nat} {w0 : World} (hO : d.Ok k) (hk : k ≤ 900) (H : PlS w0 B b d) (h0 : 0 < d.segs.length) (hc : d.clo = false) : Calls Tryd.prog 35 #[pt b] w0 fun e w' => e = .returned .nilIface ∧ PlS w' B b d.take ∧ Kt B DP w0 w' := by
 obtain ⟨g, hd, ms, kp, mp, arr, H⟩ := H
 obtain ⟨s, hs⟩ : ∃ s, d.segs = s :: d.segs.tail := by
   cases hq : d.segs with
   | nil => rw [hq] at h0; simp at h0
   | cons s r => exact ⟨s, rfl⟩
 obtain ⟨n0, hn'⟩ : ∃ n, d.nums = n :: d.nums.tail := by
   have hl := hO.len
   cases hq : d.nums with
   | nil => rw [hq] at hl; simp at hl; omega
   | cons s r => exact ⟨s, rfl⟩
 obtain ⟨m0, ms, rfl⟩ : ∃ m0 ms', ms = m0 :: ms' := by
   have hl := H.fms.1
   cases ms with
   | nil => simp at hl; omega
   | cons s r => exact ⟨s, r, rfl⟩
 obtain ⟨tl, htl⟩ : ∃ tl, (hd + d.segs.length) % d.places = tl := ⟨_, rfl⟩
 have hp1 := hO.p1
 have hp12 := hO.p12
 have hroom := hO.room
 have hseq := hO.seq
 have hhd := H.ring.hlt
 have htlt : tl < d.places := htl ▸ Nat.mod_lt _ (by omega)
 have hgb : g ≠ b := H.row.ne_ H.blk (by decide)
 have Bb_0 : Blk w0 b 104 #[(.float .f64 (fn d.tgt)), (.int .u64 d.seq), (.slice (some ⟨g, 0, none⟩) d.places d.places), (.string ⟨#[]⟩), (.bool d.ifr), (.bool false), (.int .u64 0), (.int .u64 0), (.float .f64 0), (.bool false), (.bool false), (.int .i64 0), (.int .u64 d.written), (.int .u64 d.places), (.int .u64 hd), (.int .u64 tl), (.int .u64 d.segs.length), (.slice none 0 0), (.int .i64 0), (.int .i8 0), (.int .u8 d.ver), (pto kp), (pto mp)] := by
   have h := H.blk
   unfold plC at h
   rw [htl, hc] at h
   exact h
 have Bg_0 := H.row
 refine calls_of_wp Tryd.func35 rfl ?_
 generalize hA : Act.mk _ _ = a0
 have F0 : Fz 45 a0 := by subst hA; exact ⟨by simp [Tryd.ntmps35], rfl⟩
 have h0_0 : a0.tmps.getD 0 undef = (.pointer (some ⟨b, 0, none⟩)) := by subst hA; exact fr_arg rfl
 have Kp0 := Kp.refl [b] w0
 refine wp_sr ?_
 refine wl_pq F0 (ex_as (v := .nilIface) rfl) fun a1 u1 F1 h2_1 => ?_
 change Code.wp _ _ _ _ _
 refine wp_seq ?_
 refine wp_sr ?_
 refine wl_pq F1 (ex_mv (u1.w h0_0)) fun a2 u2 F2 h3_2 => ?_
 refine wl_pq F2 (ex_nil h3_2) fun a3 u3 F3 h4_3 => ?_
 refine wl_pq F3 (ex_fb 16 h4_3) fun a4 u4 F4 h5_4 => ?_
 refine wl_pq F4 (ex_le (v := (.int .u64 d.segs.length)) h5_4 (Bb_0.cell 16)) fun a5 u5 F5 h6_5 => ?_
 refine wl_pq F5 (ex_bin (vy := (.int .u64 0)) (v := (.bool false)) h6_5 rfl ((uo_eq d.segs.length 0 _).trans (by rw [decide_eq_false (by omega)]))) fun a6 u6 F6 h7_6 => ?_
 change Code.wp _ _ _ _ _
 refine wp_cond_false h7_6 ?_
 refine wp_skip ?_
 change Code.wp _ _ _ _ _
 refine wp_seq ?_
 obtain ⟨w1, hw1⟩ : ∃ w, w = w0.drew := ⟨_, rfl⟩
 have G1 : w0.grownBy w1 none := hw1 ▸ grown_drew _
 have Bg_1 := Bg_0.gn G1
 have Bb_1 := Bb_0.gn G1
 have Kp1 := Kp0.new G1
 refine rg_stillt 12 hw1 hmix (by kernel_rfl) ?_
 have h0_6 := u6.w (u5.w (u4.w (u3.w (u2.w (u1.w h0_0)))))
 refine st_pq F6 (ex_mv h0_6) fun a7 u7 F7 h9_7 => ?_
 refine st_pq F7 (ex_mv (u7.w h0_6)) fun a8 u8 F8 h10_8 => ?_
 refine st_pq F8 (ex_nil h10_8) fun a9 u9 F9 h11_9 => ?_
 refine st_pq F9 (ex_fb 14 h11_9) fun a10 u10 F10 h12_10 => ?_
 refine st_pq F10 (ex_le (v := (.int .u64 hd)) h12_10 (Bb_1.cell 14)) fun a11 u11 F11 h13_11 => ?_
 refine st_pq F11 (ex_bin (vy := (.int .u64 1)) (v := (.int .u64 (hd + 1 : Nat))) h13_11 rfl (uo_add hd 1 (by omega) _)) fun a12 u12 F12 h14_12 => ?_
 have h0_12 := u12.w (u11.w (u10.w (u9.w (u8.w (u7.w h0_6)))))
 refine st_pq F12 (ex_mv h0_12) fun a13 u13 F13 h15_13 => ?_
 refine st_pq F13 (ex_nil h15_13) fun a14 u14 F14 h16_14 => ?_
 refine st_pq F14 (ex_fb 13 h16_14) fun a15 u15 F15 h17_15 => ?_
 refine st_pq F15 (ex_le (v := (.int .u64 d.places)) h17_15 (Bb_1.cell 13)) fun a16 u16 F16 h18_16 => ?_
 have h14_16 := u16.w (u15.w (u14.w (u13.w h14_12)))
 refine st_pq F16 (ex_bin (v := (.int .u64 ((hd + 1 : Nat) % d.places : Nat))) h14_16 h18_16 (uo_rem (hd + 1 : Nat) d.places (by omega) (by omega) _)) fun a17 u17 F17 h19_17 => ?_
 have h9_17 := u17.w (u16.w (u15.w (u14.w (u13.w (u12.w (u11.w (u10.w (u9.w (u8.w h9_7)))))))))
 refine st_pq F17 (ex_nil h9_17) fun a18 u18 F18 h20_18 => ?_
 refine wl_pq F18 (ex_fb 14 h20_18) fun a19 u19 F19 h21_19 => ?_
 obtain ⟨w2, hr2, Bb_2, G2⟩ := st_run (T := 42) (o := 14) (v := (.int .u64 ((hd + 1 : Nat) % d.places : Nat))) (cs' := #[(.float .f64 (fn d.tgt)), (.int .u64 d.seq), (.slice (some ⟨g, 0, none⟩) d.places d.places), (.string ⟨#[]⟩), (.bool d.ifr), (.bool false), (.int .u64 0), (.int .u64 0), (.float .f64 0), (.bool false), (.bool false), (.int .i64 0), (.int .u64 d.written), (.int .u64 d.places), (.int .u64 ((hd + 1 : Nat) % d.places : Nat)), (.int .u64 tl), (.int .u64 d.segs.length), (.slice none 0 0), (.int .i64 0), (.int .i8 0), (.int .u8 d.ver), (pto kp), (pto mp)]) (fun _ => by kernel_rfl) Bb_1 rfl (Nat.le_of_ble_eq_true rfl) rfl
 have Bg_2 := Bg_1.gk G2 hgb
 have Kp2 := Kp1.set G2 (Or.inl (by simp))
 refine wl_n (ex_st h21_19 (u19.w (u18.w h19_17)) hr2) ?_
 change Code.wp _ _ _ _ _
 refine wp_sr ?_
 have h0_19 := u19.w (u18.w (u17.w (u16.w (u15.w (u14.w (u13.w h0_12))))))
 refine wl_pq F19 (ex_mv h0_19) fun a20 u20 F20 h22_20 => ?_
 refine wl_pq F20 (ex_nil h22_20) fun a21 u21 F21 h23_21 => ?_
 refine wl_pq F21 (ex_fb 16 h23_21) fun a22 u22 F22 h24_22 => ?_
 refine wl_pq F22 (ex_le (v := (.int .u64 d.segs.length)) h24_22 (Bb_2.cell 16)) fun a23 u23 F23 h25_23 => ?_
 refine wl_pq F23 (ex_bin (vy := (.int .u64 1)) (v := (.int .u64 (d.segs.length - 1 : Nat))) h25_23 rfl (uo_sub d.segs.length 1 (by omega) (by omega) _)) fun a24 u24 F24 h26_24 => ?_
 have h22_24 := u24.w (u23.w (u22.w (u21.w h22_20)))
 refine wl_pq F24 (ex_nil h22_24) fun a25 u25 F25 h27_25 => ?_
 refine wl_pq F25 (ex_fb 16 h27_25) fun a26 u26 F26 h28_26 => ?_
 obtain ⟨w3, hr3, Bb_3, G3⟩ := st_run (T := 42) (o := 16) (v := (.int .u64 (d.segs.length - 1 : Nat))) (cs' := #[(.float .f64 (fn d.tgt)), (.int .u64 d.seq), (.slice (some ⟨g, 0, none⟩) d.places d.places), (.string ⟨#[]⟩), (.bool d.ifr), (.bool false), (.int .u64 0), (.int .u64 0), (.float .f64 0), (.bool false), (.bool false), (.int .i64 0), (.int .u64 d.written), (.int .u64 d.places), (.int .u64 ((hd + 1 : Nat) % d.places : Nat)), (.int .u64 tl), (.int .u64 (d.segs.length - 1 : Nat)), (.slice none 0 0), (.int .i64 0), (.int .i8 0), (.int .u8 d.ver), (pto kp), (pto mp)]) (fun _ => by kernel_rfl) Bb_2 rfl (Nat.le_of_ble_eq_true rfl) rfl
 have Bg_3 := Bg_2.gk G3 hgb
 have Kp3 := Kp2.set G3 (Or.inl (by simp))
 refine wl_n (ex_st h28_26 (u26.w (u25.w h26_24)) hr3) ?_
 change Code.wp _ _ _ _ _
 refine wp_seq ?_
 refine wp_sr ?_
 have h0_26 := u26.w (u25.w (u24.w (u23.w (u22.w (u21.w (u20.w h0_19))))))
 refine wl_pq F26 (ex_mv h0_26) fun a27 u27 F27 h29_27 => ?_
 refine wl_pq F27 (ex_nil h29_27) fun a28 u28 F28 h30_28 => ?_
 refine wl_pq F28 (ex_fb 5 h30_28) fun a29 u29 F29 h31_29 => ?_
 refine wl_pq F29 (ex_le (v := (.bool false)) h31_29 (Bb_3.cell 5)) fun a30 u30 F30 h32_30 => ?_
 refine wl_pq F30 (ex_un (vx := (.bool false)) (v := (.bool true)) h32_30 rfl) fun a31 u31 F31 h33_31 => ?_
 change Code.wp _ _ _ _ _
 refine wp_cond_true h33_31 ?_
 refine rg_list ?_
 have h0_31 := u31.w (u30.w (u29.w (u28.w (u27.w h0_26))))
 refine wl_pq F31 (ex_mv h0_31) fun a32 u32 F32 h34_32 => ?_
 refine wl_pq F32 (ex_nil h34_32) fun a33 u33 F33 h35_33 => ?_
 refine wl_pq F33 (ex_fb 1 h35_33) fun a34 u34 F34 h36_34 => ?_
 refine wl_pq F34 (ex_le (v := (.int .u64 d.seq)) h36_34 (Bb_3.cell 1)) fun a35 u35 F35 h37_35 => ?_
 refine wl_pq F35 (ex_bin (vy := (.int .u64 1)) (v := (.int .u64 (d.seq + 1 : Nat))) h37_35 rfl (bo_add64 d.seq 1 (by omega) _)) fun a36 u36 F36 h38_36 => ?_
 have h34_36 := u36.w (u35.w (u34.w (u33.w h34_32)))
 refine wl_pq F36 (ex_nil h34_36) fun a37 u37 F37 h39_37 => ?_
 refine wl_pq F37 (ex_fb 1 h39_37) fun a38 u38 F38 h40_38 => ?_
 obtain ⟨w4, hr4, Bb_4, G4⟩ := st_run (T := 34) (o := 1) (v := (.int .u64 (d.seq + 1 : Nat))) (cs' := #[(.float .f64 (fn d.tgt)), (.int .u64 (d.seq + 1 : Nat)), (.slice (some ⟨g, 0, none⟩) d.places d.places), (.string ⟨#[]⟩), (.bool d.ifr), (.bool false), (.int .u64 0), (.int .u64 0), (.float .f64 0), (.bool false), (.bool false), (.int .i64 0), (.int .u64 d.written), (.int .u64 d.places), (.int .u64 ((hd + 1 : Nat) % d.places : Nat)), (.int .u64 tl), (.int .u64 (d.segs.length - 1 : Nat)), (.slice none 0 0), (.int .i64 0), (.int .i8 0), (.int .u8 d.ver), (pto kp), (pto mp)]) (fun _ => by kernel_rfl) Bb_3 rfl (Nat.le_of_ble_eq_true rfl) rfl
 have Bg_4 := Bg_3.gk G4 hgb
 have Kp4 := Kp3.set G4 (Or.inl (by simp))
 refine wl_n (ex_st h40_38 (u38.w (u37.w h38_36)) hr4) ?_
 change Code.wp _ _ _ _ _
 refine wp_sr ?_
 have h0_38 := u38.w (u37.w (u36.w (u35.w (u34.w (u33.w (u32.w h0_31))))))
 refine wl_pq F38 (ex_mv h0_38) fun a39 u39 F39 h41_39 => ?_
 refine wl_pq F39 (ex_nil h41_39) fun a40 u40 F40 h42_40 => ?_
 refine wl_pq F40 (ex_fb 17 h42_40) fun a41 u41 F41 h43_41 => ?_
 refine wl_cl (args := #[(.pointer (some ⟨b, 17, none⟩))]) (R := fun v w' => v = .tuple #[] ∧ Blk w' b 104 #[(.float .f64 (fn d.tgt)), (.int .u64 (d.seq + 1 : Nat)), (.slice (some ⟨g, 0, none⟩) d.places d.places), (.string ⟨#[]⟩), (.bool d.ifr), (.bool false), (.int .u64 0), (.int .u64 0), (.float .f64 0), (.bool false), (.bool false), (.int .i64 0), (.int .u64 d.written), (.int .u64 d.places), (.int .u64 ((hd + 1 : Nat) % d.places : Nat)), (.int .u64 tl), (.int .u64 (d.segs.length - 1 : Nat)), (.slice none 0 0), (.int .i64 0), (.int .i8 0), (.int .u8 d.ver), (pto kp), (pto mp)] ∧ w4.grownBy w' (some b)) (ex_cl (fun _ _ => by kernel_rfl) (arg1 h43_41)) ((reset17 Bb_4).mono fun _ _ h => ⟨_, h.1, rfl, h.2⟩) F41.l ?_
 rintro v w5 ⟨rfl, Bb_5, G5⟩
 have Bg_5 := Bg_4.gk G5 hgb
 have Kp5 := Kp4.set G5 (Or.inl (by simp))
 intro a42 u42 h44_42
 have F42 := F41.pt u42
 change Code.wp _ _ _ _ _
 refine wp_sr ?_
 refine wl_pq F42 (ex_as (v := .nilIface) rfl) fun a43 u43 F43 h2_43 => ?_
 change Code.wp _ _ _ _ _
 refine wp_ret ?_
 have hseg : d.segs = s :: d.segs.tail := hs
 have e2 : d.segs.tail.length = d.segs.length - 1 := List.length_tail
 have e1 : ((hd + 1) % d.places + d.segs.tail.length) % d.places = tl := by rw [Nat.mod_add_mod, ← htl, e2]; congr 1; omega
 obtain ⟨hS, hK⟩ := H.rem (d' := { d with segs := d.segs.tail, nums := d.nums.tail, seq := d.seq + 1 }) Kp5 (by have h := Bb_5; rw [← e2, ← e1] at h; simpa only [plC, hc] using h) hs hn' rfl rfl rfl
 have ht : d.take = { d with segs := d.segs.tail, nums := d.nums.tail, seq := d.seq + 1 } := by unfold WinD.take; rw [if_neg (by omega), hc]; rfl
 try simp only [Exit.then, Exit.inBlock]
 exact bodyPost_ret (v := .nilIface) ((results_tmp rfl _ _ _).trans (by rw [h2_43])) F43.defers ⟨rfl, by rw [ht]; exact hS, hK⟩
theorem swin_no {d : WinD} {k B b : Nat} {w0 : World} (hO : d.Ok k) (hk : k ≤ 900) (H : PlS w0 B b d) {n : Nat} (h0 : d.places < n) : Calls Tryd.prog 31 #[pt b, .int .u64 n] w0 fun e w' => ∃ t p, e = .returned (.iface t p) ∧ PlS w' B b d ∧ Kt B DP w0 w' := by
 obtain ⟨g, hd, ms, kp, mp, arr, H⟩ := H
 obtain ⟨tl, htl⟩ : ∃ tl, (hd + d.segs.length) % d.places = tl := ⟨_, rfl⟩
 have hp1 := hO.p1
 have hp12 := hO.p12
 have hroom := hO.room
 have hseq := hO.seq
 have hhd := H.ring.hlt
 have htlt : tl < d.places := htl ▸ Nat.mod_lt _ (by omega)
 have hgb : g ≠ b := H.row.ne_ H.blk (by decide)
 have Bb_0 : Blk w0 b 104 #[(.float .f64 (fn d.tgt)), (.int .u64 d.seq), (.slice (some ⟨g, 0, none⟩) d.places d.places), (.string ⟨#[]⟩), (.bool d.ifr), (.bool d.clo), (.int .u64 0), (.int .u64 0), (.float .f64 0), (.bool false), (.bool false), (.int .i64 0), (.int .u64 d.written), (.int .u64 d.places), (.int .u64 hd), (.int .u64 tl), (.int .u64 d.segs.length), (.slice none 0 0), (.int .i64 0), (.int .i8 0), (.int .u8 d.ver), (pto kp), (pto mp)] := by
   have h := H.blk
   unfold plC at h
   rw [htl] at h
   exact h
 have Bg_0 := H.row
 refine calls_of_wp Tryd.func31 rfl ?_
 generalize hA : Act.mk _ _ = a0
 have F0 : Fz 16 a0 := by subst hA; exact ⟨by simp [Tryd.ntmps31], rfl⟩
 have h0_0 : a0.tmps.getD 0 undef = (.pointer (some ⟨b, 0, none⟩)) := by subst hA; exact fr_arg rfl
 have h1_0 : a0.tmps.getD 1 undef = (.int .u64 n) := by subst hA; exact fr_arg rfl
 have Kp0 := Kp.refl [b] w0
 have H_0 := H
 have Q_0 := grown_refl w0 none
 refine wp_sr ?_
 refine wl_pq F0 (ex_as (v := .nilIface) rfl) fun a1 u1 F1 h4_1 => ?_
 change Code.wp _ _ _ _ _
 refine wp_seq ?_
 refine wp_sr ?_
 refine wl_pq F1 (ex_mv (u1.w h1_0)) fun a2 u2 F2 h5_2 => ?_
 refine wl_pq F2 (ex_mv (u2.w (u1.w h0_0))) fun a3 u3 F3 h6_3 => ?_
 refine wl_pq F3 (ex_nil h6_3) fun a4 u4 F4 h7_4 => ?_
 refine wl_pq F4 (ex_fb 13 h7_4) fun a5 u5 F5 h8_5 => ?_
 refine wl_pq F5 (ex_le (v := (.int .u64 d.places)) h8_5 (Bb_0.cell 13)) fun a6 u6 F6 h9_6 => ?_
 have h5_6 := u6.w (u5.w (u4.w (u3.w h5_2)))
 refine wl_pq F6 (ex_bin (v := (.bool true)) h5_6 h9_6 ((uo_gt n d.places _).trans (by rw [decide_eq_true (by omega)]))) fun a7 u7 F7 h10_7 => ?_
 change Code.wp _ _ _ _ _
 refine wp_cond_true h10_7 ?_
 refine wp_sr ?_
 refine wl_cl (args := #[(.string { data := #[99, 97, 112, 97, 99, 105, 116, 121, 32, 109, 117, 115, 116, 32, 98, 101, 32, 103, 114, 101, 97, 116, 101, 114, 32, 116, 104, 97, 110, 32, 119, 105, 110, 115, 105, 122, 101, 32, 111, 114, 32, 101, 113, 117, 97, 108] })]) (R := fun v w' => (∃ t p, v = .iface t p) ∧ w0.grownBy w' none) (ex_cl (fun _ _ => by kernel_rfl) (arg1 rfl)) ((errnew _ _).mono fun _ _ ⟨t, p, h, G⟩ => ⟨_, h, ⟨t, p, rfl⟩, G⟩) F7.l ?_
 rintro v w1 ⟨⟨et, ep, rfl⟩, G1⟩
 have Bg_1 := Bg_0.gn G1
 have Bb_1 := Bb_0.gn G1
 have Kp1 := Kp0.new G1
 have H_1 := H_0.gn G1
 have Q_1 := grown_trans Q_0 G1
 intro a8 u8 h11_8
 have F8 := F7.pt u8
 clear H_0 Q_0
 refine wl_pq F8 (ex_as h11_8) fun a9 u9 F9 h4_9 => ?_
 change Code.wp _ _ _ _ _
 refine wp_ret ?_
 try simp only [Exit.then, Exit.inBlock]
 exact bodyPost_ret (v := (.iface et ep)) ((results_tmp rfl _ _ _).trans (by rw [h4_9])) F9.defers ⟨_, _, rfl, ⟨g, hd, ms, kp, mp, arr, H_1⟩, (Kt.refl B DP w0).nw H.hw Q_1⟩
theorem swin_ok {d : WinD} {k B b : Nat} {w0 : World} (hO : d.Ok k) (hk : k ≤ 900) (H : PlS w0 B b d) {n : Nat} (h0 : n ≤ d.places) : Calls Tryd.prog 31 #[pt b, .int .u64 n] w0 fun e w' => e = .returned .nilIface ∧ PlS w' B b { d with written := n } ∧ Kt B DP w0 w' := by
 obtain ⟨g, hd, ms, kp, mp, arr, H⟩ := H
 obtain ⟨tl, htl⟩ : ∃ tl, (hd + d.segs.length) % d.places = tl := ⟨_, rfl⟩
 have hp1 := hO.p1
 have hp12 := hO.p12
 have hroom := hO.room
 have hseq := hO.seq
 have hhd := H.ring.hlt
 have htlt : tl < d.places := htl ▸ Nat.mod_lt _ (by omega)
 have hgb : g ≠ b := H.row.ne_ H.blk (by decide)
 have Bb_0 : Blk w0 b 104 #[(.float .f64 (fn d.tgt)), (.int .u64 d.seq), (.slice (some ⟨g, 0, none⟩) d.places d.places), (.string ⟨#[]⟩), (.bool d.ifr), (.bool d.clo), (.int .u64 0), (.int .u64 0), (.float .f64 0), (.bool false), (.bool false), (.int .i64 0), (.int .u64 d.written), (.int .u64 d.places), (.int .u64 hd), (.int .u64 tl), (.int .u64 d.segs.length), (.slice none 0 0), (.int .i64 0), (.int .i8 0), (.int .u8 d.ver), (pto kp), (pto mp)] := by
   have h := H.blk
   unfold plC at h
   rw [htl] at h
   exact h
 have Bg_0 := H.row
 refine calls_of_wp Tryd.func31 rfl ?_
 generalize hA : Act.mk _ _ = a0
 have F0 : Fz 16 a0 := by subst hA; exact ⟨by simp [Tryd.ntmps31], rfl⟩
 have h0_0 : a0.tmps.getD 0 undef = (.pointer (some ⟨b, 0, none⟩)) := by subst hA; exact fr_arg rfl
 have h1_0 : a0.tmps.getD 1 undef = (.int .u64 n) := by subst hA; exact fr_arg rfl
 have Kp0 := Kp.refl [b] w0
 refine wp_sr ?_
 refine wl_pq F0 (ex_as (v := .nilIface) rfl) fun a1 u1 F1 h4_1 => ?_
 change Code.wp _ _ _ _ _
 refine wp_seq ?_
 refine wp_sr ?_
 refine wl_pq F1 (ex_mv (u1.w h1_0)) fun a2 u2 F2 h5_2 => ?_
 refine wl_pq F2 (ex_mv (u2.w (u1.w h0_0))) fun a3 u3 F3 h6_3 => ?_
 refine wl_pq F3 (ex_nil h6_3) fun a4 u4 F4 h7_4 => ?_
 refine wl_pq F4 (ex_fb 13 h7_4) fun a5 u5 F5 h8_5 => ?_
 refine wl_pq F5 (ex_le (v := (.int .u64 d.places)) h8_5 (Bb_0.cell 13)) fun a6 u6 F6 h9_6 => ?_
 have h5_6 := u6.w (u5.w (u4.w (u3.w h5_2)))
 refine wl_pq F6 (ex_bin (v := (.bool false)) h5_6 h9_6 ((uo_gt n d.places _).trans (by rw [decide_eq_false (by omega)]))) fun a7 u7 F7 h10_7 => ?_
 change Code.wp _ _ _ _ _
 refine wp_cond_false h10_7 ?_
 refine wp_skip ?_
 change Code.wp _ _ _ _ _
 refine wp_sr ?_
 have h0_7 := u7.w (u6.w (u5.w (u4.w (u3.w (u2.w (u1.w h0_0))))))
 refine wl_pq F7 (ex_mv h0_7) fun a8 u8 F8 h12_8 => ?_
 have h1_8 := u8.w (u7.w (u6.w (u5.w (u4.w (u3.w (u2.w (u1.w h1_0)))))))
 refine wl_pq F8 (ex_mv h1_8) fun a9 u9 F9 h13_9 => ?_
 refine wl_pq F9 (ex_nil (u9.w h12_8)) fun a10 u10 F10 h14_10 => ?_
 refine wl_pq F10 (ex_fb 12 h14_10) fun a11 u11 F11 h15_11 => ?_
 obtain ⟨w1, hr1, Bb_1, G1⟩ := st_run (T := 42) (o := 12) (v := (.int .u64 n)) (cs' := #[(.float .f64 (fn d.tgt)), (.int .u64 d.seq), (.slice (some ⟨g, 0, none⟩) d.places d.places), (.string ⟨#[]⟩), (.bool d.ifr), (.bool d.clo), (.int .u64 0), (.int .u64 0), (.float .f64 0), (.bool false), (.bool false), (.int .i64 0), (.int .u64 n), (.int .u64 d.places), (.int .u64 hd), (.int .u64 tl), (.int .u64 d.segs.length), (.slice none 0 0), (.int .i64 0), (.int .i8 0), (.int .u8 d.ver), (pto kp), (pto mp)]) (fun _ => by kernel_rfl) Bb_0 rfl (Nat.le_of_ble_eq_true rfl) rfl
 have Bg_1 := Bg_0.gk G1 hgb
 have Kp1 := Kp0.set G1 (Or.inl (by simp))
 refine wl_n (ex_st h15_11 (u11.w (u10.w h13_9)) hr1) ?_
 change Code.wp _ _ _ _ _
 refine wp_sr ?_
 refine wl_pq F11 (ex_as (v := .nilIface) rfl) fun a12 u12 F12 h4_12 => ?_
 change Code.wp _ _ _ _ _
 refine wp_ret ?_
 obtain ⟨hS, hK⟩ := H.chg (d' := { d with written := n }) Kp1 (by have h := Bb_1; rw [← htl] at h; exact h) (H.keyk Kp1) (H.mapk Kp1) rfl rfl rfl
 try simp only [Exit.then, Exit.inBlock]
 exact bodyPost_ret (v := .nilIface) ((results_tmp rfl _ _ _).trans (by rw [h4_12])) F12.defers ⟨rfl, hS, hK⟩
theorem close_any {d : WinD} {k B b : Nat} {w0 : World} (hO : d.Ok k) (hk : k ≤ 900) (H : PlS w0 B b d) : Calls Tryd.prog 37 #[pt b] w0 fun e w' => e = .returned (.tuple #[]) ∧ PlS w' B b { d with clo := true } ∧ Kt B DP w0 w' := by
 obtain ⟨g, hd, ms, kp, mp, arr, H⟩ := H
 obtain ⟨tl, htl⟩ : ∃ tl, (hd + d.segs.length) % d.places = tl := ⟨_, rfl⟩
 have hp1 := hO.p1
 have hp12 := hO.p12
 have hroom := hO.room
 have hseq := hO.seq
 have hhd := H.ring.hlt
 have htlt : tl < d.places := htl ▸ Nat.mod_lt _ (by omega)
 have hgb : g ≠ b := H.row.ne_ H.blk (by decide)
 have Bb_0 : Blk w0 b 104 #[(.float .f64 (fn d.tgt)), (.int .u64 d.seq), (.slice (some ⟨g, 0, none⟩) d.places d.places), (.string ⟨#[]⟩), (.bool d.ifr), (.bool d.clo), (.int .u64 0), (.int .u64 0), (.float .f64 0), (.bool false), (.bool false), (.int .i64 0), (.int .u64 d.written), (.int .u64 d.places), (.int .u64 hd), (.int .u64 tl), (.int .u64 d.segs.length), (.slice none 0 0), (.int .i64 0), (.int .i8 0), (.int .u8 d.ver), (pto kp), (pto mp)] := by
   have h := H.blk
   unfold plC at h
   rw [htl] at h
   exact h
 have Bg_0 := H.row
 refine calls_of_wp Tryd.func37 rfl ?_
 generalize hA : Act.mk _ _ = a0
 have F0 : Fz 14 a0 := by subst hA; exact ⟨by simp [Tryd.ntmps37], rfl⟩
 have h0_0 : a0.tmps.getD 0 undef = (.pointer (some ⟨b, 0, none⟩)) := by subst hA; exact fr_arg rfl
 have Kp0 := Kp.refl [b] w0
 refine wp_seq ?_
 refine wp_sr ?_
 refine wl_pq F0 (ex_mv h0_0) fun a1 u1 F1 h2_1 => ?_
 refine wl_pq F1 (ex_nil h2_1) fun a2 u2 F2 h3_2 => ?_
 refine wl_pq F2 (ex_fb 17 h3_2) fun a3 u3 F3 h4_3 => ?_
 refine wl_cl (args := #[(.pointer (some ⟨b, 17, none⟩))]) (R := fun v w' => v = (.int .i64 0) ∧ w0.grownBy w' none) (ex_cl (fun _ _ => by kernel_rfl) (arg1 h4_3)) ((len17 Bb_0).mono fun _ _ h => ⟨_, h.1, rfl, h.2⟩) F3.l ?_
 rintro v w1 ⟨rfl, G1⟩
 have Bg_1 := Bg_0.gn G1
 have Bb_1 := Bb_0.gn G1
 have Kp1 := Kp0.new G1
 intro a4 u4 h5_4
 have F4 := F3.pt u4
 refine wl_pq F4 (ex_bin (vy := (.int .i64 0)) (v := (.bool false)) h5_4 rfl (by kernel_rfl)) fun a5 u5 F5 h6_5 => ?_
 change Code.wp _ _ _ _ _
 refine wp_cond_false h6_5 ?_
 refine wp_skip ?_
 change Code.wp _ _ _ _ _
 refine rg_list ?_
 have h0_5 := u5.w (u4.w (u3.w (u2.w (u1.w h0_0))))
 refine wl_pq F5 (ex_mv h0_5) fun a6 u6 F6 h11_6 => ?_
 refine wl_pq F6 (ex_nil h11_6) fun a7 u7 F7 h12_7 => ?_
 refine wl_pq F7 (ex_fb 5 h12_7) fun a8 u8 F8 h13_8 => ?_
 obtain ⟨w2, hr2, Bb_2, G2⟩ := st_run (T := 4) (o := 5) (v := (.bool true)) (cs' := #[(.float .f64 (fn d.tgt)), (.int .u64 d.seq), (.slice (some ⟨g, 0, none⟩) d.places d.places), (.string ⟨#[]⟩), (.bool d.ifr), (.bool true), (.int .u64 0), (.int .u64 0), (.float .f64 0), (.bool false), (.bool false), (.int .i64 0), (.int .u64 d.written), (.int .u64 d.places), (.int .u64 hd), (.int .u64 tl), (.int .u64 d.segs.length), (.slice none 0 0), (.int .i64 0), (.int .i8 0), (.int .u8 d.ver), (pto kp), (pto mp)]) (fun _ => by kernel_rfl) Bb_1 rfl (Nat.le_of_ble_eq_true rfl) rfl
 have Bg_2 := Bg_1.gk G2 hgb
 have Kp2 := Kp1.set G2 (Or.inl (by simp))
 refine wl_n (ex_st h13_8 rfl hr2) ?_
 obtain ⟨hS, hK⟩ := H.chg (d' := { d with clo := true }) Kp2 (by have h := Bb_2; rw [← htl] at h; exact h) (H.keyk Kp2) (H.mapk Kp2) rfl rfl rfl
 exact bodyPost_end (v := .tuple #[]) (results_none rfl _ _ _) F8.defers ⟨rfl, hS, hK⟩
theorem iframe_any {d : WinD} {k B b : Nat} {w0 : World} (hO : d.Ok k) (hk : k ≤ 900) (H : PlS w0 B b d) : Calls Tryd.prog 46 #[pt b] w0 fun e w' => e = .returned (.tuple #[]) ∧ PlS w' B b { d.least 4 with ifr := true } ∧ Kt B DP w0 w' := by
 obtain ⟨g, hd, ms, kp, mp, arr, H⟩ := H
 obtain ⟨tl, htl⟩ : ∃ tl, (hd + d.segs.length) % d.places = tl := ⟨_, rfl⟩
 have hp1 := hO.p1
 have hp12 := hO.p12
 have hroom := hO.room
 have hseq := hO.seq
 have hhd := H.ring.hlt
 have htlt : tl < d.places := htl ▸ Nat.mod_lt _ (by omega)
 have hgb : g ≠ b := H.row.ne_ H.blk (by decide)
 have Bb_0 : Blk w0 b 104 #[(.float .f64 (fn d.tgt)), (.int .u64 d.seq), (.slice (some ⟨g, 0, none⟩) d.places d.places), (.string ⟨#[]⟩), (.bool d.ifr), (.bool d.clo), (.int .u64 0), (.int .u64 0), (.float .f64 0), (.bool false), (.bool false), (.int .i64 0), (.int .u64 d.written), (.int .u64 d.places), (.int .u64 hd), (.int .u64 tl), (.int .u64 d.segs.length), (.slice none 0 0), (.int .i64 0), (.int .i8 0), (.int .u8 d.ver), (pto kp), (pto mp)] := by
   have h := H.blk
   unfold plC at h
   rw [htl] at h
   exact h
 have Bg_0 := H.row
 refine calls_of_wp Tryd.func46 rfl ?_
 generalize hA : Act.mk _ _ = a0
 have F0 : Fz 9 a0 := by subst hA; exact ⟨by simp [Tryd.ntmps46], rfl⟩
 have h0_0 : a0.tmps.getD 0 undef = (.pointer (some ⟨b, 0, none⟩)) := by subst hA; exact fr_arg rfl
 have Kp0 := Kp.refl [b] w0
 refine wp_sr ?_
 refine wl_pq F0 (ex_mv h0_0) fun a1 u1 F1 h2_1 => ?_
 refine wl_pq F1 (ex_nil h2_1) fun a2 u2 F2 h3_2 => ?_
 refine wl_pq F2 (ex_fb 20 h3_2) fun a3 u3 F3 h4_3 => ?_
 refine wl_cl (args := #[(.pointer (some ⟨b, 20, none⟩)), (.int .u8 4)]) (R := fun v w' => v = .tuple #[] ∧ Blk w' b 104 #[(.float .f64 (fn d.tgt)), (.int .u64 d.seq), (.slice (some ⟨g, 0, none⟩) d.places d.places), (.string ⟨#[]⟩), (.bool d.ifr), (.bool d.clo), (.int .u64 0), (.int .u64 0), (.float .f64 0), (.bool false), (.bool false), (.int .i64 0), (.int .u64 d.written), (.int .u64 d.places), (.int .u64 hd), (.int .u64 tl), (.int .u64 d.segs.length), (.slice none 0 0), (.int .i64 0), (.int .i8 0), (.int .u8 (max d.ver 4 : Nat)), (pto kp), (pto mp)] ∧ w0.grownBy w' (some b)) (ex_cl (fun _ _ => by kernel_rfl) (arg2 h4_3 rfl)) ((ver_raw (n := 4) Bb_0).mono fun _ _ h => ⟨_, h.1, rfl, h.2⟩) F3.l ?_
 rintro v w1 ⟨rfl, Bb_1, G1⟩
 have Bg_1 := Bg_0.gk G1 hgb
 have Kp1 := Kp0.set G1 (Or.inl (by simp))
 intro a4 u4 h5_4
 have F4 := F3.pt u4
 change Code.wp _ _ _ _ _
 refine rg_list ?_
 have h0_4 := u4.w (u3.w (u2.w (u1.w h0_0)))
 refine wl_pq F4 (ex_mv h0_4) fun a5 u5 F5 h6_5 => ?_
 refine wl_pq F5 (ex_nil h6_5) fun a6 u6 F6 h7_6 => ?_
 refine wl_pq F6 (ex_fb 4 h7_6) fun a7 u7 F7 h8_7 => ?_
 obtain ⟨w2, hr2, Bb_2, G2⟩ := st_run (T := 4) (o := 4) (v := (.bool true)) (cs' := #[(.float .f64 (fn d.tgt)), (.int .u64 d.seq), (.slice (some ⟨g, 0, none⟩) d.places d.places), (.string ⟨#[]⟩), (.bool true), (.bool d.clo), (.int .u64 0), (.int .u64 0), (.float .f64 0), (.bool false), (.bool false), (.int .i64 0), (.int .u64 d.written), (.int .u64 d.places), (.int .u64 hd), (.int .u64 tl), (.int .u64 d.segs.length), (.slice none 0 0), (.int .i64 0), (.int .i8 0), (.int .u8 (max d.ver 4 : Nat)), (pto kp), (pto mp)]) (fun _ => by kernel_rfl) Bb_1 rfl (Nat.le_of_ble_eq_true rfl) rfl
 have Bg_2 := Bg_1.gk G2 hgb
 have Kp2 := Kp1.set G2 (Or.inl (by simp))
 refine wl_n (ex_st h8_7 rfl hr2) ?_
 obtain ⟨hS, hK⟩ := H.chg (d' := { d.least 4 with ifr := true }) Kp2 (by have h := Bb_2; rw [← htl] at h; exact h) (H.keyk Kp2) (H.mapk Kp2) rfl rfl rfl
 exact bodyPost_end (v := .tuple #[]) (results_none rfl _ _ _) F7.defers ⟨rfl, hS, hK⟩
theorem setver_any {d : WinD} {k B b : Nat} {w0 : World} (hO : d.Ok k) (hk : k ≤ 900) (H : PlS w0 B b d) {n : Nat} : Calls Tryd.prog 47 #[pt b, .int .u8 n] w0 fun e w' => e = .returned (.tuple #[]) ∧ PlS w' B b { d with ver := n } ∧ Kt B DP w0 w' := by
 obtain ⟨g, hd, ms, kp, mp, arr, H⟩ := H
 obtain ⟨tl, htl⟩ : ∃ tl, (hd + d.segs.length) % d.places = tl := ⟨_, rfl⟩
 have hp1 := hO.p1
 have hp12 := hO.p12
 have hroom := hO.room
 have hseq := hO.seq
 have hhd := H.ring.hlt
 have htlt : tl < d.places := htl ▸ Nat.mod_lt _ (by omega)
 have hgb : g ≠ b := H.row.ne_ H.blk (by decide)
 have Bb_0 : Blk w0 b 104 #[(.float .f64 (fn d.tgt)), (.int .u64 d.seq), (.slice (some ⟨g, 0, none⟩) d.places d.places), (.string ⟨#[]⟩), (.bool d.ifr), (.bool d.clo), (.int .u64 0), (.int .u64 0), (.float .f64 0), (.bool false), (.bool false), (.int .i64 0), (.int .u64 d.written), (.int .u64 d.places), (.int .u64 hd), (.int .u64 tl), (.int .u64 d.segs.length), (.slice none 0 0), (.int .i64 0), (.int .i8 0), (.int .u8 d.ver), (pto kp), (pto mp)] := by
   have h := H.blk
   unfold plC at h
   rw [htl] at h
   exact h
 have Bg_0 := H.row
 refine calls_of_wp Tryd.func47 rfl ?_
 generalize hA : Act.mk _ _ = a0
 have F0 : Fz 8 a0 := by subst hA; exact ⟨by simp [Tryd.ntmps47], rfl⟩
 have h0_0 : a0.tmps.getD 0 undef = (.pointer (some ⟨b, 0, none⟩)) := by subst hA; exact fr_arg rfl
 have h1_0 : a0.tmps.getD 1 undef = (.int .u8 n) := by subst hA; exact fr_arg rfl
 have Kp0 := Kp.refl [b] w0
 refine rg_list ?_
 refine wl_pq F0 (ex_mv h0_0) fun a1 u1 F1 h4_1 => ?_
 refine wl_pq F1 (ex_mv (u1.w h1_0)) fun a2 u2 F2 h5_2 => ?_
 refine wl_pq F2 (ex_nil (u2.w h4_1)) fun a3 u3 F3 h6_3 => ?_
 refine wl_pq F3 (ex_fb 20 h6_3) fun a4 u4 F4 h7_4 => ?_
 obtain ⟨w1, hr1, Bb_1, G1⟩ := st_run (T := 5) (o := 20) (v := (.int .u8 n)) (cs' := #[(.float .f64 (fn d.tgt)), (.int .u64 d.seq), (.slice (some ⟨g, 0, none⟩) d.places d.places), (.string ⟨#[]⟩), (.bool d.ifr), (.bool d.clo), (.int .u64 0), (.int .u64 0), (.float .f64 0), (.bool false), (.bool false), (.int .i64 0), (.int .u64 d.written), (.int .u64 d.places), (.int .u64 hd), (.int .u64 tl), (.int .u64 d.segs.length), (.slice none 0 0), (.int .i64 0), (.int .i8 0), (.int .u8 n), (pto kp), (pto mp)]) (fun _ => by kernel_rfl) Bb_0 rfl (Nat.le_of_ble_eq_true rfl) rfl
 have Bg_1 := Bg_0.gk G1 hgb
 have Kp1 := Kp0.set G1 (Or.inl (by simp))
 refine wl_n (ex_st h7_4 (u4.w (u3.w h5_2)) hr1) ?_
 obtain ⟨hS, hK⟩ := H.chg (d' := { d with ver := n }) Kp1 (by have h := Bb_1; rw [← htl] at h; exact h) (H.keyk Kp1) (H.mapk Kp1) rfl rfl rfl
 exact bodyPost_end (v := .tuple #[]) (results_none rfl _ _ _) F4.defers ⟨rfl, hS, hK⟩
theorem dkey_v {d : WinD} {k B b : Nat} {w0 : World} (hO : d.Ok k) (hk : k ≤ 900) (H : PlS w0 B b d) {q : KeyD} (hq : q.Ok) (hf : q.fo.size ≠ 0) : Calls Tryd.prog 39 #[pt b, .string q.me, .string q.uri, .string q.iv, .string q.fo, .string q.ve] w0 fun e w' => e = .returned .nilIface ∧ PlS w' B b { d.least 5 with key := some q } ∧ Kt B DP w0 w' := by
 obtain ⟨g, hd, ms, kp, mp, arr, H⟩ := H
 obtain ⟨tl, htl⟩ : ∃ tl, (hd + d.segs.length) % d.places = tl := ⟨_, rfl⟩
 have hp1 := hO.p1
 have hp12 := hO.p12
 have hroom := hO.room
 have hseq := hO.seq
 have hhd := H.ring.hlt
 have htlt : tl < d.places := htl ▸ Nat.mod_lt _ (by omega)
 have hgb : g ≠ b := H.row.ne_ H.blk (by decide)
 have Bb_0 : Blk w0 b 104 #[(.float .f64 (fn d.tgt)), (.int .u64 d.seq), (.slice (some ⟨g, 0, none⟩) d.places d.places), (.string ⟨#[]⟩), (.bool d.ifr), (.bool d.clo), (.int .u64 0), (.int .u64 0), (.float .f64 0), (.bool false), (.bool false), (.int .i64 0), (.int .u64 d.written), (.int .u64 d.places), (.int .u64 hd), (.int .u64 tl), (.int .u64 d.segs.length), (.slice none 0 0), (.int .i64 0), (.int .i8 0), (.int .u8 d.ver), (pto kp), (pto mp)] := by
   have h := H.blk
   unfold plC at h
   rw [htl] at h
   exact h
 have Bg_0 := H.row
 refine calls_of_wp Tryd.func39 rfl ?_
 generalize hA : Act.mk _ _ = a0
 have F0 : Fz 33 a0 := by subst hA; exact ⟨by simp [Tryd.ntmps39], rfl⟩
 have h0_0 : a0.tmps.getD 0 undef = (.pointer (some ⟨b, 0, none⟩)) := by subst hA; exact fr_arg rfl
 have h1_0 : a0.tmps.getD 1 undef = (.string q.me) := by subst hA; exact fr_arg rfl
 have h2_0 : a0.tmps.getD 2 undef = (.string q.uri) := by subst hA; exact fr_arg rfl
 have h3_0 : a0.tmps.getD 3 undef = (.string q.iv) := by subst hA; exact fr_arg rfl
 have h4_0 : a0.tmps.getD 4 undef = (.string q.fo) := by subst hA; exact fr_arg rfl
 have h5_0 : a0.tmps.getD 5 undef = (.string q.ve) := by subst hA; exact fr_arg rfl
 have Kp0 := Kp.refl [b] w0
 refine wp_sr ?_
 refine wl_pq F0 (ex_as (v := .nilIface) rfl) fun a1 u1 F1 h12_1 => ?_
 change Code.wp _ _ _ _ _
 refine wp_seq ?_
 refine wp_sr ?_
 refine wl_pq F1 (ex_mv (u1.w h4_0)) fun a2 u2 F2 h13_2 => ?_
 refine wl_pq F2 (ex_bin (vy := (.string { data := #[] })) (v := (.bool true)) h13_2 rfl (bo_nes1 _ hf _)) fun a3 u3 F3 h14_3 => ?_
 refine wl_pq F3 (ex_mv h14_3) fun a4 u4 F4 h15_4 => ?_
 refine wl_k (yl (e := 15) rfl h15_4) (by decide) F4.l fun a5 u5 h16_5 => ?_
 have F5 := F4.pt u5
 refine wl_k (yl (e := 15) rfl (u5.w h15_4)) (by decide) F5.l fun a6 u6 h17_6 => ?_
 have F6 := F5.pt u6
 refine wl_pq F6 (ex_pick (q := true) (v := (.bool true)) (u6.w (u5.w h15_4)) rfl) fun a7 u7 F7 h18_7 => ?_
 change Code.wp _ _ _ _ _
 refine wp_cond_true h18_7 ?_
 refine rg_list ?_
 have h0_7 := u7.w (u6.w (u5.w (u4.w (u3.w (u2.w (u1.w h0_0))))))
 refine wl_pq F7 (ex_mv h0_7) fun a8 u8 F8 h19_8 => ?_
 refine wl_pq F8 (ex_nil h19_8) fun a9 u9 F9 h20_9 => ?_
 refine wl_pq F9 (ex_fb 20 h20_9) fun a10 u10 F10 h21_10 => ?_
 refine wl_cl (args := #[(.pointer (some ⟨b, 20, none⟩)), (.int .u8 5)]) (R := fun v w' => v = .tuple #[] ∧ Blk w' b 104 #[(.float .f64 (fn d.tgt)), (.int .u64 d.seq), (.slice (some ⟨g, 0, none⟩) d.places d.places), (.string ⟨#[]⟩), (.bool d.ifr), (.bool d.clo), (.int .u64 0), (.int .u64 0), (.float .f64 0), (.bool false), (.bool false), (.int .i64 0), (.int .u64 d.written), (.int .u64 d.places), (.int .u64 hd), (.int .u64 tl), (.int .u64 d.segs.length), (.slice none 0 0), (.int .i64 0), (.int .i8 0), (.int .u8 (max d.ver 5 : Nat)), (pto kp), (pto mp)] ∧ w0.grownBy w' (some b)) (ex_cl (fun _ _ => by kernel_rfl) (arg2 h21_10 rfl)) ((ver_raw (n := 5) Bb_0).mono fun _ _ h => ⟨_, h.1, rfl, h.2⟩) F10.l ?_
 rintro v w1 ⟨rfl, Bb_1, G1⟩
 have Bg_1 := Bg_0.gk G1 hgb
 have Kp1 := Kp0.set G1 (Or.inl (by simp))
 intro a11 u11 h22_11
 have F11 := F10.pt u11
 change Code.wp _ _ _ _ _
 refine wp_sr ?_
 have h0_11 := u11.w (u10.w (u9.w (u8.w h0_7)))
 refine wl_pq F11 (ex_mv h0_11) fun a12 u12 F12 h23_12 => ?_
 have h1_12 := u12.w (u11.w (u10.w (u9.w (u8.w (u7.w (u6.w (u5.w (u4.w (u3.w (u2.w (u1.w h1_0)))))))))))
 refine wl_pq F12 (ex_mv h1_12) fun a13 u13 F13 h24_13 => ?_
 have h2_13 := u13.w (u12.w (u11.w (u10.w (u9.w (u8.w (u7.w (u6.w (u5.w (u4.w (u3.w (u2.w (u1.w h2_0))))))))))))
 refine wl_pq F13 (ex_mv h2_13) fun a14 u14 F14 h25_14 => ?_
 have h3_14 := u14.w (u13.w (u12.w (u11.w (u10.w (u9.w (u8.w (u7.w (u6.w (u5.w (u4.w (u3.w (u2.w (u1.w h3_0)))))))))))))
 refine wl_pq F14 (ex_mv h3_14) fun a15 u15 F15 h26_15 => ?_
 have h4_15 := u15.w (u14.w (u13.w (u12.w (u11.w (u10.w (u9.w (u8.w (u7.w (u6.w (u5.w (u4.w (u3.w (u2.w (u1.w h4_0))))))))))))))
 refine wl_pq F15 (ex_mv h4_15) fun a16 u16 F16 h27_16 => ?_
 have h5_16 := u16.w (u15.w (u14.w (u13.w (u12.w (u11.w (u10.w (u9.w (u8.w (u7.w (u6.w (u5.w (u4.w (u3.w (u2.w (u1.w h5_0)))))))))))))))
 refine wl_pq F16 (ex_mv h5_16) fun a17 u17 F17 h28_17 => ?_
 have h24_17 := u17.w (u16.w (u15.w (u14.w h24_13)))
 have h25_17 := u17.w (u16.w (u15.w h25_14))
 refine wl_pq F17 (ex_bd (w' := w1) (vs :=  #[(0, (.string q.me)), (1, (.string q.uri)), (2, (.string q.iv)), (3, (.string q.fo)), (4, (.string q.ve))]) (v := (.agg #[(.string q.me), (.string q.uri), (.string q.iv), (.string q.fo), (.string q.ve)])) (by have e0 : a17.eval (.tmp 24) = (.string q.me) := h24_17; have e1 : a17.eval (.tmp 25) = (.string q.uri) := h25_17; have e2 : a17.eval (.tmp 26) = (.string q.iv) := (u17.w (u16.w h26_15)); have e3 : a17.eval (.tmp 27) = (.string q.fo) := (u17.w h27_16); have e4 : a17.eval (.tmp 28) = (.string q.ve) := h28_17; simp only [List.map_toArray, List.map_cons, List.map_nil, e0, e1, e2, e3, e4]) (by kernel_rfl)) fun a18 u18 F18 h29_18 => ?_
 obtain ⟨gx, hgx⟩ : ∃ g, w1.heap.size = g := ⟨_, rfl⟩
 have ne_g_x : g ≠ gx := by have := Bg_1.lt; omega
 have ne_b_x : b ≠ gx := by have := Bb_1.lt; omega
 have ge_x : w0.heap.size ≤ gx := by have := Kp1.size; omega
 obtain ⟨w2, hr2, Bx_2, G2, hs2⟩ := al_run (op := Instr.box 113 (.agg #[(.string q.me), (.string q.uri), (.string q.iv), (.string q.fo), (.string q.ve)])) (T := 113) (cs := #[(.string q.me), (.string q.uri), (.string q.iv), (.string q.fo), (.string q.ve)]) hgx (fun _ => by kernel_rfl)
 have Bg_2 := Bg_1.gn G2
 have Bb_2 := Bb_1.gn G2
 have Kp2 := Kp1.new G2
 refine wl_pq F18 (ex_bx h29_18 hr2) fun a19 u19 F19 (h30_19 : a19.tmps.getD 30 undef = (.pointer (some ⟨gx, 0, none⟩))) => ?_
 clear hgx
 have h23_19 := u19.w (u18.w (u17.w (u16.w (u15.w (u14.w (u13.w h23_12))))))
 refine wl_pq F19 (ex_nil h23_19) fun a20 u20 F20 h31_20 => ?_
 refine wl_pq F20 (ex_fb 21 h31_20) fun a21 u21 F21 h32_21 => ?_
 obtain ⟨w3, hr3, Bb_3, G3⟩ := st_run (T := 91) (o := 21) (v := (.pointer (some ⟨gx, 0, none⟩))) (cs' := #[(.float .f64 (fn d.tgt)), (.int .u64 d.seq), (.slice (some ⟨g, 0, none⟩) d.places d.places), (.string ⟨#[]⟩), (.bool d.ifr), (.bool d.clo), (.int .u64 0), (.int .u64 0), (.float .f64 0), (.bool false), (.bool false), (.int .i64 0), (.int .u64 d.written), (.int .u64 d.places), (.int .u64 hd), (.int .u64 tl), (.int .u64 d.segs.length), (.slice none 0 0), (.int .i64 0), (.int .i8 0), (.int .u8 (max d.ver 5 : Nat)), (.pointer (some ⟨gx, 0, none⟩)), (pto mp)]) (fun _ => by kernel_rfl) Bb_2 rfl (Nat.le_of_ble_eq_true rfl) rfl
 have Bg_3 := Bg_2.gk G3 hgb
 have Bx_3 := Bx_2.gk G3 (Ne.symm ne_b_x)
 have Kp3 := Kp2.set G3 (Or.inl (by simp))
 refine wl_n (ex_st h32_21 (u21.w (u20.w h30_19)) hr3) ?_
 change Code.wp _ _ _ _ _
 refine wp_sr ?_
 refine wl_pq F21 (ex_as (v := .nilIface) rfl) fun a22 u22 F22 h12_22 => ?_
 change Code.wp _ _ _ _ _
 refine wp_ret ?_
 obtain ⟨hS, hK⟩ := H.chg (d' := { d.least 5 with key := some q }) Kp3 (by have h := Bb_3; rw [← htl] at h; exact h) (.mk Bx_3 (Nat.le_trans H.hw ge_x) hq) (H.mapk Kp3) rfl rfl rfl
 try simp only [Exit.then, Exit.inBlock]
 exact bodyPost_ret (v := .nilIface) ((results_tmp rfl _ _ _).trans (by rw [h12_22])) F22.defers ⟨rfl, hS, hK⟩
theorem dkey_n {d : WinD} {k B b : Nat} {w0 : World} (hO : d.Ok k) (hk : k ≤ 900) (H : PlS w0 B b d) {q : KeyD} (hq : q.Ok) (hf : q.fo.size = 0) (hv : q.ve.size = 0) : Calls Tryd.prog 39 #[pt b, .string q.me, .string q.uri, .string q.iv, .string q.fo, .string q.ve] w0 fun e w' => e = .returned .nilIface ∧ PlS w' B b { d with key := some q } ∧ Kt B DP w0 w' := by
 obtain ⟨g, hd, ms, kp, mp, arr, H⟩ := H
 obtain ⟨tl, htl⟩ : ∃ tl, (hd + d.segs.length) % d.places = tl := ⟨_, rfl⟩
 have hp1 := hO.p1
 have hp12 := hO.p12
 have hroom := hO.room
 have hseq := hO.seq
 have hhd := H.ring.hlt
 have htlt : tl < d.places := htl ▸ Nat.mod_lt _ (by omega)
 have hgb : g ≠ b := H.row.ne_ H.blk (by decide)
 have Bb_0 : Blk w0 b 104 #[(.float .f64 (fn d.tgt)), (.int .u64 d.seq), (.slice (some ⟨g, 0, none⟩) d.places d.places), (.string ⟨#[]⟩), (.bool d.ifr), (.bool d.clo), (.int .u64 0), (.int .u64 0), (.float .f64 0), (.bool false), (.bool false), (.int .i64 0), (.int .u64 d.written), (.int .u64 d.places), (.int .u64 hd), (.int .u64 tl), (.int .u64 d.segs.length), (.slice none 0 0), (.int .i64 0), (.int .i8 0), (.int .u8 d.ver), (pto kp), (pto mp)] := by
   have h := H.blk
   unfold plC at h
   rw [htl] at h
   exact h
 have Bg_0 := H.row
 refine calls_of_wp Tryd.func39 rfl ?_
 generalize hA : Act.mk _ _ = a0
 have F0 : Fz 33 a0 := by subst hA; exact ⟨by simp [Tryd.ntmps39], rfl⟩
 have h0_0 : a0.tmps.getD 0 undef = (.pointer (some ⟨b, 0, none⟩)) := by subst hA; exact fr_arg rfl
 have h1_0 : a0.tmps.getD 1 undef = (.string q.me) := by subst hA; exact fr_arg rfl
 have h2_0 : a0.tmps.getD 2 undef = (.string q.uri) := by subst hA; exact fr_arg rfl
 have h3_0 : a0.tmps.getD 3 undef = (.string q.iv) := by subst hA; exact fr_arg rfl
 have h4_0 : a0.tmps.getD 4 undef = (.string q.fo) := by subst hA; exact fr_arg rfl
 have h5_0 : a0.tmps.getD 5 undef = (.string q.ve) := by subst hA; exact fr_arg rfl
 have Kp0 := Kp.refl [b] w0
 refine wp_sr ?_
 refine wl_pq F0 (ex_as (v := .nilIface) rfl) fun a1 u1 F1 h12_1 => ?_
 change Code.wp _ _ _ _ _
 refine wp_seq ?_
 refine wp_sr ?_
 refine wl_pq F1 (ex_mv (u1.w h4_0)) fun a2 u2 F2 h13_2 => ?_
 refine wl_pq F2 (ex_bin (vy := (.string { data := #[] })) (v := (.bool false)) h13_2 rfl (bo_nes0 _ hf _)) fun a3 u3 F3 h14_3 => ?_
 refine wl_pq F3 (ex_mv h14_3) fun a4 u4 F4 h15_4 => ?_
 have h5_4 := u4.w (u3.w (u2.w (u1.w h5_0)))
 refine wl_gq F4 (yl (e := 15) rfl h15_4) (ex_mv h5_4) fun a5 u5 F5 h16_5 => ?_
 refine wl_gq F5 (yl (e := 15) rfl (u5.w h15_4)) (ex_bin (vy := (.string { data := #[] })) (v := (.bool false)) h16_5 rfl (bo_nes0 _ hv _)) fun a6 u6 F6 h17_6 => ?_
 refine wl_pq F6 (ex_pick (q := false) (u6.w (u5.w h15_4)) h17_6) fun a7 u7 F7 h18_7 => ?_
 change Code.wp _ _ _ _ _
 refine wp_cond_false h18_7 ?_
 refine wp_skip ?_
 change Code.wp _ _ _ _ _
 refine wp_sr ?_
 have h0_7 := u7.w (u6.w (u5.w (u4.w (u3.w (u2.w (u1.w h0_0))))))
 refine wl_pq F7 (ex_mv h0_7) fun a8 u8 F8 h23_8 => ?_
 have h1_8 := u8.w (u7.w (u6.w (u5.w (u4.w (u3.w (u2.w (u1.w h1_0)))))))
 refine wl_pq F8 (ex_mv h1_8) fun a9 u9 F9 h24_9 => ?_
 have h2_9 := u9.w (u8.w (u7.w (u6.w (u5.w (u4.w (u3.w (u2.w (u1.w h2_0))))))))
 refine wl_pq F9 (ex_mv h2_9) fun a10 u10 F10 h25_10 => ?_
 have h3_10 := u10.w (u9.w (u8.w (u7.w (u6.w (u5.w (u4.w (u3.w (u2.w (u1.w h3_0)))))))))
 refine wl_pq F10 (ex_mv h3_10) fun a11 u11 F11 h26_11 => ?_
 have h4_11 := u11.w (u10.w (u9.w (u8.w (u7.w (u6.w (u5.w (u4.w (u3.w (u2.w (u1.w h4_0))))))))))
 refine wl_pq F11 (ex_mv h4_11) fun a12 u12 F12 h27_12 => ?_
 have h5_12 := u12.w (u11.w (u10.w (u9.w (u8.w (u7.w (u6.w (u5.w h5_4)))))))
 refine wl_pq F12 (ex_mv h5_12) fun a13 u13 F13 h28_13 => ?_
 have h24_13 := u13.w (u12.w (u11.w (u10.w h24_9)))
 have h25_13 := u13.w (u12.w (u11.w h25_10))
 refine wl_pq F13 (ex_bd (w' := w0) (vs :=  #[(0, (.string q.me)), (1, (.string q.uri)), (2, (.string q.iv)), (3, (.string q.fo)), (4, (.string q.ve))]) (v := (.agg #[(.string q.me), (.string q.uri), (.string q.iv), (.string q.fo), (.string q.ve)])) (by have e0 : a13.eval (.tmp 24) = (.string q.me) := h24_13; have e1 : a13.eval (.tmp 25) = (.string q.uri) := h25_13; have e2 : a13.eval (.tmp 26) = (.string q.iv) := (u13.w (u12.w h26_11)); have e3 : a13.eval (.tmp 27) = (.string q.fo) := (u13.w h27_12); have e4 : a13.eval (.tmp 28) = (.string q.ve) := h28_13; simp only [List.map_toArray, List.map_cons, List.map_nil, e0, e1, e2, e3, e4]) (by kernel_rfl)) fun a14 u14 F14 h29_14 => ?_
 obtain ⟨gx, hgx⟩ : ∃ g, w0.heap.size = g := ⟨_, rfl⟩
 have ne_g_x : g ≠ gx := by have := Bg_0.lt; omega
 have ne_b_x : b ≠ gx := by have := Bb_0.lt; omega
 have ge_x : w0.heap.size ≤ gx := by have := Kp0.size; omega
 obtain ⟨w1, hr1, Bx_1, G1, hs1⟩ := al_run (op := Instr.box 113 (.agg #[(.string q.me), (.string q.uri), (.string q.iv), (.string q.fo), (.string q.ve)])) (T := 113) (cs := #[(.string q.me), (.string q.uri), (.string q.iv), (.string q.fo), (.string q.ve)]) hgx (fun _ => by kernel_rfl)
 have Bg_1 := Bg_0.gn G1
 have Bb_1 := Bb_0.gn G1
 have Kp1 := Kp0.new G1
 refine wl_pq F14 (ex_bx h29_14 hr1) fun a15 u15 F15 (h30_15 : a15.tmps.getD 30 undef = (.pointer (some ⟨gx, 0, none⟩))) => ?_
 clear hgx
 have h23_15 := u15.w (u14.w (u13.w (u12.w (u11.w (u10.w (u9.w h23_8))))))
 refine wl_pq F15 (ex_nil h23_15) fun a16 u16 F16 h31_16 => ?_
 refine wl_pq F16 (ex_fb 21 h31_16) fun a17 u17 F17 h32_17 => ?_
 obtain ⟨w2, hr2, Bb_2, G2⟩ := st_run (T := 91) (o := 21) (v := (.pointer (some ⟨gx, 0, none⟩))) (cs' := #[(.float .f64 (fn d.tgt)), (.int .u64 d.seq), (.slice (some ⟨g, 0, none⟩) d.places d.places), (.string ⟨#[]⟩), (.bool d.ifr), (.bool d.clo), (.int .u64 0), (.int .u64 0), (.float .f64 0), (.bool false), (.bool false), (.int .i64 0), (.int .u64 d.written), (.int .u64 d.places), (.int .u64 hd), (.int .u64 tl), (.int .u64 d.segs.length), (.slice none 0 0), (.int .i64 0), (.int .i8 0), (.int .u8 d.ver), (.pointer (some ⟨gx, 0, none⟩)), (pto mp)]) (fun _ => by kernel_rfl) Bb_1 rfl (Nat.le_of_ble_eq_true rfl) rfl
 have Bg_2 := Bg_1.gk G2 hgb
 have Bx_2 := Bx_1.gk G2 (Ne.symm ne_b_x)
 have Kp2 := Kp1.set G2 (Or.inl (by simp))
 refine wl_n (ex_st h32_17 (u17.w (u16.w h30_15)) hr2) ?_
 change Code.wp _ _ _ _ _
 refine wp_sr ?_
 refine wl_pq F17 (ex_as (v := .nilIface) rfl) fun a18 u18 F18 h12_18 => ?_
 change Code.wp _ _ _ _ _
 refine wp_ret ?_
 obtain ⟨hS, hK⟩ := H.chg (d' := { d with key := some q }) Kp2 (by have h := Bb_2; rw [← htl] at h; exact h) (.mk Bx_2 (Nat.le_trans H.hw ge_x) hq) (H.mapk Kp2) rfl rfl rfl
 try simp only [Exit.then, Exit.inBlock]
 exact bodyPost_ret (v := .nilIface) ((results_tmp rfl _ _ _).trans (by rw [h12_18])) F18.defers ⟨rfl, hS, hK⟩
theorem dmap_any {d : WinD} {k B b : Nat} {w0 : World} (hO : d.Ok k) (hk : k ≤ 900) (H : PlS w0 B b d) {q : MapD} (hq : q.Ok) : Calls Tryd.prog 41 #[pt b, .string q.uri, .int .i64 q.li, .int .i64 q.off] w0 fun e w' => e = .returned (.tuple #[]) ∧ PlS w' B b { d.least 5 with map := some q } ∧ Kt B DP w0 w' := by
 obtain ⟨g, hd, ms, kp, mp, arr, H⟩ := H
 obtain ⟨tl, htl⟩ : ∃ tl, (hd + d.segs.length) % d.places = tl := ⟨_, rfl⟩
 have hp1 := hO.p1
 have hp12 := hO.p12
 have hroom := hO.room
 have hseq := hO.seq
 have hhd := H.ring.hlt
 have htlt : tl < d.places := htl ▸ Nat.mod_lt _ (by omega)
 have hgb : g ≠ b := H.row.ne_ H.blk (by decide)
 have Bb_0 : Blk w0 b 104 #[(.float .f64 (fn d.tgt)), (.int .u64 d.seq), (.slice (some ⟨g, 0, none⟩) d.places d.places), (.string ⟨#[]⟩), (.bool d.ifr), (.bool d.clo), (.int .u64 0), (.int .u64 0), (.float .f64 0), (.bool false), (.bool false), (.int .i64 0), (.int .u64 d.written), (.int .u64 d.places), (.int .u64 hd), (.int .u64 tl), (.int .u64 d.segs.length), (.slice none 0 0), (.int .i64 0), (.int .i8 0), (.int .u8 d.ver), (pto kp), (pto mp)] := by
   have h := H.blk
   unfold plC at h
   rw [htl] at h
   exact h
 have Bg_0 := H.row
 refine calls_of_wp Tryd.func41 rfl ?_
 generalize hA : Act.mk _ _ = a0
 have F0 : Fz 20 a0 := by subst hA; exact ⟨by simp [Tryd.ntmps41], rfl⟩
 have h0_0 : a0.tmps.getD 0 undef = (.pointer (some ⟨b, 0, none⟩)) := by subst hA; exact fr_arg rfl
 have h1_0 : a0.tmps.getD 1 undef = (.string q.uri) := by subst hA; exact fr_arg rfl
 have h2_0 : a0.tmps.getD 2 undef = (.int .i64 q.li) := by subst hA; exact fr_arg rfl
 have h3_0 : a0.tmps.getD 3 undef = (.int .i64 q.off) := by subst hA; exact fr_arg rfl
 have Kp0 := Kp.refl [b] w0
 refine wp_sr ?_
 refine wl_pq F0 (ex_mv h0_0) fun a1 u1 F1 h8_1 => ?_
 refine wl_pq F1 (ex_nil h8_1) fun a2 u2 F2 h9_2 => ?_
 refine wl_pq F2 (ex_fb 20 h9_2) fun a3 u3 F3 h10_3 => ?_
 refine wl_cl (args := #[(.pointer (some ⟨b, 20, none⟩)), (.int .u8 5)]) (R := fun v w' => v = .tuple #[] ∧ Blk w' b 104 #[(.float .f64 (fn d.tgt)), (.int .u64 d.seq), (.slice (some ⟨g, 0, none⟩) d.places d.places), (.string ⟨#[]⟩), (.bool d.ifr), (.bool d.clo), (.int .u64 0), (.int .u64 0), (.float .f64 0), (.bool false), (.bool false), (.int .i64 0), (.int .u64 d.written), (.int .u64 d.places), (.int .u64 hd), (.int .u64 tl), (.int .u64 d.segs.length), (.slice none 0 0), (.int .i64 0), (.int .i8 0), (.int .u8 (max d.ver 5 : Nat)), (pto kp), (pto mp)] ∧ w0.grownBy w' (some b)) (ex_cl (fun _ _ => by kernel_rfl) (arg2 h10_3 rfl)) ((ver_raw (n := 5) Bb_0).mono fun _ _ h => ⟨_, h.1, rfl, h.2⟩) F3.l ?_
 rintro v w1 ⟨rfl, Bb_1, G1⟩
 have Bg_1 := Bg_0.gk G1 hgb
 have Kp1 := Kp0.set G1 (Or.inl (by simp))
 intro a4 u4 h11_4
 have F4 := F3.pt u4
 change Code.wp _ _ _ _ _
 refine rg_list ?_
 have h0_4 := u4.w (u3.w (u2.w (u1.w h0_0)))
 refine wl_pq F4 (ex_mv h0_4) fun a5 u5 F5 h12_5 => ?_
 have h1_5 := u5.w (u4.w (u3.w (u2.w (u1.w h1_0))))
 refine wl_pq F5 (ex_mv h1_5) fun a6 u6 F6 h13_6 => ?_
 have h2_6 := u6.w (u5.w (u4.w (u3.w (u2.w (u1.w h2_0)))))
 refine wl_pq F6 (ex_mv h2_6) fun a7 u7 F7 h14_7 => ?_
 have h3_7 := u7.w (u6.w (u5.w (u4.w (u3.w (u2.w (u1.w h3_0))))))
 refine wl_pq F7 (ex_mv h3_7) fun a8 u8 F8 h15_8 => ?_
 refine wl_pq F8 (ex_bd (w' := w1) (vs :=  #[(0, (.string q.uri)), (1, (.int .i64 q.li)), (2, (.int .i64 q.off))]) (v := (.agg #[(.string q.uri), (.int .i64 q.li), (.int .i64 q.off)])) (by have e0 : a8.eval (.tmp 13) = (.string q.uri) := (u8.w (u7.w h13_6)); have e1 : a8.eval (.tmp 14) = (.int .i64 q.li) := (u8.w h14_7); have e2 : a8.eval (.tmp 15) = (.int .i64 q.off) := h15_8; simp only [List.map_toArray, List.map_cons, List.map_nil, e0, e1, e2]) (by kernel_rfl)) fun a9 u9 F9 h16_9 => ?_
 obtain ⟨gx, hgx⟩ : ∃ g, w1.heap.size = g := ⟨_, rfl⟩
 have ne_g_x : g ≠ gx := by have := Bg_1.lt; omega
 have ne_b_x : b ≠ gx := by have := Bb_1.lt; omega
 have ge_x : w0.heap.size ≤ gx := by have := Kp1.size; omega
 obtain ⟨w2, hr2, Bx_2, G2, hs2⟩ := al_run (op := Instr.box 115 (.agg #[(.string q.uri), (.int .i64 q.li), (.int .i64 q.off)])) (T := 115) (cs := #[(.string q.uri), (.int .i64 q.li), (.int .i64 q.off)]) hgx (fun _ => by kernel_rfl)
 have Bg_2 := Bg_1.gn G2
 have Bb_2 := Bb_1.gn G2
 have Kp2 := Kp1.new G2
 refine wl_pq F9 (ex_bx h16_9 hr2) fun a10 u10 F10 (h17_10 : a10.tmps.getD 17 undef = (.pointer (some ⟨gx, 0, none⟩))) => ?_
 clear hgx
 have h12_10 := u10.w (u9.w (u8.w (u7.w (u6.w h12_5))))
 refine wl_pq F10 (ex_nil h12_10) fun a11 u11 F11 h18_11 => ?_
 refine wl_pq F11 (ex_fb 22 h18_11) fun a12 u12 F12 h19_12 => ?_
 obtain ⟨w3, hr3, Bb_3, G3⟩ := st_run (T := 92) (o := 22) (v := (.pointer (some ⟨gx, 0, none⟩))) (cs' := #[(.float .f64 (fn d.tgt)), (.int .u64 d.seq), (.slice (some ⟨g, 0, none⟩) d.places d.places), (.string ⟨#[]⟩), (.bool d.ifr), (.bool d.clo), (.int .u64 0), (.int .u64 0), (.float .f64 0), (.bool false), (.bool false), (.int .i64 0), (.int .u64 d.written), (.int .u64 d.places), (.int .u64 hd), (.int .u64 tl), (.int .u64 d.segs.length), (.slice none 0 0), (.int .i64 0), (.int .i8 0), (.int .u8 (max d.ver 5 : Nat)), (pto kp), (.pointer (some ⟨gx, 0, none⟩))]) (fun _ => by kernel_rfl) Bb_2 rfl (Nat.le_of_ble_eq_true rfl) rfl
 have Bg_3 := Bg_2.gk G3 hgb
 have Bx_3 := Bx_2.gk G3 (Ne.symm ne_b_x)
 have Kp3 := Kp2.set G3 (Or.inl (by simp))
 refine wl_n (ex_st h19_12 (u12.w (u11.w h17_10)) hr3) ?_
 obtain ⟨hS, hK⟩ := H.chg (d' := { d.least 5 with map := some q }) Kp3 (by have h := Bb_3; rw [← htl] at h; exact h) (H.keyk Kp3) (.mk Bx_3 (Nat.le_trans H.hw ge_x) hq) rfl rfl rfl
 exact bodyPost_end (v := .tuple #[]) (results_none rfl _ _ _) F12.defers ⟨rfl, hS, hK⟩
theorem skey_nil {d : WinD} {k B b : Nat} {w0 : World} (hO : d.Ok k) (hk : k ≤ 900) (H : PlS w0 B b d) {q : KeyD} (h0 : d.segs.length = 0) : Calls Tryd.prog 38 #[pt b, .string q.me, .string q.uri, .string q.iv, .string q.fo, .string q.ve] w0 fun e w' => ∃ t p, e = .returned (.iface t p) ∧ PlS w' B b d ∧ Kt B DP w0 w' := by
 obtain ⟨g, hd, ms, kp, mp, arr, H⟩ := H
 obtain ⟨tl, htl⟩ : ∃ tl, (hd + d.segs.length) % d.places = tl := ⟨_, rfl⟩
 have hp1 := hO.p1
 have hp12 := hO.p12
 have hroom := hO.room
 have hseq := hO.seq
 have hhd := H.ring.hlt
 have htlt : tl < d.places := htl ▸ Nat.mod_lt _ (by omega)
 have hgb : g ≠ b := H.row.ne_ H.blk (by decide)
 have Bb_0 : Blk w0 b 104 #[(.float .f64 (fn d.tgt)), (.int .u64 d.seq), (.slice (some ⟨g, 0, none⟩) d.places d.places), (.string ⟨#[]⟩), (.bool d.ifr), (.bool d.clo), (.int .u64 0), (.int .u64 0), (.float .f64 0), (.bool false), (.bool false), (.int .i64 0), (.int .u64 d.written), (.int .u64 d.places), (.int .u64 hd), (.int .u64 tl), (.int .u64 d.segs.length), (.slice none 0 0), (.int .i64 0), (.int .i8 0), (.int .u8 d.ver), (pto kp), (pto mp)] := by
   have h := H.blk
   unfold plC at h
   rw [htl] at h
   exact h
 have Bg_0 := H.row
 refine calls_of_wp Tryd.func38 rfl ?_
 generalize hA : Act.mk _ _ = a0
 have F0 : Fz 46 a0 := by subst hA; exact ⟨by simp [Tryd.ntmps38], rfl⟩
 have h0_0 : a0.tmps.getD 0 undef = (.pointer (some ⟨b, 0, none⟩)) := by subst hA; exact fr_arg rfl
 have h1_0 : a0.tmps.getD 1 undef = (.string q.me) := by subst hA; exact fr_arg rfl
 have h2_0 : a0.tmps.getD 2 undef = (.string q.uri) := by subst hA; exact fr_arg rfl
 have h3_0 : a0.tmps.getD 3 undef = (.string q.iv) := by subst hA; exact fr_arg rfl
 have h4_0 : a0.tmps.getD 4 undef = (.string q.fo) := by subst hA; exact fr_arg rfl
 have h5_0 : a0.tmps.getD 5 undef = (.string q.ve) := by subst hA; exact fr_arg rfl
 have Kp0 := Kp.refl [b] w0
 have H_0 := H
 have Q_0 := grown_refl w0 none
 refine wp_sr ?_
 refine wl_pq F0 (ex_as (v := .nilIface) rfl) fun a1 u1 F1 h12_1 => ?_
 change Code.wp _ _ _ _ _
 refine wp_seq ?_
 refine wp_sr ?_
 refine wl_pq F1 (ex_mv (u1.w h0_0)) fun a2 u2 F2 h13_2 => ?_
 refine wl_pq F2 (ex_nil h13_2) fun a3 u3 F3 h14_3 => ?_
 refine wl_pq F3 (ex_fb 16 h14_3) fun a4 u4 F4 h15_4 => ?_
 refine wl_pq F4 (ex_le (v := (.int .u64 d.segs.length)) h15_4 (Bb_0.cell 16)) fun a5 u5 F5 h16_5 => ?_
 refine wl_pq F5 (ex_bin (vy := (.int .u64 0)) (v := (.bool true)) h16_5 rfl ((uo_eq d.segs.length 0 _).trans (by rw [decide_eq_true (by omega)]))) fun a6 u6 F6 h17_6 => ?_
 change Code.wp _ _ _ _ _
 refine wp_cond_true h17_6 ?_
 refine wp_sr ?_
 refine wl_cl (args := #[(.string { data := #[112, 108, 97, 121, 108, 105, 115, 116, 32, 105, 115, 32, 101, 109, 112, 116, 121] })]) (R := fun v w' => (∃ t p, v = .iface t p) ∧ w0.grownBy w' none) (ex_cl (fun _ _ => by kernel_rfl) (arg1 rfl)) ((errnew _ _).mono fun _ _ ⟨t, p, h, G⟩ => ⟨_, h, ⟨t, p, rfl⟩, G⟩) F6.l ?_
 rintro v w1 ⟨⟨et, ep, rfl⟩, G1⟩
 have Bg_1 := Bg_0.gn G1
 have Bb_1 := Bb_0.gn G1
 have Kp1 := Kp0.new G1
 have H_1 := H_0.gn G1
 have Q_1 := grown_trans Q_0 G1
 intro a7 u7 h18_7
 have F7 := F6.pt u7
 clear H_0 Q_0
 refine wl_pq F7 (ex_as h18_7) fun a8 u8 F8 h12_8 => ?_
 change Code.wp _ _ _ _ _
 refine wp_ret ?_
 try simp only [Exit.then, Exit.inBlock]
 exact bodyPost_ret (v := (.iface et ep)) ((results_tmp rfl _ _ _).trans (by rw [h12_8])) F8.defers ⟨_, _, rfl, ⟨g, hd, ms, kp, mp, arr, H_1⟩, (Kt.refl B DP w0).nw H.hw Q_1⟩
theorem smap_nil {d : WinD} {k B b : Nat} {w0 : World} (hO : d.Ok k) (hk : k ≤ 900) (H : PlS w0 B b d) {q : MapD} (h0 : d.segs.length = 0) : Calls Tryd.prog 40 #[pt b, .string q.uri, .int .i64 q.li, .int .i64 q.off] w0 fun e w' => ∃ t p, e = .returned (.iface t p) ∧ PlS w' B b d ∧ Kt B DP w0 w' := by
 obtain ⟨g, hd, ms, kp, mp, arr, H⟩ := H
 obtain ⟨tl, htl⟩ : ∃ tl, (hd + d.segs.length) % d.places = tl := ⟨_, rfl⟩
 have hp1 := hO.p1
 have hp12 := hO.p12
 have hroom := hO.room
 have hseq := hO.seq
 have hhd := H.ring.hlt
 have htlt : tl < d.places := htl ▸ Nat.mod_lt _ (by omega)
 have hgb : g ≠ b := H.row.ne_ H.blk (by decide)
 have Bb_0 : Blk w0 b 104 #[(.float .f64 (fn d.tgt)), (.int .u64 d.seq), (.slice (some ⟨g, 0, none⟩) d.places d.places), (.string ⟨#[]⟩), (.bool d.ifr), (.bool d.clo), (.int .u64 0), (.int .u64 0), (.float .f64 0), (.bool false), (.bool false), (.int .i64 0), (.int .u64 d.written), (.int .u64 d.places), (.int .u64 hd), (.int .u64 tl), (.int .u64 d.segs.length), (.slice none 0 0), (.int .i64 0), (.int .i8 0), (.int .u8 d.ver), (pto kp), (pto mp)] := by
   have h := H.blk
   unfold plC at h
   rw [htl] at h
   exact h
 have Bg_0 := H.row
 refine calls_of_wp Tryd.func40 rfl ?_
 generalize hA : Act.mk _ _ = a0
 have F0 : Fz 34 a0 := by subst hA; exact ⟨by simp [Tryd.ntmps40], rfl⟩
 have h0_0 : a0.tmps.getD 0 undef = (.pointer (some ⟨b, 0, none⟩)) := by subst hA; exact fr_arg rfl
 have h1_0 : a0.tmps.getD 1 undef = (.string q.uri) := by subst hA; exact fr_arg rfl
 have h2_0 : a0.tmps.getD 2 undef = (.int .i64 q.li) := by subst hA; exact fr_arg rfl
 have h3_0 : a0.tmps.getD 3 undef = (.int .i64 q.off) := by subst hA; exact fr_arg rfl
 have Kp0 := Kp.refl [b] w0
 have H_0 := H
 have Q_0 := grown_refl w0 none
 refine wp_sr ?_
 refine wl_pq F0 (ex_as (v := .nilIface) rfl) fun a1 u1 F1 h8_1 => ?_
 change Code.wp _ _ _ _ _
 refine wp_seq ?_
 refine wp_sr ?_
 refine wl_pq F1 (ex_mv (u1.w h0_0)) fun a2 u2 F2 h9_2 => ?_
 refine wl_pq F2 (ex_nil h9_2) fun a3 u3 F3 h10_3 => ?_
 refine wl_pq F3 (ex_fb 16 h10_3) fun a4 u4 F4 h11_4 => ?_
 refine wl_pq F4 (ex_le (v := (.int .u64 d.segs.length)) h11_4 (Bb_0.cell 16)) fun a5 u5 F5 h12_5 => ?_
 refine wl_pq F5 (ex_bin (vy := (.int .u64 0)) (v := (.bool true)) h12_5 rfl ((uo_eq d.segs.length 0 _).trans (by rw [decide_eq_true (by omega)]))) fun a6 u6 F6 h13_6 => ?_
 change Code.wp _ _ _ _ _
 refine wp_cond_true h13_6 ?_
 refine wp_sr ?_
 refine wl_cl (args := #[(.string { data := #[112, 108, 97, 121, 108, 105, 115, 116, 32, 105, 115, 32, 101, 109, 112, 116, 121] })]) (R := fun v w' => (∃ t p, v = .iface t p) ∧ w0.grownBy w' none) (ex_cl (fun _ _ => by kernel_rfl) (arg1 rfl)) ((errnew _ _).mono fun _ _ ⟨t, p, h, G⟩ => ⟨_, h, ⟨t, p, rfl⟩, G⟩) F6.l ?_
 rintro v w1 ⟨⟨et, ep, rfl⟩, G1⟩
 have Bg_1 := Bg_0.gn G1
 have Bb_1 := Bb_0.gn G1
 have Kp1 := Kp0.new G1
 have H_1 := H_0.gn G1
 have Q_1 := grown_trans Q_0 G1
 intro a7 u7 h14_7
 have F7 := F6.pt u7
 clear H_0 Q_0
 refine wl_pq F7 (ex_as h14_7) fun a8 u8 F8 h8_8 => ?_
 change Code.wp _ _ _ _ _
 refine wp_ret ?_
 try simp only [Exit.then, Exit.inBlock]
 exact bodyPost_ret (v := (.iface et ep)) ((results_tmp rfl _ _ _).trans (by rw [h8_8])) F8.defers ⟨_, _, rfl, ⟨g, hd, ms, kp, mp, arr, H_1⟩, (Kt.refl B DP w0).nw H.hw Q_1⟩
theorem srange_nil {d : WinD} {k B b : Nat} {w0 : World} (hO : d.Ok k) (hk : k ≤ 900) (H : PlS w0 B b d) {li off : Nat} (h0 : d.segs.length = 0) : Calls Tryd.prog 42 #[pt b, .int .i64 li, .int .i64 off] w0 fun e w' => ∃ t p, e = .returned (.iface t p) ∧ PlS w' B b d ∧ Kt B DP w0 w' := by
 obtain ⟨g, hd, ms, kp, mp, arr, H⟩ := H
 obtain ⟨tl, htl⟩ : ∃ tl, (hd + d.segs.length) % d.places = tl := ⟨_, rfl⟩
 have hp1 := hO.p1
 have hp12 := hO.p12
 have hroom := hO.room
 have hseq := hO.seq
 have hhd := H.ring.hlt
 have htlt : tl < d.places := htl ▸ Nat.mod_lt _ (by omega)
 have hgb : g ≠ b := H.row.ne_ H.blk (by decide)
 have Bb_0 : Blk w0 b 104 #[(.float .f64 (fn d.tgt)), (.int .u64 d.seq), (.slice (some ⟨g, 0, none⟩) d.places d.places), (.string ⟨#[]⟩), (.bool d.ifr), (.bool d.clo), (.int .u64 0), (.int .u64 0), (.float .f64 0), (.bool false), (.bool false), (.int .i64 0), (.int .u64 d.written), (.int .u64 d.places), (.int .u64 hd), (.int .u64 tl), (.int .u64 d.segs.length), (.slice none 0 0), (.int .i64 0), (.int .i8 0), (.int .u8 d.ver), (pto kp), (pto mp)] := by
   have h := H.blk
   unfold plC at h
   rw [htl] at h
   exact h
 have Bg_0 := H.row
 refine calls_of_wp Tryd.func42 rfl ?_
 generalize hA : Act.mk _ _ = a0
 have F0 : Fz 39 a0 := by subst hA; exact ⟨by simp [Tryd.ntmps42], rfl⟩
 have h0_0 : a0.tmps.getD 0 undef = (.pointer (some ⟨b, 0, none⟩)) := by subst hA; exact fr_arg rfl
 have h1_0 : a0.tmps.getD 1 undef = (.int .i64 li) := by subst hA; exact fr_arg rfl
 have h2_0 : a0.tmps.getD 2 undef = (.int .i64 off) := by subst hA; exact fr_arg rfl
 have Kp0 := Kp.refl [b] w0
 have H_0 := H
 have Q_0 := grown_refl w0 none
 refine wp_sr ?_
 refine wl_pq F0 (ex_as (v := .nilIface) rfl) fun a1 u1 F1 h6_1 => ?_
 change Code.wp _ _ _ _ _
 refine wp_seq ?_
 refine wp_sr ?_
 refine wl_pq F1 (ex_mv (u1.w h0_0)) fun a2 u2 F2 h7_2 => ?_
 refine wl_pq F2 (ex_nil h7_2) fun a3 u3 F3 h8_3 => ?_
 refine wl_pq F3 (ex_fb 16 h8_3) fun a4 u4 F4 h9_4 => ?_
 refine wl_pq F4 (ex_le (v := (.int .u64 d.segs.length)) h9_4 (Bb_0.cell 16)) fun a5 u5 F5 h10_5 => ?_
 refine wl_pq F5 (ex_bin (vy := (.int .u64 0)) (v := (.bool true)) h10_5 rfl ((uo_eq d.segs.length 0 _).trans (by rw [decide_eq_true (by omega)]))) fun a6 u6 F6 h11_6 => ?_
 change Code.wp _ _ _ _ _
 refine wp_cond_true h11_6 ?_
 refine wp_sr ?_
 refine wl_cl (args := #[(.string { data := #[112, 108, 97, 121, 108, 105, 115, 116, 32, 105, 115, 32, 101, 109, 112, 116, 121] })]) (R := fun v w' => (∃ t p, v = .iface t p) ∧ w0.grownBy w' none) (ex_cl (fun _ _ => by kernel_rfl) (arg1 rfl)) ((errnew _ _).mono fun _ _ ⟨t, p, h, G⟩ => ⟨_, h, ⟨t, p, rfl⟩, G⟩) F6.l ?_
 rintro v w1 ⟨⟨et, ep, rfl⟩, G1⟩
 have Bg_1 := Bg_0.gn G1
 have Bb_1 := Bb_0.gn G1
 have Kp1 := Kp0.new G1
 have H_1 := H_0.gn G1
 have Q_1 := grown_trans Q_0 G1
 intro a7 u7 h12_7
 have F7 := F6.pt u7
 clear H_0 Q_0
 refine wl_pq F7 (ex_as h12_7) fun a8 u8 F8 h6_8 => ?_
 change Code.wp _ _ _ _ _
 refine wp_ret ?_
 try simp only [Exit.then, Exit.inBlock]
 exact bodyPost_ret (v := (.iface et ep)) ((results_tmp rfl _ _ _).trans (by rw [h6_8])) F8.defers ⟨_, _, rfl, ⟨g, hd, ms, kp, mp, arr, H_1⟩, (Kt.refl B DP w0).nw H.hw Q_1⟩
theorem sdisc_nil {d : WinD} {k B b : Nat} {w0 : World} (hO : d.Ok k) (hk : k ≤ 900) (H : PlS w0 B b d) (h0 : d.segs.length = 0) : Calls Tryd.prog 44 #[pt b] w0 fun e w' => ∃ t p, e = .returned (.iface t p) ∧ PlS w' B b d ∧ Kt B DP w0 w' := by
 obtain ⟨g, hd, ms, kp, mp, arr, H⟩ := H
 obtain ⟨tl, htl⟩ : ∃ tl, (hd + d.segs.length) % d.places = tl := ⟨_, rfl⟩
 have hp1 := hO.p1
 have hp12 := hO.p12
 have hroom := hO.room
 have hseq := hO.seq
 have hhd := H.ring.hlt
 have htlt : tl < d.places := htl ▸ Nat.mod_lt _ (by omega)
 have hgb : g ≠ b := H.row.ne_ H.blk (by decide)
 have Bb_0 : Blk w0 b 104 #[(.float .f64 (fn d.tgt)), (.int .u64 d.seq), (.slice (some ⟨g, 0, none⟩) d.places d.places), (.string ⟨#[]⟩), (.bool d.ifr), (.bool d.clo), (.int .u64 0), (.int .u64 0), (.float .f64 0), (.bool false), (.bool false), (.int .i64 0), (.int .u64 d.written), (.int .u64 d.places), (.int .u64 hd), (.int .u64 tl), (.int .u64 d.segs.length), (.slice none 0 0), (.int .i64 0), (.int .i8 0), (.int .u8 d.ver), (pto kp), (pto mp)] := by
   have h := H.blk
   unfold plC at h
   rw [htl] at h
   exact h
 have Bg_0 := H.row
 refine calls_of_wp Tryd.func44 rfl ?_
 generalize hA : Act.mk _ _ = a0
 have F0 : Fz 19 a0 := by subst hA; exact ⟨by simp [Tryd.ntmps44], rfl⟩
 have h0_0 : a0.tmps.getD 0 undef = (.pointer (some ⟨b, 0, none⟩)) := by subst hA; exact fr_arg rfl
 have Kp0 := Kp.refl [b] w0
 have H_0 := H
 have Q_0 := grown_refl w0 none
 refine wp_sr ?_
 refine wl_pq F0 (ex_as (v := .nilIface) rfl) fun a1 u1 F1 h2_1 => ?_
 change Code.wp _ _ _ _ _
 refine wp_seq ?_
 refine wp_sr ?_
 refine wl_pq F1 (ex_mv (u1.w h0_0)) fun a2 u2 F2 h3_2 => ?_
 refine wl_pq F2 (ex_nil h3_2) fun a3 u3 F3 h4_3 => ?_
 refine wl_pq F3 (ex_fb 16 h4_3) fun a4 u4 F4 h5_4 => ?_
 refine wl_pq F4 (ex_le (v := (.int .u64 d.segs.length)) h5_4 (Bb_0.cell 16)) fun a5 u5 F5 h6_5 => ?_
 refine wl_pq F5 (ex_bin (vy := (.int .u64 0)) (v := (.bool true)) h6_5 rfl ((uo_eq d.segs.length 0 _).trans (by rw [decide_eq_true (by omega)]))) fun a6 u6 F6 h7_6 => ?_
 change Code.wp _ _ _ _ _
 refine wp_cond_true h7_6 ?_
 refine wp_sr ?_
 refine wl_cl (args := #[(.string { data := #[112, 108, 97, 121, 108, 105, 115, 116, 32, 105, 115, 32, 101, 109, 112, 116, 121] })]) (R := fun v w' => (∃ t p, v = .iface t p) ∧ w0.grownBy w' none) (ex_cl (fun _ _ => by kernel_rfl) (arg1 rfl)) ((errnew _ _).mono fun _ _ ⟨t, p, h, G⟩ => ⟨_, h, ⟨t, p, rfl⟩, G⟩) F6.l ?_
 rintro v w1 ⟨⟨et, ep, rfl⟩, G1⟩
 have Bg_1 := Bg_0.gn G1
 have Bb_1 := Bb_0.gn G1
 have Kp1 := Kp0.new G1
 have H_1 := H_0.gn G1
 have Q_1 := grown_trans Q_0 G1
 intro a7 u7 h8_7
 have F7 := F6.pt u7
 clear H_0 Q_0
 refine wl_pq F7 (ex_as h8_7) fun a8 u8 F8 h2_8 => ?_
 change Code.wp _ _ _ _ _
 refine wp_ret ?_
 try simp only [Exit.then, Exit.inBlock]
 exact bodyPost_ret (v := (.iface et ep)) ((results_tmp rfl _ _ _).trans (by rw [h2_8])) F8.defers ⟨_, _, rfl, ⟨g, hd, ms, kp, mp, arr, H_1⟩, (Kt.refl B DP w0).nw H.hw Q_1⟩
theorem sdate_nil {d : WinD} {k B b : Nat} {w0 : World} (hO : d.Ok k) (hk : k ≤ 900) (H : PlS w0 B b d) {s : ByteArray} (h0 : d.segs.length = 0) : Calls Tryd.prog 45 #[pt b, .string s] w0 fun e w' => ∃ t p, e = .returned (.iface t p) ∧ PlS w' B b d ∧ Kt B DP w0 w' := by
 obtain ⟨g, hd, ms, kp, mp, arr, H⟩ := H
 obtain ⟨tl, htl⟩ : ∃ tl, (hd + d.segs.length) % d.places = tl := ⟨_, rfl⟩
 have hp1 := hO.p1
 have hp12 := hO.p12
 have hroom := hO.room
 have hseq := hO.seq
 have hhd := H.ring.hlt
 have htlt : tl < d.places := htl ▸ Nat.mod_lt _ (by omega)
 have hgb : g ≠ b := H.row.ne_ H.blk (by decide)
 have Bb_0 : Blk w0 b 104 #[(.float .f64 (fn d.tgt)), (.int .u64 d.seq), (.slice (some ⟨g, 0, none⟩) d.places d.places), (.string ⟨#[]⟩), (.bool d.ifr), (.bool d.clo), (.int .u64 0), (.int .u64 0), (.float .f64 0), (.bool false), (.bool false), (.int .i64 0), (.int .u64 d.written), (.int .u64 d.places), (.int .u64 hd), (.int .u64 tl), (.int .u64 d.segs.length), (.slice none 0 0), (.int .i64 0), (.int .i8 0), (.int .u8 d.ver), (pto kp), (pto mp)] := by
   have h := H.blk
   unfold plC at h
   rw [htl] at h
   exact h
 have Bg_0 := H.row
 refine calls_of_wp Tryd.func45 rfl ?_
 generalize hA : Act.mk _ _ = a0
 have F0 : Fz 22 a0 := by subst hA; exact ⟨by simp [Tryd.ntmps45], rfl⟩
 have h0_0 : a0.tmps.getD 0 undef = (.pointer (some ⟨b, 0, none⟩)) := by subst hA; exact fr_arg rfl
 have h1_0 : a0.tmps.getD 1 undef = (.string s) := by subst hA; exact fr_arg rfl
 have Kp0 := Kp.refl [b] w0
 have H_0 := H
 have Q_0 := grown_refl w0 none
 refine wp_sr ?_
 refine wl_pq F0 (ex_as (v := .nilIface) rfl) fun a1 u1 F1 h4_1 => ?_
 change Code.wp _ _ _ _ _
 refine wp_seq ?_
 refine wp_sr ?_
 refine wl_pq F1 (ex_mv (u1.w h0_0)) fun a2 u2 F2 h5_2 => ?_
 refine wl_pq F2 (ex_nil h5_2) fun a3 u3 F3 h6_3 => ?_
 refine wl_pq F3 (ex_fb 16 h6_3) fun a4 u4 F4 h7_4 => ?_
 refine wl_pq F4 (ex_le (v := (.int .u64 d.segs.length)) h7_4 (Bb_0.cell 16)) fun a5 u5 F5 h8_5 => ?_
 refine wl_pq F5 (ex_bin (vy := (.int .u64 0)) (v := (.bool true)) h8_5 rfl ((uo_eq d.segs.length 0 _).trans (by rw [decide_eq_true (by omega)]))) fun a6 u6 F6 h9_6 => ?_
 change Code.wp _ _ _ _ _
 refine wp_cond_true h9_6 ?_
 refine wp_sr ?_
 refine wl_cl (args := #[(.string { data := #[112, 108, 97, 121, 108, 105, 115, 116, 32, 105, 115, 32, 101, 109, 112, 116, 121] })]) (R := fun v w' => (∃ t p, v = .iface t p) ∧ w0.grownBy w' none) (ex_cl (fun _ _ => by kernel_rfl) (arg1 rfl)) ((errnew _ _).mono fun _ _ ⟨t, p, h, G⟩ => ⟨_, h, ⟨t, p, rfl⟩, G⟩) F6.l ?_
 rintro v w1 ⟨⟨et, ep, rfl⟩, G1⟩
 have Bg_1 := Bg_0.gn G1
 have Bb_1 := Bb_0.gn G1
 have Kp1 := Kp0.new G1
 have H_1 := H_0.gn G1
 have Q_1 := grown_trans Q_0 G1
 intro a7 u7 h10_7
 have F7 := F6.pt u7
 clear H_0 Q_0
 refine wl_pq F7 (ex_as h10_7) fun a8 u8 F8 h4_8 => ?_
 change Code.wp _ _ _ _ _
 refine wp_ret ?_
 try simp only [Exit.then, Exit.inBlock]
 exact bodyPost_ret (v := (.iface et ep)) ((results_tmp rfl _ _ _).trans (by rw [h4_8])) F8.defers ⟨_, _, rfl, ⟨g, hd, ms, kp, mp, arr, H_1⟩, (Kt.refl B DP w0).nw H.hw Q_1⟩
theorem sdisc_any {d : WinD} {k B b : Nat} {w0 : World} (hO : d.Ok k) (hk : k ≤ 900) (H : PlS w0 B b d) (h0 : 0 < d.segs.length) : Calls Tryd.prog 44 #[pt b] w0 fun e w' => e = .returned .nilIface ∧ PlS w' B b (d.upd fun L => { L with disc := true }) ∧ Kt B DP w0 w' := by
 obtain ⟨g, hd, ms, kp, mp, arr, H⟩ := H
 obtain ⟨tl, htl⟩ : ∃ tl, (hd + d.segs.length) % d.places = tl := ⟨_, rfl⟩
 have hp1 := hO.p1
 have hp12 := hO.p12
 have hroom := hO.room
 have hseq := hO.seq
 have hhd := H.ring.hlt
 have htlt : tl < d.places := htl ▸ Nat.mod_lt _ (by omega)
 have hgb : g ≠ b := H.row.ne_ H.blk (by decide)
 have Bb_0 : Blk w0 b 104 #[(.float .f64 (fn d.tgt)), (.int .u64 d.seq), (.slice (some ⟨g, 0, none⟩) d.places d.places), (.string ⟨#[]⟩), (.bool d.ifr), (.bool d.clo), (.int .u64 0), (.int .u64 0), (.float .f64 0), (.bool false), (.bool false), (.int .i64 0), (.int .u64 d.written), (.int .u64 d.places), (.int .u64 hd), (.int .u64 tl), (.int .u64 d.segs.length), (.slice none 0 0), (.int .i64 0), (.int .i8 0), (.int .u8 d.ver), (pto kp), (pto mp)] := by
   have h := H.blk
   unfold plC at h
   rw [htl] at h
   exact h
 have Bg_0 := H.row
 have hmsl := H.fms.1
 have hnl := H.fms.2.1
 obtain ⟨m, hm⟩ : ∃ m, ms[d.segs.length - 1]? = some m := ⟨_, List.getElem?_eq_getElem (by omega)⟩
 obtain ⟨L, hL⟩ : ∃ L, d.segs[d.segs.length - 1]? = some L := ⟨_, List.getElem?_eq_getElem (by omega)⟩
 obtain ⟨n, hn⟩ : ∃ n, d.nums[d.segs.length - 1]? = some n := ⟨_, List.getElem?_eq_getElem (by omega)⟩
 have hnk := hO.num n (List.mem_of_getElem? hn)
 obtain ⟨kp2, mp2, hBm, Bm_0, hk2, hm2⟩ := H.fms.2.2 _ L n m hL hn hm
 have Bm0 := Bm_0
 obtain ⟨j, hj⟩ : ∃ j, (if tl = 0 then d.places - 1 else tl - 1) = j := ⟨_, rfl⟩
 have harr : arr[j]? = some (pt m) := by
   have h := H.ring.last (m := m) (by omega) (by rw [hmsl]; exact hm)
   rw [hmsl, htl, hj] at h
   exact h
 have hjlt : j < d.places := by rw [← hj]; split <;> omega
 have hmb : m ≠ b := Bm_0.ne_ H.blk (by decide)
 have hgm : g ≠ m := H.row.ne_ Bm_0 (by decide)
 have hDk : ∀ x, x ∈ [b, m] → ∃ T c, Blk w0 x T c ∧ T ≠ 113 := fun x hx => by
   simp only [List.mem_cons, List.not_mem_nil, or_false] at hx
   rcases hx with rfl | rfl
   · exact ⟨_, _, H.blk, by decide⟩
   · exact ⟨_, _, Bm0, by decide⟩
 have hDm : ∀ x, x ∈ [b, m] → ∃ T c, Blk w0 x T c ∧ T ≠ 115 := fun x hx => by
   simp only [List.mem_cons, List.not_mem_nil, or_false] at hx
   rcases hx with rfl | rfl
   · exact ⟨_, _, H.blk, by decide⟩
   · exact ⟨_, _, Bm0, by decide⟩
 refine calls_of_wp Tryd.func44 rfl ?_
 generalize hA : Act.mk _ _ = a0
 have F0 : Fz 19 a0 := by subst hA; exact ⟨by simp [Tryd.ntmps44], rfl⟩
 have h0_0 : a0.tmps.getD 0 undef = (.pointer (some ⟨b, 0, none⟩)) := by subst hA; exact fr_arg rfl
 have Kp0 := Kp.refl [b, m] w0
 refine wp_sr ?_
 refine wl_pq F0 (ex_as (v := .nilIface) rfl) fun a1 u1 F1 h2_1 => ?_
 change Code.wp _ _ _ _ _
 refine wp_seq ?_
 refine wp_sr ?_
 refine wl_pq F1 (ex_mv (u1.w h0_0)) fun a2 u2 F2 h3_2 => ?_
 refine wl_pq F2 (ex_nil h3_2) fun a3 u3 F3 h4_3 => ?_
 refine wl_pq F3 (ex_fb 16 h4_3) fun a4 u4 F4 h5_4 => ?_
 refine wl_pq F4 (ex_le (v := (.int .u64 d.segs.length)) h5_4 (Bb_0.cell 16)) fun a5 u5 F5 h6_5 => ?_
 refine wl_pq F5 (ex_bin (vy := (.int .u64 0)) (v := (.bool false)) h6_5 rfl ((uo_eq d.segs.length 0 _).trans (by rw [decide_eq_false (by omega)]))) fun a6 u6 F6 h7_6 => ?_
 change Code.wp _ _ _ _ _
 refine wp_cond_false h7_6 ?_
 refine wp_skip ?_
 change Code.wp _ _ _ _ _
 refine wp_seq ?_
 obtain ⟨w1, hw1⟩ : ∃ w, w = w0.drew := ⟨_, rfl⟩
 have G1 : w0.grownBy w1 none := hw1 ▸ grown_drew _
 have Bg_1 := Bg_0.gn G1
 have Bb_1 := Bb_0.gn G1
 have Bm_1 := Bm_0.gn G1
 have Kp1 := Kp0.new G1
 refine rg_tree (S := fun w' => Blk w' b 104 #[(.float .f64 (fn d.tgt)), (.int .u64 d.seq), (.slice (some ⟨g, 0, none⟩) d.places d.places), (.string ⟨#[]⟩), (.bool d.ifr), (.bool d.clo), (.int .u64 0), (.int .u64 0), (.float .f64 0), (.bool false), (.bool false), (.int .i64 0), (.int .u64 d.written), (.int .u64 d.places), (.int .u64 hd), (.int .u64 tl), (.int .u64 d.segs.length), (.slice none 0 0), (.int .i64 0), (.int .i8 0), (.int .u8 d.ver), (pto kp), (pto mp)] ∧ Blk w' g 90 arr) [] 11 hw1 ⟨rfl, by decide⟩ hmix (by kernel_rfl) (by kernel_rfl) (⟨Bb_1, Bg_1⟩) ?_
 have h0_6 := u6.w (u5.w (u4.w (u3.w (u2.w (u1.w h0_0)))))
 refine tree_take (j := 0) rfl (by kernel_rfl) (by kernel_rfl) (by kernel_rfl) (fun w hw => ex_mv h0_6) (⟨Bb_1, Bg_1⟩) F6.l fun a7 u7 h9_7 => ?_
 have F7 := F6.pt u7
 refine tree_take (j := 1) rfl (by kernel_rfl) (by kernel_rfl) (by kernel_rfl) (fun w hw => ex_nil h9_7) (⟨Bb_1, Bg_1⟩) F7.l fun a8 u8 h10_8 => ?_
 have F8 := F7.pt u8
 refine tree_take (j := 2) rfl (by kernel_rfl) (by kernel_rfl) (by kernel_rfl) (fun w hw => ex_fb 2 h10_8) (⟨Bb_1, Bg_1⟩) F8.l fun a9 u9 h11_9 => ?_
 have F9 := F8.pt u9
 refine tree_take (j := 3) rfl (by kernel_rfl) (by kernel_rfl) (by kernel_rfl) (fun w hw => ex_le (v := (.slice (some ⟨g, 0, none⟩) d.places d.places)) h11_9 (hw.1.cell 2)) (⟨Bb_1, Bg_1⟩) F9.l fun a10 u10 h12_10 => ?_
 have F10 := F9.pt u10
 have h0_10 := u10.w (u9.w (u8.w (u7.w h0_6)))
 refine tree_take (j := 4) rfl (by kernel_rfl) (by kernel_rfl) (by kernel_rfl) (fun w hw => ex_mv h0_10) (⟨Bb_1, Bg_1⟩) F10.l fun a11 u11 h13_11 => ?_
 have F11 := F10.pt u11
 refine tree1 (j := 5) (by kernel_rfl) ?_
 refine tk_cl (args := #[(.pointer (some ⟨b, 0, none⟩))]) (R := fun v w' => v = (.int .u64 j) ∧ w1 = w') rfl (ex_cl (fun _ _ => by kernel_rfl) (arg1 h13_11)) ((last_raw (by omega) (by omega) htlt Bb_1).mono fun _ _ h => ⟨_, h.1, by rw [hj], h.2⟩) F11.l ?_
 rintro v w' ⟨rfl, rfl⟩
 refine ⟨⟨Bb_1, Bg_1⟩, ?_⟩
 intro a12 u12 h14_12
 have F12 := F11.pt u12
 refine tree_take (j := 6) rfl (by kernel_rfl) (by kernel_rfl) (by kernel_rfl) (fun w hw => ex_ixg (vx := (.slice (some ⟨g, 0, none⟩) d.places d.places)) (vy := (.int .u64 j)) (v := (.pointer (some ⟨g, j, none⟩))) (u12.w (u11.w h12_10)) h14_12 (ix_pm g d.places j (by omega) _)) (⟨Bb_1, Bg_1⟩) F12.l fun a13 u13 h15_13 => ?_
 have F13 := F12.pt u13
 refine tree_take (j := 7) rfl (by kernel_rfl) (by kernel_rfl) (by kernel_rfl) (fun w hw => ex_le (v := pt m) h15_13 ((hw.2.cell j).trans harr)) (⟨Bb_1, Bg_1⟩) F13.l fun a14 u14 (h16_14 : a14.tmps.getD 16 undef = (.pointer (some ⟨m, 0, none⟩))) => ?_
 have F14 := F13.pt u14
 refine tree_take (j := 8) rfl (by kernel_rfl) (by kernel_rfl) (by kernel_rfl) (fun w hw => ex_nil h16_14) (⟨Bb_1, Bg_1⟩) F14.l fun a15 u15 h17_15 => ?_
 have F15 := F14.pt u15
 refine tree_take (j := 9) rfl (by kernel_rfl) (by kernel_rfl) (by kernel_rfl) (fun w hw => ex_fb 8 h17_15) (⟨Bb_1, Bg_1⟩) F15.l fun a16 u16 h18_16 => ?_
 have F16 := F15.pt u16
 refine tree1 (j := 10) (by kernel_rfl) ?_
 obtain ⟨w2, hr2, Bm_2, G2⟩ := st_run (T := 4) (o := 8) (v := (.bool true)) (cs' := #[(.int .u64 n), (.string L.title), (.string L.uri), (.float .f64 (fb L.e)), (.int .i64 L.li), (.int .i64 L.off), (pto kp2), (pto mp2), (.bool true), (.pointer none), (.string L.date)]) (fun _ => by kernel_rfl) Bm_1 rfl (Nat.le_of_ble_eq_true rfl) rfl
 have Bg_2 := Bg_1.gk G2 hgm
 have Bb_2 := Bb_1.gk G2 (Ne.symm hmb)
 have Kp2 := Kp1.set G2 (Or.inl (by simp))
 refine tk_n rfl (ex_st h18_16 rfl hr2) (⟨Bb_2, Bg_2⟩) ?_
 refine tree0 (by kernel_rfl) ?_
 change Code.wp _ _ _ _ _
 refine wp_sr ?_
 refine wl_pq F16 (ex_as (v := .nilIface) rfl) fun a17 u17 F17 h2_17 => ?_
 change Code.wp _ _ _ _ _
 refine wp_ret ?_
 obtain ⟨hS, hK⟩ := H.chgm (d' := d.upd fun L => { L with disc := true }) (L' := { L with disc := true }) (kp2 := kp2) (mp2 := mp2) Kp2 hm hn Bm0 hBm (by have h := Bb_2; rw [← htl] at h; unfold plC; simp only [WinD.upd_some hL, WinD.least, List.length_set]; exact h) Bm_2 (hk2.kpn Kp2 hDk) (hm2.kpn Kp2 hDm) (by simp only [WinD.upd_some hL, WinD.least]) (by simp only [WinD.upd_some hL, WinD.least]) (by simp only [WinD.upd_some hL, WinD.least]) (by simp only [WinD.upd_some hL, WinD.least]) (by simp only [WinD.upd_some hL, WinD.least])
 try simp only [Exit.then, Exit.inBlock]
 exact bodyPost_ret (v := .nilIface) ((results_tmp rfl _ _ _).trans (by rw [h2_17])) F17.defers ⟨rfl, hS, hK⟩
theorem sdate_any {d : WinD} {k B b : Nat} {w0 : World} (hO : d.Ok k) (hk : k ≤ 900) (H : PlS w0 B b d) {s : ByteArray} (h0 : 0 < d.segs.length) : Calls Tryd.prog 45 #[pt b, .string s] w0 fun e w' => e = .returned .nilIface ∧ PlS w' B b (d.upd fun L => { L with date := s }) ∧ Kt B DP w0 w' := by
 obtain ⟨g, hd, ms, kp, mp, arr, H⟩ := H
 obtain ⟨tl, htl⟩ : ∃ tl, (hd + d.segs.length) % d.places = tl := ⟨_, rfl⟩
 have hp1 := hO.p1
 have hp12 := hO.p12
 have hroom := hO.room
 have hseq := hO.seq
 have hhd := H.ring.hlt
 have htlt : tl < d.places := htl ▸ Nat.mod_lt _ (by omega)
 have hgb : g ≠ b := H.row.ne_ H.blk (by decide)
 have Bb_0 : Blk w0 b 104 #[(.float .f64 (fn d.tgt)), (.int .u64 d.seq), (.slice (some ⟨g, 0, none⟩) d.places d.places), (.string ⟨#[]⟩), (.bool d.ifr), (.bool d.clo), (.int .u64 0), (.int .u64 0), (.float .f64 0), (.bool false), (.bool false), (.int .i64 0), (.int .u64 d.written), (.int .u64 d.places), (.int .u64 hd), (.int .u64 tl), (.int .u64 d.segs.length), (.slice none 0 0), (.int .i64 0), (.int .i8 0), (.int .u8 d.ver), (pto kp), (pto mp)] := by
   have h := H.blk
   unfold plC at h
   rw [htl] at h
   exact h
 have Bg_0 := H.row
 have hmsl := H.fms.1
 have hnl := H.fms.2.1
 obtain ⟨m, hm⟩ : ∃ m, ms[d.segs.length - 1]? = some m := ⟨_, List.getElem?_eq_getElem (by omega)⟩
 obtain ⟨L, hL⟩ : ∃ L, d.segs[d.segs.length - 1]? = some L := ⟨_, List.getElem?_eq_getElem (by omega)⟩
 obtain ⟨n, hn⟩ : ∃ n, d.nums[d.segs.length - 1]? = some n := ⟨_, List.getElem?_eq_getElem (by omega)⟩
 have hnk := hO.num n (List.mem_of_getElem? hn)
 obtain ⟨kp2, mp2, hBm, Bm_0, hk2, hm2⟩ := H.fms.2.2 _ L n m hL hn hm
 have Bm0 := Bm_0
 obtain ⟨j, hj⟩ : ∃ j, (if tl = 0 then d.places - 1 else tl - 1) = j := ⟨_, rfl⟩
 have harr : arr[j]? = some (pt m) := by
   have h := H.ring.last (m := m) (by omega) (by rw [hmsl]; exact hm)
   rw [hmsl, htl, hj] at h
   exact h
 have hjlt : j < d.places := by rw [← hj]; split <;> omega
 have hmb : m ≠ b := Bm_0.ne_ H.blk (by decide)
 have hgm : g ≠ m := H.row.ne_ Bm_0 (by decide)
 have hDk : ∀ x, x ∈ [b, m] → ∃ T c, Blk w0 x T c ∧ T ≠ 113 := fun x hx => by
   simp only [List.mem_cons, List.not_mem_nil, or_false] at hx
   rcases hx with rfl | rfl
   · exact ⟨_, _, H.blk, by decide⟩
   · exact ⟨_, _, Bm0, by decide⟩
 have hDm : ∀ x, x ∈ [b, m] → ∃ T c, Blk w0 x T c ∧ T ≠ 115 := fun x hx => by
   simp only [List.mem_cons, List.not_mem_nil, or_false] at hx
   rcases hx with rfl | rfl
   · exact ⟨_, _, H.blk, by decide⟩
   · exact ⟨_, _, Bm0, by decide⟩
 refine calls_of_wp Tryd.func45 rfl ?_
 generalize hA : Act.mk _ _ = a0
 have F0 : Fz 22 a0 := by subst hA; exact ⟨by simp [Tryd.ntmps45], rfl⟩
 have h0_0 : a0.tmps.getD 0 undef = (.pointer (some ⟨b, 0, none⟩)) := by subst hA; exact fr_arg rfl
 have h1_0 : a0.tmps.getD 1 undef = (.string s) := by subst hA; exact fr_arg rfl
 have Kp0 := Kp.refl [b, m] w0
 refine wp_sr ?_
 refine wl_pq F0 (ex_as (v := .nilIface) rfl) fun a1 u1 F1 h4_1 => ?_
 change Code.wp _ _ _ _ _
 refine wp_seq ?_
 refine wp_sr ?_
 refine wl_pq F1 (ex_mv (u1.w h0_0)) fun a2 u2 F2 h5_2 => ?_
 refine wl_pq F2 (ex_nil h5_2) fun a3 u3 F3 h6_3 => ?_
 refine wl_pq F3 (ex_fb 16 h6_3) fun a4 u4 F4 h7_4 => ?_
 refine wl_pq F4 (ex_le (v := (.int .u64 d.segs.length)) h7_4 (Bb_0.cell 16)) fun a5 u5 F5 h8_5 => ?_
 refine wl_pq F5 (ex_bin (vy := (.int .u64 0)) (v := (.bool false)) h8_5 rfl ((uo_eq d.segs.length 0 _).trans (by rw [decide_eq_false (by omega)]))) fun a6 u6 F6 h9_6 => ?_
 change Code.wp _ _ _ _ _
 refine wp_cond_false h9_6 ?_
 refine wp_skip ?_
 change Code.wp _ _ _ _ _
 refine wp_seq ?_
 obtain ⟨w1, hw1⟩ : ∃ w, w = w0.drew := ⟨_, rfl⟩
 have G1 : w0.grownBy w1 none := hw1 ▸ grown_drew _
 have Bg_1 := Bg_0.gn G1
 have Bb_1 := Bb_0.gn G1
 have Bm_1 := Bm_0.gn G1
 have Kp1 := Kp0.new G1
 refine rg_tree (S := fun w' => Blk w' b 104 #[(.float .f64 (fn d.tgt)), (.int .u64 d.seq), (.slice (some ⟨g, 0, none⟩) d.places d.places), (.string ⟨#[]⟩), (.bool d.ifr), (.bool d.clo), (.int .u64 0), (.int .u64 0), (.float .f64 0), (.bool false), (.bool false), (.int .i64 0), (.int .u64 d.written), (.int .u64 d.places), (.int .u64 hd), (.int .u64 tl), (.int .u64 d.segs.length), (.slice none 0 0), (.int .i64 0), (.int .i8 0), (.int .u8 d.ver), (pto kp), (pto mp)] ∧ Blk w' g 90 arr) [] 12 hw1 ⟨rfl, by decide⟩ hmix (by kernel_rfl) (by kernel_rfl) (⟨Bb_1, Bg_1⟩) ?_
 have h0_6 := u6.w (u5.w (u4.w (u3.w (u2.w (u1.w h0_0)))))
 refine tree_take (j := 0) rfl (by kernel_rfl) (by kernel_rfl) (by kernel_rfl) (fun w hw => ex_mv h0_6) (⟨Bb_1, Bg_1⟩) F6.l fun a7 u7 h11_7 => ?_
 have F7 := F6.pt u7
 refine tree_take (j := 1) rfl (by kernel_rfl) (by kernel_rfl) (by kernel_rfl) (fun w hw => ex_nil h11_7) (⟨Bb_1, Bg_1⟩) F7.l fun a8 u8 h12_8 => ?_
 have F8 := F7.pt u8
 refine tree_take (j := 2) rfl (by kernel_rfl) (by kernel_rfl) (by kernel_rfl) (fun w hw => ex_fb 2 h12_8) (⟨Bb_1, Bg_1⟩) F8.l fun a9 u9 h13_9 => ?_
 have F9 := F8.pt u9
 refine tree_take (j := 3) rfl (by kernel_rfl) (by kernel_rfl) (by kernel_rfl) (fun w hw => ex_le (v := (.slice (some ⟨g, 0, none⟩) d.places d.places)) h13_9 (hw.1.cell 2)) (⟨Bb_1, Bg_1⟩) F9.l fun a10 u10 h14_10 => ?_
 have F10 := F9.pt u10
 have h0_10 := u10.w (u9.w (u8.w (u7.w h0_6)))
 refine tree_take (j := 4) rfl (by kernel_rfl) (by kernel_rfl) (by kernel_rfl) (fun w hw => ex_mv h0_10) (⟨Bb_1, Bg_1⟩) F10.l fun a11 u11 h15_11 => ?_
 have F11 := F10.pt u11
 have h1_11 := u11.w (u10.w (u9.w (u8.w (u7.w (u6.w (u5.w (u4.w (u3.w (u2.w (u1.w h1_0))))))))))
 refine tree_take (j := 8) rfl (by kernel_rfl) (by kernel_rfl) (by kernel_rfl) (fun w hw => ex_mv h1_11) (⟨Bb_1, Bg_1⟩) F11.l fun a12 u12 h19_12 => ?_
 have F12 := F11.pt u12
 refine tree1 (j := 5) (by kernel_rfl) ?_
 refine tk_cl (args := #[(.pointer (some ⟨b, 0, none⟩))]) (R := fun v w' => v = (.int .u64 j) ∧ w1 = w') rfl (ex_cl (fun _ _ => by kernel_rfl) (arg1 (u12.w h15_11))) ((last_raw (by omega) (by omega) htlt Bb_1).mono fun _ _ h => ⟨_, h.1, by rw [hj], h.2⟩) F12.l ?_
 rintro v w' ⟨rfl, rfl⟩
 refine ⟨⟨Bb_1, Bg_1⟩, ?_⟩
 intro a13 u13 h16_13
 have F13 := F12.pt u13
 have h14_13 := u13.w (u12.w (u11.w h14_10))
 refine tree_take (j := 6) rfl (by kernel_rfl) (by kernel_rfl) (by kernel_rfl) (fun w hw => ex_ixg (vx := (.slice (some ⟨g, 0, none⟩) d.places d.places)) (vy := (.int .u64 j)) (v := (.pointer (some ⟨g, j, none⟩))) h14_13 h16_13 (ix_pm g d.places j (by omega) _)) (⟨Bb_1, Bg_1⟩) F13.l fun a14 u14 h17_14 => ?_
 have F14 := F13.pt u14
 refine tree_take (j := 7) rfl (by kernel_rfl) (by kernel_rfl) (by kernel_rfl) (fun w hw => ex_le (v := pt m) h17_14 ((hw.2.cell j).trans harr)) (⟨Bb_1, Bg_1⟩) F14.l fun a15 u15 (h18_15 : a15.tmps.getD 18 undef = (.pointer (some ⟨m, 0, none⟩))) => ?_
 have F15 := F14.pt u15
 refine tree_take (j := 9) rfl (by kernel_rfl) (by kernel_rfl) (by kernel_rfl) (fun w hw => ex_nil h18_15) (⟨Bb_1, Bg_1⟩) F15.l fun a16 u16 h20_16 => ?_
 have F16 := F15.pt u16
 refine tree_take (j := 10) rfl (by kernel_rfl) (by kernel_rfl) (by kernel_rfl) (fun w hw => ex_fb 10 h20_16) (⟨Bb_1, Bg_1⟩) F16.l fun a17 u17 h21_17 => ?_
 have F17 := F16.pt u17
 refine tree1 (j := 11) (by kernel_rfl) ?_
 obtain ⟨w2, hr2, Bm_2, G2⟩ := st_run (T := 9) (o := 10) (v := (.string s)) (cs' := #[(.int .u64 n), (.string L.title), (.string L.uri), (.float .f64 (fb L.e)), (.int .i64 L.li), (.int .i64 L.off), (pto kp2), (pto mp2), (.bool L.disc), (.pointer none), (.string s)]) (fun _ => by kernel_rfl) Bm_1 rfl (Nat.le_of_ble_eq_true rfl) rfl
 have Bg_2 := Bg_1.gk G2 hgm
 have Bb_2 := Bb_1.gk G2 (Ne.symm hmb)
 have Kp2 := Kp1.set G2 (Or.inl (by simp))
 have h19_17 := u17.w (u16.w (u15.w (u14.w (u13.w h19_12))))
 refine tk_n rfl (ex_st h21_17 h19_17 hr2) (⟨Bb_2, Bg_2⟩) ?_
 refine tree0 (by kernel_rfl) ?_
 change Code.wp _ _ _ _ _
 refine wp_sr ?_
 refine wl_pq F17 (ex_as (v := .nilIface) rfl) fun a18 u18 F18 h4_18 => ?_
 change Code.wp _ _ _ _ _
 refine wp_ret ?_
 obtain ⟨hS, hK⟩ := H.chgm (d' := d.upd fun L => { L with date := s }) (L' := { L with date := s }) (kp2 := kp2) (mp2 := mp2) Kp2 hm hn Bm0 hBm (by have h := Bb_2; rw [← htl] at h; unfold plC; simp only [WinD.upd_some hL, WinD.least, List.length_set]; exact h) Bm_2 (hk2.kpn Kp2 hDk) (hm2.kpn Kp2 hDm) (by simp only [WinD.upd_some hL, WinD.least]) (by simp only [WinD.upd_some hL, WinD.least]) (by simp only [WinD.upd_some hL, WinD.least]) (by simp only [WinD.upd_some hL, WinD.least]) (by simp only [WinD.upd_some hL, WinD.least])
 try simp only [Exit.then, Exit.inBlock]
 exact bodyPost_ret (v := .nilIface) ((results_tmp rfl _ _ _).trans (by rw [h4_18])) F18.defers ⟨rfl, hS, hK⟩
theorem srange_any {d : WinD} {k B b : Nat} {w0 : World} (hO : d.Ok k) (hk : k ≤ 900) (H : PlS w0 B b d) {li off : Nat} (h0 : 0 < d.segs.length) : Calls Tryd.prog 42 #[pt b, .int .i64 li, .int .i64 off] w0 fun e w' => e = .returned .nilIface ∧ PlS w' B b ((d.upd fun L => { L with li := li, off := off }).least 4) ∧ Kt B DP w0 w' := by
 obtain ⟨g, hd, ms, kp, mp, arr, H⟩ := H
 obtain ⟨tl, htl⟩ : ∃ tl, (hd + d.segs.length) % d.places = tl := ⟨_, rfl⟩
 have hp1 := hO.p1
 have hp12 := hO.p12
 have hroom := hO.room
 have hseq := hO.seq
 have hhd := H.ring.hlt
 have htlt : tl < d.places := htl ▸ Nat.mod_lt _ (by omega)
 have hgb : g ≠ b := H.row.ne_ H.blk (by decide)
 have Bb_0 : Blk w0 b 104 #[(.float .f64 (fn d.tgt)), (.int .u64 d.seq), (.slice (some ⟨g, 0, none⟩) d.places d.places), (.string ⟨#[]⟩), (.bool d.ifr), (.bool d.clo), (.int .u64 0), (.int .u64 0), (.float .f64 0), (.bool false), (.bool false), (.int .i64 0), (.int .u64 d.written), (.int .u64 d.places), (.int .u64 hd), (.int .u64 tl), (.int .u64 d.segs.length), (.slice none 0 0), (.int .i64 0), (.int .i8 0), (.int .u8 d.ver), (pto kp), (pto mp)] := by
   have h := H.blk
   unfold plC at h
   rw [htl] at h
   exact h
 have Bg_0 := H.row
 have hmsl := H.fms.1
 have hnl := H.fms.2.1
 obtain ⟨m, hm⟩ : ∃ m, ms[d.segs.length - 1]? = some m := ⟨_, List.getElem?_eq_getElem (by omega)⟩
 obtain ⟨L, hL⟩ : ∃ L, d.segs[d.segs.length - 1]? = some L := ⟨_, List.getElem?_eq_getElem (by omega)⟩
 obtain ⟨n, hn⟩ : ∃ n, d.nums[d.segs.length - 1]? = some n := ⟨_, List.getElem?_eq_getElem (by omega)⟩
 have hnk := hO.num n (List.mem_of_getElem? hn)
 obtain ⟨kp2, mp2, hBm, Bm_0, hk2, hm2⟩ := H.fms.2.2 _ L n m hL hn hm
 have Bm0 := Bm_0
 obtain ⟨j, hj⟩ : ∃ j, (if tl = 0 then d.places - 1 else tl - 1) = j := ⟨_, rfl⟩
 have harr : arr[j]? = some (pt m) := by
   have h := H.ring.last (m := m) (by omega) (by rw [hmsl]; exact hm)
   rw [hmsl, htl, hj] at h
   exact h
 have hjlt : j < d.places := by rw [← hj]; split <;> omega
 have hmb : m ≠ b := Bm_0.ne_ H.blk (by decide)
 have hgm : g ≠ m := H.row.ne_ Bm_0 (by decide)
 have hDk : ∀ x, x ∈ [b, m] → ∃ T c, Blk w0 x T c ∧ T ≠ 113 := fun x hx => by
   simp only [List.mem_cons, List.not_mem_nil, or_false] at hx
   rcases hx with rfl | rfl
   · exact ⟨_, _, H.blk, by decide⟩
   · exact ⟨_, _, Bm0, by decide⟩
 have hDm : ∀ x, x ∈ [b, m] → ∃ T c, Blk w0 x T c ∧ T ≠ 115 := fun x hx => by
   simp only [List.mem_cons, List.not_mem_nil, or_false] at hx
   rcases hx with rfl | rfl
   · exact ⟨_, _, H.blk, by decide⟩
   · exact ⟨_, _, Bm0, by decide⟩
 refine calls_of_wp Tryd.func42 rfl ?_
 generalize hA : Act.mk _ _ = a0
 have F0 : Fz 39 a0 := by subst hA; exact ⟨by simp [Tryd.ntmps42], rfl⟩
 have h0_0 : a0.tmps.getD 0 undef = (.pointer (some ⟨b, 0, none⟩)) := by subst hA; exact fr_arg rfl
 have h1_0 : a0.tmps.getD 1 undef = (.int .i64 li) := by subst hA; exact fr_arg rfl
 have h2_0 : a0.tmps.getD 2 undef = (.int .i64 off) := by subst hA; exact fr_arg rfl
 have Kp0 := Kp.refl [b, m] w0
 refine wp_sr ?_
 refine wl_pq F0 (ex_as (v := .nilIface) rfl) fun a1 u1 F1 h6_1 => ?_
 change Code.wp _ _ _ _ _
 refine wp_seq ?_
 refine wp_sr ?_
 refine wl_pq F1 (ex_mv (u1.w h0_0)) fun a2 u2 F2 h7_2 => ?_
 refine wl_pq F2 (ex_nil h7_2) fun a3 u3 F3 h8_3 => ?_
 refine wl_pq F3 (ex_fb 16 h8_3) fun a4 u4 F4 h9_4 => ?_
 refine wl_pq F4 (ex_le (v := (.int .u64 d.segs.length)) h9_4 (Bb_0.cell 16)) fun a5 u5 F5 h10_5 => ?_
 refine wl_pq F5 (ex_bin (vy := (.int .u64 0)) (v := (.bool false)) h10_5 rfl ((uo_eq d.segs.length 0 _).trans (by rw [decide_eq_false (by omega)]))) fun a6 u6 F6 h11_6 => ?_
 change Code.wp _ _ _ _ _
 refine wp_cond_false h11_6 ?_
 refine wp_skip ?_
 change Code.wp _ _ _ _ _
 refine wp_sr ?_
 have h0_6 := u6.w (u5.w (u4.w (u3.w (u2.w (u1.w h0_0)))))
 refine wl_pq F6 (ex_mv h0_6) fun a7 u7 F7 h13_7 => ?_
 refine wl_pq F7 (ex_nil h13_7) fun a8 u8 F8 h14_8 => ?_
 refine wl_pq F8 (ex_fb 20 h14_8) fun a9 u9 F9 h15_9 => ?_
 refine wl_cl (args := #[(.pointer (some ⟨b, 20, none⟩)), (.int .u8 4)]) (R := fun v w' => v = .tuple #[] ∧ Blk w' b 104 #[(.float .f64 (fn d.tgt)), (.int .u64 d.seq), (.slice (some ⟨g, 0, none⟩) d.places d.places), (.string ⟨#[]⟩), (.bool d.ifr), (.bool d.clo), (.int .u64 0), (.int .u64 0), (.float .f64 0), (.bool false), (.bool false), (.int .i64 0), (.int .u64 d.written), (.int .u64 d.places), (.int .u64 hd), (.int .u64 tl), (.int .u64 d.segs.length), (.slice none 0 0), (.int .i64 0), (.int .i8 0), (.int .u8 (max d.ver 4 : Nat)), (pto kp), (pto mp)] ∧ w0.grownBy w' (some b)) (ex_cl (fun _ _ => by kernel_rfl) (arg2 h15_9 rfl)) ((ver_raw (n := 4) Bb_0).mono fun _ _ h => ⟨_, h.1, rfl, h.2⟩) F9.l ?_
 rintro v w1 ⟨rfl, Bb_1, G1⟩
 have Bg_1 := Bg_0.gk G1 hgb
 have Bm_1 := Bm_0.gk G1 hmb
 have Kp1 := Kp0.set G1 (Or.inl (by simp))
 intro a10 u10 h16_10
 have F10 := F9.pt u10
 change Code.wp _ _ _ _ _
 refine wp_seq ?_
 obtain ⟨w2, hw2⟩ : ∃ w, w = w1.drew := ⟨_, rfl⟩
 have G2 : w1.grownBy w2 none := hw2 ▸ grown_drew _
 have Bg_2 := Bg_1.gn G2
 have Bb_2 := Bb_1.gn G2
 have Bm_2 := Bm_1.gn G2
 have Kp2 := Kp1.new G2
 refine rg_tree (S := fun w' => Blk w' b 104 #[(.float .f64 (fn d.tgt)), (.int .u64 d.seq), (.slice (some ⟨g, 0, none⟩) d.places d.places), (.string ⟨#[]⟩), (.bool d.ifr), (.bool d.clo), (.int .u64 0), (.int .u64 0), (.float .f64 0), (.bool false), (.bool false), (.int .i64 0), (.int .u64 d.written), (.int .u64 d.places), (.int .u64 hd), (.int .u64 tl), (.int .u64 d.segs.length), (.slice none 0 0), (.int .i64 0), (.int .i8 0), (.int .u8 (max d.ver 4 : Nat)), (pto kp), (pto mp)] ∧ Blk w' g 90 arr) [] 12 hw2 ⟨rfl, by decide⟩ hmix (by kernel_rfl) (by kernel_rfl) (⟨Bb_2, Bg_2⟩) ?_
 have h0_10 := u10.w (u9.w (u8.w (u7.w h0_6)))
 refine tree_take (j := 0) rfl (by kernel_rfl) (by kernel_rfl) (by kernel_rfl) (fun w hw => ex_mv h0_10) (⟨Bb_2, Bg_2⟩) F10.l fun a11 u11 h17_11 => ?_
 have F11 := F10.pt u11
 refine tree_take (j := 1) rfl (by kernel_rfl) (by kernel_rfl) (by kernel_rfl) (fun w hw => ex_nil h17_11) (⟨Bb_2, Bg_2⟩) F11.l fun a12 u12 h18_12 => ?_
 have F12 := F11.pt u12
 refine tree_take (j := 2) rfl (by kernel_rfl) (by kernel_rfl) (by kernel_rfl) (fun w hw => ex_fb 2 h18_12) (⟨Bb_2, Bg_2⟩) F12.l fun a13 u13 h19_13 => ?_
 have F13 := F12.pt u13
 refine tree_take (j := 3) rfl (by kernel_rfl) (by kernel_rfl) (by kernel_rfl) (fun w hw => ex_le (v := (.slice (some ⟨g, 0, none⟩) d.places d.places)) h19_13 (hw.1.cell 2)) (⟨Bb_2, Bg_2⟩) F13.l fun a14 u14 h20_14 => ?_
 have F14 := F13.pt u14
 have h0_14 := u14.w (u13.w (u12.w (u11.w h0_10)))
 refine tree_take (j := 4) rfl (by kernel_rfl) (by kernel_rfl) (by kernel_rfl) (fun w hw => ex_mv h0_14) (⟨Bb_2, Bg_2⟩) F14.l fun a15 u15 h21_15 => ?_
 have F15 := F14.pt u15
 have h1_15 := u15.w (u14.w (u13.w (u12.w (u11.w (u10.w (u9.w (u8.w (u7.w (u6.w (u5.w (u4.w (u3.w (u2.w (u1.w h1_0))))))))))))))
 refine tree_take (j := 8) rfl (by kernel_rfl) (by kernel_rfl) (by kernel_rfl) (fun w hw => ex_mv h1_15) (⟨Bb_2, Bg_2⟩) F15.l fun a16 u16 h25_16 => ?_
 have F16 := F15.pt u16
 refine tree1 (j := 5) (by kernel_rfl) ?_
 refine tk_cl (args := #[(.pointer (some ⟨b, 0, none⟩))]) (R := fun v w' => v = (.int .u64 j) ∧ w2 = w') rfl (ex_cl (fun _ _ => by kernel_rfl) (arg1 (u16.w h21_15))) ((last_raw (by omega) (by omega) htlt Bb_2).mono fun _ _ h => ⟨_, h.1, by rw [hj], h.2⟩) F16.l ?_
 rintro v w' ⟨rfl, rfl⟩
 refine ⟨⟨Bb_2, Bg_2⟩, ?_⟩
 intro a17 u17 h22_17
 have F17 := F16.pt u17
 have h20_17 := u17.w (u16.w (u15.w h20_14))
 refine tree_take (j := 6) rfl (by kernel_rfl) (by kernel_rfl) (by kernel_rfl) (fun w hw => ex_ixg (vx := (.slice (some ⟨g, 0, none⟩) d.places d.places)) (vy := (.int .u64 j)) (v := (.pointer (some ⟨g, j, none⟩))) h20_17 h22_17 (ix_pm g d.places j (by omega) _)) (⟨Bb_2, Bg_2⟩) F17.l fun a18 u18 h23_18 => ?_
 have F18 := F17.pt u18
 refine tree_take (j := 7) rfl (by kernel_rfl) (by kernel_rfl) (by kernel_rfl) (fun w hw => ex_le (v := pt m) h23_18 ((hw.2.cell j).trans harr)) (⟨Bb_2, Bg_2⟩) F18.l fun a19 u19 (h24_19 : a19.tmps.getD 24 undef = (.pointer (some ⟨m, 0, none⟩))) => ?_
 have F19 := F18.pt u19
 refine tree_take (j := 9) rfl (by kernel_rfl) (by kernel_rfl) (by kernel_rfl) (fun w hw => ex_nil h24_19) (⟨Bb_2, Bg_2⟩) F19.l fun a20 u20 h26_20 => ?_
 have F20 := F19.pt u20
 refine tree_take (j := 10) rfl (by kernel_rfl) (by kernel_rfl) (by kernel_rfl) (fun w hw => ex_fb 4 h26_20) (⟨Bb_2, Bg_2⟩) F20.l fun a21 u21 h27_21 => ?_
 have F21 := F20.pt u21
 refine tree1 (j := 11) (by kernel_rfl) ?_
 obtain ⟨w3, hr3, Bm_3, G3⟩ := st_run (T := 2) (o := 4) (v := (.int .i64 li)) (cs' := #[(.int .u64 n), (.string L.title), (.string L.uri), (.float .f64 (fb L.e)), (.int .i64 li), (.int .i64 L.off), (pto kp2), (pto mp2), (.bool L.disc), (.pointer none), (.string L.date)]) (fun _ => by kernel_rfl) Bm_2 rfl (Nat.le_of_ble_eq_true rfl) rfl
 have Bg_3 := Bg_2.gk G3 hgm
 have Bb_3 := Bb_2.gk G3 (Ne.symm hmb)
 have Kp3 := Kp2.set G3 (Or.inl (by simp))
 have h25_21 := u21.w (u20.w (u19.w (u18.w (u17.w h25_16))))
 refine tk_n rfl (ex_st h27_21 h25_21 hr3) (⟨Bb_3, Bg_3⟩) ?_
 refine tree0 (by kernel_rfl) ?_
 change Code.wp _ _ _ _ _
 refine wp_seq ?_
 obtain ⟨w4, hw4⟩ : ∃ w, w = w3.drew := ⟨_, rfl⟩
 have G4 : w3.grownBy w4 none := hw4 ▸ grown_drew _
 have Bg_4 := Bg_3.gn G4
 have Bb_4 := Bb_3.gn G4
 have Bm_4 := Bm_3.gn G4
 have Kp4 := Kp3.new G4
 refine rg_tree (S := fun w' => Blk w' b 104 #[(.float .f64 (fn d.tgt)), (.int .u64 d.seq), (.slice (some ⟨g, 0, none⟩) d.places d.places), (.string ⟨#[]⟩), (.bool d.ifr), (.bool d.clo), (.int .u64 0), (.int .u64 0), (.float .f64 0), (.bool false), (.bool false), (.int .i64 0), (.int .u64 d.written), (.int .u64 d.places), (.int .u64 hd), (.int .u64 tl), (.int .u64 d.segs.length), (.slice none 0 0), (.int .i64 0), (.int .i8 0), (.int .u8 (max d.ver 4 : Nat)), (pto kp), (pto mp)] ∧ Blk w' g 90 arr) [] 12 hw4 ⟨rfl, by decide⟩ hmix (by kernel_rfl) (by kernel_rfl) (⟨Bb_4, Bg_4⟩) ?_
 have h0_21 := u21.w (u20.w (u19.w (u18.w (u17.w (u16.w (u15.w h0_14))))))
 refine tree_take (j := 0) rfl (by kernel_rfl) (by kernel_rfl) (by kernel_rfl) (fun w hw => ex_mv h0_21) (⟨Bb_4, Bg_4⟩) F21.l fun a22 u22 h28_22 => ?_
 have F22 := F21.pt u22
 refine tree_take (j := 1) rfl (by kernel_rfl) (by kernel_rfl) (by kernel_rfl) (fun w hw => ex_nil h28_22) (⟨Bb_4, Bg_4⟩) F22.l fun a23 u23 h29_23 => ?_
 have F23 := F22.pt u23
 refine tree_take (j := 2) rfl (by kernel_rfl) (by kernel_rfl) (by kernel_rfl) (fun w hw => ex_fb 2 h29_23) (⟨Bb_4, Bg_4⟩) F23.l fun a24 u24 h30_24 => ?_
 have F24 := F23.pt u24
 refine tree_take (j := 3) rfl (by kernel_rfl) (by kernel_rfl) (by kernel_rfl) (fun w hw => ex_le (v := (.slice (some ⟨g, 0, none⟩) d.places d.places)) h30_24 (hw.1.cell 2)) (⟨Bb_4, Bg_4⟩) F24.l fun a25 u25 h31_25 => ?_
 have F25 := F24.pt u25
 have h0_25 := u25.w (u24.w (u23.w (u22.w h0_21)))
 refine tree_take (j := 4) rfl (by kernel_rfl) (by kernel_rfl) (by kernel_rfl) (fun w hw => ex_mv h0_25) (⟨Bb_4, Bg_4⟩) F25.l fun a26 u26 h32_26 => ?_
 have F26 := F25.pt u26
 have h2_26 := u26.w (u25.w (u24.w (u23.w (u22.w (u21.w (u20.w (u19.w (u18.w (u17.w (u16.w (u15.w (u14.w (u13.w (u12.w (u11.w (u10.w (u9.w (u8.w (u7.w (u6.w (u5.w (u4.w (u3.w (u2.w (u1.w h2_0)))))))))))))))))))))))))
 refine tree_take (j := 8) rfl (by kernel_rfl) (by kernel_rfl) (by kernel_rfl) (fun w hw => ex_mv h2_26) (⟨Bb_4, Bg_4⟩) F26.l fun a27 u27 h36_27 => ?_
 have F27 := F26.pt u27
 refine tree1 (j := 5) (by kernel_rfl) ?_
 refine tk_cl (args := #[(.pointer (some ⟨b, 0, none⟩))]) (R := fun v w' => v = (.int .u64 j) ∧ w4 = w') rfl (ex_cl (fun _ _ => by kernel_rfl) (arg1 (u27.w h32_26))) ((last_raw (by omega) (by omega) htlt Bb_4).mono fun _ _ h => ⟨_, h.1, by rw [hj], h.2⟩) F27.l ?_
 rintro v w' ⟨rfl, rfl⟩
 refine ⟨⟨Bb_4, Bg_4⟩, ?_⟩
 intro a28 u28 h33_28
 have F28 := F27.pt u28
 have h31_28 := u28.w (u27.w (u26.w h31_25))
 refine tree_take (j := 6) rfl (by kernel_rfl) (by kernel_rfl) (by kernel_rfl) (fun w hw => ex_ixg (vx := (.slice (some ⟨g, 0, none⟩) d.places d.places)) (vy := (.int .u64 j)) (v := (.pointer (some ⟨g, j, none⟩))) h31_28 h33_28 (ix_pm g d.places j (by omega) _)) (⟨Bb_4, Bg_4⟩) F28.l fun a29 u29 h34_29 => ?_
 have F29 := F28.pt u29
 refine tree_take (j := 7) rfl (by kernel_rfl) (by kernel_rfl) (by kernel_rfl) (fun w hw => ex_le (v := pt m) h34_29 ((hw.2.cell j).trans harr)) (⟨Bb_4, Bg_4⟩) F29.l fun a30 u30 (h35_30 : a30.tmps.getD 35 undef = (.pointer (some ⟨m, 0, none⟩))) => ?_
 have F30 := F29.pt u30
 refine tree_take (j := 9) rfl (by kernel_rfl) (by kernel_rfl) (by kernel_rfl) (fun w hw => ex_nil h35_30) (⟨Bb_4, Bg_4⟩) F30.l fun a31 u31 h37_31 => ?_
 have F31 := F30.pt u31
 refine tree_take (j := 10) rfl (by kernel_rfl) (by kernel_rfl) (by kernel_rfl) (fun w hw => ex_fb 5 h37_31) (⟨Bb_4, Bg_4⟩) F31.l fun a32 u32 h38_32 => ?_
 have F32 := F31.pt u32
 refine tree1 (j := 11) (by kernel_rfl) ?_
 obtain ⟨w5, hr5, Bm_5, G5⟩ := st_run (T := 2) (o := 5) (v := (.int .i64 off)) (cs' := #[(.int .u64 n), (.string L.title), (.string L.uri), (.float .f64 (fb L.e)), (.int .i64 li), (.int .i64 off), (pto kp2), (pto mp2), (.bool L.disc), (.pointer none), (.string L.date)]) (fun _ => by kernel_rfl) Bm_4 rfl (Nat.le_of_ble_eq_true rfl) rfl
 have Bg_5 := Bg_4.gk G5 hgm
 have Bb_5 := Bb_4.gk G5 (Ne.symm hmb)
 have Kp5 := Kp4.set G5 (Or.inl (by simp))
 have h36_32 := u32.w (u31.w (u30.w (u29.w (u28.w h36_27))))
 refine tk_n rfl (ex_st h38_32 h36_32 hr5) (⟨Bb_5, Bg_5⟩) ?_
 refine tree0 (by kernel_rfl) ?_
 change Code.wp _ _ _ _ _
 refine wp_sr ?_
 refine wl_pq F32 (ex_as (v := .nilIface) rfl) fun a33 u33 F33 h6_33 => ?_
 change Code.wp _ _ _ _ _
 refine wp_ret ?_
 obtain ⟨hS, hK⟩ := H.chgm (d' := (d.upd fun L => { L with li := li, off := off }).least 4) (L' := { L with li := li, off := off }) (kp2 := kp2) (mp2 := mp2) Kp5 hm hn Bm0 hBm (by have h := Bb_5; rw [← htl] at h; unfold plC; simp only [WinD.upd_some hL, WinD.least, List.length_set]; exact h) Bm_5 (hk2.kpn Kp5 hDk) (hm2.kpn Kp5 hDm) (by simp only [WinD.upd_some hL, WinD.least]) (by simp only [WinD.upd_some hL, WinD.least]) (by simp only [WinD.upd_some hL, WinD.least]) (by simp only [WinD.upd_some hL, WinD.least]) (by simp only [WinD.upd_some hL, WinD.least])
 try simp only [Exit.then, Exit.inBlock]
 exact bodyPost_ret (v := .nilIface) ((results_tmp rfl _ _ _).trans (by rw [h6_33])) F33.defers ⟨rfl, hS, hK⟩
theorem smap_any {d : WinD} {k B b : Nat} {w0 : World} (hO : d.Ok k) (hk : k ≤ 900) (H : PlS w0 B b d) {q : MapD} (hq : q.Ok) (h0 : 0 < d.segs.length) : Calls Tryd.prog 40 #[pt b, .string q.uri, .int .i64 q.li, .int .i64 q.off] w0 fun e w' => e = .returned .nilIface ∧ PlS w' B b ((d.upd fun L => { L with map := some q }).least 5) ∧ Kt B DP w0 w' := by
 obtain ⟨g, hd, ms, kp, mp, arr, H⟩ := H
 obtain ⟨tl, htl⟩ : ∃ tl, (hd + d.segs.length) % d.places = tl := ⟨_, rfl⟩
 have hp1 := hO.p1
 have hp12 := hO.p12
 have hroom := hO.room
 have hseq := hO.seq
 have hhd := H.ring.hlt
 have htlt : tl < d.places := htl ▸ Nat.mod_lt _ (by omega)
 have hgb : g ≠ b := H.row.ne_ H.blk (by decide)
 have Bb_0 : Blk w0 b 104 #[(.float .f64 (fn d.tgt)), (.int .u64 d.seq), (.slice (some ⟨g, 0, none⟩) d.places d.places), (.string ⟨#[]⟩), (.bool d.ifr), (.bool d.clo), (.int .u64 0), (.int .u64 0), (.float .f64 0), (.bool false), (.bool false), (.int .i64 0), (.int .u64 d.written), (.int .u64 d.places), (.int .u64 hd), (.int .u64 tl), (.int .u64 d.segs.length), (.slice none 0 0), (.int .i64 0), (.int .i8 0), (.int .u8 d.ver), (pto kp), (pto mp)] := by
   have h := H.blk
   unfold plC at h
   rw [htl] at h
   exact h
 have Bg_0 := H.row
 have hmsl := H.fms.1
 have hnl := H.fms.2.1
 obtain ⟨m, hm⟩ : ∃ m, ms[d.segs.length - 1]? = some m := ⟨_, List.getElem?_eq_getElem (by omega)⟩
 obtain ⟨L, hL⟩ : ∃ L, d.segs[d.segs.length - 1]? = some L := ⟨_, List.getElem?_eq_getElem (by omega)⟩
 obtain ⟨n, hn⟩ : ∃ n, d.nums[d.segs.length - 1]? = some n := ⟨_, List.getElem?_eq_getElem (by omega)⟩
 have hnk := hO.num n (List.mem_of_getElem? hn)
 obtain ⟨kp2, mp2, hBm, Bm_0, hk2, hm2⟩ := H.fms.2.2 _ L n m hL hn hm
 have Bm0 := Bm_0
 obtain ⟨j, hj⟩ : ∃ j, (if tl = 0 then d.places - 1 else tl - 1) = j := ⟨_, rfl⟩
 have harr : arr[j]? = some (pt m) := by
   have h := H.ring.last (m := m) (by omega) (by rw [hmsl]; exact hm)
   rw [hmsl, htl, hj] at h
   exact h
 have hjlt : j < d.places := by rw [← hj]; split <;> omega
 have hmb : m ≠ b := Bm_0.ne_ H.blk (by decide)
 have hgm : g ≠ m := H.row.ne_ Bm_0 (by decide)
 have hDk : ∀ x, x ∈ [b, m] → ∃ T c, Blk w0 x T c ∧ T ≠ 113 := fun x hx => by
   simp only [List.mem_cons, List.not_mem_nil, or_false] at hx
   rcases hx with rfl | rfl
   · exact ⟨_, _, H.blk, by decide⟩
   · exact ⟨_, _, Bm0, by decide⟩
 have hDm : ∀ x, x ∈ [b, m] → ∃ T c, Blk w0 x T c ∧ T ≠ 115 := fun x hx => by
   simp only [List.mem_cons, List.not_mem_nil, or_false] at hx
   rcases hx with rfl | rfl
   · exact ⟨_, _, H.blk, by decide⟩
   · exact ⟨_, _, Bm0, by decide⟩
 refine calls_of_wp Tryd.func40 rfl ?_
 generalize hA : Act.mk _ _ = a0
 have F0 : Fz 34 a0 := by subst hA; exact ⟨by simp [Tryd.ntmps40], rfl⟩
 have h0_0 : a0.tmps.getD 0 undef = (.pointer (some ⟨b, 0, none⟩)) := by subst hA; exact fr_arg rfl
 have h1_0 : a0.tmps.getD 1 undef = (.string q.uri) := by subst hA; exact fr_arg rfl
 have h2_0 : a0.tmps.getD 2 undef = (.int .i64 q.li) := by subst hA; exact fr_arg rfl
 have h3_0 : a0.tmps.getD 3 undef = (.int .i64 q.off) := by subst hA; exact fr_arg rfl
 have Kp0 := Kp.refl [b, m] w0
 refine wp_sr ?_
 refine wl_pq F0 (ex_as (v := .nilIface) rfl) fun a1 u1 F1 h8_1 => ?_
 change Code.wp _ _ _ _ _
 refine wp_seq ?_
 refine wp_sr ?_
 refine wl_pq F1 (ex_mv (u1.w h0_0)) fun a2 u2 F2 h9_2 => ?_
 refine wl_pq F2 (ex_nil h9_2) fun a3 u3 F3 h10_3 => ?_
 refine wl_pq F3 (ex_fb 16 h10_3) fun a4 u4 F4 h11_4 => ?_
 refine wl_pq F4 (ex_le (v := (.int .u64 d.segs.length)) h11_4 (Bb_0.cell 16)) fun a5 u5 F5 h12_5 => ?_
 refine wl_pq F5 (ex_bin (vy := (.int .u64 0)) (v := (.bool false)) h12_5 rfl ((uo_eq d.segs.length 0 _).trans (by rw [decide_eq_false (by omega)]))) fun a6 u6 F6 h13_6 => ?_
 change Code.wp _ _ _ _ _
 refine wp_cond_false h13_6 ?_
 refine wp_skip ?_
 change Code.wp _ _ _ _ _
 refine wp_sr ?_
 have h0_6 := u6.w (u5.w (u4.w (u3.w (u2.w (u1.w h0_0)))))
 refine wl_pq F6 (ex_mv h0_6) fun a7 u7 F7 h15_7 => ?_
 refine wl_pq F7 (ex_nil h15_7) fun a8 u8 F8 h16_8 => ?_
 refine wl_pq F8 (ex_fb 20 h16_8) fun a9 u9 F9 h17_9 => ?_
 refine wl_cl (args := #[(.pointer (some ⟨b, 20, none⟩)), (.int .u8 5)]) (R := fun v w' => v = .tuple #[] ∧ Blk w' b 104 #[(.float .f64 (fn d.tgt)), (.int .u64 d.seq), (.slice (some ⟨g, 0, none⟩) d.places d.places), (.string ⟨#[]⟩), (.bool d.ifr), (.bool d.clo), (.int .u64 0), (.int .u64 0), (.float .f64 0), (.bool false), (.bool false), (.int .i64 0), (.int .u64 d.written), (.int .u64 d.places), (.int .u64 hd), (.int .u64 tl), (.int .u64 d.segs.length), (.slice none 0 0), (.int .i64 0), (.int .i8 0), (.int .u8 (max d.ver 5 : Nat)), (pto kp), (pto mp)] ∧ w0.grownBy w' (some b)) (ex_cl (fun _ _ => by kernel_rfl) (arg2 h17_9 rfl)) ((ver_raw (n := 5) Bb_0).mono fun _ _ h => ⟨_, h.1, rfl, h.2⟩) F9.l ?_
 rintro v w1 ⟨rfl, Bb_1, G1⟩
 have Bg_1 := Bg_0.gk G1 hgb
 have Bm_1 := Bm_0.gk G1 hmb
 have Kp1 := Kp0.set G1 (Or.inl (by simp))
 intro a10 u10 h18_10
 have F10 := F9.pt u10
 change Code.wp _ _ _ _ _
 refine wp_seq ?_
 obtain ⟨w2, hw2⟩ : ∃ w, w = w1.drew := ⟨_, rfl⟩
 have G2 : w1.grownBy w2 none := hw2 ▸ grown_drew _
 have Bg_2 := Bg_1.gn G2
 have Bb_2 := Bb_1.gn G2
 have Bm_2 := Bm_1.gn G2
 have Kp2 := Kp1.new G2
 refine rg_tree (S := fun w' => Blk w' b 104 #[(.float .f64 (fn d.tgt)), (.int .u64 d.seq), (.slice (some ⟨g, 0, none⟩) d.places d.places), (.string ⟨#[]⟩), (.bool d.ifr), (.bool d.clo), (.int .u64 0), (.int .u64 0), (.float .f64 0), (.bool false), (.bool false), (.int .i64 0), (.int .u64 d.written), (.int .u64 d.places), (.int .u64 hd), (.int .u64 tl), (.int .u64 d.segs.length), (.slice none 0 0), (.int .i64 0), (.int .i8 0), (.int .u8 (max d.ver 5 : Nat)), (pto kp), (pto mp)] ∧ Blk w' g 90 arr) [] 16 hw2 ⟨rfl, by decide⟩ hmix (by kernel_rfl) (by kernel_rfl) (⟨Bb_2, Bg_2⟩) ?_
 have h0_10 := u10.w (u9.w (u8.w (u7.w h0_6)))
 refine tree_take (j := 0) rfl (by kernel_rfl) (by kernel_rfl) (by kernel_rfl) (fun w hw => ex_mv h0_10) (⟨Bb_2, Bg_2⟩) F10.l fun a11 u11 h19_11 => ?_
 have F11 := F10.pt u11
 refine tree_take (j := 1) rfl (by kernel_rfl) (by kernel_rfl) (by kernel_rfl) (fun w hw => ex_nil h19_11) (⟨Bb_2, Bg_2⟩) F11.l fun a12 u12 h20_12 => ?_
 have F12 := F11.pt u12
 refine tree_take (j := 2) rfl (by kernel_rfl) (by kernel_rfl) (by kernel_rfl) (fun w hw => ex_fb 2 h20_12) (⟨Bb_2, Bg_2⟩) F12.l fun a13 u13 h21_13 => ?_
 have F13 := F12.pt u13
 refine tree_take (j := 3) rfl (by kernel_rfl) (by kernel_rfl) (by kernel_rfl) (fun w hw => ex_le (v := (.slice (some ⟨g, 0, none⟩) d.places d.places)) h21_13 (hw.1.cell 2)) (⟨Bb_2, Bg_2⟩) F13.l fun a14 u14 h22_14 => ?_
 have F14 := F13.pt u14
 have h0_14 := u14.w (u13.w (u12.w (u11.w h0_10)))
 refine tree_take (j := 4) rfl (by kernel_rfl) (by kernel_rfl) (by kernel_rfl) (fun w hw => ex_mv h0_14) (⟨Bb_2, Bg_2⟩) F14.l fun a15 u15 h23_15 => ?_
 have F15 := F14.pt u15
 have h1_15 := u15.w (u14.w (u13.w (u12.w (u11.w (u10.w (u9.w (u8.w (u7.w (u6.w (u5.w (u4.w (u3.w (u2.w (u1.w h1_0))))))))))))))
 refine tree_take (j := 8) rfl (by kernel_rfl) (by kernel_rfl) (by kernel_rfl) (fun w hw => ex_mv h1_15) (⟨Bb_2, Bg_2⟩) F15.l fun a16 u16 h27_16 => ?_
 have F16 := F15.pt u16
 have h2_16 := u16.w (u15.w (u14.w (u13.w (u12.w (u11.w (u10.w (u9.w (u8.w (u7.w (u6.w (u5.w (u4.w (u3.w (u2.w (u1.w h2_0)))))))))))))))
 refine tree_take (j := 9) rfl (by kernel_rfl) (by kernel_rfl) (by kernel_rfl) (fun w hw => ex_mv h2_16) (⟨Bb_2, Bg_2⟩) F16.l fun a17 u17 h28_17 => ?_
 have F17 := F16.pt u17
 have h3_17 := u17.w (u16.w (u15.w (u14.w (u13.w (u12.w (u11.w (u10.w (u9.w (u8.w (u7.w (u6.w (u5.w (u4.w (u3.w (u2.w (u1.w h3_0))))))))))))))))
 refine tree_take (j := 10) rfl (by kernel_rfl) (by kernel_rfl) (by kernel_rfl) (fun w hw => ex_mv h3_17) (⟨Bb_2, Bg_2⟩) F17.l fun a18 u18 h29_18 => ?_
 have F18 := F17.pt u18
 refine tree_take (j := 11) rfl (by kernel_rfl) (by kernel_rfl) (by kernel_rfl) (fun w hw => ex_bd (w' := w) (vs :=  #[(0, (.string q.uri)), (1, (.int .i64 q.li)), (2, (.int .i64 q.off))]) (v := (.agg #[(.string q.uri), (.int .i64 q.li), (.int .i64 q.off)])) (by have e0 : a18.eval (.tmp 27) = (.string q.uri) := (u18.w (u17.w h27_16)); have e1 : a18.eval (.tmp 28) = (.int .i64 q.li) := (u18.w h28_17); have e2 : a18.eval (.tmp 29) = (.int .i64 q.off) := h29_18; simp only [List.map_toArray, List.map_cons, List.map_nil, e0, e1, e2]) (by kernel_rfl)) (⟨Bb_2, Bg_2⟩) F18.l fun a19 u19 h30_19 => ?_
 have F19 := F18.pt u19
 refine tree2 (j := 5) (k := 12) (by kernel_rfl) ?_ ?_
 · have h23_19 := u19.w (u18.w (u17.w (u16.w h23_15)))
   refine tk_cl (args := #[(.pointer (some ⟨b, 0, none⟩))]) (R := fun v w' => v = (.int .u64 j) ∧ w2 = w') rfl (ex_cl (fun _ _ => by kernel_rfl) (arg1 h23_19)) ((last_raw (by omega) (by omega) htlt Bb_2).mono fun _ _ h => ⟨_, h.1, by rw [hj], h.2⟩) F19.l ?_
   rintro v w' ⟨rfl, rfl⟩
   refine ⟨⟨Bb_2, Bg_2⟩, ?_⟩
   intro a20 u20 h24_20
   have F20 := F19.pt u20
   have h22_20 := u20.w (u19.w (u18.w (u17.w (u16.w (u15.w h22_14)))))
   refine tree_take (j := 6) rfl (by kernel_rfl) (by kernel_rfl) (by kernel_rfl) (fun w hw => ex_ixg (vx := (.slice (some ⟨g, 0, none⟩) d.places d.places)) (vy := (.int .u64 j)) (v := (.pointer (some ⟨g, j, none⟩))) h22_20 h24_20 (ix_pm g d.places j (by omega) _)) (⟨Bb_2, Bg_2⟩) F20.l fun a21 u21 h25_21 => ?_
   have F21 := F20.pt u21
   refine tree_take (j := 7) rfl (by kernel_rfl) (by kernel_rfl) (by kernel_rfl) (fun w hw => ex_le (v := pt m) h25_21 ((hw.2.cell j).trans harr)) (⟨Bb_2, Bg_2⟩) F21.l fun a22 u22 (h26_22 : a22.tmps.getD 26 undef = (.pointer (some ⟨m, 0, none⟩))) => ?_
   have F22 := F21.pt u22
   refine tree1 (j := 12) (by kernel_rfl) ?_
   obtain ⟨gx, hgx⟩ : ∃ g, w2.heap.size = g := ⟨_, rfl⟩
   have ne_g_x : g ≠ gx := by have := Bg_2.lt; omega
   have ne_b_x : b ≠ gx := by have := Bb_2.lt; omega
   have ne_m_x : m ≠ gx := by have := Bm_2.lt; omega
   have ge_x : w0.heap.size ≤ gx := by have := Kp2.size; omega
   obtain ⟨w3, hr3, Bx_3, G3, hs3⟩ := al_run (op := Instr.box 115 (.agg #[(.string q.uri), (.int .i64 q.li), (.int .i64 q.off)])) (T := 115) (cs := #[(.string q.uri), (.int .i64 q.li), (.int .i64 q.off)]) hgx (fun _ => by kernel_rfl)
   have Bg_3 := Bg_2.gn G3
   have Bb_3 := Bb_2.gn G3
   have Bm_3 := Bm_2.gn G3
   have Kp3 := Kp2.new G3
   have h30_22 := u22.w (u21.w (u20.w h30_19))
   refine tk_p rfl (ex_bx h30_22 hr3) (⟨Bb_3, Bg_3⟩) F22.l fun a23 u23 (h31_23 : a23.tmps.getD 31 undef = (.pointer (some ⟨gx, 0, none⟩))) => ?_
   have F23 := F22.pt u23
   clear hgx
   refine tree_take (j := 13) rfl (by kernel_rfl) (by kernel_rfl) (by kernel_rfl) (fun w hw => ex_nil (u23.w h26_22)) (⟨Bb_3, Bg_3⟩) F23.l fun a24 u24 h32_24 => ?_
   have F24 := F23.pt u24
   refine tree_take (j := 14) rfl (by kernel_rfl) (by kernel_rfl) (by kernel_rfl) (fun w hw => ex_fb 7 h32_24) (⟨Bb_3, Bg_3⟩) F24.l fun a25 u25 h33_25 => ?_
   have F25 := F24.pt u25
   refine tree1 (j := 15) (by kernel_rfl) ?_
   obtain ⟨w4, hr4, Bm_4, G4⟩ := st_run (T := 92) (o := 7) (v := (.pointer (some ⟨gx, 0, none⟩))) (cs' := #[(.int .u64 n), (.string L.title), (.string L.uri), (.float .f64 (fb L.e)), (.int .i64 L.li), (.int .i64 L.off), (pto kp2), (.pointer (some ⟨gx, 0, none⟩)), (.bool L.disc), (.pointer none), (.string L.date)]) (fun _ => by kernel_rfl) Bm_3 rfl (Nat.le_of_ble_eq_true rfl) rfl
   have Bg_4 := Bg_3.gk G4 hgm
   have Bb_4 := Bb_3.gk G4 (Ne.symm hmb)
   have Bx_4 := Bx_3.gk G4 (Ne.symm ne_m_x)
   have Kp4 := Kp3.set G4 (Or.inl (by simp))
   refine tk_n rfl (ex_st h33_25 (u25.w (u24.w h31_23)) hr4) (⟨Bb_4, Bg_4⟩) ?_
   refine tree0 (by kernel_rfl) ?_
   change Code.wp _ _ _ _ _
   refine wp_sr ?_
   refine wl_pq F25 (ex_as (v := .nilIface) rfl) fun a26 u26 F26 h8_26 => ?_
   change Code.wp _ _ _ _ _
   refine wp_ret ?_
   obtain ⟨hS, hK⟩ := H.chgm (d' := (d.upd fun L => { L with map := some q }).least 5) (L' := { L with map := some q }) (kp2 := kp2) (mp2 := some gx) Kp4 hm hn Bm0 hBm (by have h := Bb_4; rw [← htl] at h; unfold plC; simp only [WinD.upd_some hL, WinD.least, List.length_set]; exact h) Bm_4 (hk2.kpn Kp4 hDk) (.mk Bx_4 (Nat.le_trans H.hw ge_x) hq) (by simp only [WinD.upd_some hL, WinD.least]) (by simp only [WinD.upd_some hL, WinD.least]) (by simp only [WinD.upd_some hL, WinD.least]) (by simp only [WinD.upd_some hL, WinD.least]) (by simp only [WinD.upd_some hL, WinD.least])
   try simp only [Exit.then, Exit.inBlock]
   exact bodyPost_ret (v := .nilIface) ((results_tmp rfl _ _ _).trans (by rw [h8_26])) F26.defers ⟨rfl, hS, hK⟩
 · obtain ⟨gx, hgx⟩ : ∃ g, w2.heap.size = g := ⟨_, rfl⟩
   have ne_g_x : g ≠ gx := by have := Bg_2.lt; omega
   have ne_b_x : b ≠ gx := by have := Bb_2.lt; omega
   have ne_m_x : m ≠ gx := by have := Bm_2.lt; omega
   have ge_x : w0.heap.size ≤ gx := by have := Kp2.size; omega
   obtain ⟨w3, hr3, Bx_3, G3, hs3⟩ := al_run (op := Instr.box 115 (.agg #[(.string q.uri), (.int .i64 q.li), (.int .i64 q.off)])) (T := 115) (cs := #[(.string q.uri), (.int .i64 q.li), (.int .i64 q.off)]) hgx (fun _ => by kernel_rfl)
   have Bg_3 := Bg_2.gn G3
   have Bb_3 := Bb_2.gn G3
   have Bm_3 := Bm_2.gn G3
   have Kp3 := Kp2.new G3
   refine tk_p rfl (ex_bx h30_19 hr3) (⟨Bb_3, Bg_3⟩) F19.l fun a20 u20 (h31_20 : a20.tmps.getD 31 undef = (.pointer (some ⟨gx, 0, none⟩))) => ?_
   have F20 := F19.pt u20
   clear hgx
   refine tree1 (j := 5) (by kernel_rfl) ?_
   have h23_20 := u20.w (u19.w (u18.w (u17.w (u16.w h23_15))))
   refine tk_cl (args := #[(.pointer (some ⟨b, 0, none⟩))]) (R := fun v w' => v = (.int .u64 j) ∧ w3 = w') rfl (ex_cl (fun _ _ => by kernel_rfl) (arg1 h23_20)) ((last_raw (by omega) (by omega) htlt Bb_3).mono fun _ _ h => ⟨_, h.1, by rw [hj], h.2⟩) F20.l ?_
   rintro v w' ⟨rfl, rfl⟩
   refine ⟨⟨Bb_3, Bg_3⟩, ?_⟩
   intro a21 u21 h24_21
   have F21 := F20.pt u21
   have h22_21 := u21.w (u20.w (u19.w (u18.w (u17.w (u16.w (u15.w h22_14))))))
   refine tree_take (j := 6) rfl (by kernel_rfl) (by kernel_rfl) (by kernel_rfl) (fun w hw => ex_ixg (vx := (.slice (some ⟨g, 0, none⟩) d.places d.places)) (vy := (.int .u64 j)) (v := (.pointer (some ⟨g, j, none⟩))) h22_21 h24_21 (ix_pm g d.places j (by omega) _)) (⟨Bb_3, Bg_3⟩) F21.l fun a22 u22 h25_22 => ?_
   have F22 := F21.pt u22
   refine tree_take (j := 7) rfl (by kernel_rfl) (by kernel_rfl) (by kernel_rfl) (fun w hw => ex_le (v := pt m) h25_22 ((hw.2.cell j).trans harr)) (⟨Bb_3, Bg_3⟩) F22.l fun a23 u23 (h26_23 : a23.tmps.getD 26 undef = (.pointer (some ⟨m, 0, none⟩))) => ?_
   have F23 := F22.pt u23
   refine tree_take (j := 13) rfl (by kernel_rfl) (by kernel_rfl) (by kernel_rfl) (fun w hw => ex_nil h26_23) (⟨Bb_3, Bg_3⟩) F23.l fun a24 u24 h32_24 => ?_
   have F24 := F23.pt u24
   refine tree_take (j := 14) rfl (by kernel_rfl) (by kernel_rfl) (by kernel_rfl) (fun w hw => ex_fb 7 h32_24) (⟨Bb_3, Bg_3⟩) F24.l fun a25 u25 h33_25 => ?_
   have F25 := F24.pt u25
   refine tree1 (j := 15) (by kernel_rfl) ?_
   obtain ⟨w4, hr4, Bm_4, G4⟩ := st_run (T := 92) (o := 7) (v := (.pointer (some ⟨gx, 0, none⟩))) (cs' := #[(.int .u64 n), (.string L.title), (.string L.uri), (.float .f64 (fb L.e)), (.int .i64 L.li), (.int .i64 L.off), (pto kp2), (.pointer (some ⟨gx, 0, none⟩)), (.bool L.disc), (.pointer none), (.string L.date)]) (fun _ => by kernel_rfl) Bm_3 rfl (Nat.le_of_ble_eq_true rfl) rfl
   have Bg_4 := Bg_3.gk G4 hgm
   have Bb_4 := Bb_3.gk G4 (Ne.symm hmb)
   have Bx_4 := Bx_3.gk G4 (Ne.symm ne_m_x)
   have Kp4 := Kp3.set G4 (Or.inl (by simp))
   have h31_25 := u25.w (u24.w (u23.w (u22.w (u21.w h31_20))))
   refine tk_n rfl (ex_st h33_25 h31_25 hr4) (⟨Bb_4, Bg_4⟩) ?_
   refine tree0 (by kernel_rfl) ?_
   change Code.wp _ _ _ _ _
   refine wp_sr ?_
   refine wl_pq F25 (ex_as (v := .nilIface) rfl) fun a26 u26 F26 h8_26 => ?_
   change Code.wp _ _ _ _ _
   refine wp_ret ?_
   obtain ⟨hS, hK⟩ := H.chgm (d' := (d.upd fun L => { L with map := some q }).least 5) (L' := { L with map := some q }) (kp2 := kp2) (mp2 := some gx) Kp4 hm hn Bm0 hBm (by have h := Bb_4; rw [← htl] at h; unfold plC; simp only [WinD.upd_some hL, WinD.least, List.length_set]; exact h) Bm_4 (hk2.kpn Kp4 hDk) (.mk Bx_4 (Nat.le_trans H.hw ge_x) hq) (by simp only [WinD.upd_some hL, WinD.least]) (by simp only [WinD.upd_some hL, WinD.least]) (by simp only [WinD.upd_some hL, WinD.least]) (by simp only [WinD.upd_some hL, WinD.least]) (by simp only [WinD.upd_some hL, WinD.least])
   try simp only [Exit.then, Exit.inBlock]
   exact bodyPost_ret (v := .nilIface) ((results_tmp rfl _ _ _).trans (by rw [h8_26])) F26.defers ⟨rfl, hS, hK⟩
theorem skey_v {d : WinD} {k B b : Nat} {w0 : World} (hO : d.Ok k) (hk : k ≤ 900) (H : PlS w0 B b d) {q : KeyD} (hq : q.Ok) (hf : q.fo.size ≠ 0) (h0 : 0 < d.segs.length) : Calls Tryd.prog 38 #[pt b, .string q.me, .string q.uri, .string q.iv, .string q.fo, .string q.ve] w0 fun e w' => e = .returned .nilIface ∧ PlS w' B b ((d.upd fun L => { L with key := some q }).least 5) ∧ Kt B DP w0 w' := by
 obtain ⟨g, hd, ms, kp, mp, arr, H⟩ := H
 obtain ⟨tl, htl⟩ : ∃ tl, (hd + d.segs.length) % d.places = tl := ⟨_, rfl⟩
 have hp1 := hO.p1
 have hp12 := hO.p12
 have hroom := hO.room
 have hseq := hO.seq
 have hhd := H.ring.hlt
 have htlt : tl < d.places := htl ▸ Nat.mod_lt _ (by omega)
 have hgb : g ≠ b := H.row.ne_ H.blk (by decide)
 have Bb_0 : Blk w0 b 104 #[(.float .f64 (fn d.tgt)), (.int .u64 d.seq), (.slice (some ⟨g, 0, none⟩) d.places d.places), (.string ⟨#[]⟩), (.bool d.ifr), (.bool d.clo), (.int .u64 0), (.int .u64 0), (.float .f64 0), (.bool false), (.bool false), (.int .i64 0), (.int .u64 d.written), (.int .u64 d.places), (.int .u64 hd), (.int .u64 tl), (.int .u64 d.segs.length), (.slice none 0 0), (.int .i64 0), (.int .i8 0), (.int .u8 d.ver), (pto kp), (pto mp)] := by
   have h := H.blk
   unfold plC at h
   rw [htl] at h
   exact h
 have Bg_0 := H.row
 have hmsl := H.fms.1
 have hnl := H.fms.2.1
 obtain ⟨m, hm⟩ : ∃ m, ms[d.segs.length - 1]? = some m := ⟨_, List.getElem?_eq_getElem (by omega)⟩
 obtain ⟨L, hL⟩ : ∃ L, d.segs[d.segs.length - 1]? = some L := ⟨_, List.getElem?_eq_getElem (by omega)⟩
 obtain ⟨n, hn⟩ : ∃ n, d.nums[d.segs.length - 1]? = some n := ⟨_, List.getElem?_eq_getElem (by omega)⟩
 have hnk := hO.num n (List.mem_of_getElem? hn)
 obtain ⟨kp2, mp2, hBm, Bm_0, hk2, hm2⟩ := H.fms.2.2 _ L n m hL hn hm
 have Bm0 := Bm_0
 obtain ⟨j, hj⟩ : ∃ j, (if tl = 0 then d.places - 1 else tl - 1) = j := ⟨_, rfl⟩
 have harr : arr[j]? = some (pt m) := by
   have h := H.ring.last (m := m) (by omega) (by rw [hmsl]; exact hm)
   rw [hmsl, htl, hj] at h
   exact h
 have hjlt : j < d.places := by rw [← hj]; split <;> omega
 have hmb : m ≠ b := Bm_0.ne_ H.blk (by decide)
 have hgm : g ≠ m := H.row.ne_ Bm_0 (by decide)
 have hDk : ∀ x, x ∈ [b, m] → ∃ T c, Blk w0 x T c ∧ T ≠ 113 := fun x hx => by
   simp only [List.mem_cons, List.not_mem_nil, or_false] at hx
   rcases hx with rfl | rfl
   · exact ⟨_, _, H.blk, by decide⟩
   · exact ⟨_, _, Bm0, by decide⟩
 have hDm : ∀ x, x ∈ [b, m] → ∃ T c, Blk w0 x T c ∧ T ≠ 115 := fun x hx => by
   simp only [List.mem_cons, List.not_mem_nil, or_false] at hx
   rcases hx with rfl | rfl
   · exact ⟨_, _, H.blk, by decide⟩
   · exact ⟨_, _, Bm0, by decide⟩
 refine calls_of_wp Tryd.func38 rfl ?_
 generalize hA : Act.mk _ _ = a0
 have F0 : Fz 46 a0 := by subst hA; exact ⟨by simp [Tryd.ntmps38], rfl⟩
 have h0_0 : a0.tmps.getD 0 undef = (.pointer (some ⟨b, 0, none⟩)) := by subst hA; exact fr_arg rfl
 have h1_0 : a0.tmps.getD 1 undef = (.string q.me) := by subst hA; exact fr_arg rfl
 have h2_0 : a0.tmps.getD 2 undef = (.string q.uri) := by subst hA; exact fr_arg rfl
 have h3_0 : a0.tmps.getD 3 undef = (.string q.iv) := by subst hA; exact fr_arg rfl
 have h4_0 : a0.tmps.getD 4 undef = (.string q.fo) := by subst hA; exact fr_arg rfl
 have h5_0 : a0.tmps.getD 5 undef = (.string q.ve) := by subst hA; exact fr_arg rfl
 have Kp0 := Kp.refl [b, m] w0
 refine wp_sr ?_
 refine wl_pq F0 (ex_as (v := .nilIface) rfl) fun a1 u1 F1 h12_1 => ?_
 change Code.wp _ _ _ _ _
 refine wp_seq ?_
 refine wp_sr ?_
 refine wl_pq F1 (ex_mv (u1.w h0_0)) fun a2 u2 F2 h13_2 => ?_
 refine wl_pq F2 (ex_nil h13_2) fun a3 u3 F3 h14_3 => ?_
 refine wl_pq F3 (ex_fb 16 h14_3) fun a4 u4 F4 h15_4 => ?_
 refine wl_pq F4 (ex_le (v := (.int .u64 d.segs.length)) h15_4 (Bb_0.cell 16)) fun a5 u5 F5 h16_5 => ?_
 refine wl_pq F5 (ex_bin (vy := (.int .u64 0)) (v := (.bool false)) h16_5 rfl ((uo_eq d.segs.length 0 _).trans (by rw [decide_eq_false (by omega)]))) fun a6 u6 F6 h17_6 => ?_
 change Code.wp _ _ _ _ _
 refine wp_cond_false h17_6 ?_
 refine wp_skip ?_
 change Code.wp _ _ _ _ _
 refine wp_seq ?_
 refine wp_sr ?_
 have h4_6 := u6.w (u5.w (u4.w (u3.w (u2.w (u1.w h4_0)))))
 refine wl_pq F6 (ex_mv h4_6) fun a7 u7 F7 h19_7 => ?_
 refine wl_pq F7 (ex_bin (vy := (.string { data := #[] })) (v := (.bool true)) h19_7 rfl (bo_nes1 _ hf _)) fun a8 u8 F8 h20_8 => ?_
 refine wl_pq F8 (ex_mv h20_8) fun a9 u9 F9 h21_9 => ?_
 refine wl_k (yl (e := 21) rfl h21_9) (by decide) F9.l fun a10 u10 h22_10 => ?_
 have F10 := F9.pt u10
 refine wl_k (yl (e := 21) rfl (u10.w h21_9)) (by decide) F10.l fun a11 u11 h23_11 => ?_
 have F11 := F10.pt u11
 refine wl_pq F11 (ex_pick (q := true) (v := (.bool true)) (u11.w (u10.w h21_9)) rfl) fun a12 u12 F12 h24_12 => ?_
 change Code.wp _ _ _ _ _
 refine wp_cond_true h24_12 ?_
 refine rg_list ?_
 have h0_12 := u12.w (u11.w (u10.w (u9.w (u8.w (u7.w (u6.w (u5.w (u4.w (u3.w (u2.w (u1.w h0_0)))))))))))
 refine wl_pq F12 (ex_mv h0_12) fun a13 u13 F13 h25_13 => ?_
 refine wl_pq F13 (ex_nil h25_13) fun a14 u14 F14 h26_14 => ?_
 refine wl_pq F14 (ex_fb 20 h26_14) fun a15 u15 F15 h27_15 => ?_
 refine wl_cl (args := #[(.pointer (some ⟨b, 20, none⟩)), (.int .u8 5)]) (R := fun v w' => v = .tuple #[] ∧ Blk w' b 104 #[(.float .f64 (fn d.tgt)), (.int .u64 d.seq), (.slice (some ⟨g, 0, none⟩) d.places d.places), (.string ⟨#[]⟩), (.bool d.ifr), (.bool d.clo), (.int .u64 0), (.int .u64 0), (.float .f64 0), (.bool false), (.bool false), (.int .i64 0), (.int .u64 d.written), (.int .u64 d.places), (.int .u64 hd), (.int .u64 tl), (.int .u64 d.segs.length), (.slice none 0 0), (.int .i64 0), (.int .i8 0), (.int .u8 (max d.ver 5 : Nat)), (pto kp), (pto mp)] ∧ w0.grownBy w' (some b)) (ex_cl (fun _ _ => by kernel_rfl) (arg2 h27_15 rfl)) ((ver_raw (n := 5) Bb_0).mono fun _ _ h => ⟨_, h.1, rfl, h.2⟩) F15.l ?_
 rintro v w1 ⟨rfl, Bb_1, G1⟩
 have Bg_1 := Bg_0.gk G1 hgb
 have Bm_1 := Bm_0.gk G1 hmb
 have Kp1 := Kp0.set G1 (Or.inl (by simp))
 intro a16 u16 h28_16
 have F16 := F15.pt u16
 change Code.wp _ _ _ _ _
 refine wp_seq ?_
 obtain ⟨w2, hw2⟩ : ∃ w, w = w1.drew := ⟨_, rfl⟩
 have G2 : w1.grownBy w2 none := hw2 ▸ grown_drew _
 have Bg_2 := Bg_1.gn G2
 have Bb_2 := Bb_1.gn G2
 have Bm_2 := Bm_1.gn G2
 have Kp2 := Kp1.new G2
 refine rg_tree (S := fun w' => Blk w' b 104 #[(.float .f64 (fn d.tgt)), (.int .u64 d.seq), (.slice (some ⟨g, 0, none⟩) d.places d.places), (.string ⟨#[]⟩), (.bool d.ifr), (.bool d.clo), (.int .u64 0), (.int .u64 0), (.float .f64 0), (.bool false), (.bool false), (.int .i64 0), (.int .u64 d.written), (.int .u64 d.places), (.int .u64 hd), (.int .u64 tl), (.int .u64 d.segs.length), (.slice none 0 0), (.int .i64 0), (.int .i8 0), (.int .u8 (max d.ver 5 : Nat)), (pto kp), (pto mp)] ∧ Blk w' g 90 arr) [] 18 hw2 ⟨rfl, by decide⟩ hmix (by kernel_rfl) (by kernel_rfl) (⟨Bb_2, Bg_2⟩) ?_
 have h0_16 := u16.w (u15.w (u14.w (u13.w h0_12)))
 refine tree_take (j := 0) rfl (by kernel_rfl) (by kernel_rfl) (by kernel_rfl) (fun w hw => ex_mv h0_16) (⟨Bb_2, Bg_2⟩) F16.l fun a17 u17 h29_17 => ?_
 have F17 := F16.pt u17
 refine tree_take (j := 1) rfl (by kernel_rfl) (by kernel_rfl) (by kernel_rfl) (fun w hw => ex_nil h29_17) (⟨Bb_2, Bg_2⟩) F17.l fun a18 u18 h30_18 => ?_
 have F18 := F17.pt u18
 refine tree_take (j := 2) rfl (by kernel_rfl) (by kernel_rfl) (by kernel_rfl) (fun w hw => ex_fb 2 h30_18) (⟨Bb_2, Bg_2⟩) F18.l fun a19 u19 h31_19 => ?_
 have F19 := F18.pt u19
 refine tree_take (j := 3) rfl (by kernel_rfl) (by kernel_rfl) (by kernel_rfl) (fun w hw => ex_le (v := (.slice (some ⟨g, 0, none⟩) d.places d.places)) h31_19 (hw.1.cell 2)) (⟨Bb_2, Bg_2⟩) F19.l fun a20 u20 h32_20 => ?_
 have F20 := F19.pt u20
 have h0_20 := u20.w (u19.w (u18.w (u17.w h0_16)))
 refine tree_take (j := 4) rfl (by kernel_rfl) (by kernel_rfl) (by kernel_rfl) (fun w hw => ex_mv h0_20) (⟨Bb_2, Bg_2⟩) F20.l fun a21 u21 h33_21 => ?_
 have F21 := F20.pt u21
 have h1_21 := u21.w (u20.w (u19.w (u18.w (u17.w (u16.w (u15.w (u14.w (u13.w (u12.w (u11.w (u10.w (u9.w (u8.w (u7.w (u6.w (u5.w (u4.w (u3.w (u2.w (u1.w h1_0))))))))))))))))))))
 refine tree_take (j := 8) rfl (by kernel_rfl) (by kernel_rfl) (by kernel_rfl) (fun w hw => ex_mv h1_21) (⟨Bb_2, Bg_2⟩) F21.l fun a22 u22 h37_22 => ?_
 have F22 := F21.pt u22
 have h2_22 := u22.w (u21.w (u20.w (u19.w (u18.w (u17.w (u16.w (u15.w (u14.w (u13.w (u12.w (u11.w (u10.w (u9.w (u8.w (u7.w (u6.w (u5.w (u4.w (u3.w (u2.w (u1.w h2_0)))))))))))))))))))))
 refine tree_take (j := 9) rfl (by kernel_rfl) (by kernel_rfl) (by kernel_rfl) (fun w hw => ex_mv h2_22) (⟨Bb_2, Bg_2⟩) F22.l fun a23 u23 h38_23 => ?_
 have F23 := F22.pt u23
 have h3_23 := u23.w (u22.w (u21.w (u20.w (u19.w (u18.w (u17.w (u16.w (u15.w (u14.w (u13.w (u12.w (u11.w (u10.w (u9.w (u8.w (u7.w (u6.w (u5.w (u4.w (u3.w (u2.w (u1.w h3_0))))))))))))))))))))))
 refine tree_take (j := 10) rfl (by kernel_rfl) (by kernel_rfl) (by kernel_rfl) (fun w hw => ex_mv h3_23) (⟨Bb_2, Bg_2⟩) F23.l fun a24 u24 h39_24 => ?_
 have F24 := F23.pt u24
 have h4_24 := u24.w (u23.w (u22.w (u21.w (u20.w (u19.w (u18.w (u17.w (u16.w (u15.w (u14.w (u13.w (u12.w (u11.w (u10.w (u9.w (u8.w (u7.w h4_6)))))))))))))))))
 refine tree_take (j := 11) rfl (by kernel_rfl) (by kernel_rfl) (by kernel_rfl) (fun w hw => ex_mv h4_24) (⟨Bb_2, Bg_2⟩) F24.l fun a25 u25 h40_25 => ?_
 have F25 := F24.pt u25
 have h5_25 := u25.w (u24.w (u23.w (u22.w (u21.w (u20.w (u19.w (u18.w (u17.w (u16.w (u15.w (u14.w (u13.w (u12.w (u11.w (u10.w (u9.w (u8.w (u7.w (u6.w (u5.w (u4.w (u3.w (u2.w (u1.w h5_0))))))))))))))))))))))))
 refine tree_take (j := 12) rfl (by kernel_rfl) (by kernel_rfl) (by kernel_rfl) (fun w hw => ex_mv h5_25) (⟨Bb_2, Bg_2⟩) F25.l fun a26 u26 h41_26 => ?_
 have F26 := F25.pt u26
 have h37_26 := u26.w (u25.w (u24.w (u23.w h37_22)))
 have h38_26 := u26.w (u25.w (u24.w h38_23))
 refine tree_take (j := 13) rfl (by kernel_rfl) (by kernel_rfl) (by kernel_rfl) (fun w hw => ex_bd (w' := w) (vs :=  #[(0, (.string q.me)), (1, (.string q.uri)), (2, (.string q.iv)), (3, (.string q.fo)), (4, (.string q.ve))]) (v := (.agg #[(.string q.me), (.string q.uri), (.string q.iv), (.string q.fo), (.string q.ve)])) (by have e0 : a26.eval (.tmp 37) = (.string q.me) := h37_26; have e1 : a26.eval (.tmp 38) = (.string q.uri) := h38_26; have e2 : a26.eval (.tmp 39) = (.string q.iv) := (u26.w (u25.w h39_24)); have e3 : a26.eval (.tmp 40) = (.string q.fo) := (u26.w h40_25); have e4 : a26.eval (.tmp 41) = (.string q.ve) := h41_26; simp only [List.map_toArray, List.map_cons, List.map_nil, e0, e1, e2, e3, e4]) (by kernel_rfl)) (⟨Bb_2, Bg_2⟩) F26.l fun a27 u27 h42_27 => ?_
 have F27 := F26.pt u27
 refine tree2 (j := 5) (k := 14) (by kernel_rfl) ?_ ?_
 · have h33_27 := u27.w (u26.w (u25.w (u24.w (u23.w (u22.w h33_21)))))
   refine tk_cl (args := #[(.pointer (some ⟨b, 0, none⟩))]) (R := fun v w' => v = (.int .u64 j) ∧ w2 = w') rfl (ex_cl (fun _ _ => by kernel_rfl) (arg1 h33_27)) ((last_raw (by omega) (by omega) htlt Bb_2).mono fun _ _ h => ⟨_, h.1, by rw [hj], h.2⟩) F27.l ?_
   rintro v w' ⟨rfl, rfl⟩
   refine ⟨⟨Bb_2, Bg_2⟩, ?_⟩
   intro a28 u28 h34_28
   have F28 := F27.pt u28
   have h32_28 := u28.w (u27.w (u26.w (u25.w (u24.w (u23.w (u22.w (u21.w h32_20)))))))
   refine tree_take (j := 6) rfl (by kernel_rfl) (by kernel_rfl) (by kernel_rfl) (fun w hw => ex_ixg (vx := (.slice (some ⟨g, 0, none⟩) d.places d.places)) (vy := (.int .u64 j)) (v := (.pointer (some ⟨g, j, none⟩))) h32_28 h34_28 (ix_pm g d.places j (by omega) _)) (⟨Bb_2, Bg_2⟩) F28.l fun a29 u29 h35_29 => ?_
   have F29 := F28.pt u29
   refine tree_take (j := 7) rfl (by kernel_rfl) (by kernel_rfl) (by kernel_rfl) (fun w hw => ex_le (v := pt m) h35_29 ((hw.2.cell j).trans harr)) (⟨Bb_2, Bg_2⟩) F29.l fun a30 u30 (h36_30 : a30.tmps.getD 36 undef = (.pointer (some ⟨m, 0, none⟩))) => ?_
   have F30 := F29.pt u30
   refine tree1 (j := 14) (by kernel_rfl) ?_
   obtain ⟨gx, hgx⟩ : ∃ g, w2.heap.size = g := ⟨_, rfl⟩
   have ne_g_x : g ≠ gx := by have := Bg_2.lt; omega
   have ne_b_x : b ≠ gx := by have := Bb_2.lt; omega
   have ne_m_x : m ≠ gx := by have := Bm_2.lt; omega
   have ge_x : w0.heap.size ≤ gx := by have := Kp2.size; omega
   obtain ⟨w3, hr3, Bx_3, G3, hs3⟩ := al_run (op := Instr.box 113 (.agg #[(.string q.me), (.string q.uri), (.string q.iv), (.string q.fo), (.string q.ve)])) (T := 113) (cs := #[(.string q.me), (.string q.uri), (.string q.iv), (.string q.fo), (.string q.ve)]) hgx (fun _ => by kernel_rfl)
   have Bg_3 := Bg_2.gn G3
   have Bb_3 := Bb_2.gn G3
   have Bm_3 := Bm_2.gn G3
   have Kp3 := Kp2.new G3
   have h42_30 := u30.w (u29.w (u28.w h42_27))
   refine tk_p rfl (ex_bx h42_30 hr3) (⟨Bb_3, Bg_3⟩) F30.l fun a31 u31 (h43_31 : a31.tmps.getD 43 undef = (.pointer (some ⟨gx, 0, none⟩))) => ?_
   have F31 := F30.pt u31
   clear hgx
   refine tree_take (j := 15) rfl (by kernel_rfl) (by kernel_rfl) (by kernel_rfl) (fun w hw => ex_nil (u31.w h36_30)) (⟨Bb_3, Bg_3⟩) F31.l fun a32 u32 h44_32 => ?_
   have F32 := F31.pt u32
   refine tree_take (j := 16) rfl (by kernel_rfl) (by kernel_rfl) (by kernel_rfl) (fun w hw => ex_fb 6 h44_32) (⟨Bb_3, Bg_3⟩) F32.l fun a33 u33 h45_33 => ?_
   have F33 := F32.pt u33
   refine tree1 (j := 17) (by kernel_rfl) ?_
   obtain ⟨w4, hr4, Bm_4, G4⟩ := st_run (T := 91) (o := 6) (v := (.pointer (some ⟨gx, 0, none⟩))) (cs' := #[(.int .u64 n), (.string L.title), (.string L.uri), (.float .f64 (fb L.e)), (.int .i64 L.li), (.int .i64 L.off), (.pointer (some ⟨gx, 0, none⟩)), (pto mp2), (.bool L.disc), (.pointer none), (.string L.date)]) (fun _ => by kernel_rfl) Bm_3 rfl (Nat.le_of_ble_eq_true rfl) rfl
   have Bg_4 := Bg_3.gk G4 hgm
   have Bb_4 := Bb_3.gk G4 (Ne.symm hmb)
   have Bx_4 := Bx_3.gk G4 (Ne.symm ne_m_x)
   have Kp4 := Kp3.set G4 (Or.inl (by simp))
   refine tk_n rfl (ex_st h45_33 (u33.w (u32.w h43_31)) hr4) (⟨Bb_4, Bg_4⟩) ?_
   refine tree0 (by kernel_rfl) ?_
   change Code.wp _ _ _ _ _
   refine wp_sr ?_
   refine wl_pq F33 (ex_as (v := .nilIface) rfl) fun a34 u34 F34 h12_34 => ?_
   change Code.wp _ _ _ _ _
   refine wp_ret ?_
   obtain ⟨hS, hK⟩ := H.chgm (d' := (d.upd fun L => { L with key := some q }).least 5) (L' := { L with key := some q }) (kp2 := some gx) (mp2 := mp2) Kp4 hm hn Bm0 hBm (by have h := Bb_4; rw [← htl] at h; unfold plC; simp only [WinD.upd_some hL, WinD.least, List.length_set]; exact h) Bm_4 (.mk Bx_4 (Nat.le_trans H.hw ge_x) hq) (hm2.kpn Kp4 hDm) (by simp only [WinD.upd_some hL, WinD.least]) (by simp only [WinD.upd_some hL, WinD.least]) (by simp only [WinD.upd_some hL, WinD.least]) (by simp only [WinD.upd_some hL, WinD.least]) (by simp only [WinD.upd_some hL, WinD.least])
   try simp only [Exit.then, Exit.inBlock]
   exact bodyPost_ret (v := .nilIface) ((results_tmp rfl _ _ _).trans (by rw [h12_34])) F34.defers ⟨rfl, hS, hK⟩
 · obtain ⟨gx, hgx⟩ : ∃ g, w2.heap.size = g := ⟨_, rfl⟩
   have ne_g_x : g ≠ gx := by have := Bg_2.lt; omega
   have ne_b_x : b ≠ gx := by have := Bb_2.lt; omega
   have ne_m_x : m ≠ gx := by have := Bm_2.lt; omega
   have ge_x : w0.heap.size ≤ gx := by have := Kp2.size; omega
   obtain ⟨w3, hr3, Bx_3, G3, hs3⟩ := al_run (op := Instr.box 113 (.agg #[(.string q.me), (.string q.uri), (.string q.iv), (.string q.fo), (.string q.ve)])) (T := 113) (cs := #[(.string q.me), (.string q.uri), (.string q.iv), (.string q.fo), (.string q.ve)]) hgx (fun _ => by kernel_rfl)
   have Bg_3 := Bg_2.gn G3
   have Bb_3 := Bb_2.gn G3
   have Bm_3 := Bm_2.gn G3
   have Kp3 := Kp2.new G3
   refine tk_p rfl (ex_bx h42_27 hr3) (⟨Bb_3, Bg_3⟩) F27.l fun a28 u28 (h43_28 : a28.tmps.getD 43 undef = (.pointer (some ⟨gx, 0, none⟩))) => ?_
   have F28 := F27.pt u28
   clear hgx
   refine tree1 (j := 5) (by kernel_rfl) ?_
   have h33_28 := u28.w (u27.w (u26.w (u25.w (u24.w (u23.w (u22.w h33_21))))))
   refine tk_cl (args := #[(.pointer (some ⟨b, 0, none⟩))]) (R := fun v w' => v = (.int .u64 j) ∧ w3 = w') rfl (ex_cl (fun _ _ => by kernel_rfl) (arg1 h33_28)) ((last_raw (by omega) (by omega) htlt Bb_3).mono fun _ _ h => ⟨_, h.1, by rw [hj], h.2⟩) F28.l ?_
   rintro v w' ⟨rfl, rfl⟩
   refine ⟨⟨Bb_3, Bg_3⟩, ?_⟩
   intro a29 u29 h34_29
   have F29 := F28.pt u29
   have h32_29 := u29.w (u28.w (u27.w (u26.w (u25.w (u24.w (u23.w (u22.w (u21.w h32_20))))))))
   refine tree_take (j := 6) rfl (by kernel_rfl) (by kernel_rfl) (by kernel_rfl) (fun w hw => ex_ixg (vx := (.slice (some ⟨g, 0, none⟩) d.places d.places)) (vy := (.int .u64 j)) (v := (.pointer (some ⟨g, j, none⟩))) h32_29 h34_29 (ix_pm g d.places j (by omega) _)) (⟨Bb_3, Bg_3⟩) F29.l fun a30 u30 h35_30 => ?_
   have F30 := F29.pt u30
   refine tree_take (j := 7) rfl (by kernel_rfl) (by kernel_rfl) (by kernel_rfl) (fun w hw => ex_le (v := pt m) h35_30 ((hw.2.cell j).trans harr)) (⟨Bb_3, Bg_3⟩) F30.l fun a31 u31 (h36_31 : a31.tmps.getD 36 undef = (.pointer (some ⟨m, 0, none⟩))) => ?_
   have F31 := F30.pt u31
   refine tree_take (j := 15) rfl (by kernel_rfl) (by kernel_rfl) (by kernel_rfl) (fun w hw => ex_nil h36_31) (⟨Bb_3, Bg_3⟩) F31.l fun a32 u32 h44_32 => ?_
   have F32 := F31.pt u32
   refine tree_take (j := 16) rfl (by kernel_rfl) (by kernel_rfl) (by kernel_rfl) (fun w hw => ex_fb 6 h44_32) (⟨Bb_3, Bg_3⟩) F32.l fun a33 u33 h45_33 => ?_
   have F33 := F32.pt u33
   refine tree1 (j := 17) (by kernel_rfl) ?_
   obtain ⟨w4, hr4, Bm_4, G4⟩ := st_run (T := 91) (o := 6) (v := (.pointer (some ⟨gx, 0, none⟩))) (cs' := #[(.int .u64 n), (.string L.title), (.string L.uri), (.float .f64 (fb L.e)), (.int .i64 L.li), (.int .i64 L.off), (.pointer (some ⟨gx, 0, none⟩)), (pto mp2), (.bool L.disc), (.pointer none), (.string L.date)]) (fun _ => by kernel_rfl) Bm_3 rfl (Nat.le_of_ble_eq_true rfl) rfl
   have Bg_4 := Bg_3.gk G4 hgm
   have Bb_4 := Bb_3.gk G4 (Ne.symm hmb)
   have Bx_4 := Bx_3.gk G4 (Ne.symm ne_m_x)
   have Kp4 := Kp3.set G4 (Or.inl (by simp))
   have h43_33 := u33.w (u32.w (u31.w (u30.w (u29.w h43_28))))
   refine tk_n rfl (ex_st h45_33 h43_33 hr4) (⟨Bb_4, Bg_4⟩) ?_
   refine tree0 (by kernel_rfl) ?_
   change Code.wp _ _ _ _ _
   refine wp_sr ?_
   refine wl_pq F33 (ex_as (v := .nilIface) rfl) fun a34 u34 F34 h12_34 => ?_
   change Code.wp _ _ _ _ _
   refine wp_ret ?_
   obtain ⟨hS, hK⟩ := H.chgm (d' := (d.upd fun L => { L with key := some q }).least 5) (L' := { L with key := some q }) (kp2 := some gx) (mp2 := mp2) Kp4 hm hn Bm0 hBm (by have h := Bb_4; rw [← htl] at h; unfold plC; simp only [WinD.upd_some hL, WinD.least, List.length_set]; exact h) Bm_4 (.mk Bx_4 (Nat.le_trans H.hw ge_x) hq) (hm2.kpn Kp4 hDm) (by simp only [WinD.upd_some hL, WinD.least]) (by simp only [WinD.upd_some hL, WinD.least]) (by simp only [WinD.upd_some hL, WinD.least]) (by simp only [WinD.upd_some hL, WinD.least]) (by simp only [WinD.upd_some hL, WinD.least])
   try simp only [Exit.then, Exit.inBlock]
   exact bodyPost_ret (v := .nilIface) ((results_tmp rfl _ _ _).trans (by rw [h12_34])) F34.defers ⟨rfl, hS, hK⟩
theorem skey_n {d : WinD} {k B b : Nat} {w0 : World} (hO : d.Ok k) (hk : k ≤ 900) (H : PlS w0 B b d) {q : KeyD} (hq : q.Ok) (hf : q.fo.size = 0) (hv : q.ve.size = 0) (h0 : 0 < d.segs.length) : Calls Tryd.prog 38 #[pt b, .string q.me, .string q.uri, .string q.iv, .string q.fo, .string q.ve] w0 fun e w' => e = .returned .nilIface ∧ PlS w' B b ((d.upd fun L => { L with key := some q })) ∧ Kt B DP w0 w' := by
 obtain ⟨g, hd, ms, kp, mp, arr, H⟩ := H
 obtain ⟨tl, htl⟩ : ∃ tl, (hd + d.segs.length) % d.places = tl := ⟨_, rfl⟩
 have hp1 := hO.p1
 have hp12 := hO.p12
 have hroom := hO.room
 have hseq := hO.seq
 have hhd := H.ring.hlt
 have htlt : tl < d.places := htl ▸ Nat.mod_lt _ (by omega)
 have hgb : g ≠ b := H.row.ne_ H.blk (by decide)
 have Bb_0 : Blk w0 b 104 #[(.float .f64 (fn d.tgt)), (.int .u64 d.seq), (.slice (some ⟨g, 0, none⟩) d.places d.places), (.string ⟨#[]⟩), (.bool d.ifr), (.bool d.clo), (.int .u64 0), (.int .u64 0), (.float .f64 0), (.bool false), (.bool false), (.int .i64 0), (.int .u64 d.written), (.int .u64 d.places), (.int .u64 hd), (.int .u64 tl), (.int .u64 d.segs.length), (.slice none 0 0), (.int .i64 0), (.int .i8 0), (.int .u8 d.ver), (pto kp), (pto mp)] := by
   have h := H.blk
   unfold plC at h
   rw [htl] at h
   exact h
 have Bg_0 := H.row
 have hmsl := H.fms.1
 have hnl := H.fms.2.1
 obtain ⟨m, hm⟩ : ∃ m, ms[d.segs.length - 1]? = some m := ⟨_, List.getElem?_eq_getElem (by omega)⟩
 obtain ⟨L, hL⟩ : ∃ L, d.segs[d.segs.length - 1]? = some L := ⟨_, List.getElem?_eq_getElem (by omega)⟩
 obtain ⟨n, hn⟩ : ∃ n, d.nums[d.segs.length - 1]? = some n := ⟨_, List.getElem?_eq_getElem (by omega)⟩
 have hnk := hO.num n (List.mem_of_getElem? hn)
 obtain ⟨kp2, mp2, hBm, Bm_0, hk2, hm2⟩ := H.fms.2.2 _ L n m hL hn hm
 have Bm0 := Bm_0
 obtain ⟨j, hj⟩ : ∃ j, (if tl = 0 then d.places - 1 else tl - 1) = j := ⟨_, rfl⟩
 have harr : arr[j]? = some (pt m) := by
   have h := H.ring.last (m := m) (by omega) (by rw [hmsl]; exact hm)
   rw [hmsl, htl, hj] at h
   exact h
 have hjlt : j < d.places := by rw [← hj]; split <;> omega
 have hmb : m ≠ b := Bm_0.ne_ H.blk (by decide)
 have hgm : g ≠ m := H.row.ne_ Bm_0 (by decide)
 have hDk : ∀ x, x ∈ [b, m] → ∃ T c, Blk w0 x T c ∧ T ≠ 113 := fun x hx => by
   simp only [List.mem_cons, List.not_mem_nil, or_false] at hx
   rcases hx with rfl | rfl
   · exact ⟨_, _, H.blk, by decide⟩
   · exact ⟨_, _, Bm0, by decide⟩
 have hDm : ∀ x, x ∈ [b, m] → ∃ T c, Blk w0 x T c ∧ T ≠ 115 := fun x hx => by
   simp only [List.mem_cons, List.not_mem_nil, or_false] at hx
   rcases hx with rfl | rfl
   · exact ⟨_, _, H.blk, by decide⟩
   · exact ⟨_, _, Bm0, by decide⟩
 refine calls_of_wp Tryd.func38 rfl ?_
 generalize hA : Act.mk _ _ = a0
 have F0 : Fz 46 a0 := by subst hA; exact ⟨by simp [Tryd.ntmps38], rfl⟩
 have h0_0 : a0.tmps.getD 0 undef = (.pointer (some ⟨b, 0, none⟩)) := by subst hA; exact fr_arg rfl
 have h1_0 : a0.tmps.getD 1 undef = (.string q.me) := by subst hA; exact fr_arg rfl
 have h2_0 : a0.tmps.getD 2 undef = (.string q.uri) := by subst hA; exact fr_arg rfl
 have h3_0 : a0.tmps.getD 3 undef = (.string q.iv) := by subst hA; exact fr_arg rfl
 have h4_0 : a0.tmps.getD 4 undef = (.string q.fo) := by subst hA; exact fr_arg rfl
 have h5_0 : a0.tmps.getD 5 undef = (.string q.ve) := by subst hA; exact fr_arg rfl
 have Kp0 := Kp.refl [b, m] w0
 refine wp_sr ?_
 refine wl_pq F0 (ex_as (v := .nilIface) rfl) fun a1 u1 F1 h12_1 => ?_
 change Code.wp _ _ _ _ _
 refine wp_seq ?_
 refine wp_sr ?_
 refine wl_pq F1 (ex_mv (u1.w h0_0)) fun a2 u2 F2 h13_2 => ?_
 refine wl_pq F2 (ex_nil h13_2) fun a3 u3 F3 h14_3 => ?_
 refine wl_pq F3 (ex_fb 16 h14_3) fun a4 u4 F4 h15_4 => ?_
 refine wl_pq F4 (ex_le (v := (.int .u64 d.segs.length)) h15_4 (Bb_0.cell 16)) fun a5 u5 F5 h16_5 => ?_
 refine wl_pq F5 (ex_bin (vy := (.int .u64 0)) (v := (.bool false)) h16_5 rfl ((uo_eq d.segs.length 0 _).trans (by rw [decide_eq_false (by omega)]))) fun a6 u6 F6 h17_6 => ?_
 change Code.wp _ _ _ _ _
 refine wp_cond_false h17_6 ?_
 refine wp_skip ?_
 change Code.wp _ _ _ _ _
 refine wp_seq ?_
 refine wp_sr ?_
 have h4_6 := u6.w (u5.w (u4.w (u3.w (u2.w (u1.w h4_0)))))
 refine wl_pq F6 (ex_mv h4_6) fun a7 u7 F7 h19_7 => ?_
 refine wl_pq F7 (ex_bin (vy := (.string { data := #[] })) (v := (.bool false)) h19_7 rfl (bo_nes0 _ hf _)) fun a8 u8 F8 h20_8 => ?_
 refine wl_pq F8 (ex_mv h20_8) fun a9 u9 F9 h21_9 => ?_
 have h5_9 := u9.w (u8.w (u7.w (u6.w (u5.w (u4.w (u3.w (u2.w (u1.w h5_0))))))))
 refine wl_gq F9 (yl (e := 21) rfl h21_9) (ex_mv h5_9) fun a10 u10 F10 h22_10 => ?_
 refine wl_gq F10 (yl (e := 21) rfl (u10.w h21_9)) (ex_bin (vy := (.string { data := #[] })) (v := (.bool false)) h22_10 rfl (bo_nes0 _ hv _)) fun a11 u11 F11 h23_11 => ?_
 refine wl_pq F11 (ex_pick (q := false) (u11.w (u10.w h21_9)) h23_11) fun a12 u12 F12 h24_12 => ?_
 change Code.wp _ _ _ _ _
 refine wp_cond_false h24_12 ?_
 refine wp_skip ?_
 change Code.wp _ _ _ _ _
 refine wp_seq ?_
 obtain ⟨w1, hw1⟩ : ∃ w, w = w0.drew := ⟨_, rfl⟩
 have G1 : w0.grownBy w1 none := hw1 ▸ grown_drew _
 have Bg_1 := Bg_0.gn G1
 have Bb_1 := Bb_0.gn G1
 have Bm_1 := Bm_0.gn G1
 have Kp1 := Kp0.new G1
 refine rg_tree (S := fun w' => Blk w' b 104 #[(.float .f64 (fn d.tgt)), (.int .u64 d.seq), (.slice (some ⟨g, 0, none⟩) d.places d.places), (.string ⟨#[]⟩), (.bool d.ifr), (.bool d.clo), (.int .u64 0), (.int .u64 0), (.float .f64 0), (.bool false), (.bool false), (.int .i64 0), (.int .u64 d.written), (.int .u64 d.places), (.int .u64 hd), (.int .u64 tl), (.int .u64 d.segs.length), (.slice none 0 0), (.int .i64 0), (.int .i8 0), (.int .u8 d.ver), (pto kp), (pto mp)] ∧ Blk w' g 90 arr) [] 18 hw1 ⟨rfl, by decide⟩ hmix (by kernel_rfl) (by kernel_rfl) (⟨Bb_1, Bg_1⟩) ?_
 have h0_12 := u12.w (u11.w (u10.w (u9.w (u8.w (u7.w (u6.w (u5.w (u4.w (u3.w (u2.w (u1.w h0_0)))))))))))
 refine tree_take (j := 0) rfl (by kernel_rfl) (by kernel_rfl) (by kernel_rfl) (fun w hw => ex_mv h0_12) (⟨Bb_1, Bg_1⟩) F12.l fun a13 u13 h29_13 => ?_
 have F13 := F12.pt u13
 refine tree_take (j := 1) rfl (by kernel_rfl) (by kernel_rfl) (by kernel_rfl) (fun w hw => ex_nil h29_13) (⟨Bb_1, Bg_1⟩) F13.l fun a14 u14 h30_14 => ?_
 have F14 := F13.pt u14
 refine tree_take (j := 2) rfl (by kernel_rfl) (by kernel_rfl) (by kernel_rfl) (fun w hw => ex_fb 2 h30_14) (⟨Bb_1, Bg_1⟩) F14.l fun a15 u15 h31_15 => ?_
 have F15 := F14.pt u15
 refine tree_take (j := 3) rfl (by kernel_rfl) (by kernel_rfl) (by kernel_rfl) (fun w hw => ex_le (v := (.slice (some ⟨g, 0, none⟩) d.places d.places)) h31_15 (hw.1.cell 2)) (⟨Bb_1, Bg_1⟩) F15.l fun a16 u16 h32_16 => ?_
 have F16 := F15.pt u16
 have h0_16 := u16.w (u15.w (u14.w (u13.w h0_12)))
 refine tree_take (j := 4) rfl (by kernel_rfl) (by kernel_rfl) (by kernel_rfl) (fun w hw => ex_mv h0_16) (⟨Bb_1, Bg_1⟩) F16.l fun a17 u17 h33_17 => ?_
 have F17 := F16.pt u17
 have h1_17 := u17.w (u16.w (u15.w (u14.w (u13.w (u12.w (u11.w (u10.w (u9.w (u8.w (u7.w (u6.w (u5.w (u4.w (u3.w (u2.w (u1.w h1_0))))))))))))))))
 refine tree_take (j := 8) rfl (by kernel_rfl) (by kernel_rfl) (by kernel_rfl) (fun w hw => ex_mv h1_17) (⟨Bb_1, Bg_1⟩) F17.l fun a18 u18 h37_18 => ?_
 have F18 := F17.pt u18
 have h2_18 := u18.w (u17.w (u16.w (u15.w (u14.w (u13.w (u12.w (u11.w (u10.w (u9.w (u8.w (u7.w (u6.w (u5.w (u4.w (u3.w (u2.w (u1.w h2_0)))))))))))))))))
 refine tree_take (j := 9) rfl (by kernel_rfl) (by kernel_rfl) (by kernel_rfl) (fun w hw => ex_mv h2_18) (⟨Bb_1, Bg_1⟩) F18.l fun a19 u19 h38_19 => ?_
 have F19 := F18.pt u19
 have h3_19 := u19.w (u18.w (u17.w (u16.w (u15.w (u14.w (u13.w (u12.w (u11.w (u10.w (u9.w (u8.w (u7.w (u6.w (u5.w (u4.w (u3.w (u2.w (u1.w h3_0))))))))))))))))))
 refine tree_take (j := 10) rfl (by kernel_rfl) (by kernel_rfl) (by kernel_rfl) (fun w hw => ex_mv h3_19) (⟨Bb_1, Bg_1⟩) F19.l fun a20 u20 h39_20 => ?_
 have F20 := F19.pt u20
 have h4_20 := u20.w (u19.w (u18.w (u17.w (u16.w (u15.w (u14.w (u13.w (u12.w (u11.w (u10.w (u9.w (u8.w (u7.w h4_6)))))))))))))
 refine tree_take (j := 11) rfl (by kernel_rfl) (by kernel_rfl) (by kernel_rfl) (fun w hw => ex_mv h4_20) (⟨Bb_1, Bg_1⟩) F20.l fun a21 u21 h40_21 => ?_
 have F21 := F20.pt u21
 have h5_21 := u21.w (u20.w (u19.w (u18.w (u17.w (u16.w (u15.w (u14.w (u13.w (u12.w (u11.w (u10.w h5_9)))))))))))
 refine tree_take (j := 12) rfl (by kernel_rfl) (by kernel_rfl) (by kernel_rfl) (fun w hw => ex_mv h5_21) (⟨Bb_1, Bg_1⟩) F21.l fun a22 u22 h41_22 => ?_
 have F22 := F21.pt u22
 have h37_22 := u22.w (u21.w (u20.w (u19.w h37_18)))
 have h38_22 := u22.w (u21.w (u20.w h38_19))
 refine tree_take (j := 13) rfl (by kernel_rfl) (by kernel_rfl) (by kernel_rfl) (fun w hw => ex_bd (w' := w) (vs :=  #[(0, (.string q.me)), (1, (.string q.uri)), (2, (.string q.iv)), (3, (.string q.fo)), (4, (.string q.ve))]) (v := (.agg #[(.string q.me), (.string q.uri), (.string q.iv), (.string q.fo), (.string q.ve)])) (by have e0 : a22.eval (.tmp 37) = (.string q.me) := h37_22; have e1 : a22.eval (.tmp 38) = (.string q.uri) := h38_22; have e2 : a22.eval (.tmp 39) = (.string q.iv) := (u22.w (u21.w h39_20)); have e3 : a22.eval (.tmp 40) = (.string q.fo) := (u22.w h40_21); have e4 : a22.eval (.tmp 41) = (.string q.ve) := h41_22; simp only [List.map_toArray, List.map_cons, List.map_nil, e0, e1, e2, e3, e4]) (by kernel_rfl)) (⟨Bb_1, Bg_1⟩) F22.l fun a23 u23 h42_23 => ?_
 have F23 := F22.pt u23
 refine tree2 (j := 5) (k := 14) (by kernel_rfl) ?_ ?_
 · have h33_23 := u23.w (u22.w (u21.w (u20.w (u19.w (u18.w h33_17)))))
   refine tk_cl (args := #[(.pointer (some ⟨b, 0, none⟩))]) (R := fun v w' => v = (.int .u64 j) ∧ w1 = w') rfl (ex_cl (fun _ _ => by kernel_rfl) (arg1 h33_23)) ((last_raw (by omega) (by omega) htlt Bb_1).mono fun _ _ h => ⟨_, h.1, by rw [hj], h.2⟩) F23.l ?_
   rintro v w' ⟨rfl, rfl⟩
   refine ⟨⟨Bb_1, Bg_1⟩, ?_⟩
   intro a24 u24 h34_24
   have F24 := F23.pt u24
   have h32_24 := u24.w (u23.w (u22.w (u21.w (u20.w (u19.w (u18.w (u17.w h32_16)))))))
   refine tree_take (j := 6) rfl (by kernel_rfl) (by kernel_rfl) (by kernel_rfl) (fun w hw => ex_ixg (vx := (.slice (some ⟨g, 0, none⟩) d.places d.places)) (vy := (.int .u64 j)) (v := (.pointer (some ⟨g, j, none⟩))) h32_24 h34_24 (ix_pm g d.places j (by omega) _)) (⟨Bb_1, Bg_1⟩) F24.l fun a25 u25 h35_25 => ?_
   have F25 := F24.pt u25
   refine tree_take (j := 7) rfl (by kernel_rfl) (by kernel_rfl) (by kernel_rfl) (fun w hw => ex_le (v := pt m) h35_25 ((hw.2.cell j).trans harr)) (⟨Bb_1, Bg_1⟩) F25.l fun a26 u26 (h36_26 : a26.tmps.getD 36 undef = (.pointer (some ⟨m, 0, none⟩))) => ?_
   have F26 := F25.pt u26
   refine tree1 (j := 14) (by kernel_rfl) ?_
   obtain ⟨gx, hgx⟩ : ∃ g, w1.heap.size = g := ⟨_, rfl⟩
   have ne_g_x : g ≠ gx := by have := Bg_1.lt; omega
   have ne_b_x : b ≠ gx := by have := Bb_1.lt; omega
   have ne_m_x : m ≠ gx := by have := Bm_1.lt; omega
   have ge_x : w0.heap.size ≤ gx := by have := Kp1.size; omega
   obtain ⟨w2, hr2, Bx_2, G2, hs2⟩ := al_run (op := Instr.box 113 (.agg #[(.string q.me), (.string q.uri), (.string q.iv), (.string q.fo), (.string q.ve)])) (T := 113) (cs := #[(.string q.me), (.string q.uri), (.string q.iv), (.string q.fo), (.string q.ve)]) hgx (fun _ => by kernel_rfl)
   have Bg_2 := Bg_1.gn G2
   have Bb_2 := Bb_1.gn G2
   have Bm_2 := Bm_1.gn G2
   have Kp2 := Kp1.new G2
   have h42_26 := u26.w (u25.w (u24.w h42_23))
   refine tk_p rfl (ex_bx h42_26 hr2) (⟨Bb_2, Bg_2⟩) F26.l fun a27 u27 (h43_27 : a27.tmps.getD 43 undef = (.pointer (some ⟨gx, 0, none⟩))) => ?_
   have F27 := F26.pt u27
   clear hgx
   refine tree_take (j := 15) rfl (by kernel_rfl) (by kernel_rfl) (by kernel_rfl) (fun w hw => ex_nil (u27.w h36_26)) (⟨Bb_2, Bg_2⟩) F27.l fun a28 u28 h44_28 => ?_
   have F28 := F27.pt u28
   refine tree_take (j := 16) rfl (by kernel_rfl) (by kernel_rfl) (by kernel_rfl) (fun w hw => ex_fb 6 h44_28) (⟨Bb_2, Bg_2⟩) F28.l fun a29 u29 h45_29 => ?_
   have F29 := F28.pt u29
   refine tree1 (j := 17) (by kernel_rfl) ?_
   obtain ⟨w3, hr3, Bm_3, G3⟩ := st_run (T := 91) (o := 6) (v := (.pointer (some ⟨gx, 0, none⟩))) (cs' := #[(.int .u64 n), (.string L.title), (.string L.uri), (.float .f64 (fb L.e)), (.int .i64 L.li), (.int .i64 L.off), (.pointer (some ⟨gx, 0, none⟩)), (pto mp2), (.bool L.disc), (.pointer none), (.string L.date)]) (fun _ => by kernel_rfl) Bm_2 rfl (Nat.le_of_ble_eq_true rfl) rfl
   have Bg_3 := Bg_2.gk G3 hgm
   have Bb_3 := Bb_2.gk G3 (Ne.symm hmb)
   have Bx_3 := Bx_2.gk G3 (Ne.symm ne_m_x)
   have Kp3 := Kp2.set G3 (Or.inl (by simp))
   refine tk_n rfl (ex_st h45_29 (u29.w (u28.w h43_27)) hr3) (⟨Bb_3, Bg_3⟩) ?_
   refine tree0 (by kernel_rfl) ?_
   change Code.wp _ _ _ _ _
   refine wp_sr ?_
   refine wl_pq F29 (ex_as (v := .nilIface) rfl) fun a30 u30 F30 h12_30 => ?_
   change Code.wp _ _ _ _ _
   refine wp_ret ?_
   obtain ⟨hS, hK⟩ := H.chgm (d' := (d.upd fun L => { L with key := some q })) (L' := { L with key := some q }) (kp2 := some gx) (mp2 := mp2) Kp3 hm hn Bm0 hBm (by have h := Bb_3; rw [← htl] at h; unfold plC; simp only [WinD.upd_some hL, WinD.least, List.length_set]; exact h) Bm_3 (.mk Bx_3 (Nat.le_trans H.hw ge_x) hq) (hm2.kpn Kp3 hDm) (by simp only [WinD.upd_some hL, WinD.least]) (by simp only [WinD.upd_some hL, WinD.least]) (by simp only [WinD.upd_some hL, WinD.least]) (by simp only [WinD.upd_some hL, WinD.least]) (by simp only [WinD.upd_some hL, WinD.least])
   try simp only [Exit.then, Exit.inBlock]
   exact bodyPost_ret (v := .nilIface) ((results_tmp rfl _ _ _).trans (by rw [h12_30])) F30.defers ⟨rfl, hS, hK⟩
 · obtain ⟨gx, hgx⟩ : ∃ g, w1.heap.size = g := ⟨_, rfl⟩
   have ne_g_x : g ≠ gx := by have := Bg_1.lt; omega
   have ne_b_x : b ≠ gx := by have := Bb_1.lt; omega
   have ne_m_x : m ≠ gx := by have := Bm_1.lt; omega
   have ge_x : w0.heap.size ≤ gx := by have := Kp1.size; omega
   obtain ⟨w2, hr2, Bx_2, G2, hs2⟩ := al_run (op := Instr.box 113 (.agg #[(.string q.me), (.string q.uri), (.string q.iv), (.string q.fo), (.string q.ve)])) (T := 113) (cs := #[(.string q.me), (.string q.uri), (.string q.iv), (.string q.fo), (.string q.ve)]) hgx (fun _ => by kernel_rfl)
   have Bg_2 := Bg_1.gn G2
   have Bb_2 := Bb_1.gn G2
   have Bm_2 := Bm_1.gn G2
   have Kp2 := Kp1.new G2
   refine tk_p rfl (ex_bx h42_23 hr2) (⟨Bb_2, Bg_2⟩) F23.l fun a24 u24 (h43_24 : a24.tmps.getD 43 undef = (.pointer (some ⟨gx, 0, none⟩))) => ?_
   have F24 := F23.pt u24
   clear hgx
   refine tree1 (j := 5) (by kernel_rfl) ?_
   have h33_24 := u24.w (u23.w (u22.w (u21.w (u20.w (u19.w (u18.w h33_17))))))
   refine tk_cl (args := #[(.pointer (some ⟨b, 0, none⟩))]) (R := fun v w' => v = (.int .u64 j) ∧ w2 = w') rfl (ex_cl (fun _ _ => by kernel_rfl) (arg1 h33_24)) ((last_raw (by omega) (by omega) htlt Bb_2).mono fun _ _ h => ⟨_, h.1, by rw [hj], h.2⟩) F24.l ?_
   rintro v w' ⟨rfl, rfl⟩
   refine ⟨⟨Bb_2, Bg_2⟩, ?_⟩
   intro a25 u25 h34_25
   have F25 := F24.pt u25
   have h32_25 := u25.w (u24.w (u23.w (u22.w (u21.w (u20.w (u19.w (u18.w (u17.w h32_16))))))))
   refine tree_take (j := 6) rfl (by kernel_rfl) (by kernel_rfl) (by kernel_rfl) (fun w hw => ex_ixg (vx := (.slice (some ⟨g, 0, none⟩) d.places d.places)) (vy := (.int .u64 j)) (v := (.pointer (some ⟨g, j, none⟩))) h32_25 h34_25 (ix_pm g d.places j (by omega) _)) (⟨Bb_2, Bg_2⟩) F25.l fun a26 u26 h35_26 => ?_
   have F26 := F25.pt u26
   refine tree_take (j := 7) rfl (by kernel_rfl) (by kernel_rfl) (by kernel_rfl) (fun w hw => ex_le (v := pt m) h35_26 ((hw.2.cell j).trans harr)) (⟨Bb_2, Bg_2⟩) F26.l fun a27 u27 (h36_27 : a27.tmps.getD 36 undef = (.pointer (some ⟨m, 0, none⟩))) => ?_
   have F27 := F26.pt u27
   refine tree_take (j := 15) rfl (by kernel_rfl) (by kernel_rfl) (by kernel_rfl) (fun w hw => ex_nil h36_27) (⟨Bb_2, Bg_2⟩) F27.l fun a28 u28 h44_28 => ?_
   have F28 := F27.pt u28
   refine tree_take (j := 16) rfl (by kernel_rfl) (by kernel_rfl) (by kernel_rfl) (fun w hw => ex_fb 6 h44_28) (⟨Bb_2, Bg_2⟩) F28.l fun a29 u29 h45_29 => ?_
   have F29 := F28.pt u29
   refine tree1 (j := 17) (by kernel_rfl) ?_
   obtain ⟨w3, hr3, Bm_3, G3⟩ := st_run (T := 91) (o := 6) (v := (.pointer (some ⟨gx, 0, none⟩))) (cs' := #[(.int .u64 n), (.string L.title), (.string L.uri), (.float .f64 (fb L.e)), (.int .i64 L.li), (.int .i64 L.off), (.pointer (some ⟨gx, 0, none⟩)), (pto mp2), (.bool L.disc), (.pointer none), (.string L.date)]) (fun _ => by kernel_rfl) Bm_2 rfl (Nat.le_of_ble_eq_true rfl) rfl
   have Bg_3 := Bg_2.gk G3 hgm
   have Bb_3 := Bb_2.gk G3 (Ne.symm hmb)
   have Bx_3 := Bx_2.gk G3 (Ne.symm ne_m_x)
   have Kp3 := Kp2.set G3 (Or.inl (by simp))
   have h43_29 := u29.w (u28.w (u27.w (u26.w (u25.w h43_24))))
   refine tk_n rfl (ex_st h45_29 h43_29 hr3) (⟨Bb_3, Bg_3⟩) ?_
   refine tree0 (by kernel_rfl) ?_
   change Code.wp _ _ _ _ _
   refine wp_sr ?_
   refine wl_pq F29 (ex_as (v := .nilIface) rfl) fun a30 u30 F30 h12_30 => ?_
   change Code.wp _ _ _ _ _
   refine wp_ret ?_
   obtain ⟨hS, hK⟩ := H.chgm (d' := (d.upd fun L => { L with key := some q })) (L' := { L with key := some q }) (kp2 := some gx) (mp2 := mp2) Kp3 hm hn Bm0 hBm (by have h := Bb_3; rw [← htl] at h; unfold plC; simp only [WinD.upd_some hL, WinD.least, List.length_set]; exact h) Bm_3 (.mk Bx_3 (Nat.le_trans H.hw ge_x) hq) (hm2.kpn Kp3 hDm) (by simp only [WinD.upd_some hL, WinD.least]) (by simp only [WinD.upd_some hL, WinD.least]) (by simp only [WinD.upd_some hL, WinD.least]) (by simp only [WinD.upd_some hL, WinD.least]) (by simp only [WinD.upd_some hL, WinD.least])
   try simp only [Exit.then, Exit.inBlock]
   exact bodyPost_ret (v := .nilIface) ((results_tmp rfl _ _ _).trans (by rw [h12_30])) F30.defers ⟨rfl, hS, hK⟩
end Go.Proofs.YtdpebhlkgmopkaaDoor
