/-
 FnSteps: the library's playlist: appending and sliding.
-/
import Derived.Test.YtdpebhlkgmopkaaDoorPlq
namespace Go.Proofs.YtdpebhlkgmopkaaDoor
open Go.RowKit
set_option maxRecDepth 100000
/-- a playlist of which q is no segment -/
def PlQ (w : World) (B b : Nat) (d : WinD) (q : Nat) : Prop := ∃ g hd ms kp mp arr, PlP w B b d g hd ms kp mp arr ∧ q ∉ ms
section
variable {w w' : World} {B b g hd q n : Nat} {d d' : WinD} {s : SegD} {ms : List Nat} {segs : List SegD} {nums : List Nat} {kp mp kq mq : Option Nat} {arr cs cq : Array Value}
theorem PlQ.toS (H : PlQ w B b d q) : PlS w B b d := by
 obtain ⟨g, hd, ms, kp, mp, arr, H, _⟩ := H
 exact ⟨g, hd, ms, kp, mp, arr, H⟩
theorem MsAt.lt (h : MsAt w B ms segs nums) {m : Nat} (hm : m ∈ ms) : m < w.heap.size := by
 obtain ⟨i, hi⟩ := List.mem_iff_getElem?.1 hm
 have h1 := (List.getElem?_eq_some_iff.1 hi).1
 obtain ⟨kp, mp, _, hb, _⟩ := h.2.2 i _ _ m (List.getElem?_eq_getElem (by rw [← h.1]; exact h1)) (List.getElem?_eq_getElem (by rw [h.2.1, ← h.1]; exact h1)) hi
 exact hb.lt
theorem PlS.toQ (H : PlS w B b d) (G : w.grownBy w' none) (hq : w.heap.size ≤ q) : PlQ w' B b d q := by
 obtain ⟨g, hd, ms, kp, mp, arr, H⟩ := H
 exact ⟨g, hd, ms, kp, mp, arr, H.gn G, fun hm => by have := H.fms.lt hm; omega⟩
theorem PlQ.gn (H : PlQ w B b d q) (G : w.grownBy w' none) : PlQ w' B b d q := by
 obtain ⟨g, hd, ms, kp, mp, arr, H, hq⟩ := H
 exact ⟨g, hd, ms, kp, mp, arr, H.gn G, hq⟩
/-- a block that is no segment of the playlist changes -/
theorem MsAt.kpq (h : MsAt w B ms segs nums) (K : Kp [b, g, q] w w') (hbb : Blk w b 104 cs) (hgb : Blk w g 90 arr) (hqb : Blk w q 95 cq) (hq : q ∉ ms) : MsAt w' B ms segs nums := by
 have hD : ∀ x, x ∈ [b, g, q] → ∃ T c, Blk w x T c ∧ T ≠ 113 ∧ T ≠ 115 := fun x hx => by
   simp only [List.mem_cons, List.not_mem_nil, or_false] at hx
   rcases hx with rfl | rfl | rfl
   · exact ⟨_, _, hbb, by decide, by decide⟩
   · exact ⟨_, _, hgb, by decide, by decide⟩
   · exact ⟨_, _, hqb, by decide, by decide⟩
 refine ⟨h.1, h.2.1, fun i s n m h1 h2 h3 => ?_⟩
 obtain ⟨kp, mp, h4, h5, h6, h7⟩ := h.2.2 i s n m h1 h2 h3
 refine ⟨kp, mp, h4, h5.kp K ?_, h6.kpn K (fun x hx => ?_), h7.kpn K (fun x hx => ?_)⟩
 · simp only [List.mem_cons, List.not_mem_nil, or_false, not_or]
   exact ⟨h5.ne_ hbb (by decide), h5.ne_ hgb (by decide), fun e => hq (e ▸ List.mem_of_getElem? h3)⟩
 · obtain ⟨T, c, h1, h2, _⟩ := hD x hx; exact ⟨T, c, h1, h2⟩
 · obtain ⟨T, c, h1, _, h2⟩ := hD x hx; exact ⟨T, c, h1, h2⟩
theorem PlP.app {tl : Nat} (H : PlP w B b d g hd ms kp mp arr) (hq : q ∉ ms) (K : Kp [b, g, q] w w') (hqb : Blk w q 95 cq) (hBq : B ≤ q) (htl : (hd + d.segs.length) % d.places = tl) (hroom : d.segs.length < d.places)
   (hB : Blk w' b 104 (plC d' g hd kp mp)) (hG : Blk w' g 90 (arr.setIfInBounds tl (pt q))) (hQ : Blk w' q 95 (segC n s kq mq)) (hkq : KeyP w B kq s.key) (hmq : MapP w B mq s.map)
   (hs : d'.segs = d.segs ++ [s]) (hn : d'.nums = d.nums ++ [n]) (hp : d'.places = d.places) (hk : d'.key = d.key) (hm : d'.map = d.map) : PlS w' B b d' ∧ Kt B DP w w' := by
 have hx : ∀ x, x ∈ [b, g, q] → x = b ∨ x = g ∨ x = q := fun x h => by simpa using h
 have hDk : ∀ x, x ∈ [b, g, q] → ∃ T c, Blk w x T c ∧ T ≠ 113 := fun x h => by rcases hx x h with rfl | rfl | rfl; exact ⟨_, _, H.blk, by decide⟩; exact ⟨_, _, H.row, by decide⟩; exact ⟨_, _, hqb, by decide⟩
 have hDm : ∀ x, x ∈ [b, g, q] → ∃ T c, Blk w x T c ∧ T ≠ 115 := fun x h => by rcases hx x h with rfl | rfl | rfl; exact ⟨_, _, H.blk, by decide⟩; exact ⟨_, _, H.row, by decide⟩; exact ⟨_, _, hqb, by decide⟩
 refine ⟨⟨g, hd, ms ++ [q], kp, mp, _, hB, ?_, ?_, hG, ?_, ?_, H.hb, H.hg, Nat.le_trans H.hw K.size, H.ev.ofkp K (fun x h => by rcases hx x h with rfl | rfl | rfl; exact H.hb; exact H.hg; exact hBq) H.hw H.lo, H.lo⟩, Kt.of_kp K H.hw (fun x h => by rcases hx x h with rfl | rfl | rfl; exact ⟨H.hb, _, _, H.blk, by decide⟩; exact ⟨H.hg, _, _, H.row, by decide⟩; exact ⟨hBq, _, _, hqb, by decide⟩)⟩
 · rw [hk]; exact H.fkey.kpn K hDk
 · rw [hm]; exact H.fmap.kpn K hDm
 · have h := H.ring.push (q := q) (by rw [H.fms.1]; exact hroom) hq
   rw [H.fms.1, htl] at h
   rw [hp]; exact h
 · rw [hs, hn]
   exact (H.fms.kpq K H.blk H.row hqb hq).push hBq hQ (hkq.kpn K hDk) (hmq.kpn K hDm)
end
theorem app_full {d : WinD} {k B b q : Nat} {s : SegD} {kq mq : Option Nat} {w0 : World} (hO : d.Ok k) (hk : k ≤ 900) (H : PlQ w0 B b d q) (hse : s.e < 160) (hBq : B ≤ q) (Bq_0 : Blk w0 q 95 (segC 0 s kq mq)) (hkq : KeyP w0 B kq s.key) (hmqq : MapP w0 B mq s.map) (hf : d.segs.length = d.places) : Calls Tryd.prog 34 #[pt b, pt q] w0 fun e w' => ∃ t p, e = .returned (.iface t p) ∧ PlS w' B b d ∧ Kt B DP w0 w' := by
 obtain ⟨g, hd, ms, kp, mp, arr, H, hq⟩ := H
 obtain ⟨tl, htl⟩ : ∃ tl, (hd + d.segs.length) % d.places = tl := ⟨_, rfl⟩
 have hp1 := hO.p1
 have hp12 := hO.p12
 have hroom := hO.room
 have hseq := hO.seq
 have hhd := H.ring.hlt
 have htlt : tl < d.places := htl ▸ Nat.mod_lt _ (by omega)
 have hgb : g ≠ b := H.row.ne_ H.blk (by decide)
 have Bb_0 : Blk w0 b 104 #[(.float .f64 (fn d.tgt)), (.int .u64 d.seq), (.slice (some ⟨g, 0, none⟩) d.places d.places), (.string ⟨#[]⟩), (.bool d.ifr), (.bool d.clo), (.int .u64 0), (.int .u64 0), (.float .f64 0), (.bool false), (.bool false), (.int .i64 0), (.int .u64 d.written), (.int .u64 d.places), (.int .u64 hd), (.int .u64 tl), (.int .u64 d.segs.length), (.slice none 0 0), (.int .i64 0), (.int .i8 0), (.int .u8 d.ver), (pto kp), (pto mp)] := by
   have h := H.blk
   unfold plC at h
   rw [htl] at h
   exact h
 have Bg_0 := H.row
 have hin : tl < arr.size := by rw [H.ring.size]; exact htlt
 have htg := hO.tgt
 have hqb : q ≠ b := Bq_0.ne_ H.blk (by decide)
 have hgq : g ≠ q := H.row.ne_ Bq_0 (by decide)
 have Bq0 := Bq_0
 have hmsl := H.fms.1
 have htl0 : hd = tl := by
   have h := (H.ring.full (by rw [hmsl]; omega)).2 (by rw [hmsl]; exact hf)
   rw [hmsl, htl] at h
   exact h
 refine calls_of_wp Tryd.func34 rfl ?_
 generalize hA : Act.mk _ _ = a0
 have F0 : Fz 113 a0 := by subst hA; exact ⟨by simp [Tryd.ntmps34], rfl⟩
 have h0_0 : a0.tmps.getD 0 undef = (.pointer (some ⟨b, 0, none⟩)) := by subst hA; exact fr_arg rfl
 have h1_0 : a0.tmps.getD 1 undef = (.pointer (some ⟨q, 0, none⟩)) := by subst hA; exact fr_arg rfl
 have Kp0 := Kp.refl [b, g, q] w0
 have H_0 := H
 have Q_0 := grown_refl w0 none
 refine wp_sr ?_
 refine wl_pq F0 (ex_as (v := .nilIface) rfl) fun a1 u1 F1 h4_1 => ?_
 change Code.wp _ _ _ _ _
 refine wp_seq ?_
 refine wp_seq ?_
 obtain ⟨w1, hw1⟩ : ∃ w, w = w0.drew := ⟨_, rfl⟩
 have G1 : w0.grownBy w1 none := hw1 ▸ grown_drew _
 have Bg_1 := Bg_0.gn G1
 have Bb_1 := Bb_0.gn G1
 have Bq_1 := Bq_0.gn G1
 have Kp1 := Kp0.new G1
 have H_1 := H_0.gn G1
 have Q_1 := grown_trans Q_0 G1
 refine rg_still hw1 hmix (by kernel_rfl) ?_
 clear H_0 Q_0
 refine st_pq F1 (ex_mv (u1.w h0_0)) fun a2 u2 F2 h5_2 => ?_
 refine st_pq F2 (ex_nil h5_2) fun a3 u3 F3 h6_3 => ?_
 refine st_pq F3 (ex_fb 14 h6_3) fun a4 u4 F4 h7_4 => ?_
 refine st_pq F4 (ex_le (v := (.int .u64 hd)) h7_4 (Bb_1.cell 14)) fun a5 u5 F5 h8_5 => ?_
 have h0_5 := u5.w (u4.w (u3.w (u2.w (u1.w h0_0))))
 refine st_pq F5 (ex_mv h0_5) fun a6 u6 F6 h9_6 => ?_
 refine st_pq F6 (ex_nil h9_6) fun a7 u7 F7 h10_7 => ?_
 refine st_pq F7 (ex_fb 15 h10_7) fun a8 u8 F8 h11_8 => ?_
 refine st_pq F8 (ex_le (v := (.int .u64 tl)) h11_8 (Bb_1.cell 15)) fun a9 u9 F9 h12_9 => ?_
 have h8_9 := u9.w (u8.w (u7.w (u6.w h8_5)))
 refine st_pq F9 (ex_bin (v := (.bool true)) h8_9 h12_9 ((uo_eq hd tl _).trans (by rw [decide_eq_true (by omega)]))) fun a10 u10 F10 h13_10 => ?_
 refine st_pq F10 (ex_mv h13_10) fun a11 u11 F11 h14_11 => ?_
 have h0_11 := u11.w (u10.w (u9.w (u8.w (u7.w (u6.w h0_5)))))
 refine st_g (yl (e := 14) rfl h14_11) (ex_mv h0_11) F11.l fun a12 u12 h15_12 => ?_
 have F12 := F11.pt u12
 refine st_g (yl (e := 14) rfl (u12.w h14_11)) (ex_nil h15_12) F12.l fun a13 u13 h16_13 => ?_
 have F13 := F12.pt u13
 refine st_g (yl (e := 14) rfl (u13.w (u12.w h14_11))) (ex_fb 16 h16_13) F13.l fun a14 u14 h17_14 => ?_
 have F14 := F13.pt u14
 have h14_14 := u14.w (u13.w (u12.w h14_11))
 refine st_g (yl (e := 14) rfl h14_14) (ex_le (v := (.int .u64 d.segs.length)) h17_14 (Bb_1.cell 16)) F14.l fun a15 u15 h18_15 => ?_
 have F15 := F14.pt u15
 refine st_g (yl (e := 14) rfl (u15.w h14_14)) (ex_bin (vy := (.int .u64 0)) (v := (.bool true)) h18_15 rfl ((uo_gt d.segs.length 0 _).trans (by rw [decide_eq_true (by omega)]))) F15.l fun a16 u16 h19_16 => ?_
 have F16 := F15.pt u16
 refine st_pq F16 (ex_pick (q := true) (u16.w (u15.w h14_14)) h19_16) fun a17 u17 F17 h20_17 => ?_
 change Code.wp _ _ _ _ _
 refine wp_cond_true h20_17 ?_
 refine wp_sr ?_
 obtain ⟨et, ep, hE⟩ := H_1.ev
 refine wl_pq F17 (ex_ld (v := .iface et ep) (ad := ⟨0, 0, none⟩) (fun _ => by kernel_rfl) rfl hE) fun a18 u18 F18 h21_18 => ?_
 refine wl_pq F18 (ex_as h21_18) fun a19 u19 F19 h4_19 => ?_
 change Code.wp _ _ _ _ _
 refine wp_ret ?_
 try simp only [Exit.then, Exit.inBlock]
 exact bodyPost_ret (v := (.iface et ep)) ((results_tmp rfl _ _ _).trans (by rw [h4_19])) F19.defers ⟨_, _, rfl, ⟨g, hd, ms, kp, mp, arr, H_1⟩, (Kt.refl B DP w0).nw H.hw Q_1⟩
theorem app_first_up {d : WinD} {k B b q : Nat} {s : SegD} {kq mq : Option Nat} {w0 : World} (hO : d.Ok k) (hk : k ≤ 900) (H : PlQ w0 B b d q) (hse : s.e < 160) (hBq : B ≤ q) (Bq_0 : Blk w0 q 95 (segC 0 s kq mq)) (hkq : KeyP w0 B kq s.key) (hmqq : MapP w0 B mq s.map) (hf : d.segs.length ≠ d.places) (h0 : d.segs.length = 0) (hup : d.tgt * 8 < s.e) : Calls Tryd.prog 34 #[pt b, pt q] w0 fun e w' => e = .returned .nilIface ∧ PlS w' B b (d.push s) ∧ Kt B DP w0 w' := by
 obtain ⟨g, hd, ms, kp, mp, arr, H, hq⟩ := H
 obtain ⟨tl, htl⟩ : ∃ tl, (hd + d.segs.length) % d.places = tl := ⟨_, rfl⟩
 have hp1 := hO.p1
 have hp12 := hO.p12
 have hroom := hO.room
 have hseq := hO.seq
 have hhd := H.ring.hlt
 have htlt : tl < d.places := htl ▸ Nat.mod_lt _ (by omega)
 have hgb : g ≠ b := H.row.ne_ H.blk (by decide)
 have Bb_0 : Blk w0 b 104 #[(.float .f64 (fn d.tgt)), (.int .u64 d.seq), (.slice (some ⟨g, 0, none⟩) d.places d.places), (.string ⟨#[]⟩), (.bool d.ifr), (.bool d.clo), (.int .u64 0), (.int .u64 0), (.float .f64 0), (.bool false), (.bool false), (.int .i64 0), (.int .u64 d.written), (.int .u64 d.places), (.int .u64 hd), (.int .u64 tl), (.int .u64 d.segs.length), (.slice none 0 0), (.int .i64 0), (.int .i8 0), (.int .u8 d.ver), (pto kp), (pto mp)] := by
   have h := H.blk
   unfold plC at h
   rw [htl] at h
   exact h
 have Bg_0 := H.row
 have hin : tl < arr.size := by rw [H.ring.size]; exact htlt
 have htg := hO.tgt
 have hqb : q ≠ b := Bq_0.ne_ H.blk (by decide)
 have hgq : g ≠ q := H.row.ne_ Bq_0 (by decide)
 have Bq0 := Bq_0
 have htl0 : hd = tl := by rw [← htl, h0, Nat.add_zero, Nat.mod_eq_of_lt hhd]
 refine calls_of_wp Tryd.func34 rfl ?_
 generalize hA : Act.mk _ _ = a0
 have F0 : Fz 113 a0 := by subst hA; exact ⟨by simp [Tryd.ntmps34], rfl⟩
 have h0_0 : a0.tmps.getD 0 undef = (.pointer (some ⟨b, 0, none⟩)) := by subst hA; exact fr_arg rfl
 have h1_0 : a0.tmps.getD 1 undef = (.pointer (some ⟨q, 0, none⟩)) := by subst hA; exact fr_arg rfl
 have Kp0 := Kp.refl [b, g, q] w0
 refine wp_sr ?_
 refine wl_pq F0 (ex_as (v := .nilIface) rfl) fun a1 u1 F1 h4_1 => ?_
 change Code.wp _ _ _ _ _
 refine wp_seq ?_
 refine wp_seq ?_
 obtain ⟨w1, hw1⟩ : ∃ w, w = w0.drew := ⟨_, rfl⟩
 have G1 : w0.grownBy w1 none := hw1 ▸ grown_drew _
 have Bg_1 := Bg_0.gn G1
 have Bb_1 := Bb_0.gn G1
 have Bq_1 := Bq_0.gn G1
 have Kp1 := Kp0.new G1
 refine rg_still hw1 hmix (by kernel_rfl) ?_
 refine st_pq F1 (ex_mv (u1.w h0_0)) fun a2 u2 F2 h5_2 => ?_
 refine st_pq F2 (ex_nil h5_2) fun a3 u3 F3 h6_3 => ?_
 refine st_pq F3 (ex_fb 14 h6_3) fun a4 u4 F4 h7_4 => ?_
 refine st_pq F4 (ex_le (v := (.int .u64 hd)) h7_4 (Bb_1.cell 14)) fun a5 u5 F5 h8_5 => ?_
 have h0_5 := u5.w (u4.w (u3.w (u2.w (u1.w h0_0))))
 refine st_pq F5 (ex_mv h0_5) fun a6 u6 F6 h9_6 => ?_
 refine st_pq F6 (ex_nil h9_6) fun a7 u7 F7 h10_7 => ?_
 refine st_pq F7 (ex_fb 15 h10_7) fun a8 u8 F8 h11_8 => ?_
 refine st_pq F8 (ex_le (v := (.int .u64 tl)) h11_8 (Bb_1.cell 15)) fun a9 u9 F9 h12_9 => ?_
 have h8_9 := u9.w (u8.w (u7.w (u6.w h8_5)))
 refine st_pq F9 (ex_bin (v := (.bool true)) h8_9 h12_9 ((uo_eq hd tl _).trans (by rw [decide_eq_true (by omega)]))) fun a10 u10 F10 h13_10 => ?_
 refine st_pq F10 (ex_mv h13_10) fun a11 u11 F11 h14_11 => ?_
 have h0_11 := u11.w (u10.w (u9.w (u8.w (u7.w (u6.w h0_5)))))
 refine st_g (yl (e := 14) rfl h14_11) (ex_mv h0_11) F11.l fun a12 u12 h15_12 => ?_
 have F12 := F11.pt u12
 refine st_g (yl (e := 14) rfl (u12.w h14_11)) (ex_nil h15_12) F12.l fun a13 u13 h16_13 => ?_
 have F13 := F12.pt u13
 refine st_g (yl (e := 14) rfl (u13.w (u12.w h14_11))) (ex_fb 16 h16_13) F13.l fun a14 u14 h17_14 => ?_
 have F14 := F13.pt u14
 have h14_14 := u14.w (u13.w (u12.w h14_11))
 refine st_g (yl (e := 14) rfl h14_14) (ex_le (v := (.int .u64 d.segs.length)) h17_14 (Bb_1.cell 16)) F14.l fun a15 u15 h18_15 => ?_
 have F15 := F14.pt u15
 refine st_g (yl (e := 14) rfl (u15.w h14_14)) (ex_bin (vy := (.int .u64 0)) (v := (.bool false)) h18_15 rfl ((uo_gt d.segs.length 0 _).trans (by rw [decide_eq_false (by omega)]))) F15.l fun a16 u16 h19_16 => ?_
 have F16 := F15.pt u16
 refine st_pq F16 (ex_pick (q := true) (u16.w (u15.w h14_14)) h19_16) fun a17 u17 F17 h20_17 => ?_
 change Code.wp _ _ _ _ _
 refine wp_cond_false h20_17 ?_
 refine wp_skip ?_
 change Code.wp _ _ _ _ _
 refine wp_sr ?_
 have h1_17 := u17.w (u16.w (u15.w (u14.w (u13.w (u12.w (u11.w (u10.w (u9.w (u8.w (u7.w (u6.w (u5.w (u4.w (u3.w (u2.w (u1.w h1_0))))))))))))))))
 refine wl_pq F17 (ex_mv h1_17) fun a18 u18 F18 h22_18 => ?_
 have h0_18 := u18.w (u17.w (u16.w (u15.w (u14.w (u13.w (u12.w h0_11))))))
 refine wl_pq F18 (ex_mv h0_18) fun a19 u19 F19 h23_19 => ?_
 refine wl_pq F19 (ex_nil h23_19) fun a20 u20 F20 h24_20 => ?_
 refine wl_pq F20 (ex_fb 1 h24_20) fun a21 u21 F21 h25_21 => ?_
 refine wl_pq F21 (ex_le (v := (.int .u64 d.seq)) h25_21 (Bb_1.cell 1)) fun a22 u22 F22 h26_22 => ?_
 have h22_22 := u22.w (u21.w (u20.w (u19.w h22_18)))
 refine wl_pq F22 (ex_nil h22_22) fun a23 u23 F23 h27_23 => ?_
 refine wl_pq F23 (ex_fb 0 h27_23) fun a24 u24 F24 h28_24 => ?_
 obtain ⟨w2, hr2, Bq_2, G2⟩ := st_run (T := 34) (o := 0) (v := (.int .u64 d.seq)) (cs' := #[(.int .u64 d.seq), (.string s.title), (.string s.uri), (.float .f64 (fb s.e)), (.int .i64 s.li), (.int .i64 s.off), (pto kq), (pto mq), (.bool s.disc), (.pointer none), (.string s.date)]) (fun _ => by kernel_rfl) Bq_1 rfl (Nat.le_of_ble_eq_true rfl) rfl
 have Bg_2 := Bg_1.gk G2 hgq
 have Bb_2 := Bb_1.gk G2 (Ne.symm hqb)
 have Kp2 := Kp1.set G2 (Or.inl (by simp))
 refine wl_n (ex_st h28_24 (u24.w (u23.w h26_22)) hr2) ?_
 change Code.wp _ _ _ _ _
 refine wp_seq ?_
 refine wp_sr ?_
 have h0_24 := u24.w (u23.w (u22.w (u21.w (u20.w (u19.w h0_18)))))
 refine wl_pq F24 (ex_mv h0_24) fun a25 u25 F25 h29_25 => ?_
 refine wl_pq F25 (ex_nil h29_25) fun a26 u26 F26 h30_26 => ?_
 refine wl_pq F26 (ex_fb 16 h30_26) fun a27 u27 F27 h31_27 => ?_
 refine wl_pq F27 (ex_le (v := (.int .u64 d.segs.length)) h31_27 (Bb_2.cell 16)) fun a28 u28 F28 h32_28 => ?_
 refine wl_pq F28 (ex_bin (vy := (.int .u64 0)) (v := (.bool false)) h32_28 rfl ((uo_gt d.segs.length 0 _).trans (by rw [decide_eq_false (by omega)]))) fun a29 u29 F29 h33_29 => ?_
 change Code.wp _ _ _ _ _
 refine wp_cond_false h33_29 ?_
 refine wp_skip ?_
 change Code.wp _ _ _ _ _
 refine wp_seq ?_
 obtain ⟨w3, hw3⟩ : ∃ w, w = w2.drew := ⟨_, rfl⟩
 have G3 : w2.grownBy w3 none := hw3 ▸ grown_drew _
 have Bg_3 := Bg_2.gn G3
 have Bb_3 := Bb_2.gn G3
 have Bq_3 := Bq_2.gn G3
 have Kp3 := Kp2.new G3
 refine rg_stillt 10 hw3 hmix (by kernel_rfl) ?_
 have h0_29 := u29.w (u28.w (u27.w (u26.w (u25.w h0_24))))
 refine st_pq F29 (ex_mv h0_29) fun a30 u30 F30 h62_30 => ?_
 refine st_pq F30 (ex_nil h62_30) fun a31 u31 F31 h63_31 => ?_
 refine st_pq F31 (ex_fb 2 h63_31) fun a32 u32 F32 h64_32 => ?_
 refine st_pq F32 (ex_le (v := (.slice (some ⟨g, 0, none⟩) d.places d.places)) h64_32 (Bb_3.cell 2)) fun a33 u33 F33 h65_33 => ?_
 have h0_33 := u33.w (u32.w (u31.w (u30.w h0_29)))
 refine st_pq F33 (ex_mv h0_33) fun a34 u34 F34 h66_34 => ?_
 refine st_pq F34 (ex_nil h66_34) fun a35 u35 F35 h67_35 => ?_
 refine st_pq F35 (ex_fb 15 h67_35) fun a36 u36 F36 h68_36 => ?_
 refine st_pq F36 (ex_le (v := (.int .u64 tl)) h68_36 (Bb_3.cell 15)) fun a37 u37 F37 h69_37 => ?_
 have h1_37 := u37.w (u36.w (u35.w (u34.w (u33.w (u32.w (u31.w (u30.w (u29.w (u28.w (u27.w (u26.w (u25.w (u24.w (u23.w (u22.w (u21.w (u20.w (u19.w (u18.w h1_17)))))))))))))))))))
 refine st_pq F37 (ex_mv h1_37) fun a38 u38 F38 h70_38 => ?_
 have h65_38 := u38.w (u37.w (u36.w (u35.w (u34.w h65_33))))
 refine st_pq F38 (ex_ixg (vx := (.slice (some ⟨g, 0, none⟩) d.places d.places)) (vy := (.int .u64 tl)) (v := (.pointer (some ⟨g, tl, none⟩))) h65_38 (u38.w h69_37) (ix_pm g d.places tl (by omega) _)) fun a39 u39 F39 h71_39 => ?_
 obtain ⟨w4, hr4, Bg_4, G4⟩ := st_run (T := 90) (o := tl) (v := (.pointer (some ⟨q, 0, none⟩))) (cs' := (arr.setIfInBounds tl (.pointer (some ⟨q, 0, none⟩)))) (fun _ => by kernel_rfl) Bg_3 rfl (hin) rfl
 have Bb_4 := Bb_3.gk G4 (Ne.symm hgb)
 have Bq_4 := Bq_3.gk G4 (Ne.symm hgq)
 have Kp4 := Kp3.set G4 (Or.inl (by simp))
 refine wl_n (ex_st h71_39 (u39.w h70_38) hr4) ?_
 change Code.wp _ _ _ _ _
 refine wp_seq ?_
 obtain ⟨w5, hw5⟩ : ∃ w, w = w4.drew := ⟨_, rfl⟩
 have G5 : w4.grownBy w5 none := hw5 ▸ grown_drew _
 have Bg_5 := Bg_4.gn G5
 have Bb_5 := Bb_4.gn G5
 have Bq_5 := Bq_4.gn G5
 have Kp5 := Kp4.new G5
 refine rg_stillt 11 hw5 hmix (by kernel_rfl) ?_
 have h0_39 := u39.w (u38.w (u37.w (u36.w (u35.w (u34.w h0_33)))))
 refine st_pq F39 (ex_mv h0_39) fun a40 u40 F40 h72_40 => ?_
 refine st_pq F40 (ex_mv (u40.w h0_39)) fun a41 u41 F41 h73_41 => ?_
 refine st_pq F41 (ex_nil h73_41) fun a42 u42 F42 h74_42 => ?_
 refine st_pq F42 (ex_fb 15 h74_42) fun a43 u43 F43 h75_43 => ?_
 refine st_pq F43 (ex_le (v := (.int .u64 tl)) h75_43 (Bb_5.cell 15)) fun a44 u44 F44 h76_44 => ?_
 refine st_pq F44 (ex_bin (vy := (.int .u64 1)) (v := (.int .u64 (tl + 1 : Nat))) h76_44 rfl (uo_add tl 1 (by omega) _)) fun a45 u45 F45 h77_45 => ?_
 have h0_45 := u45.w (u44.w (u43.w (u42.w (u41.w (u40.w h0_39)))))
 refine st_pq F45 (ex_mv h0_45) fun a46 u46 F46 h78_46 => ?_
 refine st_pq F46 (ex_nil h78_46) fun a47 u47 F47 h79_47 => ?_
 refine st_pq F47 (ex_fb 13 h79_47) fun a48 u48 F48 h80_48 => ?_
 refine st_pq F48 (ex_le (v := (.int .u64 d.places)) h80_48 (Bb_5.cell 13)) fun a49 u49 F49 h81_49 => ?_
 have h77_49 := u49.w (u48.w (u47.w (u46.w h77_45)))
 refine st_pq F49 (ex_bin (v := (.int .u64 ((tl + 1 : Nat) % d.places : Nat))) h77_49 h81_49 (uo_rem (tl + 1 : Nat) d.places (by omega) (by omega) _)) fun a50 u50 F50 h82_50 => ?_
 have h72_50 := u50.w (u49.w (u48.w (u47.w (u46.w (u45.w (u44.w (u43.w (u42.w (u41.w h72_40)))))))))
 refine wl_pq F50 (ex_nil h72_50) fun a51 u51 F51 h83_51 => ?_
 refine wl_pq F51 (ex_fb 15 h83_51) fun a52 u52 F52 h84_52 => ?_
 obtain ⟨w6, hr6, Bb_6, G6⟩ := st_run (T := 42) (o := 15) (v := (.int .u64 ((tl + 1 : Nat) % d.places : Nat))) (cs' := #[(.float .f64 (fn d.tgt)), (.int .u64 d.seq), (.slice (some ⟨g, 0, none⟩) d.places d.places), (.string ⟨#[]⟩), (.bool d.ifr), (.bool d.clo), (.int .u64 0), (.int .u64 0), (.float .f64 0), (.bool false), (.bool false), (.int .i64 0), (.int .u64 d.written), (.int .u64 d.places), (.int .u64 hd), (.int .u64 ((tl + 1 : Nat) % d.places : Nat)), (.int .u64 d.segs.length), (.slice none 0 0), (.int .i64 0), (.int .i8 0), (.int .u8 d.ver), (pto kp), (pto mp)]) (fun _ => by kernel_rfl) Bb_5 rfl (Nat.le_of_ble_eq_true rfl) rfl
 have Bg_6 := Bg_5.gk G6 hgb
 have Bq_6 := Bq_5.gk G6 hqb
 have Kp6 := Kp5.set G6 (Or.inl (by simp))
 refine wl_n (ex_st h84_52 (u52.w (u51.w h82_50)) hr6) ?_
 change Code.wp _ _ _ _ _
 refine wp_sr ?_
 have h0_52 := u52.w (u51.w (u50.w (u49.w (u48.w (u47.w (u46.w h0_45))))))
 refine wl_pq F52 (ex_mv h0_52) fun a53 u53 F53 h85_53 => ?_
 refine wl_pq F53 (ex_nil h85_53) fun a54 u54 F54 h86_54 => ?_
 refine wl_pq F54 (ex_fb 16 h86_54) fun a55 u55 F55 h87_55 => ?_
 refine wl_pq F55 (ex_le (v := (.int .u64 d.segs.length)) h87_55 (Bb_6.cell 16)) fun a56 u56 F56 h88_56 => ?_
 refine wl_pq F56 (ex_bin (vy := (.int .u64 1)) (v := (.int .u64 (d.segs.length + 1 : Nat))) h88_56 rfl (uo_add d.segs.length 1 (by omega) _)) fun a57 u57 F57 h89_57 => ?_
 have h85_57 := u57.w (u56.w (u55.w (u54.w h85_53)))
 refine wl_pq F57 (ex_nil h85_57) fun a58 u58 F58 h90_58 => ?_
 refine wl_pq F58 (ex_fb 16 h90_58) fun a59 u59 F59 h91_59 => ?_
 obtain ⟨w7, hr7, Bb_7, G7⟩ := st_run (T := 42) (o := 16) (v := (.int .u64 (d.segs.length + 1 : Nat))) (cs' := #[(.float .f64 (fn d.tgt)), (.int .u64 d.seq), (.slice (some ⟨g, 0, none⟩) d.places d.places), (.string ⟨#[]⟩), (.bool d.ifr), (.bool d.clo), (.int .u64 0), (.int .u64 0), (.float .f64 0), (.bool false), (.bool false), (.int .i64 0), (.int .u64 d.written), (.int .u64 d.places), (.int .u64 hd), (.int .u64 ((tl + 1 : Nat) % d.places : Nat)), (.int .u64 (d.segs.length + 1 : Nat)), (.slice none 0 0), (.int .i64 0), (.int .i8 0), (.int .u8 d.ver), (pto kp), (pto mp)]) (fun _ => by kernel_rfl) Bb_6 rfl (Nat.le_of_ble_eq_true rfl) rfl
 have Bg_7 := Bg_6.gk G7 hgb
 have Bq_7 := Bq_6.gk G7 hqb
 have Kp7 := Kp6.set G7 (Or.inl (by simp))
 refine wl_n (ex_st h91_59 (u59.w (u58.w h89_57)) hr7) ?_
 change Code.wp _ _ _ _ _
 refine wp_seq ?_
 refine wp_seq ?_
 obtain ⟨w8, hw8⟩ : ∃ w, w = w7.drew := ⟨_, rfl⟩
 have G8 : w7.grownBy w8 none := hw8 ▸ grown_drew _
 have Bg_8 := Bg_7.gn G8
 have Bb_8 := Bb_7.gn G8
 have Bq_8 := Bq_7.gn G8
 have Kp8 := Kp7.new G8
 refine rg_still hw8 hmix (by kernel_rfl) ?_
 have h0_59 := u59.w (u58.w (u57.w (u56.w (u55.w (u54.w (u53.w h0_52))))))
 refine st_pq F59 (ex_mv h0_59) fun a60 u60 F60 h92_60 => ?_
 refine st_pq F60 (ex_nil h92_60) fun a61 u61 F61 h93_61 => ?_
 refine st_pq F61 (ex_fb 0 h93_61) fun a62 u62 F62 h94_62 => ?_
 refine st_pq F62 (ex_le (v := (.float .f64 (fn d.tgt))) h94_62 (Bb_8.cell 0)) fun a63 u63 F63 h95_63 => ?_
 have h1_63 := u63.w (u62.w (u61.w (u60.w (u59.w (u58.w (u57.w (u56.w (u55.w (u54.w (u53.w (u52.w (u51.w (u50.w (u49.w (u48.w (u47.w (u46.w (u45.w (u44.w (u43.w (u42.w (u41.w (u40.w (u39.w (u38.w h1_37)))))))))))))))))))))))))
 refine st_pq F63 (ex_mv h1_63) fun a64 u64 F64 h96_64 => ?_
 refine st_pq F64 (ex_nil h96_64) fun a65 u65 F65 h97_65 => ?_
 refine st_pq F65 (ex_fb 3 h97_65) fun a66 u66 F66 h98_66 => ?_
 refine st_pq F66 (ex_le (v := (.float .f64 (fb s.e))) h98_66 (Bq_8.cell 3)) fun a67 u67 F67 h99_67 => ?_
 have h95_67 := u67.w (u66.w (u65.w (u64.w h95_63)))
 refine st_pq F67 (ex_bin (v := (.bool true)) h95_67 h99_67 ((fo_lt _ _ _).trans (by rw [td_ord (by omega) hse, decide_eq_true (by omega)]))) fun a68 u68 F68 h100_68 => ?_
 change Code.wp _ _ _ _ _
 refine wp_cond_true h100_68 ?_
 refine rg_list ?_
 have h0_68 := u68.w (u67.w (u66.w (u65.w (u64.w (u63.w (u62.w (u61.w (u60.w h0_59))))))))
 refine wl_pq F68 (ex_mv h0_68) fun a69 u69 F69 h101_69 => ?_
 have h1_69 := u69.w (u68.w (u67.w (u66.w (u65.w (u64.w h1_63)))))
 refine wl_pq F69 (ex_mv h1_69) fun a70 u70 F70 h102_70 => ?_
 refine wl_pq F70 (ex_nil h102_70) fun a71 u71 F71 h103_71 => ?_
 refine wl_pq F71 (ex_fb 3 h103_71) fun a72 u72 F72 h104_72 => ?_
 refine wl_pq F72 (ex_le (v := (.float .f64 (fb s.e))) h104_72 (Bq_8.cell 3)) fun a73 u73 F73 h105_73 => ?_
 refine wl_cl (args := #[(.float .f64 (fb s.e))]) (R := fun v w' => v = (.float .f64 (fn ((s.e + 7) / 8))) ∧ w8 = w') (ex_cl (fun _ _ => by kernel_rfl) (arg1 h105_73)) ((ceil_any (fb s.e) (fl_nan hse) _).mono fun _ _ h => ⟨_, h.1, by rw [fl_ceil hse], h.2⟩) F73.l ?_
 rintro v w' ⟨rfl, rfl⟩
 intro a74 u74 h106_74
 have F74 := F73.pt u74
 have h101_74 := u74.w (u73.w (u72.w (u71.w (u70.w h101_69))))
 refine wl_pq F74 (ex_nil h101_74) fun a75 u75 F75 h107_75 => ?_
 refine wl_pq F75 (ex_fb 0 h107_75) fun a76 u76 F76 h108_76 => ?_
 obtain ⟨w9, hr9, Bb_9, G9⟩ := st_run (T := 35) (o := 0) (v := (.float .f64 (fn ((s.e + 7) / 8)))) (cs' := #[(.float .f64 (fn ((s.e + 7) / 8))), (.int .u64 d.seq), (.slice (some ⟨g, 0, none⟩) d.places d.places), (.string ⟨#[]⟩), (.bool d.ifr), (.bool d.clo), (.int .u64 0), (.int .u64 0), (.float .f64 0), (.bool false), (.bool false), (.int .i64 0), (.int .u64 d.written), (.int .u64 d.places), (.int .u64 hd), (.int .u64 ((tl + 1 : Nat) % d.places : Nat)), (.int .u64 (d.segs.length + 1 : Nat)), (.slice none 0 0), (.int .i64 0), (.int .i8 0), (.int .u8 d.ver), (pto kp), (pto mp)]) (fun _ => by kernel_rfl) Bb_8 rfl (Nat.le_of_ble_eq_true rfl) rfl
 have Bg_9 := Bg_8.gk G9 hgb
 have Bq_9 := Bq_8.gk G9 hqb
 have Kp9 := Kp8.set G9 (Or.inl (by simp))
 refine wl_n (ex_st h108_76 (u76.w (u75.w h106_74)) hr9) ?_
 change Code.wp _ _ _ _ _
 refine wp_sr ?_
 have h0_76 := u76.w (u75.w (u74.w (u73.w (u72.w (u71.w (u70.w (u69.w h0_68)))))))
 refine wl_pq F76 (ex_mv h0_76) fun a77 u77 F77 h109_77 => ?_
 refine wl_pq F77 (ex_nil h109_77) fun a78 u78 F78 h110_78 => ?_
 refine wl_pq F78 (ex_fb 17 h110_78) fun a79 u79 F79 h111_79 => ?_
 refine wl_cl (args := #[(.pointer (some ⟨b, 17, none⟩))]) (R := fun v w' => v = .tuple #[] ∧ Blk w' b 104 #[(.float .f64 (fn ((s.e + 7) / 8))), (.int .u64 d.seq), (.slice (some ⟨g, 0, none⟩) d.places d.places), (.string ⟨#[]⟩), (.bool d.ifr), (.bool d.clo), (.int .u64 0), (.int .u64 0), (.float .f64 0), (.bool false), (.bool false), (.int .i64 0), (.int .u64 d.written), (.int .u64 d.places), (.int .u64 hd), (.int .u64 ((tl + 1 : Nat) % d.places : Nat)), (.int .u64 (d.segs.length + 1 : Nat)), (.slice none 0 0), (.int .i64 0), (.int .i8 0), (.int .u8 d.ver), (pto kp), (pto mp)] ∧ w9.grownBy w' (some b)) (ex_cl (fun _ _ => by kernel_rfl) (arg1 h111_79)) ((reset17 Bb_9).mono fun _ _ h => ⟨_, h.1, rfl, h.2⟩) F79.l ?_
 rintro v w10 ⟨rfl, Bb_10, G10⟩
 have Bg_10 := Bg_9.gk G10 hgb
 have Bq_10 := Bq_9.gk G10 hqb
 have Kp10 := Kp9.set G10 (Or.inl (by simp))
 intro a80 u80 h112_80
 have F80 := F79.pt u80
 change Code.wp _ _ _ _ _
 refine wp_sr ?_
 refine wl_pq F80 (ex_as (v := .nilIface) rfl) fun a81 u81 F81 h4_81 => ?_
 change Code.wp _ _ _ _ _
 refine wp_ret ?_
 have hnx : d.next = d.seq := by
   unfold WinD.next
   rw [List.getElem?_eq_none (by have := hO.len; omega)]
 have etl : (hd + (d.segs.length + 1)) % d.places = (tl + 1) % d.places := by rw [← Nat.add_assoc, ← Nat.mod_add_mod, htl]
 obtain ⟨hS, hK⟩ := H.app (d' := d.push s) (n := d.seq) (s := s) (kq := kq) (mq := mq) hq Kp10 Bq0 hBq htl (by omega) (by have h := Bb_10; rw [← etl] at h; simp only [plC, WinD.push, List.length_append, List.length_cons, List.length_nil, Nat.zero_add, if_pos hup]; exact h) Bg_10 Bq_10 hkq hmqq rfl (by show d.nums ++ [d.next] = _; rw [hnx]) rfl rfl rfl
 try simp only [Exit.then, Exit.inBlock]
 exact bodyPost_ret (v := .nilIface) ((results_tmp rfl _ _ _).trans (by rw [h4_81])) F81.defers ⟨rfl, hS, hK⟩
theorem app_first_no {d : WinD} {k B b q : Nat} {s : SegD} {kq mq : Option Nat} {w0 : World} (hO : d.Ok k) (hk : k ≤ 900) (H : PlQ w0 B b d q) (hse : s.e < 160) (hBq : B ≤ q) (Bq_0 : Blk w0 q 95 (segC 0 s kq mq)) (hkq : KeyP w0 B kq s.key) (hmqq : MapP w0 B mq s.map) (hf : d.segs.length ≠ d.places) (h0 : d.segs.length = 0) (hup : ¬ d.tgt * 8 < s.e) : Calls Tryd.prog 34 #[pt b, pt q] w0 fun e w' => e = .returned .nilIface ∧ PlS w' B b (d.push s) ∧ Kt B DP w0 w' := by
 obtain ⟨g, hd, ms, kp, mp, arr, H, hq⟩ := H
 obtain ⟨tl, htl⟩ : ∃ tl, (hd + d.segs.length) % d.places = tl := ⟨_, rfl⟩
 have hp1 := hO.p1
 have hp12 := hO.p12
 have hroom := hO.room
 have hseq := hO.seq
 have hhd := H.ring.hlt
 have htlt : tl < d.places := htl ▸ Nat.mod_lt _ (by omega)
 have hgb : g ≠ b := H.row.ne_ H.blk (by decide)
 have Bb_0 : Blk w0 b 104 #[(.float .f64 (fn d.tgt)), (.int .u64 d.seq), (.slice (some ⟨g, 0, none⟩) d.places d.places), (.string ⟨#[]⟩), (.bool d.ifr), (.bool d.clo), (.int .u64 0), (.int .u64 0), (.float .f64 0), (.bool false), (.bool false), (.int .i64 0), (.int .u64 d.written), (.int .u64 d.places), (.int .u64 hd), (.int .u64 tl), (.int .u64 d.segs.length), (.slice none 0 0), (.int .i64 0), (.int .i8 0), (.int .u8 d.ver), (pto kp), (pto mp)] := by
   have h := H.blk
   unfold plC at h
   rw [htl] at h
   exact h
 have Bg_0 := H.row
 have hin : tl < arr.size := by rw [H.ring.size]; exact htlt
 have htg := hO.tgt
 have hqb : q ≠ b := Bq_0.ne_ H.blk (by decide)
 have hgq : g ≠ q := H.row.ne_ Bq_0 (by decide)
 have Bq0 := Bq_0
 have htl0 : hd = tl := by rw [← htl, h0, Nat.add_zero, Nat.mod_eq_of_lt hhd]
 refine calls_of_wp Tryd.func34 rfl ?_
 generalize hA : Act.mk _ _ = a0
 have F0 : Fz 113 a0 := by subst hA; exact ⟨by simp [Tryd.ntmps34], rfl⟩
 have h0_0 : a0.tmps.getD 0 undef = (.pointer (some ⟨b, 0, none⟩)) := by subst hA; exact fr_arg rfl
 have h1_0 : a0.tmps.getD 1 undef = (.pointer (some ⟨q, 0, none⟩)) := by subst hA; exact fr_arg rfl
 have Kp0 := Kp.refl [b, g, q] w0
 refine wp_sr ?_
 refine wl_pq F0 (ex_as (v := .nilIface) rfl) fun a1 u1 F1 h4_1 => ?_
 change Code.wp _ _ _ _ _
 refine wp_seq ?_
 refine wp_seq ?_
 obtain ⟨w1, hw1⟩ : ∃ w, w = w0.drew := ⟨_, rfl⟩
 have G1 : w0.grownBy w1 none := hw1 ▸ grown_drew _
 have Bg_1 := Bg_0.gn G1
 have Bb_1 := Bb_0.gn G1
 have Bq_1 := Bq_0.gn G1
 have Kp1 := Kp0.new G1
 refine rg_still hw1 hmix (by kernel_rfl) ?_
 refine st_pq F1 (ex_mv (u1.w h0_0)) fun a2 u2 F2 h5_2 => ?_
 refine st_pq F2 (ex_nil h5_2) fun a3 u3 F3 h6_3 => ?_
 refine st_pq F3 (ex_fb 14 h6_3) fun a4 u4 F4 h7_4 => ?_
 refine st_pq F4 (ex_le (v := (.int .u64 hd)) h7_4 (Bb_1.cell 14)) fun a5 u5 F5 h8_5 => ?_
 have h0_5 := u5.w (u4.w (u3.w (u2.w (u1.w h0_0))))
 refine st_pq F5 (ex_mv h0_5) fun a6 u6 F6 h9_6 => ?_
 refine st_pq F6 (ex_nil h9_6) fun a7 u7 F7 h10_7 => ?_
 refine st_pq F7 (ex_fb 15 h10_7) fun a8 u8 F8 h11_8 => ?_
 refine st_pq F8 (ex_le (v := (.int .u64 tl)) h11_8 (Bb_1.cell 15)) fun a9 u9 F9 h12_9 => ?_
 have h8_9 := u9.w (u8.w (u7.w (u6.w h8_5)))
 refine st_pq F9 (ex_bin (v := (.bool true)) h8_9 h12_9 ((uo_eq hd tl _).trans (by rw [decide_eq_true (by omega)]))) fun a10 u10 F10 h13_10 => ?_
 refine st_pq F10 (ex_mv h13_10) fun a11 u11 F11 h14_11 => ?_
 have h0_11 := u11.w (u10.w (u9.w (u8.w (u7.w (u6.w h0_5)))))
 refine st_g (yl (e := 14) rfl h14_11) (ex_mv h0_11) F11.l fun a12 u12 h15_12 => ?_
 have F12 := F11.pt u12
 refine st_g (yl (e := 14) rfl (u12.w h14_11)) (ex_nil h15_12) F12.l fun a13 u13 h16_13 => ?_
 have F13 := F12.pt u13
 refine st_g (yl (e := 14) rfl (u13.w (u12.w h14_11))) (ex_fb 16 h16_13) F13.l fun a14 u14 h17_14 => ?_
 have F14 := F13.pt u14
 have h14_14 := u14.w (u13.w (u12.w h14_11))
 refine st_g (yl (e := 14) rfl h14_14) (ex_le (v := (.int .u64 d.segs.length)) h17_14 (Bb_1.cell 16)) F14.l fun a15 u15 h18_15 => ?_
 have F15 := F14.pt u15
 refine st_g (yl (e := 14) rfl (u15.w h14_14)) (ex_bin (vy := (.int .u64 0)) (v := (.bool false)) h18_15 rfl ((uo_gt d.segs.length 0 _).trans (by rw [decide_eq_false (by omega)]))) F15.l fun a16 u16 h19_16 => ?_
 have F16 := F15.pt u16
 refine st_pq F16 (ex_pick (q := true) (u16.w (u15.w h14_14)) h19_16) fun a17 u17 F17 h20_17 => ?_
 change Code.wp _ _ _ _ _
 refine wp_cond_false h20_17 ?_
 refine wp_skip ?_
 change Code.wp _ _ _ _ _
 refine wp_sr ?_
 have h1_17 := u17.w (u16.w (u15.w (u14.w (u13.w (u12.w (u11.w (u10.w (u9.w (u8.w (u7.w (u6.w (u5.w (u4.w (u3.w (u2.w (u1.w h1_0))))))))))))))))
 refine wl_pq F17 (ex_mv h1_17) fun a18 u18 F18 h22_18 => ?_
 have h0_18 := u18.w (u17.w (u16.w (u15.w (u14.w (u13.w (u12.w h0_11))))))
 refine wl_pq F18 (ex_mv h0_18) fun a19 u19 F19 h23_19 => ?_
 refine wl_pq F19 (ex_nil h23_19) fun a20 u20 F20 h24_20 => ?_
 refine wl_pq F20 (ex_fb 1 h24_20) fun a21 u21 F21 h25_21 => ?_
 refine wl_pq F21 (ex_le (v := (.int .u64 d.seq)) h25_21 (Bb_1.cell 1)) fun a22 u22 F22 h26_22 => ?_
 have h22_22 := u22.w (u21.w (u20.w (u19.w h22_18)))
 refine wl_pq F22 (ex_nil h22_22) fun a23 u23 F23 h27_23 => ?_
 refine wl_pq F23 (ex_fb 0 h27_23) fun a24 u24 F24 h28_24 => ?_
 obtain ⟨w2, hr2, Bq_2, G2⟩ := st_run (T := 34) (o := 0) (v := (.int .u64 d.seq)) (cs' := #[(.int .u64 d.seq), (.string s.title), (.string s.uri), (.float .f64 (fb s.e)), (.int .i64 s.li), (.int .i64 s.off), (pto kq), (pto mq), (.bool s.disc), (.pointer none), (.string s.date)]) (fun _ => by kernel_rfl) Bq_1 rfl (Nat.le_of_ble_eq_true rfl) rfl
 have Bg_2 := Bg_1.gk G2 hgq
 have Bb_2 := Bb_1.gk G2 (Ne.symm hqb)
 have Kp2 := Kp1.set G2 (Or.inl (by simp))
 refine wl_n (ex_st h28_24 (u24.w (u23.w h26_22)) hr2) ?_
 change Code.wp _ _ _ _ _
 refine wp_seq ?_
 refine wp_sr ?_
 have h0_24 := u24.w (u23.w (u22.w (u21.w (u20.w (u19.w h0_18)))))
 refine wl_pq F24 (ex_mv h0_24) fun a25 u25 F25 h29_25 => ?_
 refine wl_pq F25 (ex_nil h29_25) fun a26 u26 F26 h30_26 => ?_
 refine wl_pq F26 (ex_fb 16 h30_26) fun a27 u27 F27 h31_27 => ?_
 refine wl_pq F27 (ex_le (v := (.int .u64 d.segs.length)) h31_27 (Bb_2.cell 16)) fun a28 u28 F28 h32_28 => ?_
 refine wl_pq F28 (ex_bin (vy := (.int .u64 0)) (v := (.bool false)) h32_28 rfl ((uo_gt d.segs.length 0 _).trans (by rw [decide_eq_false (by omega)]))) fun a29 u29 F29 h33_29 => ?_
 change Code.wp _ _ _ _ _
 refine wp_cond_false h33_29 ?_
 refine wp_skip ?_
 change Code.wp _ _ _ _ _
 refine wp_seq ?_
 obtain ⟨w3, hw3⟩ : ∃ w, w = w2.drew := ⟨_, rfl⟩
 have G3 : w2.grownBy w3 none := hw3 ▸ grown_drew _
 have Bg_3 := Bg_2.gn G3
 have Bb_3 := Bb_2.gn G3
 have Bq_3 := Bq_2.gn G3
 have Kp3 := Kp2.new G3
 refine rg_stillt 10 hw3 hmix (by kernel_rfl) ?_
 have h0_29 := u29.w (u28.w (u27.w (u26.w (u25.w h0_24))))
 refine st_pq F29 (ex_mv h0_29) fun a30 u30 F30 h62_30 => ?_
 refine st_pq F30 (ex_nil h62_30) fun a31 u31 F31 h63_31 => ?_
 refine st_pq F31 (ex_fb 2 h63_31) fun a32 u32 F32 h64_32 => ?_
 refine st_pq F32 (ex_le (v := (.slice (some ⟨g, 0, none⟩) d.places d.places)) h64_32 (Bb_3.cell 2)) fun a33 u33 F33 h65_33 => ?_
 have h0_33 := u33.w (u32.w (u31.w (u30.w h0_29)))
 refine st_pq F33 (ex_mv h0_33) fun a34 u34 F34 h66_34 => ?_
 refine st_pq F34 (ex_nil h66_34) fun a35 u35 F35 h67_35 => ?_
 refine st_pq F35 (ex_fb 15 h67_35) fun a36 u36 F36 h68_36 => ?_
 refine st_pq F36 (ex_le (v := (.int .u64 tl)) h68_36 (Bb_3.cell 15)) fun a37 u37 F37 h69_37 => ?_
 have h1_37 := u37.w (u36.w (u35.w (u34.w (u33.w (u32.w (u31.w (u30.w (u29.w (u28.w (u27.w (u26.w (u25.w (u24.w (u23.w (u22.w (u21.w (u20.w (u19.w (u18.w h1_17)))))))))))))))))))
 refine st_pq F37 (ex_mv h1_37) fun a38 u38 F38 h70_38 => ?_
 have h65_38 := u38.w (u37.w (u36.w (u35.w (u34.w h65_33))))
 refine st_pq F38 (ex_ixg (vx := (.slice (some ⟨g, 0, none⟩) d.places d.places)) (vy := (.int .u64 tl)) (v := (.pointer (some ⟨g, tl, none⟩))) h65_38 (u38.w h69_37) (ix_pm g d.places tl (by omega) _)) fun a39 u39 F39 h71_39 => ?_
 obtain ⟨w4, hr4, Bg_4, G4⟩ := st_run (T := 90) (o := tl) (v := (.pointer (some ⟨q, 0, none⟩))) (cs' := (arr.setIfInBounds tl (.pointer (some ⟨q, 0, none⟩)))) (fun _ => by kernel_rfl) Bg_3 rfl (hin) rfl
 have Bb_4 := Bb_3.gk G4 (Ne.symm hgb)
 have Bq_4 := Bq_3.gk G4 (Ne.symm hgq)
 have Kp4 := Kp3.set G4 (Or.inl (by simp))
 refine wl_n (ex_st h71_39 (u39.w h70_38) hr4) ?_
 change Code.wp _ _ _ _ _
 refine wp_seq ?_
 obtain ⟨w5, hw5⟩ : ∃ w, w = w4.drew := ⟨_, rfl⟩
 have G5 : w4.grownBy w5 none := hw5 ▸ grown_drew _
 have Bg_5 := Bg_4.gn G5
 have Bb_5 := Bb_4.gn G5
 have Bq_5 := Bq_4.gn G5
 have Kp5 := Kp4.new G5
 refine rg_stillt 11 hw5 hmix (by kernel_rfl) ?_
 have h0_39 := u39.w (u38.w (u37.w (u36.w (u35.w (u34.w h0_33)))))
 refine st_pq F39 (ex_mv h0_39) fun a40 u40 F40 h72_40 => ?_
 refine st_pq F40 (ex_mv (u40.w h0_39)) fun a41 u41 F41 h73_41 => ?_
 refine st_pq F41 (ex_nil h73_41) fun a42 u42 F42 h74_42 => ?_
 refine st_pq F42 (ex_fb 15 h74_42) fun a43 u43 F43 h75_43 => ?_
 refine st_pq F43 (ex_le (v := (.int .u64 tl)) h75_43 (Bb_5.cell 15)) fun a44 u44 F44 h76_44 => ?_
 refine st_pq F44 (ex_bin (vy := (.int .u64 1)) (v := (.int .u64 (tl + 1 : Nat))) h76_44 rfl (uo_add tl 1 (by omega) _)) fun a45 u45 F45 h77_45 => ?_
 have h0_45 := u45.w (u44.w (u43.w (u42.w (u41.w (u40.w h0_39)))))
 refine st_pq F45 (ex_mv h0_45) fun a46 u46 F46 h78_46 => ?_
 refine st_pq F46 (ex_nil h78_46) fun a47 u47 F47 h79_47 => ?_
 refine st_pq F47 (ex_fb 13 h79_47) fun a48 u48 F48 h80_48 => ?_
 refine st_pq F48 (ex_le (v := (.int .u64 d.places)) h80_48 (Bb_5.cell 13)) fun a49 u49 F49 h81_49 => ?_
 have h77_49 := u49.w (u48.w (u47.w (u46.w h77_45)))
 refine st_pq F49 (ex_bin (v := (.int .u64 ((tl + 1 : Nat) % d.places : Nat))) h77_49 h81_49 (uo_rem (tl + 1 : Nat) d.places (by omega) (by omega) _)) fun a50 u50 F50 h82_50 => ?_
 have h72_50 := u50.w (u49.w (u48.w (u47.w (u46.w (u45.w (u44.w (u43.w (u42.w (u41.w h72_40)))))))))
 refine wl_pq F50 (ex_nil h72_50) fun a51 u51 F51 h83_51 => ?_
 refine wl_pq F51 (ex_fb 15 h83_51) fun a52 u52 F52 h84_52 => ?_
 obtain ⟨w6, hr6, Bb_6, G6⟩ := st_run (T := 42) (o := 15) (v := (.int .u64 ((tl + 1 : Nat) % d.places : Nat))) (cs' := #[(.float .f64 (fn d.tgt)), (.int .u64 d.seq), (.slice (some ⟨g, 0, none⟩) d.places d.places), (.string ⟨#[]⟩), (.bool d.ifr), (.bool d.clo), (.int .u64 0), (.int .u64 0), (.float .f64 0), (.bool false), (.bool false), (.int .i64 0), (.int .u64 d.written), (.int .u64 d.places), (.int .u64 hd), (.int .u64 ((tl + 1 : Nat) % d.places : Nat)), (.int .u64 d.segs.length), (.slice none 0 0), (.int .i64 0), (.int .i8 0), (.int .u8 d.ver), (pto kp), (pto mp)]) (fun _ => by kernel_rfl) Bb_5 rfl (Nat.le_of_ble_eq_true rfl) rfl
 have Bg_6 := Bg_5.gk G6 hgb
 have Bq_6 := Bq_5.gk G6 hqb
 have Kp6 := Kp5.set G6 (Or.inl (by simp))
 refine wl_n (ex_st h84_52 (u52.w (u51.w h82_50)) hr6) ?_
 change Code.wp _ _ _ _ _
 refine wp_sr ?_
 have h0_52 := u52.w (u51.w (u50.w (u49.w (u48.w (u47.w (u46.w h0_45))))))
 refine wl_pq F52 (ex_mv h0_52) fun a53 u53 F53 h85_53 => ?_
 refine wl_pq F53 (ex_nil h85_53) fun a54 u54 F54 h86_54 => ?_
 refine wl_pq F54 (ex_fb 16 h86_54) fun a55 u55 F55 h87_55 => ?_
 refine wl_pq F55 (ex_le (v := (.int .u64 d.segs.length)) h87_55 (Bb_6.cell 16)) fun a56 u56 F56 h88_56 => ?_
 refine wl_pq F56 (ex_bin (vy := (.int .u64 1)) (v := (.int .u64 (d.segs.length + 1 : Nat))) h88_56 rfl (uo_add d.segs.length 1 (by omega) _)) fun a57 u57 F57 h89_57 => ?_
 have h85_57 := u57.w (u56.w (u55.w (u54.w h85_53)))
 refine wl_pq F57 (ex_nil h85_57) fun a58 u58 F58 h90_58 => ?_
 refine wl_pq F58 (ex_fb 16 h90_58) fun a59 u59 F59 h91_59 => ?_
 obtain ⟨w7, hr7, Bb_7, G7⟩ := st_run (T := 42) (o := 16) (v := (.int .u64 (d.segs.length + 1 : Nat))) (cs' := #[(.float .f64 (fn d.tgt)), (.int .u64 d.seq), (.slice (some ⟨g, 0, none⟩) d.places d.places), (.string ⟨#[]⟩), (.bool d.ifr), (.bool d.clo), (.int .u64 0), (.int .u64 0), (.float .f64 0), (.bool false), (.bool false), (.int .i64 0), (.int .u64 d.written), (.int .u64 d.places), (.int .u64 hd), (.int .u64 ((tl + 1 : Nat) % d.places : Nat)), (.int .u64 (d.segs.length + 1 : Nat)), (.slice none 0 0), (.int .i64 0), (.int .i8 0), (.int .u8 d.ver), (pto kp), (pto mp)]) (fun _ => by kernel_rfl) Bb_6 rfl (Nat.le_of_ble_eq_true rfl) rfl
 have Bg_7 := Bg_6.gk G7 hgb
 have Bq_7 := Bq_6.gk G7 hqb
 have Kp7 := Kp6.set G7 (Or.inl (by simp))
 refine wl_n (ex_st h91_59 (u59.w (u58.w h89_57)) hr7) ?_
 change Code.wp _ _ _ _ _
 refine wp_seq ?_
 refine wp_seq ?_
 obtain ⟨w8, hw8⟩ : ∃ w, w = w7.drew := ⟨_, rfl⟩
 have G8 : w7.grownBy w8 none := hw8 ▸ grown_drew _
 have Bg_8 := Bg_7.gn G8
 have Bb_8 := Bb_7.gn G8
 have Bq_8 := Bq_7.gn G8
 have Kp8 := Kp7.new G8
 refine rg_still hw8 hmix (by kernel_rfl) ?_
 have h0_59 := u59.w (u58.w (u57.w (u56.w (u55.w (u54.w (u53.w h0_52))))))
 refine st_pq F59 (ex_mv h0_59) fun a60 u60 F60 h92_60 => ?_
 refine st_pq F60 (ex_nil h92_60) fun a61 u61 F61 h93_61 => ?_
 refine st_pq F61 (ex_fb 0 h93_61) fun a62 u62 F62 h94_62 => ?_
 refine st_pq F62 (ex_le (v := (.float .f64 (fn d.tgt))) h94_62 (Bb_8.cell 0)) fun a63 u63 F63 h95_63 => ?_
 have h1_63 := u63.w (u62.w (u61.w (u60.w (u59.w (u58.w (u57.w (u56.w (u55.w (u54.w (u53.w (u52.w (u51.w (u50.w (u49.w (u48.w (u47.w (u46.w (u45.w (u44.w (u43.w (u42.w (u41.w (u40.w (u39.w (u38.w h1_37)))))))))))))))))))))))))
 refine st_pq F63 (ex_mv h1_63) fun a64 u64 F64 h96_64 => ?_
 refine st_pq F64 (ex_nil h96_64) fun a65 u65 F65 h97_65 => ?_
 refine st_pq F65 (ex_fb 3 h97_65) fun a66 u66 F66 h98_66 => ?_
 refine st_pq F66 (ex_le (v := (.float .f64 (fb s.e))) h98_66 (Bq_8.cell 3)) fun a67 u67 F67 h99_67 => ?_
 have h95_67 := u67.w (u66.w (u65.w (u64.w h95_63)))
 refine st_pq F67 (ex_bin (v := (.bool false)) h95_67 h99_67 ((fo_lt _ _ _).trans (by rw [td_ord (by omega) hse, decide_eq_false (by omega)]))) fun a68 u68 F68 h100_68 => ?_
 change Code.wp _ _ _ _ _
 refine wp_cond_false h100_68 ?_
 refine wp_skip ?_
 change Code.wp _ _ _ _ _
 refine wp_sr ?_
 have h0_68 := u68.w (u67.w (u66.w (u65.w (u64.w (u63.w (u62.w (u61.w (u60.w h0_59))))))))
 refine wl_pq F68 (ex_mv h0_68) fun a69 u69 F69 h109_69 => ?_
 refine wl_pq F69 (ex_nil h109_69) fun a70 u70 F70 h110_70 => ?_
 refine wl_pq F70 (ex_fb 17 h110_70) fun a71 u71 F71 h111_71 => ?_
 refine wl_cl (args := #[(.pointer (some ⟨b, 17, none⟩))]) (R := fun v w' => v = .tuple #[] ∧ Blk w' b 104 #[(.float .f64 (fn d.tgt)), (.int .u64 d.seq), (.slice (some ⟨g, 0, none⟩) d.places d.places), (.string ⟨#[]⟩), (.bool d.ifr), (.bool d.clo), (.int .u64 0), (.int .u64 0), (.float .f64 0), (.bool false), (.bool false), (.int .i64 0), (.int .u64 d.written), (.int .u64 d.places), (.int .u64 hd), (.int .u64 ((tl + 1 : Nat) % d.places : Nat)), (.int .u64 (d.segs.length + 1 : Nat)), (.slice none 0 0), (.int .i64 0), (.int .i8 0), (.int .u8 d.ver), (pto kp), (pto mp)] ∧ w8.grownBy w' (some b)) (ex_cl (fun _ _ => by kernel_rfl) (arg1 h111_71)) ((reset17 Bb_8).mono fun _ _ h => ⟨_, h.1, rfl, h.2⟩) F71.l ?_
 rintro v w9 ⟨rfl, Bb_9, G9⟩
 have Bg_9 := Bg_8.gk G9 hgb
 have Bq_9 := Bq_8.gk G9 hqb
 have Kp9 := Kp8.set G9 (Or.inl (by simp))
 intro a72 u72 h112_72
 have F72 := F71.pt u72
 change Code.wp _ _ _ _ _
 refine wp_sr ?_
 refine wl_pq F72 (ex_as (v := .nilIface) rfl) fun a73 u73 F73 h4_73 => ?_
 change Code.wp _ _ _ _ _
 refine wp_ret ?_
 have hnx : d.next = d.seq := by
   unfold WinD.next
   rw [List.getElem?_eq_none (by have := hO.len; omega)]
 have etl : (hd + (d.segs.length + 1)) % d.places = (tl + 1) % d.places := by rw [← Nat.add_assoc, ← Nat.mod_add_mod, htl]
 obtain ⟨hS, hK⟩ := H.app (d' := d.push s) (n := d.seq) (s := s) (kq := kq) (mq := mq) hq Kp9 Bq0 hBq htl (by omega) (by have h := Bb_9; rw [← etl] at h; simp only [plC, WinD.push, List.length_append, List.length_cons, List.length_nil, Nat.zero_add, if_neg hup]; exact h) Bg_9 Bq_9 hkq hmqq rfl (by show d.nums ++ [d.next] = _; rw [hnx]) rfl rfl rfl
 try simp only [Exit.then, Exit.inBlock]
 exact bodyPost_ret (v := .nilIface) ((results_tmp rfl _ _ _).trans (by rw [h4_73])) F73.defers ⟨rfl, hS, hK⟩
theorem app_more_up {d : WinD} {k B b q : Nat} {s : SegD} {kq mq : Option Nat} {w0 : World} (hO : d.Ok k) (hk : k ≤ 900) (H : PlQ w0 B b d q) (hse : s.e < 160) (hBq : B ≤ q) (Bq_0 : Blk w0 q 95 (segC 0 s kq mq)) (hkq : KeyP w0 B kq s.key) (hmqq : MapP w0 B mq s.map) (hf : d.segs.length ≠ d.places) (h0 : 0 < d.segs.length) (hup : d.tgt * 8 < s.e) : Calls Tryd.prog 34 #[pt b, pt q] w0 fun e w' => e = .returned .nilIface ∧ PlS w' B b (d.push s) ∧ Kt B DP w0 w' := by
 obtain ⟨g, hd, ms, kp, mp, arr, H, hq⟩ := H
 obtain ⟨tl, htl⟩ : ∃ tl, (hd + d.segs.length) % d.places = tl := ⟨_, rfl⟩
 have hp1 := hO.p1
 have hp12 := hO.p12
 have hroom := hO.room
 have hseq := hO.seq
 have hhd := H.ring.hlt
 have htlt : tl < d.places := htl ▸ Nat.mod_lt _ (by omega)
 have hgb : g ≠ b := H.row.ne_ H.blk (by decide)
 have Bb_0 : Blk w0 b 104 #[(.float .f64 (fn d.tgt)), (.int .u64 d.seq), (.slice (some ⟨g, 0, none⟩) d.places d.places), (.string ⟨#[]⟩), (.bool d.ifr), (.bool d.clo), (.int .u64 0), (.int .u64 0), (.float .f64 0), (.bool false), (.bool false), (.int .i64 0), (.int .u64 d.written), (.int .u64 d.places), (.int .u64 hd), (.int .u64 tl), (.int .u64 d.segs.length), (.slice none 0 0), (.int .i64 0), (.int .i8 0), (.int .u8 d.ver), (pto kp), (pto mp)] := by
   have h := H.blk
   unfold plC at h
   rw [htl] at h
   exact h
 have Bg_0 := H.row
 have hmsl := H.fms.1
 have hnl := H.fms.2.1
 obtain ⟨m, hm⟩ : ∃ m, ms[d.segs.length - 1]? = some m := ⟨_, List.getElem?_eq_getElem (by omega)⟩
 obtain ⟨L, hL⟩ : ∃ L, d.segs[d.segs.length - 1]? = some L := ⟨_, List.getElem?_eq_getElem (by omega)⟩
 obtain ⟨n, hn⟩ : ∃ n, d.nums[d.segs.length - 1]? = some n := ⟨_, List.getElem?_eq_getElem (by omega)⟩
 have hnk := hO.num n (List.mem_of_getElem? hn)
 obtain ⟨kp2, mp2, hBm, Bm_0, hk2, hm2⟩ := H.fms.2.2 _ L n m hL hn hm
 have Bm0 := Bm_0
 obtain ⟨j, hj⟩ : ∃ j, (if tl = 0 then d.places - 1 else tl - 1) = j := ⟨_, rfl⟩
 have harr : arr[j]? = some (pt m) := by
   have h := H.ring.last (m := m) (by omega) (by rw [hmsl]; exact hm)
   rw [hmsl, htl, hj] at h
   exact h
 have hjlt : j < d.places := by rw [← hj]; split <;> omega
 have hmb : m ≠ b := Bm_0.ne_ H.blk (by decide)
 have hgm : g ≠ m := H.row.ne_ Bm_0 (by decide)
 have hDk : ∀ x, x ∈ [b, m] → ∃ T c, Blk w0 x T c ∧ T ≠ 113 := fun x hx => by
   simp only [List.mem_cons, List.not_mem_nil, or_false] at hx
   rcases hx with rfl | rfl
   · exact ⟨_, _, H.blk, by decide⟩
   · exact ⟨_, _, Bm0, by decide⟩
 have hDm : ∀ x, x ∈ [b, m] → ∃ T c, Blk w0 x T c ∧ T ≠ 115 := fun x hx => by
   simp only [List.mem_cons, List.not_mem_nil, or_false] at hx
   rcases hx with rfl | rfl
   · exact ⟨_, _, H.blk, by decide⟩
   · exact ⟨_, _, Bm0, by decide⟩
 have hin : tl < arr.size := by rw [H.ring.size]; exact htlt
 have htg := hO.tgt
 have hqb : q ≠ b := Bq_0.ne_ H.blk (by decide)
 have hgq : g ≠ q := H.row.ne_ Bq_0 (by decide)
 have Bq0 := Bq_0
 have hmq : m ≠ q := fun e => hq (e ▸ List.mem_of_getElem? hm)
 have hj3 : (d.places + tl - 1) % d.places = j := by
   rw [← hj]
   split
   · next h => rw [h]; exact Nat.mod_eq_of_lt (by omega)
   · next h => rw [show d.places + tl - 1 = d.places + (tl - 1) by omega, Nat.add_mod_left]; exact Nat.mod_eq_of_lt (by omega)
 have hfl : ¬ (hd = tl) := fun e => by
   have h := (H.ring.full (by rw [hmsl]; omega)).1 (by rw [hmsl, htl]; exact e)
   rw [hmsl] at h
   omega
 refine calls_of_wp Tryd.func34 rfl ?_
 generalize hA : Act.mk _ _ = a0
 have F0 : Fz 113 a0 := by subst hA; exact ⟨by simp [Tryd.ntmps34], rfl⟩
 have h0_0 : a0.tmps.getD 0 undef = (.pointer (some ⟨b, 0, none⟩)) := by subst hA; exact fr_arg rfl
 have h1_0 : a0.tmps.getD 1 undef = (.pointer (some ⟨q, 0, none⟩)) := by subst hA; exact fr_arg rfl
 have Kp0 := Kp.refl [b, g, q] w0
 refine wp_sr ?_
 refine wl_pq F0 (ex_as (v := .nilIface) rfl) fun a1 u1 F1 h4_1 => ?_
 change Code.wp _ _ _ _ _
 refine wp_seq ?_
 refine wp_seq ?_
 obtain ⟨w1, hw1⟩ : ∃ w, w = w0.drew := ⟨_, rfl⟩
 have G1 : w0.grownBy w1 none := hw1 ▸ grown_drew _
 have Bg_1 := Bg_0.gn G1
 have Bb_1 := Bb_0.gn G1
 have Bm_1 := Bm_0.gn G1
 have Bq_1 := Bq_0.gn G1
 have Kp1 := Kp0.new G1
 refine rg_still hw1 hmix (by kernel_rfl) ?_
 refine st_pq F1 (ex_mv (u1.w h0_0)) fun a2 u2 F2 h5_2 => ?_
 refine st_pq F2 (ex_nil h5_2) fun a3 u3 F3 h6_3 => ?_
 refine st_pq F3 (ex_fb 14 h6_3) fun a4 u4 F4 h7_4 => ?_
 refine st_pq F4 (ex_le (v := (.int .u64 hd)) h7_4 (Bb_1.cell 14)) fun a5 u5 F5 h8_5 => ?_
 have h0_5 := u5.w (u4.w (u3.w (u2.w (u1.w h0_0))))
 refine st_pq F5 (ex_mv h0_5) fun a6 u6 F6 h9_6 => ?_
 refine st_pq F6 (ex_nil h9_6) fun a7 u7 F7 h10_7 => ?_
 refine st_pq F7 (ex_fb 15 h10_7) fun a8 u8 F8 h11_8 => ?_
 refine st_pq F8 (ex_le (v := (.int .u64 tl)) h11_8 (Bb_1.cell 15)) fun a9 u9 F9 h12_9 => ?_
 have h8_9 := u9.w (u8.w (u7.w (u6.w h8_5)))
 refine st_pq F9 (ex_bin (v := (.bool false)) h8_9 h12_9 ((uo_eq hd tl _).trans (by rw [decide_eq_false (by omega)]))) fun a10 u10 F10 h13_10 => ?_
 refine st_pq F10 (ex_mv h13_10) fun a11 u11 F11 h14_11 => ?_
 refine st_k (yl (e := 14) rfl h14_11) (by decide) F11.l fun a12 u12 h15_12 => ?_
 have F12 := F11.pt u12
 refine st_k (yl (e := 14) rfl (u12.w h14_11)) (by decide) F12.l fun a13 u13 h16_13 => ?_
 have F13 := F12.pt u13
 refine st_k (yl (e := 14) rfl (u13.w (u12.w h14_11))) (by decide) F13.l fun a14 u14 h17_14 => ?_
 have F14 := F13.pt u14
 have h14_14 := u14.w (u13.w (u12.w h14_11))
 refine st_k (yl (e := 14) rfl h14_14) (by decide) F14.l fun a15 u15 h18_15 => ?_
 have F15 := F14.pt u15
 refine st_k (yl (e := 14) rfl (u15.w h14_14)) (by decide) F15.l fun a16 u16 h19_16 => ?_
 have F16 := F15.pt u16
 refine st_pq F16 (ex_pick (q := false) (v := (.bool false)) (u16.w (u15.w h14_14)) rfl) fun a17 u17 F17 h20_17 => ?_
 change Code.wp _ _ _ _ _
 refine wp_cond_false h20_17 ?_
 refine wp_skip ?_
 change Code.wp _ _ _ _ _
 refine wp_sr ?_
 have h1_17 := u17.w (u16.w (u15.w (u14.w (u13.w (u12.w (u11.w (u10.w (u9.w (u8.w (u7.w (u6.w (u5.w (u4.w (u3.w (u2.w (u1.w h1_0))))))))))))))))
 refine wl_pq F17 (ex_mv h1_17) fun a18 u18 F18 h22_18 => ?_
 have h0_18 := u18.w (u17.w (u16.w (u15.w (u14.w (u13.w (u12.w (u11.w (u10.w (u9.w (u8.w (u7.w (u6.w h0_5))))))))))))
 refine wl_pq F18 (ex_mv h0_18) fun a19 u19 F19 h23_19 => ?_
 refine wl_pq F19 (ex_nil h23_19) fun a20 u20 F20 h24_20 => ?_
 refine wl_pq F20 (ex_fb 1 h24_20) fun a21 u21 F21 h25_21 => ?_
 refine wl_pq F21 (ex_le (v := (.int .u64 d.seq)) h25_21 (Bb_1.cell 1)) fun a22 u22 F22 h26_22 => ?_
 have h22_22 := u22.w (u21.w (u20.w (u19.w h22_18)))
 refine wl_pq F22 (ex_nil h22_22) fun a23 u23 F23 h27_23 => ?_
 refine wl_pq F23 (ex_fb 0 h27_23) fun a24 u24 F24 h28_24 => ?_
 obtain ⟨w2, hr2, Bq_2, G2⟩ := st_run (T := 34) (o := 0) (v := (.int .u64 d.seq)) (cs' := #[(.int .u64 d.seq), (.string s.title), (.string s.uri), (.float .f64 (fb s.e)), (.int .i64 s.li), (.int .i64 s.off), (pto kq), (pto mq), (.bool s.disc), (.pointer none), (.string s.date)]) (fun _ => by kernel_rfl) Bq_1 rfl (Nat.le_of_ble_eq_true rfl) rfl
 have Bg_2 := Bg_1.gk G2 hgq
 have Bb_2 := Bb_1.gk G2 (Ne.symm hqb)
 have Bm_2 := Bm_1.gk G2 hmq
 have Kp2 := Kp1.set G2 (Or.inl (by simp))
 refine wl_n (ex_st h28_24 (u24.w (u23.w h26_22)) hr2) ?_
 change Code.wp _ _ _ _ _
 refine wp_seq ?_
 refine wp_sr ?_
 have h0_24 := u24.w (u23.w (u22.w (u21.w (u20.w (u19.w h0_18)))))
 refine wl_pq F24 (ex_mv h0_24) fun a25 u25 F25 h29_25 => ?_
 refine wl_pq F25 (ex_nil h29_25) fun a26 u26 F26 h30_26 => ?_
 refine wl_pq F26 (ex_fb 16 h30_26) fun a27 u27 F27 h31_27 => ?_
 refine wl_pq F27 (ex_le (v := (.int .u64 d.segs.length)) h31_27 (Bb_2.cell 16)) fun a28 u28 F28 h32_28 => ?_
 refine wl_pq F28 (ex_bin (vy := (.int .u64 0)) (v := (.bool true)) h32_28 rfl ((uo_gt d.segs.length 0 _).trans (by rw [decide_eq_true (by omega)]))) fun a29 u29 F29 h33_29 => ?_
 change Code.wp _ _ _ _ _
 refine wp_cond_true h33_29 ?_
 obtain ⟨w3, hw3⟩ : ∃ w, w = w2.drew := ⟨_, rfl⟩
 have G3 : w2.grownBy w3 none := hw3 ▸ grown_drew _
 have Bg_3 := Bg_2.gn G3
 have Bb_3 := Bb_2.gn G3
 have Bm_3 := Bm_2.gn G3
 have Bq_3 := Bq_2.gn G3
 have Kp3 := Kp2.new G3
 refine rg_stillt 28 hw3 hmix (by kernel_rfl) ?_
 have h1_29 := u29.w (u28.w (u27.w (u26.w (u25.w (u24.w (u23.w (u22.w (u21.w (u20.w (u19.w (u18.w h1_17)))))))))))
 refine st_pq F29 (ex_mv h1_29) fun a30 u30 F30 h34_30 => ?_
 have h0_30 := u30.w (u29.w (u28.w (u27.w (u26.w (u25.w h0_24)))))
 refine st_pq F30 (ex_mv h0_30) fun a31 u31 F31 h35_31 => ?_
 refine st_pq F31 (ex_nil h35_31) fun a32 u32 F32 h36_32 => ?_
 refine st_pq F32 (ex_fb 2 h36_32) fun a33 u33 F33 h37_33 => ?_
 refine st_pq F33 (ex_le (v := (.slice (some ⟨g, 0, none⟩) d.places d.places)) h37_33 (Bb_3.cell 2)) fun a34 u34 F34 h38_34 => ?_
 have h0_34 := u34.w (u33.w (u32.w (u31.w h0_30)))
 refine st_pq F34 (ex_mv h0_34) fun a35 u35 F35 h39_35 => ?_
 refine st_pq F35 (ex_nil h39_35) fun a36 u36 F36 h40_36 => ?_
 refine st_pq F36 (ex_fb 13 h40_36) fun a37 u37 F37 h41_37 => ?_
 refine st_pq F37 (ex_le (v := (.int .u64 d.places)) h41_37 (Bb_3.cell 13)) fun a38 u38 F38 h42_38 => ?_
 have h0_38 := u38.w (u37.w (u36.w (u35.w h0_34)))
 refine st_pq F38 (ex_mv h0_38) fun a39 u39 F39 h43_39 => ?_
 refine st_pq F39 (ex_nil h43_39) fun a40 u40 F40 h44_40 => ?_
 refine st_pq F40 (ex_fb 15 h44_40) fun a41 u41 F41 h45_41 => ?_
 refine st_pq F41 (ex_le (v := (.int .u64 tl)) h45_41 (Bb_3.cell 15)) fun a42 u42 F42 h46_42 => ?_
 have h42_42 := u42.w (u41.w (u40.w (u39.w h42_38)))
 refine st_pq F42 (ex_bin (v := (.int .u64 (d.places + tl : Nat))) h42_42 h46_42 (uo_add d.places tl (by omega) _)) fun a43 u43 F43 h47_43 => ?_
 refine st_pq F43 (ex_bin (vy := (.int .u64 1)) (v := (.int .u64 ((d.places + tl : Nat) - 1 : Nat))) h47_43 rfl (uo_sub (d.places + tl : Nat) 1 (by omega) (by omega) _)) fun a44 u44 F44 h48_44 => ?_
 have h0_44 := u44.w (u43.w (u42.w (u41.w (u40.w (u39.w h0_38)))))
 refine st_pq F44 (ex_mv h0_44) fun a45 u45 F45 h49_45 => ?_
 refine st_pq F45 (ex_nil h49_45) fun a46 u46 F46 h50_46 => ?_
 refine st_pq F46 (ex_fb 13 h50_46) fun a47 u47 F47 h51_47 => ?_
 refine st_pq F47 (ex_le (v := (.int .u64 d.places)) h51_47 (Bb_3.cell 13)) fun a48 u48 F48 h52_48 => ?_
 have h48_48 := u48.w (u47.w (u46.w (u45.w h48_44)))
 refine st_pq F48 (ex_bin (v := (.int .u64 j)) h48_48 h52_48 ((uo_rem ((d.places + tl : Nat) - 1 : Nat) d.places (by omega) (by omega) _).trans (by rw [hj3]))) fun a49 u49 F49 h53_49 => ?_
 have h38_49 := u49.w (u48.w (u47.w (u46.w (u45.w (u44.w (u43.w (u42.w (u41.w (u40.w (u39.w (u38.w (u37.w (u36.w (u35.w h38_34))))))))))))))
 refine st_pq F49 (ex_ixg (vx := (.slice (some ⟨g, 0, none⟩) d.places d.places)) (vy := (.int .u64 j)) (v := (.pointer (some ⟨g, j, none⟩))) h38_49 h53_49 (ix_pm g d.places j (by omega) _)) fun a50 u50 F50 h54_50 => ?_
 refine st_pq F50 (ex_le (v := pt m) h54_50 ((Bg_3.cell j).trans harr)) fun a51 u51 F51 (h55_51 : a51.tmps.getD 55 undef = (.pointer (some ⟨m, 0, none⟩))) => ?_
 refine st_pq F51 (ex_nil h55_51) fun a52 u52 F52 h56_52 => ?_
 refine st_pq F52 (ex_fb 0 h56_52) fun a53 u53 F53 h57_53 => ?_
 refine st_pq F53 (ex_le (v := (.int .u64 n)) h57_53 (Bm_3.cell 0)) fun a54 u54 F54 h58_54 => ?_
 refine st_pq F54 (ex_bin (vy := (.int .u64 1)) (v := (.int .u64 (n + 1 : Nat))) h58_54 rfl (bo_add64 n 1 (by omega) _)) fun a55 u55 F55 h59_55 => ?_
 have h34_55 := u55.w (u54.w (u53.w (u52.w (u51.w (u50.w (u49.w (u48.w (u47.w (u46.w (u45.w (u44.w (u43.w (u42.w (u41.w (u40.w (u39.w (u38.w (u37.w (u36.w (u35.w (u34.w (u33.w (u32.w (u31.w h34_30))))))))))))))))))))))))
 refine st_pq F55 (ex_nil h34_55) fun a56 u56 F56 h60_56 => ?_
 refine st_pq F56 (ex_fb 0 h60_56) fun a57 u57 F57 h61_57 => ?_
 obtain ⟨w4, hr4, Bq_4, G4⟩ := st_run (T := 34) (o := 0) (v := (.int .u64 (n + 1 : Nat))) (cs' := #[(.int .u64 (n + 1 : Nat)), (.string s.title), (.string s.uri), (.float .f64 (fb s.e)), (.int .i64 s.li), (.int .i64 s.off), (pto kq), (pto mq), (.bool s.disc), (.pointer none), (.string s.date)]) (fun _ => by kernel_rfl) Bq_3 rfl (Nat.le_of_ble_eq_true rfl) rfl
 have Bg_4 := Bg_3.gk G4 hgq
 have Bb_4 := Bb_3.gk G4 (Ne.symm hqb)
 have Bm_4 := Bm_3.gk G4 hmq
 have Kp4 := Kp3.set G4 (Or.inl (by simp))
 refine wl_n (ex_st h61_57 (u57.w (u56.w h59_55)) hr4) ?_
 change Code.wp _ _ _ _ _
 refine wp_seq ?_
 obtain ⟨w5, hw5⟩ : ∃ w, w = w4.drew := ⟨_, rfl⟩
 have G5 : w4.grownBy w5 none := hw5 ▸ grown_drew _
 have Bg_5 := Bg_4.gn G5
 have Bb_5 := Bb_4.gn G5
 have Bm_5 := Bm_4.gn G5
 have Bq_5 := Bq_4.gn G5
 have Kp5 := Kp4.new G5
 refine rg_stillt 10 hw5 hmix (by kernel_rfl) ?_
 have h0_57 := u57.w (u56.w (u55.w (u54.w (u53.w (u52.w (u51.w (u50.w (u49.w (u48.w (u47.w (u46.w (u45.w h0_44))))))))))))
 refine st_pq F57 (ex_mv h0_57) fun a58 u58 F58 h62_58 => ?_
 refine st_pq F58 (ex_nil h62_58) fun a59 u59 F59 h63_59 => ?_
 refine st_pq F59 (ex_fb 2 h63_59) fun a60 u60 F60 h64_60 => ?_
 refine st_pq F60 (ex_le (v := (.slice (some ⟨g, 0, none⟩) d.places d.places)) h64_60 (Bb_5.cell 2)) fun a61 u61 F61 h65_61 => ?_
 have h0_61 := u61.w (u60.w (u59.w (u58.w h0_57)))
 refine st_pq F61 (ex_mv h0_61) fun a62 u62 F62 h66_62 => ?_
 refine st_pq F62 (ex_nil h66_62) fun a63 u63 F63 h67_63 => ?_
 refine st_pq F63 (ex_fb 15 h67_63) fun a64 u64 F64 h68_64 => ?_
 refine st_pq F64 (ex_le (v := (.int .u64 tl)) h68_64 (Bb_5.cell 15)) fun a65 u65 F65 h69_65 => ?_
 have h1_65 := u65.w (u64.w (u63.w (u62.w (u61.w (u60.w (u59.w (u58.w (u57.w (u56.w (u55.w (u54.w (u53.w (u52.w (u51.w (u50.w (u49.w (u48.w (u47.w (u46.w (u45.w (u44.w (u43.w (u42.w (u41.w (u40.w (u39.w (u38.w (u37.w (u36.w (u35.w (u34.w (u33.w (u32.w (u31.w (u30.w h1_29)))))))))))))))))))))))))))))))))))
 refine st_pq F65 (ex_mv h1_65) fun a66 u66 F66 h70_66 => ?_
 have h65_66 := u66.w (u65.w (u64.w (u63.w (u62.w h65_61))))
 refine st_pq F66 (ex_ixg (vx := (.slice (some ⟨g, 0, none⟩) d.places d.places)) (vy := (.int .u64 tl)) (v := (.pointer (some ⟨g, tl, none⟩))) h65_66 (u66.w h69_65) (ix_pm g d.places tl (by omega) _)) fun a67 u67 F67 h71_67 => ?_
 obtain ⟨w6, hr6, Bg_6, G6⟩ := st_run (T := 90) (o := tl) (v := (.pointer (some ⟨q, 0, none⟩))) (cs' := (arr.setIfInBounds tl (.pointer (some ⟨q, 0, none⟩)))) (fun _ => by kernel_rfl) Bg_5 rfl (hin) rfl
 have Bb_6 := Bb_5.gk G6 (Ne.symm hgb)
 have Bm_6 := Bm_5.gk G6 (Ne.symm hgm)
 have Bq_6 := Bq_5.gk G6 (Ne.symm hgq)
 have Kp6 := Kp5.set G6 (Or.inl (by simp))
 refine wl_n (ex_st h71_67 (u67.w h70_66) hr6) ?_
 change Code.wp _ _ _ _ _
 refine wp_seq ?_
 obtain ⟨w7, hw7⟩ : ∃ w, w = w6.drew := ⟨_, rfl⟩
 have G7 : w6.grownBy w7 none := hw7 ▸ grown_drew _
 have Bg_7 := Bg_6.gn G7
 have Bb_7 := Bb_6.gn G7
 have Bm_7 := Bm_6.gn G7
 have Bq_7 := Bq_6.gn G7
 have Kp7 := Kp6.new G7
 refine rg_stillt 11 hw7 hmix (by kernel_rfl) ?_
 have h0_67 := u67.w (u66.w (u65.w (u64.w (u63.w (u62.w h0_61)))))
 refine st_pq F67 (ex_mv h0_67) fun a68 u68 F68 h72_68 => ?_
 refine st_pq F68 (ex_mv (u68.w h0_67)) fun a69 u69 F69 h73_69 => ?_
 refine st_pq F69 (ex_nil h73_69) fun a70 u70 F70 h74_70 => ?_
 refine st_pq F70 (ex_fb 15 h74_70) fun a71 u71 F71 h75_71 => ?_
 refine st_pq F71 (ex_le (v := (.int .u64 tl)) h75_71 (Bb_7.cell 15)) fun a72 u72 F72 h76_72 => ?_
 refine st_pq F72 (ex_bin (vy := (.int .u64 1)) (v := (.int .u64 (tl + 1 : Nat))) h76_72 rfl (uo_add tl 1 (by omega) _)) fun a73 u73 F73 h77_73 => ?_
 have h0_73 := u73.w (u72.w (u71.w (u70.w (u69.w (u68.w h0_67)))))
 refine st_pq F73 (ex_mv h0_73) fun a74 u74 F74 h78_74 => ?_
 refine st_pq F74 (ex_nil h78_74) fun a75 u75 F75 h79_75 => ?_
 refine st_pq F75 (ex_fb 13 h79_75) fun a76 u76 F76 h80_76 => ?_
 refine st_pq F76 (ex_le (v := (.int .u64 d.places)) h80_76 (Bb_7.cell 13)) fun a77 u77 F77 h81_77 => ?_
 have h77_77 := u77.w (u76.w (u75.w (u74.w h77_73)))
 refine st_pq F77 (ex_bin (v := (.int .u64 ((tl + 1 : Nat) % d.places : Nat))) h77_77 h81_77 (uo_rem (tl + 1 : Nat) d.places (by omega) (by omega) _)) fun a78 u78 F78 h82_78 => ?_
 have h72_78 := u78.w (u77.w (u76.w (u75.w (u74.w (u73.w (u72.w (u71.w (u70.w (u69.w h72_68)))))))))
 refine wl_pq F78 (ex_nil h72_78) fun a79 u79 F79 h83_79 => ?_
 refine wl_pq F79 (ex_fb 15 h83_79) fun a80 u80 F80 h84_80 => ?_
 obtain ⟨w8, hr8, Bb_8, G8⟩ := st_run (T := 42) (o := 15) (v := (.int .u64 ((tl + 1 : Nat) % d.places : Nat))) (cs' := #[(.float .f64 (fn d.tgt)), (.int .u64 d.seq), (.slice (some ⟨g, 0, none⟩) d.places d.places), (.string ⟨#[]⟩), (.bool d.ifr), (.bool d.clo), (.int .u64 0), (.int .u64 0), (.float .f64 0), (.bool false), (.bool false), (.int .i64 0), (.int .u64 d.written), (.int .u64 d.places), (.int .u64 hd), (.int .u64 ((tl + 1 : Nat) % d.places : Nat)), (.int .u64 d.segs.length), (.slice none 0 0), (.int .i64 0), (.int .i8 0), (.int .u8 d.ver), (pto kp), (pto mp)]) (fun _ => by kernel_rfl) Bb_7 rfl (Nat.le_of_ble_eq_true rfl) rfl
 have Bg_8 := Bg_7.gk G8 hgb
 have Bm_8 := Bm_7.gk G8 hmb
 have Bq_8 := Bq_7.gk G8 hqb
 have Kp8 := Kp7.set G8 (Or.inl (by simp))
 refine wl_n (ex_st h84_80 (u80.w (u79.w h82_78)) hr8) ?_
 change Code.wp _ _ _ _ _
 refine wp_sr ?_
 have h0_80 := u80.w (u79.w (u78.w (u77.w (u76.w (u75.w (u74.w h0_73))))))
 refine wl_pq F80 (ex_mv h0_80) fun a81 u81 F81 h85_81 => ?_
 refine wl_pq F81 (ex_nil h85_81) fun a82 u82 F82 h86_82 => ?_
 refine wl_pq F82 (ex_fb 16 h86_82) fun a83 u83 F83 h87_83 => ?_
 refine wl_pq F83 (ex_le (v := (.int .u64 d.segs.length)) h87_83 (Bb_8.cell 16)) fun a84 u84 F84 h88_84 => ?_
 refine wl_pq F84 (ex_bin (vy := (.int .u64 1)) (v := (.int .u64 (d.segs.length + 1 : Nat))) h88_84 rfl (uo_add d.segs.length 1 (by omega) _)) fun a85 u85 F85 h89_85 => ?_
 have h85_85 := u85.w (u84.w (u83.w (u82.w h85_81)))
 refine wl_pq F85 (ex_nil h85_85) fun a86 u86 F86 h90_86 => ?_
 refine wl_pq F86 (ex_fb 16 h90_86) fun a87 u87 F87 h91_87 => ?_
 obtain ⟨w9, hr9, Bb_9, G9⟩ := st_run (T := 42) (o := 16) (v := (.int .u64 (d.segs.length + 1 : Nat))) (cs' := #[(.float .f64 (fn d.tgt)), (.int .u64 d.seq), (.slice (some ⟨g, 0, none⟩) d.places d.places), (.string ⟨#[]⟩), (.bool d.ifr), (.bool d.clo), (.int .u64 0), (.int .u64 0), (.float .f64 0), (.bool false), (.bool false), (.int .i64 0), (.int .u64 d.written), (.int .u64 d.places), (.int .u64 hd), (.int .u64 ((tl + 1 : Nat) % d.places : Nat)), (.int .u64 (d.segs.length + 1 : Nat)), (.slice none 0 0), (.int .i64 0), (.int .i8 0), (.int .u8 d.ver), (pto kp), (pto mp)]) (fun _ => by kernel_rfl) Bb_8 rfl (Nat.le_of_ble_eq_true rfl) rfl
 have Bg_9 := Bg_8.gk G9 hgb
 have Bm_9 := Bm_8.gk G9 hmb
 have Bq_9 := Bq_8.gk G9 hqb
 have Kp9 := Kp8.set G9 (Or.inl (by simp))
 refine wl_n (ex_st h91_87 (u87.w (u86.w h89_85)) hr9) ?_
 change Code.wp _ _ _ _ _
 refine wp_seq ?_
 refine wp_seq ?_
 obtain ⟨w10, hw10⟩ : ∃ w, w = w9.drew := ⟨_, rfl⟩
 have G10 : w9.grownBy w10 none := hw10 ▸ grown_drew _
 have Bg_10 := Bg_9.gn G10
 have Bb_10 := Bb_9.gn G10
 have Bm_10 := Bm_9.gn G10
 have Bq_10 := Bq_9.gn G10
 have Kp10 := Kp9.new G10
 refine rg_still hw10 hmix (by kernel_rfl) ?_
 have h0_87 := u87.w (u86.w (u85.w (u84.w (u83.w (u82.w (u81.w h0_80))))))
 refine st_pq F87 (ex_mv h0_87) fun a88 u88 F88 h92_88 => ?_
 refine st_pq F88 (ex_nil h92_88) fun a89 u89 F89 h93_89 => ?_
 refine st_pq F89 (ex_fb 0 h93_89) fun a90 u90 F90 h94_90 => ?_
 refine st_pq F90 (ex_le (v := (.float .f64 (fn d.tgt))) h94_90 (Bb_10.cell 0)) fun a91 u91 F91 h95_91 => ?_
 have h1_91 := u91.w (u90.w (u89.w (u88.w (u87.w (u86.w (u85.w (u84.w (u83.w (u82.w (u81.w (u80.w (u79.w (u78.w (u77.w (u76.w (u75.w (u74.w (u73.w (u72.w (u71.w (u70.w (u69.w (u68.w (u67.w (u66.w h1_65)))))))))))))))))))))))))
 refine st_pq F91 (ex_mv h1_91) fun a92 u92 F92 h96_92 => ?_
 refine st_pq F92 (ex_nil h96_92) fun a93 u93 F93 h97_93 => ?_
 refine st_pq F93 (ex_fb 3 h97_93) fun a94 u94 F94 h98_94 => ?_
 refine st_pq F94 (ex_le (v := (.float .f64 (fb s.e))) h98_94 (Bq_10.cell 3)) fun a95 u95 F95 h99_95 => ?_
 have h95_95 := u95.w (u94.w (u93.w (u92.w h95_91)))
 refine st_pq F95 (ex_bin (v := (.bool true)) h95_95 h99_95 ((fo_lt _ _ _).trans (by rw [td_ord (by omega) hse, decide_eq_true (by omega)]))) fun a96 u96 F96 h100_96 => ?_
 change Code.wp _ _ _ _ _
 refine wp_cond_true h100_96 ?_
 refine rg_list ?_
 have h0_96 := u96.w (u95.w (u94.w (u93.w (u92.w (u91.w (u90.w (u89.w (u88.w h0_87))))))))
 refine wl_pq F96 (ex_mv h0_96) fun a97 u97 F97 h101_97 => ?_
 have h1_97 := u97.w (u96.w (u95.w (u94.w (u93.w (u92.w h1_91)))))
 refine wl_pq F97 (ex_mv h1_97) fun a98 u98 F98 h102_98 => ?_
 refine wl_pq F98 (ex_nil h102_98) fun a99 u99 F99 h103_99 => ?_
 refine wl_pq F99 (ex_fb 3 h103_99) fun a100 u100 F100 h104_100 => ?_
 refine wl_pq F100 (ex_le (v := (.float .f64 (fb s.e))) h104_100 (Bq_10.cell 3)) fun a101 u101 F101 h105_101 => ?_
 refine wl_cl (args := #[(.float .f64 (fb s.e))]) (R := fun v w' => v = (.float .f64 (fn ((s.e + 7) / 8))) ∧ w10 = w') (ex_cl (fun _ _ => by kernel_rfl) (arg1 h105_101)) ((ceil_any (fb s.e) (fl_nan hse) _).mono fun _ _ h => ⟨_, h.1, by rw [fl_ceil hse], h.2⟩) F101.l ?_
 rintro v w' ⟨rfl, rfl⟩
 intro a102 u102 h106_102
 have F102 := F101.pt u102
 have h101_102 := u102.w (u101.w (u100.w (u99.w (u98.w h101_97))))
 refine wl_pq F102 (ex_nil h101_102) fun a103 u103 F103 h107_103 => ?_
 refine wl_pq F103 (ex_fb 0 h107_103) fun a104 u104 F104 h108_104 => ?_
 obtain ⟨w11, hr11, Bb_11, G11⟩ := st_run (T := 35) (o := 0) (v := (.float .f64 (fn ((s.e + 7) / 8)))) (cs' := #[(.float .f64 (fn ((s.e + 7) / 8))), (.int .u64 d.seq), (.slice (some ⟨g, 0, none⟩) d.places d.places), (.string ⟨#[]⟩), (.bool d.ifr), (.bool d.clo), (.int .u64 0), (.int .u64 0), (.float .f64 0), (.bool false), (.bool false), (.int .i64 0), (.int .u64 d.written), (.int .u64 d.places), (.int .u64 hd), (.int .u64 ((tl + 1 : Nat) % d.places : Nat)), (.int .u64 (d.segs.length + 1 : Nat)), (.slice none 0 0), (.int .i64 0), (.int .i8 0), (.int .u8 d.ver), (pto kp), (pto mp)]) (fun _ => by kernel_rfl) Bb_10 rfl (Nat.le_of_ble_eq_true rfl) rfl
 have Bg_11 := Bg_10.gk G11 hgb
 have Bm_11 := Bm_10.gk G11 hmb
 have Bq_11 := Bq_10.gk G11 hqb
 have Kp11 := Kp10.set G11 (Or.inl (by simp))
 refine wl_n (ex_st h108_104 (u104.w (u103.w h106_102)) hr11) ?_
 change Code.wp _ _ _ _ _
 refine wp_sr ?_
 have h0_104 := u104.w (u103.w (u102.w (u101.w (u100.w (u99.w (u98.w (u97.w h0_96)))))))
 refine wl_pq F104 (ex_mv h0_104) fun a105 u105 F105 h109_105 => ?_
 refine wl_pq F105 (ex_nil h109_105) fun a106 u106 F106 h110_106 => ?_
 refine wl_pq F106 (ex_fb 17 h110_106) fun a107 u107 F107 h111_107 => ?_
 refine wl_cl (args := #[(.pointer (some ⟨b, 17, none⟩))]) (R := fun v w' => v = .tuple #[] ∧ Blk w' b 104 #[(.float .f64 (fn ((s.e + 7) / 8))), (.int .u64 d.seq), (.slice (some ⟨g, 0, none⟩) d.places d.places), (.string ⟨#[]⟩), (.bool d.ifr), (.bool d.clo), (.int .u64 0), (.int .u64 0), (.float .f64 0), (.bool false), (.bool false), (.int .i64 0), (.int .u64 d.written), (.int .u64 d.places), (.int .u64 hd), (.int .u64 ((tl + 1 : Nat) % d.places : Nat)), (.int .u64 (d.segs.length + 1 : Nat)), (.slice none 0 0), (.int .i64 0), (.int .i8 0), (.int .u8 d.ver), (pto kp), (pto mp)] ∧ w11.grownBy w' (some b)) (ex_cl (fun _ _ => by kernel_rfl) (arg1 h111_107)) ((reset17 Bb_11).mono fun _ _ h => ⟨_, h.1, rfl, h.2⟩) F107.l ?_
 rintro v w12 ⟨rfl, Bb_12, G12⟩
 have Bg_12 := Bg_11.gk G12 hgb
 have Bm_12 := Bm_11.gk G12 hmb
 have Bq_12 := Bq_11.gk G12 hqb
 have Kp12 := Kp11.set G12 (Or.inl (by simp))
 intro a108 u108 h112_108
 have F108 := F107.pt u108
 change Code.wp _ _ _ _ _
 refine wp_sr ?_
 refine wl_pq F108 (ex_as (v := .nilIface) rfl) fun a109 u109 F109 h4_109 => ?_
 change Code.wp _ _ _ _ _
 refine wp_ret ?_
 have hnx : d.next = n + 1 := by
   unfold WinD.next
   rw [hO.len, hn]
 have etl : (hd + (d.segs.length + 1)) % d.places = (tl + 1) % d.places := by rw [← Nat.add_assoc, ← Nat.mod_add_mod, htl]
 obtain ⟨hS, hK⟩ := H.app (d' := d.push s) (n := n + 1) (s := s) (kq := kq) (mq := mq) hq Kp12 Bq0 hBq htl (by omega) (by have h := Bb_12; rw [← etl] at h; simp only [plC, WinD.push, List.length_append, List.length_cons, List.length_nil, Nat.zero_add, if_pos hup]; exact h) Bg_12 Bq_12 hkq hmqq rfl (by show d.nums ++ [d.next] = _; rw [hnx]) rfl rfl rfl
 try simp only [Exit.then, Exit.inBlock]
 exact bodyPost_ret (v := .nilIface) ((results_tmp rfl _ _ _).trans (by rw [h4_109])) F109.defers ⟨rfl, hS, hK⟩
theorem app_more_no {d : WinD} {k B b q : Nat} {s : SegD} {kq mq : Option Nat} {w0 : World} (hO : d.Ok k) (hk : k ≤ 900) (H : PlQ w0 B b d q) (hse : s.e < 160) (hBq : B ≤ q) (Bq_0 : Blk w0 q 95 (segC 0 s kq mq)) (hkq : KeyP w0 B kq s.key) (hmqq : MapP w0 B mq s.map) (hf : d.segs.length ≠ d.places) (h0 : 0 < d.segs.length) (hup : ¬ d.tgt * 8 < s.e) : Calls Tryd.prog 34 #[pt b, pt q] w0 fun e w' => e = .returned .nilIface ∧ PlS w' B b (d.push s) ∧ Kt B DP w0 w' := by
 obtain ⟨g, hd, ms, kp, mp, arr, H, hq⟩ := H
 obtain ⟨tl, htl⟩ : ∃ tl, (hd + d.segs.length) % d.places = tl := ⟨_, rfl⟩
 have hp1 := hO.p1
 have hp12 := hO.p12
 have hroom := hO.room
 have hseq := hO.seq
 have hhd := H.ring.hlt
 have htlt : tl < d.places := htl ▸ Nat.mod_lt _ (by omega)
 have hgb : g ≠ b := H.row.ne_ H.blk (by decide)
 have Bb_0 : Blk w0 b 104 #[(.float .f64 (fn d.tgt)), (.int .u64 d.seq), (.slice (some ⟨g, 0, none⟩) d.places d.places), (.string ⟨#[]⟩), (.bool d.ifr), (.bool d.clo), (.int .u64 0), (.int .u64 0), (.float .f64 0), (.bool false), (.bool false), (.int .i64 0), (.int .u64 d.written), (.int .u64 d.places), (.int .u64 hd), (.int .u64 tl), (.int .u64 d.segs.length), (.slice none 0 0), (.int .i64 0), (.int .i8 0), (.int .u8 d.ver), (pto kp), (pto mp)] := by
   have h := H.blk
   unfold plC at h
   rw [htl] at h
   exact h
 have Bg_0 := H.row
 have hmsl := H.fms.1
 have hnl := H.fms.2.1
 obtain ⟨m, hm⟩ : ∃ m, ms[d.segs.length - 1]? = some m := ⟨_, List.getElem?_eq_getElem (by omega)⟩
 obtain ⟨L, hL⟩ : ∃ L, d.segs[d.segs.length - 1]? = some L := ⟨_, List.getElem?_eq_getElem (by omega)⟩
 obtain ⟨n, hn⟩ : ∃ n, d.nums[d.segs.length - 1]? = some n := ⟨_, List.getElem?_eq_getElem (by omega)⟩
 have hnk := hO.num n (List.mem_of_getElem? hn)
 obtain ⟨kp2, mp2, hBm, Bm_0, hk2, hm2⟩ := H.fms.2.2 _ L n m hL hn hm
 have Bm0 := Bm_0
 obtain ⟨j, hj⟩ : ∃ j, (if tl = 0 then d.places - 1 else tl - 1) = j := ⟨_, rfl⟩
 have harr : arr[j]? = some (pt m) := by
   have h := H.ring.last (m := m) (by omega) (by rw [hmsl]; exact hm)
   rw [hmsl, htl, hj] at h
   exact h
 have hjlt : j < d.places := by rw [← hj]; split <;> omega
 have hmb : m ≠ b := Bm_0.ne_ H.blk (by decide)
 have hgm : g ≠ m := H.row.ne_ Bm_0 (by decide)
 have hDk : ∀ x, x ∈ [b, m] → ∃ T c, Blk w0 x T c ∧ T ≠ 113 := fun x hx => by
   simp only [List.mem_cons, List.not_mem_nil, or_false] at hx
   rcases hx with rfl | rfl
   · exact ⟨_, _, H.blk, by decide⟩
   · exact ⟨_, _, Bm0, by decide⟩
 have hDm : ∀ x, x ∈ [b, m] → ∃ T c, Blk w0 x T c ∧ T ≠ 115 := fun x hx => by
   simp only [List.mem_cons, List.not_mem_nil, or_false] at hx
   rcases hx with rfl | rfl
   · exact ⟨_, _, H.blk, by decide⟩
   · exact ⟨_, _, Bm0, by decide⟩
 have hin : tl < arr.size := by rw [H.ring.size]; exact htlt
 have htg := hO.tgt
 have hqb : q ≠ b := Bq_0.ne_ H.blk (by decide)
 have hgq : g ≠ q := H.row.ne_ Bq_0 (by decide)
 have Bq0 := Bq_0
 have hmq : m ≠ q := fun e => hq (e ▸ List.mem_of_getElem? hm)
 have hj3 : (d.places + tl - 1) % d.places = j := by
   rw [← hj]
   split
   · next h => rw [h]; exact Nat.mod_eq_of_lt (by omega)
   · next h => rw [show d.places + tl - 1 = d.places + (tl - 1) by omega, Nat.add_mod_left]; exact Nat.mod_eq_of_lt (by omega)
 have hfl : ¬ (hd = tl) := fun e => by
   have h := (H.ring.full (by rw [hmsl]; omega)).1 (by rw [hmsl, htl]; exact e)
   rw [hmsl] at h
   omega
 refine calls_of_wp Tryd.func34 rfl ?_
 generalize hA : Act.mk _ _ = a0
 have F0 : Fz 113 a0 := by subst hA; exact ⟨by simp [Tryd.ntmps34], rfl⟩
 have h0_0 : a0.tmps.getD 0 undef = (.pointer (some ⟨b, 0, none⟩)) := by subst hA; exact fr_arg rfl
 have h1_0 : a0.tmps.getD 1 undef = (.pointer (some ⟨q, 0, none⟩)) := by subst hA; exact fr_arg rfl
 have Kp0 := Kp.refl [b, g, q] w0
 refine wp_sr ?_
 refine wl_pq F0 (ex_as (v := .nilIface) rfl) fun a1 u1 F1 h4_1 => ?_
 change Code.wp _ _ _ _ _
 refine wp_seq ?_
 refine wp_seq ?_
 obtain ⟨w1, hw1⟩ : ∃ w, w = w0.drew := ⟨_, rfl⟩
 have G1 : w0.grownBy w1 none := hw1 ▸ grown_drew _
 have Bg_1 := Bg_0.gn G1
 have Bb_1 := Bb_0.gn G1
 have Bm_1 := Bm_0.gn G1
 have Bq_1 := Bq_0.gn G1
 have Kp1 := Kp0.new G1
 refine rg_still hw1 hmix (by kernel_rfl) ?_
 refine st_pq F1 (ex_mv (u1.w h0_0)) fun a2 u2 F2 h5_2 => ?_
 refine st_pq F2 (ex_nil h5_2) fun a3 u3 F3 h6_3 => ?_
 refine st_pq F3 (ex_fb 14 h6_3) fun a4 u4 F4 h7_4 => ?_
 refine st_pq F4 (ex_le (v := (.int .u64 hd)) h7_4 (Bb_1.cell 14)) fun a5 u5 F5 h8_5 => ?_
 have h0_5 := u5.w (u4.w (u3.w (u2.w (u1.w h0_0))))
 refine st_pq F5 (ex_mv h0_5) fun a6 u6 F6 h9_6 => ?_
 refine st_pq F6 (ex_nil h9_6) fun a7 u7 F7 h10_7 => ?_
 refine st_pq F7 (ex_fb 15 h10_7) fun a8 u8 F8 h11_8 => ?_
 refine st_pq F8 (ex_le (v := (.int .u64 tl)) h11_8 (Bb_1.cell 15)) fun a9 u9 F9 h12_9 => ?_
 have h8_9 := u9.w (u8.w (u7.w (u6.w h8_5)))
 refine st_pq F9 (ex_bin (v := (.bool false)) h8_9 h12_9 ((uo_eq hd tl _).trans (by rw [decide_eq_false (by omega)]))) fun a10 u10 F10 h13_10 => ?_
 refine st_pq F10 (ex_mv h13_10) fun a11 u11 F11 h14_11 => ?_
 refine st_k (yl (e := 14) rfl h14_11) (by decide) F11.l fun a12 u12 h15_12 => ?_
 have F12 := F11.pt u12
 refine st_k (yl (e := 14) rfl (u12.w h14_11)) (by decide) F12.l fun a13 u13 h16_13 => ?_
 have F13 := F12.pt u13
 refine st_k (yl (e := 14) rfl (u13.w (u12.w h14_11))) (by decide) F13.l fun a14 u14 h17_14 => ?_
 have F14 := F13.pt u14
 have h14_14 := u14.w (u13.w (u12.w h14_11))
 refine st_k (yl (e := 14) rfl h14_14) (by decide) F14.l fun a15 u15 h18_15 => ?_
 have F15 := F14.pt u15
 refine st_k (yl (e := 14) rfl (u15.w h14_14)) (by decide) F15.l fun a16 u16 h19_16 => ?_
 have F16 := F15.pt u16
 refine st_pq F16 (ex_pick (q := false) (v := (.bool false)) (u16.w (u15.w h14_14)) rfl) fun a17 u17 F17 h20_17 => ?_
 change Code.wp _ _ _ _ _
 refine wp_cond_false h20_17 ?_
 refine wp_skip ?_
 change Code.wp _ _ _ _ _
 refine wp_sr ?_
 have h1_17 := u17.w (u16.w (u15.w (u14.w (u13.w (u12.w (u11.w (u10.w (u9.w (u8.w (u7.w (u6.w (u5.w (u4.w (u3.w (u2.w (u1.w h1_0))))))))))))))))
 refine wl_pq F17 (ex_mv h1_17) fun a18 u18 F18 h22_18 => ?_
 have h0_18 := u18.w (u17.w (u16.w (u15.w (u14.w (u13.w (u12.w (u11.w (u10.w (u9.w (u8.w (u7.w (u6.w h0_5))))))))))))
 refine wl_pq F18 (ex_mv h0_18) fun a19 u19 F19 h23_19 => ?_
 refine wl_pq F19 (ex_nil h23_19) fun a20 u20 F20 h24_20 => ?_
 refine wl_pq F20 (ex_fb 1 h24_20) fun a21 u21 F21 h25_21 => ?_
 refine wl_pq F21 (ex_le (v := (.int .u64 d.seq)) h25_21 (Bb_1.cell 1)) fun a22 u22 F22 h26_22 => ?_
 have h22_22 := u22.w (u21.w (u20.w (u19.w h22_18)))
 refine wl_pq F22 (ex_nil h22_22) fun a23 u23 F23 h27_23 => ?_
 refine wl_pq F23 (ex_fb 0 h27_23) fun a24 u24 F24 h28_24 => ?_
 obtain ⟨w2, hr2, Bq_2, G2⟩ := st_run (T := 34) (o := 0) (v := (.int .u64 d.seq)) (cs' := #[(.int .u64 d.seq), (.string s.title), (.string s.uri), (.float .f64 (fb s.e)), (.int .i64 s.li), (.int .i64 s.off), (pto kq), (pto mq), (.bool s.disc), (.pointer none), (.string s.date)]) (fun _ => by kernel_rfl) Bq_1 rfl (Nat.le_of_ble_eq_true rfl) rfl
 have Bg_2 := Bg_1.gk G2 hgq
 have Bb_2 := Bb_1.gk G2 (Ne.symm hqb)
 have Bm_2 := Bm_1.gk G2 hmq
 have Kp2 := Kp1.set G2 (Or.inl (by simp))
 refine wl_n (ex_st h28_24 (u24.w (u23.w h26_22)) hr2) ?_
 change Code.wp _ _ _ _ _
 refine wp_seq ?_
 refine wp_sr ?_
 have h0_24 := u24.w (u23.w (u22.w (u21.w (u20.w (u19.w h0_18)))))
 refine wl_pq F24 (ex_mv h0_24) fun a25 u25 F25 h29_25 => ?_
 refine wl_pq F25 (ex_nil h29_25) fun a26 u26 F26 h30_26 => ?_
 refine wl_pq F26 (ex_fb 16 h30_26) fun a27 u27 F27 h31_27 => ?_
 refine wl_pq F27 (ex_le (v := (.int .u64 d.segs.length)) h31_27 (Bb_2.cell 16)) fun a28 u28 F28 h32_28 => ?_
 refine wl_pq F28 (ex_bin (vy := (.int .u64 0)) (v := (.bool true)) h32_28 rfl ((uo_gt d.segs.length 0 _).trans (by rw [decide_eq_true (by omega)]))) fun a29 u29 F29 h33_29 => ?_
 change Code.wp _ _ _ _ _
 refine wp_cond_true h33_29 ?_
 obtain ⟨w3, hw3⟩ : ∃ w, w = w2.drew := ⟨_, rfl⟩
 have G3 : w2.grownBy w3 none := hw3 ▸ grown_drew _
 have Bg_3 := Bg_2.gn G3
 have Bb_3 := Bb_2.gn G3
 have Bm_3 := Bm_2.gn G3
 have Bq_3 := Bq_2.gn G3
 have Kp3 := Kp2.new G3
 refine rg_stillt 28 hw3 hmix (by kernel_rfl) ?_
 have h1_29 := u29.w (u28.w (u27.w (u26.w (u25.w (u24.w (u23.w (u22.w (u21.w (u20.w (u19.w (u18.w h1_17)))))))))))
 refine st_pq F29 (ex_mv h1_29) fun a30 u30 F30 h34_30 => ?_
 have h0_30 := u30.w (u29.w (u28.w (u27.w (u26.w (u25.w h0_24)))))
 refine st_pq F30 (ex_mv h0_30) fun a31 u31 F31 h35_31 => ?_
 refine st_pq F31 (ex_nil h35_31) fun a32 u32 F32 h36_32 => ?_
 refine st_pq F32 (ex_fb 2 h36_32) fun a33 u33 F33 h37_33 => ?_
 refine st_pq F33 (ex_le (v := (.slice (some ⟨g, 0, none⟩) d.places d.places)) h37_33 (Bb_3.cell 2)) fun a34 u34 F34 h38_34 => ?_
 have h0_34 := u34.w (u33.w (u32.w (u31.w h0_30)))
 refine st_pq F34 (ex_mv h0_34) fun a35 u35 F35 h39_35 => ?_
 refine st_pq F35 (ex_nil h39_35) fun a36 u36 F36 h40_36 => ?_
 refine st_pq F36 (ex_fb 13 h40_36) fun a37 u37 F37 h41_37 => ?_
 refine st_pq F37 (ex_le (v := (.int .u64 d.places)) h41_37 (Bb_3.cell 13)) fun a38 u38 F38 h42_38 => ?_
 have h0_38 := u38.w (u37.w (u36.w (u35.w h0_34)))
 refine st_pq F38 (ex_mv h0_38) fun a39 u39 F39 h43_39 => ?_
 refine st_pq F39 (ex_nil h43_39) fun a40 u40 F40 h44_40 => ?_
 refine st_pq F40 (ex_fb 15 h44_40) fun a41 u41 F41 h45_41 => ?_
 refine st_pq F41 (ex_le (v := (.int .u64 tl)) h45_41 (Bb_3.cell 15)) fun a42 u42 F42 h46_42 => ?_
 have h42_42 := u42.w (u41.w (u40.w (u39.w h42_38)))
 refine st_pq F42 (ex_bin (v := (.int .u64 (d.places + tl : Nat))) h42_42 h46_42 (uo_add d.places tl (by omega) _)) fun a43 u43 F43 h47_43 => ?_
 refine st_pq F43 (ex_bin (vy := (.int .u64 1)) (v := (.int .u64 ((d.places + tl : Nat) - 1 : Nat))) h47_43 rfl (uo_sub (d.places + tl : Nat) 1 (by omega) (by omega) _)) fun a44 u44 F44 h48_44 => ?_
 have h0_44 := u44.w (u43.w (u42.w (u41.w (u40.w (u39.w h0_38)))))
 refine st_pq F44 (ex_mv h0_44) fun a45 u45 F45 h49_45 => ?_
 refine st_pq F45 (ex_nil h49_45) fun a46 u46 F46 h50_46 => ?_
 refine st_pq F46 (ex_fb 13 h50_46) fun a47 u47 F47 h51_47 => ?_
 refine st_pq F47 (ex_le (v := (.int .u64 d.places)) h51_47 (Bb_3.cell 13)) fun a48 u48 F48 h52_48 => ?_
 have h48_48 := u48.w (u47.w (u46.w (u45.w h48_44)))
 refine st_pq F48 (ex_bin (v := (.int .u64 j)) h48_48 h52_48 ((uo_rem ((d.places + tl : Nat) - 1 : Nat) d.places (by omega) (by omega) _).trans (by rw [hj3]))) fun a49 u49 F49 h53_49 => ?_
 have h38_49 := u49.w (u48.w (u47.w (u46.w (u45.w (u44.w (u43.w (u42.w (u41.w (u40.w (u39.w (u38.w (u37.w (u36.w (u35.w h38_34))))))))))))))
 refine st_pq F49 (ex_ixg (vx := (.slice (some ⟨g, 0, none⟩) d.places d.places)) (vy := (.int .u64 j)) (v := (.pointer (some ⟨g, j, none⟩))) h38_49 h53_49 (ix_pm g d.places j (by omega) _)) fun a50 u50 F50 h54_50 => ?_
 refine st_pq F50 (ex_le (v := pt m) h54_50 ((Bg_3.cell j).trans harr)) fun a51 u51 F51 (h55_51 : a51.tmps.getD 55 undef = (.pointer (some ⟨m, 0, none⟩))) => ?_
 refine st_pq F51 (ex_nil h55_51) fun a52 u52 F52 h56_52 => ?_
 refine st_pq F52 (ex_fb 0 h56_52) fun a53 u53 F53 h57_53 => ?_
 refine st_pq F53 (ex_le (v := (.int .u64 n)) h57_53 (Bm_3.cell 0)) fun a54 u54 F54 h58_54 => ?_
 refine st_pq F54 (ex_bin (vy := (.int .u64 1)) (v := (.int .u64 (n + 1 : Nat))) h58_54 rfl (bo_add64 n 1 (by omega) _)) fun a55 u55 F55 h59_55 => ?_
 have h34_55 := u55.w (u54.w (u53.w (u52.w (u51.w (u50.w (u49.w (u48.w (u47.w (u46.w (u45.w (u44.w (u43.w (u42.w (u41.w (u40.w (u39.w (u38.w (u37.w (u36.w (u35.w (u34.w (u33.w (u32.w (u31.w h34_30))))))))))))))))))))))))
 refine st_pq F55 (ex_nil h34_55) fun a56 u56 F56 h60_56 => ?_
 refine st_pq F56 (ex_fb 0 h60_56) fun a57 u57 F57 h61_57 => ?_
 obtain ⟨w4, hr4, Bq_4, G4⟩ := st_run (T := 34) (o := 0) (v := (.int .u64 (n + 1 : Nat))) (cs' := #[(.int .u64 (n + 1 : Nat)), (.string s.title), (.string s.uri), (.float .f64 (fb s.e)), (.int .i64 s.li), (.int .i64 s.off), (pto kq), (pto mq), (.bool s.disc), (.pointer none), (.string s.date)]) (fun _ => by kernel_rfl) Bq_3 rfl (Nat.le_of_ble_eq_true rfl) rfl
 have Bg_4 := Bg_3.gk G4 hgq
 have Bb_4 := Bb_3.gk G4 (Ne.symm hqb)
 have Bm_4 := Bm_3.gk G4 hmq
 have Kp4 := Kp3.set G4 (Or.inl (by simp))
 refine wl_n (ex_st h61_57 (u57.w (u56.w h59_55)) hr4) ?_
 change Code.wp _ _ _ _ _
 refine wp_seq ?_
 obtain ⟨w5, hw5⟩ : ∃ w, w = w4.drew := ⟨_, rfl⟩
 have G5 : w4.grownBy w5 none := hw5 ▸ grown_drew _
 have Bg_5 := Bg_4.gn G5
 have Bb_5 := Bb_4.gn G5
 have Bm_5 := Bm_4.gn G5
 have Bq_5 := Bq_4.gn G5
 have Kp5 := Kp4.new G5
 refine rg_stillt 10 hw5 hmix (by kernel_rfl) ?_
 have h0_57 := u57.w (u56.w (u55.w (u54.w (u53.w (u52.w (u51.w (u50.w (u49.w (u48.w (u47.w (u46.w (u45.w h0_44))))))))))))
 refine st_pq F57 (ex_mv h0_57) fun a58 u58 F58 h62_58 => ?_
 refine st_pq F58 (ex_nil h62_58) fun a59 u59 F59 h63_59 => ?_
 refine st_pq F59 (ex_fb 2 h63_59) fun a60 u60 F60 h64_60 => ?_
 refine st_pq F60 (ex_le (v := (.slice (some ⟨g, 0, none⟩) d.places d.places)) h64_60 (Bb_5.cell 2)) fun a61 u61 F61 h65_61 => ?_
 have h0_61 := u61.w (u60.w (u59.w (u58.w h0_57)))
 refine st_pq F61 (ex_mv h0_61) fun a62 u62 F62 h66_62 => ?_
 refine st_pq F62 (ex_nil h66_62) fun a63 u63 F63 h67_63 => ?_
 refine st_pq F63 (ex_fb 15 h67_63) fun a64 u64 F64 h68_64 => ?_
 refine st_pq F64 (ex_le (v := (.int .u64 tl)) h68_64 (Bb_5.cell 15)) fun a65 u65 F65 h69_65 => ?_
 have h1_65 := u65.w (u64.w (u63.w (u62.w (u61.w (u60.w (u59.w (u58.w (u57.w (u56.w (u55.w (u54.w (u53.w (u52.w (u51.w (u50.w (u49.w (u48.w (u47.w (u46.w (u45.w (u44.w (u43.w (u42.w (u41.w (u40.w (u39.w (u38.w (u37.w (u36.w (u35.w (u34.w (u33.w (u32.w (u31.w (u30.w h1_29)))))))))))))))))))))))))))))))))))
 refine st_pq F65 (ex_mv h1_65) fun a66 u66 F66 h70_66 => ?_
 have h65_66 := u66.w (u65.w (u64.w (u63.w (u62.w h65_61))))
 refine st_pq F66 (ex_ixg (vx := (.slice (some ⟨g, 0, none⟩) d.places d.places)) (vy := (.int .u64 tl)) (v := (.pointer (some ⟨g, tl, none⟩))) h65_66 (u66.w h69_65) (ix_pm g d.places tl (by omega) _)) fun a67 u67 F67 h71_67 => ?_
 obtain ⟨w6, hr6, Bg_6, G6⟩ := st_run (T := 90) (o := tl) (v := (.pointer (some ⟨q, 0, none⟩))) (cs' := (arr.setIfInBounds tl (.pointer (some ⟨q, 0, none⟩)))) (fun _ => by kernel_rfl) Bg_5 rfl (hin) rfl
 have Bb_6 := Bb_5.gk G6 (Ne.symm hgb)
 have Bm_6 := Bm_5.gk G6 (Ne.symm hgm)
 have Bq_6 := Bq_5.gk G6 (Ne.symm hgq)
 have Kp6 := Kp5.set G6 (Or.inl (by simp))
 refine wl_n (ex_st h71_67 (u67.w h70_66) hr6) ?_
 change Code.wp _ _ _ _ _
 refine wp_seq ?_
 obtain ⟨w7, hw7⟩ : ∃ w, w = w6.drew := ⟨_, rfl⟩
 have G7 : w6.grownBy w7 none := hw7 ▸ grown_drew _
 have Bg_7 := Bg_6.gn G7
 have Bb_7 := Bb_6.gn G7
 have Bm_7 := Bm_6.gn G7
 have Bq_7 := Bq_6.gn G7
 have Kp7 := Kp6.new G7
 refine rg_stillt 11 hw7 hmix (by kernel_rfl) ?_
 have h0_67 := u67.w (u66.w (u65.w (u64.w (u63.w (u62.w h0_61)))))
 refine st_pq F67 (ex_mv h0_67) fun a68 u68 F68 h72_68 => ?_
 refine st_pq F68 (ex_mv (u68.w h0_67)) fun a69 u69 F69 h73_69 => ?_
 refine st_pq F69 (ex_nil h73_69) fun a70 u70 F70 h74_70 => ?_
 refine st_pq F70 (ex_fb 15 h74_70) fun a71 u71 F71 h75_71 => ?_
 refine st_pq F71 (ex_le (v := (.int .u64 tl)) h75_71 (Bb_7.cell 15)) fun a72 u72 F72 h76_72 => ?_
 refine st_pq F72 (ex_bin (vy := (.int .u64 1)) (v := (.int .u64 (tl + 1 : Nat))) h76_72 rfl (uo_add tl 1 (by omega) _)) fun a73 u73 F73 h77_73 => ?_
 have h0_73 := u73.w (u72.w (u71.w (u70.w (u69.w (u68.w h0_67)))))
 refine st_pq F73 (ex_mv h0_73) fun a74 u74 F74 h78_74 => ?_
 refine st_pq F74 (ex_nil h78_74) fun a75 u75 F75 h79_75 => ?_
 refine st_pq F75 (ex_fb 13 h79_75) fun a76 u76 F76 h80_76 => ?_
 refine st_pq F76 (ex_le (v := (.int .u64 d.places)) h80_76 (Bb_7.cell 13)) fun a77 u77 F77 h81_77 => ?_
 have h77_77 := u77.w (u76.w (u75.w (u74.w h77_73)))
 refine st_pq F77 (ex_bin (v := (.int .u64 ((tl + 1 : Nat) % d.places : Nat))) h77_77 h81_77 (uo_rem (tl + 1 : Nat) d.places (by omega) (by omega) _)) fun a78 u78 F78 h82_78 => ?_
 have h72_78 := u78.w (u77.w (u76.w (u75.w (u74.w (u73.w (u72.w (u71.w (u70.w (u69.w h72_68)))))))))
 refine wl_pq F78 (ex_nil h72_78) fun a79 u79 F79 h83_79 => ?_
 refine wl_pq F79 (ex_fb 15 h83_79) fun a80 u80 F80 h84_80 => ?_
 obtain ⟨w8, hr8, Bb_8, G8⟩ := st_run (T := 42) (o := 15) (v := (.int .u64 ((tl + 1 : Nat) % d.places : Nat))) (cs' := #[(.float .f64 (fn d.tgt)), (.int .u64 d.seq), (.slice (some ⟨g, 0, none⟩) d.places d.places), (.string ⟨#[]⟩), (.bool d.ifr), (.bool d.clo), (.int .u64 0), (.int .u64 0), (.float .f64 0), (.bool false), (.bool false), (.int .i64 0), (.int .u64 d.written), (.int .u64 d.places), (.int .u64 hd), (.int .u64 ((tl + 1 : Nat) % d.places : Nat)), (.int .u64 d.segs.length), (.slice none 0 0), (.int .i64 0), (.int .i8 0), (.int .u8 d.ver), (pto kp), (pto mp)]) (fun _ => by kernel_rfl) Bb_7 rfl (Nat.le_of_ble_eq_true rfl) rfl
 have Bg_8 := Bg_7.gk G8 hgb
 have Bm_8 := Bm_7.gk G8 hmb
 have Bq_8 := Bq_7.gk G8 hqb
 have Kp8 := Kp7.set G8 (Or.inl (by simp))
 refine wl_n (ex_st h84_80 (u80.w (u79.w h82_78)) hr8) ?_
 change Code.wp _ _ _ _ _
 refine wp_sr ?_
 have h0_80 := u80.w (u79.w (u78.w (u77.w (u76.w (u75.w (u74.w h0_73))))))
 refine wl_pq F80 (ex_mv h0_80) fun a81 u81 F81 h85_81 => ?_
 refine wl_pq F81 (ex_nil h85_81) fun a82 u82 F82 h86_82 => ?_
 refine wl_pq F82 (ex_fb 16 h86_82) fun a83 u83 F83 h87_83 => ?_
 refine wl_pq F83 (ex_le (v := (.int .u64 d.segs.length)) h87_83 (Bb_8.cell 16)) fun a84 u84 F84 h88_84 => ?_
 refine wl_pq F84 (ex_bin (vy := (.int .u64 1)) (v := (.int .u64 (d.segs.length + 1 : Nat))) h88_84 rfl (uo_add d.segs.length 1 (by omega) _)) fun a85 u85 F85 h89_85 => ?_
 have h85_85 := u85.w (u84.w (u83.w (u82.w h85_81)))
 refine wl_pq F85 (ex_nil h85_85) fun a86 u86 F86 h90_86 => ?_
 refine wl_pq F86 (ex_fb 16 h90_86) fun a87 u87 F87 h91_87 => ?_
 obtain ⟨w9, hr9, Bb_9, G9⟩ := st_run (T := 42) (o := 16) (v := (.int .u64 (d.segs.length + 1 : Nat))) (cs' := #[(.float .f64 (fn d.tgt)), (.int .u64 d.seq), (.slice (some ⟨g, 0, none⟩) d.places d.places), (.string ⟨#[]⟩), (.bool d.ifr), (.bool d.clo), (.int .u64 0), (.int .u64 0), (.float .f64 0), (.bool false), (.bool false), (.int .i64 0), (.int .u64 d.written), (.int .u64 d.places), (.int .u64 hd), (.int .u64 ((tl + 1 : Nat) % d.places : Nat)), (.int .u64 (d.segs.length + 1 : Nat)), (.slice none 0 0), (.int .i64 0), (.int .i8 0), (.int .u8 d.ver), (pto kp), (pto mp)]) (fun _ => by kernel_rfl) Bb_8 rfl (Nat.le_of_ble_eq_true rfl) rfl
 have Bg_9 := Bg_8.gk G9 hgb
 have Bm_9 := Bm_8.gk G9 hmb
 have Bq_9 := Bq_8.gk G9 hqb
 have Kp9 := Kp8.set G9 (Or.inl (by simp))
 refine wl_n (ex_st h91_87 (u87.w (u86.w h89_85)) hr9) ?_
 change Code.wp _ _ _ _ _
 refine wp_seq ?_
 refine wp_seq ?_
 obtain ⟨w10, hw10⟩ : ∃ w, w = w9.drew := ⟨_, rfl⟩
 have G10 : w9.grownBy w10 none := hw10 ▸ grown_drew _
 have Bg_10 := Bg_9.gn G10
 have Bb_10 := Bb_9.gn G10
 have Bm_10 := Bm_9.gn G10
 have Bq_10 := Bq_9.gn G10
 have Kp10 := Kp9.new G10
 refine rg_still hw10 hmix (by kernel_rfl) ?_
 have h0_87 := u87.w (u86.w (u85.w (u84.w (u83.w (u82.w (u81.w h0_80))))))
 refine st_pq F87 (ex_mv h0_87) fun a88 u88 F88 h92_88 => ?_
 refine st_pq F88 (ex_nil h92_88) fun a89 u89 F89 h93_89 => ?_
 refine st_pq F89 (ex_fb 0 h93_89) fun a90 u90 F90 h94_90 => ?_
 refine st_pq F90 (ex_le (v := (.float .f64 (fn d.tgt))) h94_90 (Bb_10.cell 0)) fun a91 u91 F91 h95_91 => ?_
 have h1_91 := u91.w (u90.w (u89.w (u88.w (u87.w (u86.w (u85.w (u84.w (u83.w (u82.w (u81.w (u80.w (u79.w (u78.w (u77.w (u76.w (u75.w (u74.w (u73.w (u72.w (u71.w (u70.w (u69.w (u68.w (u67.w (u66.w h1_65)))))))))))))))))))))))))
 refine st_pq F91 (ex_mv h1_91) fun a92 u92 F92 h96_92 => ?_
 refine st_pq F92 (ex_nil h96_92) fun a93 u93 F93 h97_93 => ?_
 refine st_pq F93 (ex_fb 3 h97_93) fun a94 u94 F94 h98_94 => ?_
 refine st_pq F94 (ex_le (v := (.float .f64 (fb s.e))) h98_94 (Bq_10.cell 3)) fun a95 u95 F95 h99_95 => ?_
 have h95_95 := u95.w (u94.w (u93.w (u92.w h95_91)))
 refine st_pq F95 (ex_bin (v := (.bool false)) h95_95 h99_95 ((fo_lt _ _ _).trans (by rw [td_ord (by omega) hse, decide_eq_false (by omega)]))) fun a96 u96 F96 h100_96 => ?_
 change Code.wp _ _ _ _ _
 refine wp_cond_false h100_96 ?_
 refine wp_skip ?_
 change Code.wp _ _ _ _ _
 refine wp_sr ?_
 have h0_96 := u96.w (u95.w (u94.w (u93.w (u92.w (u91.w (u90.w (u89.w (u88.w h0_87))))))))
 refine wl_pq F96 (ex_mv h0_96) fun a97 u97 F97 h109_97 => ?_
 refine wl_pq F97 (ex_nil h109_97) fun a98 u98 F98 h110_98 => ?_
 refine wl_pq F98 (ex_fb 17 h110_98) fun a99 u99 F99 h111_99 => ?_
 refine wl_cl (args := #[(.pointer (some ⟨b, 17, none⟩))]) (R := fun v w' => v = .tuple #[] ∧ Blk w' b 104 #[(.float .f64 (fn d.tgt)), (.int .u64 d.seq), (.slice (some ⟨g, 0, none⟩) d.places d.places), (.string ⟨#[]⟩), (.bool d.ifr), (.bool d.clo), (.int .u64 0), (.int .u64 0), (.float .f64 0), (.bool false), (.bool false), (.int .i64 0), (.int .u64 d.written), (.int .u64 d.places), (.int .u64 hd), (.int .u64 ((tl + 1 : Nat) % d.places : Nat)), (.int .u64 (d.segs.length + 1 : Nat)), (.slice none 0 0), (.int .i64 0), (.int .i8 0), (.int .u8 d.ver), (pto kp), (pto mp)] ∧ w10.grownBy w' (some b)) (ex_cl (fun _ _ => by kernel_rfl) (arg1 h111_99)) ((reset17 Bb_10).mono fun _ _ h => ⟨_, h.1, rfl, h.2⟩) F99.l ?_
 rintro v w11 ⟨rfl, Bb_11, G11⟩
 have Bg_11 := Bg_10.gk G11 hgb
 have Bm_11 := Bm_10.gk G11 hmb
 have Bq_11 := Bq_10.gk G11 hqb
 have Kp11 := Kp10.set G11 (Or.inl (by simp))
 intro a100 u100 h112_100
 have F100 := F99.pt u100
 change Code.wp _ _ _ _ _
 refine wp_sr ?_
 refine wl_pq F100 (ex_as (v := .nilIface) rfl) fun a101 u101 F101 h4_101 => ?_
 change Code.wp _ _ _ _ _
 refine wp_ret ?_
 have hnx : d.next = n + 1 := by
   unfold WinD.next
   rw [hO.len, hn]
 have etl : (hd + (d.segs.length + 1)) % d.places = (tl + 1) % d.places := by rw [← Nat.add_assoc, ← Nat.mod_add_mod, htl]
 obtain ⟨hS, hK⟩ := H.app (d' := d.push s) (n := n + 1) (s := s) (kq := kq) (mq := mq) hq Kp11 Bq0 hBq htl (by omega) (by have h := Bb_11; rw [← etl] at h; simp only [plC, WinD.push, List.length_append, List.length_cons, List.length_nil, Nat.zero_add, if_neg hup]; exact h) Bg_11 Bq_11 hkq hmqq rfl (by show d.nums ++ [d.next] = _; rw [hnx]) rfl rfl rfl
 try simp only [Exit.then, Exit.inBlock]
 exact bodyPost_ret (v := .nilIface) ((results_tmp rfl _ _ _).trans (by rw [h4_101])) F101.defers ⟨rfl, hS, hK⟩
end Go.Proofs.YtdpebhlkgmopkaaDoor
