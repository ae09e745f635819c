/-
 FnSteps: the methods of the specification's window as plain steps.
-/
import Derived.Test.YtdpebhlkgmopkaaDoorSpw
namespace Go.Proofs.YtdpebhlkgmopkaaDoor
open Go.RowKit
set_option maxRecDepth 100000
theorem WinS.blk {w : World} {base wb : Nat} {d : WinD} (h : WinS w base wb d) : ∃ c, Blk w wb 51 c := by
 obtain ⟨⟨kp, mp, sv, nv, h, _⟩, _⟩ := h
 exact ⟨_, h⟩
section
variable {d : WinD} {k : Nat}
theorem WinD.Ok.mono {k' : Nat} (h : d.Ok k) (hk : k ≤ k') : d.Ok k' := ⟨h.len, h.room, h.p1, h.p12, h.wr, h.ver, Nat.le_trans h.seq hk, fun n hn => Nat.le_trans (h.num n hn) hk, h.tgt, h.segs⟩
theorem WinD.next_le (h : d.Ok k) : d.next ≤ k + 1 := by
 unfold WinD.next
 split
 · next n hn => have := h.num n (List.mem_of_getElem? hn); omega
 · have := h.seq; omega
theorem WinD.Ok.push {s : SegD} (h : d.Ok k) (hs : SegOk s) (hf : d.segs.length ≠ d.places) : (d.push s).Ok (k + 1) := by
 refine ⟨by simp [WinD.push, h.len], ?_, h.p1, h.p12, h.wr, h.ver, ?_, ?_, ?_, ?_⟩
 · have := h.room
   simp only [WinD.push, List.length_append, List.length_cons, List.length_nil]; omega
 · have := h.seq
   exact Nat.le_succ_of_le this
 · intro n hn
   simp only [WinD.push, List.mem_append, List.mem_singleton] at hn
   rcases hn with hn | rfl
   · exact Nat.le_succ_of_le (h.num n hn)
   · exact WinD.next_le h
 · have := h.tgt
   have := hs.2
   simp only [WinD.push]
   split <;> omega
 · intro x hx
   simp only [WinD.push, List.mem_append, List.mem_singleton] at hx
   rcases hx with hx | rfl
   · exact h.segs x hx
   · exact hs
theorem WinD.Ok.put {s : SegD} (h : d.Ok k) (hs : SegOk s) : (d.put s).Ok (k + 1) := by
 unfold WinD.put
 split
 · exact h.mono (Nat.le_succ k)
 · next hf => exact h.push hs hf
theorem WinD.Ok.take (h : d.Ok k) : d.take.Ok (k + 1) := by
 unfold WinD.take
 split
 · exact h.mono (Nat.le_succ k)
 · refine ⟨by simp [h.len], by have := h.room; simp only [List.length_tail]; omega, h.p1, h.p12, h.wr, h.ver, ?_, fun n hn => Nat.le_succ_of_le (h.num n (List.mem_of_mem_tail hn)), h.tgt, fun s hs => h.segs s (List.mem_of_mem_tail hs)⟩
   have := h.seq
   show (if d.clo then d.seq else d.seq + 1) ≤ k + 1
   split <;> omega
theorem WinD.Ok.slide {s : SegD} (h : d.Ok k) (hs : SegOk s) : (d.slide s).Ok (k + 2) := by
 unfold WinD.slide
 split
 · exact h.take.put hs
 · exact (h.mono (Nat.le_succ k)).put hs
theorem WinD.Ok.upd {f : SegD → SegD} (h : d.Ok k) (hf : ∀ s, SegOk s → SegOk (f s)) : (d.upd f).Ok k := by
 unfold WinD.upd
 split
 · next s hs =>
   refine ⟨by simp [h.len], by simp only [List.length_set]; exact h.room, h.p1, h.p12, h.wr, h.ver, h.seq, h.num, h.tgt, fun x hx => ?_⟩
   rcases List.mem_or_eq_of_mem_set hx with hx | rfl
   · exact h.segs x hx
   · exact hf s (h.segs s (List.mem_of_getElem? hs))
 · exact h
theorem WinD.Ok.least {n : Nat} (h : d.Ok k) (hn : n < 16) : (d.least n).Ok k := ⟨h.len, h.room, h.p1, h.p12, h.wr, by have := h.ver; show max d.ver n < 16; omega, h.seq, h.num, h.tgt, h.segs⟩
end
theorem put_any {d : WinD} {k base wb : Nat} {kp2 mp2 : Option Nat} {s : SegD} {w0 : World} (hO : d.Ok k) (hk : k ≤ 900) (H : WinS w0 base wb d) (hse : s.e ≤ 1000) (ks_0 : SKey w0 kp2 s.key) (ms_0 : SMap w0 mp2 s.map) :
   Calls Tryd.prog 7 #[pt wb, .agg (ssegC s kp2 mp2)] w0 fun e w' => e = .returned (.bool (decide (d.segs.length ≠ d.places))) ∧ WinS w' base wb (d.put s) ∧ Kt base DS w0 w' := by
 obtain ⟨⟨kp, mp, sv, nv, hB, hkq, hmq, hsw, hnw⟩, hb, hw⟩ := H
 have hlen := hO.len
 have hr := hO.room
 have hp := hO.p12
 have htg := hO.tgt
 by_cases hf : d.segs.length = d.places
 · refine (put_full hw hb (by omega) (by omega) (by omega) hse hf hB hsw hnw ks_0 ms_0).mono ?_
   rintro e w' ⟨rfl, h1, h2, h3, K⟩
   refine ⟨by rw [decide_eq_false (fun h => h hf)], ?_, K⟩
   unfold WinD.put
   rw [if_pos hf]
   exact ⟨⟨kp, mp, sv, nv, h1, hkq.kt K (by decide), hmq.kt K (by decide), h2, h3⟩, hb, K.le hw⟩
 · have hput : d.put s = d.push s := by unfold WinD.put; rw [if_neg hf]
   rw [hput, decide_eq_true hf]
   rcases Nat.eq_zero_or_pos d.segs.length with h0 | h0
   · have hnx : d.next = d.seq := by
       unfold WinD.next
       rw [List.getElem?_eq_none (by omega)]
     refine (put_nil hw hb (by omega) (by omega) (by omega) hse hf h0 hB hsw hnw ks_0 ms_0).mono ?_
     rintro e w' ⟨rfl, sv2, nv2, h1, h2, h3, K⟩
     refine ⟨rfl, ⟨⟨kp, mp, sv2, nv2, h1, hkq.kt K (by decide), hmq.kt K (by decide), h2, ?_⟩, hb, K.le hw⟩, K⟩
     show NW w' base nv2 (d.nums ++ [d.next])
     rw [hnx]; exact h3
   · obtain ⟨m, hm⟩ : ∃ m, d.nums[d.segs.length - 1]? = some m := ⟨_, List.getElem?_eq_getElem (by omega)⟩
     have hnx : d.next = m + 1 := by
       unfold WinD.next
       rw [hlen, hm]
     have hm1 := hO.num m (List.mem_of_getElem? hm)
     refine (put_some hw hb (by omega) (by omega) (by omega) hse hf h0 hm (by omega) hB hsw hnw ks_0 ms_0).mono ?_
     rintro e w' ⟨rfl, sv2, nv2, h1, h2, h3, K⟩
     refine ⟨rfl, ⟨⟨kp, mp, sv2, nv2, h1, hkq.kt K (by decide), hmq.kt K (by decide), h2, ?_⟩, hb, K.le hw⟩, K⟩
     show NW w' base nv2 (d.nums ++ [d.next])
     rw [hnx]; exact h3
theorem take_any {d : WinD} {k base wb : Nat} {w0 : World} (hO : d.Ok k) (hk : k ≤ 900) (H : WinS w0 base wb d) :
   Calls Tryd.prog 8 #[pt wb] w0 fun e w' => e = .returned (.bool (decide (d.segs.length ≠ 0))) ∧ WinS w' base wb d.take ∧ w0.grownBy w' (some wb) := by
 obtain ⟨⟨kp, mp, sv, nv, hB, hkq, hmq, hsw, hnw⟩, hb, hw⟩ := H
 have hlen := hO.len
 have hsq : d.seq < 1000 := by have := hO.seq; omega
 rcases d with ⟨places, written, ver, seq, tgt, clo, ifr, key, map, segs, nums⟩
 dsimp only at *
 cases segs with
 | nil =>
   refine (take_nil hB hsw rfl).mono ?_
   rintro e w' ⟨rfl, rfl⟩
   exact ⟨rfl, ⟨⟨kp, mp, sv, nv, hB, hkq, hmq, hsw, hnw⟩, hb, hw⟩, grown_refl _ _⟩
 | cons s segs =>
   cases nums with
   | nil => simp at hlen
   | cons m ns =>
     cases clo with
     | true =>
       refine (take_true hsq hB hsw hnw).mono ?_
       rintro e w' ⟨rfl, sv2, nv2, h1, h2, h3, G⟩
       have K := Kt.of_blk hB G
       exact ⟨rfl, ⟨⟨kp, mp, sv2, nv2, h1, hkq.kt K (by decide), hmq.kt K (by decide), h2, h3⟩, hb, Nat.le_trans hw G.size⟩, G⟩
     | false =>
       refine (take_false hsq hB hsw hnw).mono ?_
       rintro e w' ⟨rfl, sv2, nv2, h1, h2, h3, G⟩
       have K := Kt.of_blk hB G
       exact ⟨rfl, ⟨⟨kp, mp, sv2, nv2, h1, hkq.kt K (by decide), hmq.kt K (by decide), h2, h3⟩, hb, Nat.le_trans hw G.size⟩, G⟩
theorem frames_any {d : WinD} {base wb : Nat} {w0 : World} (H : WinS w0 base wb d) :
   Calls Tryd.prog 18 #[pt wb] w0 fun e w' => e = .returned (.tuple #[]) ∧ WinS w' base wb { d.least 4 with ifr := true } ∧ Kt base DS w0 w' := by
 obtain ⟨⟨kp, mp, sv, nv, hB, hkq, hmq, hsw, hnw⟩, hb, hw⟩ := H
 refine (frames_raw hB).mono ?_
 rintro e w' ⟨rfl, h1, G⟩
 have K := Kt.of_blk hB G
 exact ⟨rfl, ⟨⟨kp, mp, sv, nv, h1, hkq.kt K (by decide), hmq.kt K (by decide), hsw.kt K (by decide) (by decide) (by decide), hnw.kt K (by decide)⟩, hb, Nat.le_trans hw G.size⟩, (Kt.refl base DS w0).blk hw hB hb (by decide) G⟩
/-- a field of one segment is set -/
theorem SW.setL {w : World} {base : Nat} {v : Value} {segs : List SegD} {T j f : Nat} {u : Value} {L L' : SegD} {g2 U2 : Nat} (hT : SZ T) (h : SW w base v segs) (hL : segs[j]? = some L) (hf : f < 9) (hu : u.oneCell' = true) (hix : ∀ w, (Instr.indexAt 48 v (.int .i64 j)).run Tryd.prog w = .ok (.pointer (some ⟨g2, U2, none⟩)) w)
   (hs : ∀ kp mp, SKey w kp L.key → SMap w mp L.map → ∃ kp' mp', (∀ k, k < 9 → (if k = f then some u else (ssegC L kp mp)[k]?) = (ssegC L' kp' mp')[k]?) ∧ SKey w kp' L'.key ∧ SMap w mp' L'.map) :
   ∃ w', (Instr.storeAt T (.pointer (some ⟨g2, U2 + f, none⟩)) u).run Tryd.prog w = .ok () w' ∧ SW w' base v (segs.set j L') ∧ w.grownBy w' (some g2) ∧ (∃ cur, Blk w g2 32 cur) ∧ base ≤ g2 := by
 obtain ⟨hj, rfl⟩ := List.getElem?_eq_some_iff.1 hL
 exact h.set hT hj hf hu (hix w) hs
theorem SW.last {w : World} {base : Nat} {v : Value} {segs : List SegD} (h : SW w base v segs) (hn : 0 < segs.length) : ∃ g U, ∀ w', (Instr.indexAt 48 v (.int .i64 (segs.length - 1 : Nat))).run Tryd.prog w' = .ok (.pointer (some ⟨g, U, none⟩)) w' := by
 obtain ⟨g, U, kp, mp, h1, _⟩ := h.elem (j := segs.length - 1) (by omega)
 exact ⟨g, U, h1⟩
theorem WinD.upd_some {d : WinD} {f : SegD → SegD} {L : SegD} (hL : d.segs[d.segs.length - 1]? = some L) : d.upd f = { d with segs := d.segs.set (d.segs.length - 1) (f L) } := by
 unfold WinD.upd; rw [hL]
theorem slide_clo {d : WinD} {k base wb : Nat} {kp2 mp2 : Option Nat} {s : SegD} {w0 : World} (hc : d.clo = true) (hO : d.Ok k) (hk : k < 900) (H : WinS w0 base wb d) (hse : s.e ≤ 1000) (ks_0 : SKey w0 kp2 s.key) (ms_0 : SMap w0 mp2 s.map) : Calls Tryd.prog 9 #[pt wb, .agg (ssegC s kp2 mp2)] w0 fun e w' => e = .returned (.tuple #[]) ∧ WinS w' base wb (d.slide s) ∧ Kt base DS w0 w' := by
 have H_0 := H
 obtain ⟨⟨kp, mp, sv, nv, Bx, -, -, sw_0, -⟩, hb, hw⟩ := H
 have Bw_0 : Blk w0 wb 51 #[(.int .i64 d.places), (.int .i64 d.written), (.int .i64 d.ver), (.int .u64 d.seq), (.int .i64 d.tgt), (.bool true), (.bool d.ifr), (pto kp), (pto mp), sv, nv] := by
   have h := Bx
   unfold winC at h
   rw [hc] at h
   exact h
 clear Bx
 refine calls_of_wp Tryd.func9 rfl ?_
 generalize hA : Act.mk _ _ = a0
 have F0 : Fz 26 a0 := by subst hA; exact ⟨by simp [Tryd.ntmps9], rfl⟩
 have h0_0 : a0.tmps.getD 0 undef = (.pointer (some ⟨wb, 0, none⟩)) := by subst hA; exact fr_arg rfl
 have h1_0 : a0.tmps.getD 1 undef = (.agg #[(.string s.title), (.string s.uri), (.int .i64 s.e), (.int .i64 s.li), (.int .i64 s.off), (pto kp2), (pto mp2), (.bool s.disc), (.string s.date)]) := by subst hA; exact fr_arg rfl
 have K_0 := Kt.refl base DS w0
 refine wp_sr ?_
 obtain ⟨g3, hg3⟩ : ∃ g, w0.heap.size = g := ⟨_, rfl⟩
 have ne_w_3 : wb ≠ g3 := by have := Bw_0.lt; omega
 obtain ⟨w1, hr1, B3_1, G1, hs1⟩ := al_run (op := Instr.box 32 (.agg #[(.string s.title), (.string s.uri), (.int .i64 s.e), (.int .i64 s.li), (.int .i64 s.off), (pto kp2), (pto mp2), (.bool s.disc), (.string s.date)])) (T := 32) (cs := #[(.string s.title), (.string s.uri), (.int .i64 s.e), (.int .i64 s.li), (.int .i64 s.off), (pto kp2), (pto mp2), (.bool s.disc), (.string s.date)]) hg3 (fun _ => by kernel_rfl)
 have Bw_1 := Bw_0.gn G1
 have K_1 := K_0.nw hw G1
 have sw_1 := sw_0.kt (Kt.of_none G1) (by decide) (by decide) (by decide)
 have ks_1 := ks_0.kt (Kt.of_none G1) (by decide)
 have ms_1 := ms_0.kt (Kt.of_none G1) (by decide)
 have H_1 := H_0.kt (Kt.of_none G1) (by decide)
 refine wl_pq F0 (ex_bx h1_0 hr1) fun a1 u1 F1 (h3_1 : a1.tmps.getD 3 undef = (.pointer (some ⟨g3, 0, none⟩))) => ?_
 clear K_0 sw_0 H_0
 change Code.wp _ _ _ _ _
 refine wp_seq ?_
 refine wp_seq ?_
 obtain ⟨w2, hw2⟩ : ∃ w, w = w1.drew := ⟨_, rfl⟩
 have G2 : w1.grownBy w2 none := hw2 ▸ grown_drew _
 have Bw_2 := Bw_1.gn G2
 have B3_2 := B3_1.gn G2
 have K_2 := K_1.nw hw G2
 have sw_2 := sw_1.kt (Kt.of_none G2) (by decide) (by decide) (by decide)
 have ks_2 := ks_1.kt (Kt.of_none G2) (by decide)
 have ms_2 := ms_1.kt (Kt.of_none G2) (by decide)
 have H_2 := H_1.kt (Kt.of_none G2) (by decide)
 refine rg_still hw2 hmix (by kernel_rfl) ?_
 clear K_1 sw_1 H_1
 refine st_pq F1 (ex_mv (u1.w h0_0)) fun a2 u2 F2 h4_2 => ?_
 refine st_pq F2 (ex_nil h4_2) fun a3 u3 F3 h5_3 => ?_
 refine st_pq F3 (ex_fb 5 h5_3) fun a4 u4 F4 h6_4 => ?_
 refine st_pq F4 (ex_le (v := (.bool true)) h6_4 (Bw_2.cell 5)) fun a5 u5 F5 h7_5 => ?_
 refine st_pq F5 (ex_un (vx := (.bool true)) (v := (.bool false)) h7_5 rfl) fun a6 u6 F6 h8_6 => ?_
 refine st_pq F6 (ex_mv h8_6) fun a7 u7 F7 h9_7 => ?_
 refine st_k (yl (e := 9) rfl h9_7) (by decide) F7.l fun a8 u8 h10_8 => ?_
 have F8 := F7.pt u8
 refine st_k (yl (e := 9) rfl (u8.w h9_7)) (by decide) F8.l fun a9 u9 h11_9 => ?_
 have F9 := F8.pt u9
 refine st_k (yl (e := 9) rfl (u9.w (u8.w h9_7))) (by decide) F9.l fun a10 u10 h12_10 => ?_
 have F10 := F9.pt u10
 have h9_10 := u10.w (u9.w (u8.w h9_7))
 refine st_k (yl (e := 9) rfl h9_10) (by decide) F10.l fun a11 u11 h13_11 => ?_
 have F11 := F10.pt u11
 refine st_k (yl (e := 9) rfl (u11.w h9_10)) (by decide) F11.l fun a12 u12 h14_12 => ?_
 have F12 := F11.pt u12
 refine st_k (yl (e := 9) rfl (u12.w (u11.w h9_10))) (by decide) F12.l fun a13 u13 h15_13 => ?_
 have F13 := F12.pt u13
 have h9_13 := u13.w (u12.w (u11.w h9_10))
 refine st_k (yl (e := 9) rfl h9_13) (by decide) F13.l fun a14 u14 h16_14 => ?_
 have F14 := F13.pt u14
 refine st_k (yl (e := 9) rfl (u14.w h9_13)) (by decide) F14.l fun a15 u15 h17_15 => ?_
 have F15 := F14.pt u15
 refine st_k (yl (e := 9) rfl (u15.w (u14.w h9_13))) (by decide) F15.l fun a16 u16 h18_16 => ?_
 have F16 := F15.pt u16
 have h9_16 := u16.w (u15.w (u14.w h9_13))
 refine st_k (yl (e := 9) rfl h9_16) (by decide) F16.l fun a17 u17 h19_17 => ?_
 have F17 := F16.pt u17
 refine st_pq F17 (ex_pick (q := false) (v := (.bool false)) (u17.w h9_16) rfl) fun a18 u18 F18 h20_18 => ?_
 change Code.wp _ _ _ _ _
 refine wp_cond_false h20_18 ?_
 refine wp_skip ?_
 change Code.wp _ _ _ _ _
 refine rg_list ?_
 have h0_18 := u18.w (u17.w (u16.w (u15.w (u14.w (u13.w (u12.w (u11.w (u10.w (u9.w (u8.w (u7.w (u6.w (u5.w (u4.w (u3.w (u2.w (u1.w h0_0)))))))))))))))))
 refine wl_pq F18 (ex_mv h0_18) fun a19 u19 F19 h23_19 => ?_
 have h3_19 := u19.w (u18.w (u17.w (u16.w (u15.w (u14.w (u13.w (u12.w (u11.w (u10.w (u9.w (u8.w (u7.w (u6.w (u5.w (u4.w (u3.w (u2.w h3_1)))))))))))))))))
 refine wl_pq F19 (ex_lda h3_19 (ld_agg (n := 9) (xs := #[(.string s.title), (.string s.uri), (.int .i64 s.e), (.int .i64 s.li), (.int .i64 s.off), (pto kp2), (pto mp2), (.bool s.disc), (.string s.date)]) (fun _ => by kernel_rfl) (fun _ => by kernel_rfl) B3_2 rfl (fun _ _ => by rw [Nat.zero_add] <;> rfl))) fun a20 u20 F20 (h24_20 : a20.tmps.getD 24 undef = (.agg #[(.string s.title), (.string s.uri), (.int .i64 s.e), (.int .i64 s.li), (.int .i64 s.off), (pto kp2), (pto mp2), (.bool s.disc), (.string s.date)])) => ?_
 refine wl_cl (args := #[(.pointer (some ⟨wb, 0, none⟩)), (.agg #[(.string s.title), (.string s.uri), (.int .i64 s.e), (.int .i64 s.li), (.int .i64 s.off), (pto kp2), (pto mp2), (.bool s.disc), (.string s.date)])]) (R := fun v w' => v = (.bool (decide ((d).segs.length ≠ (d).places))) ∧ WinS w' base wb ((d).put s) ∧ Kt base DS w2 w') (ex_cl (fun _ _ => by kernel_rfl) (arg2 (u20.w h23_19) h24_20)) ((put_any hO (by omega) H_2 hse ks_2 ms_2).mono fun _ _ h => ⟨_, h.1, rfl, h.2⟩) F20.l ?_
 rintro v w3 ⟨rfl, H_3, KK⟩
 have K_3 := K_2.trans KK
 clear K_2 KK
 intro a21 u21 h25_21
 have F21 := F20.pt u21
 exact bodyPost_end (v := .tuple #[]) (results_none rfl _ _ _) F21.defers ⟨rfl, by unfold WinD.slide; rw [hc]; exact H_3, K_3⟩
theorem slide_lt {d : WinD} {k base wb : Nat} {kp2 mp2 : Option Nat} {s : SegD} {w0 : World} (hc : d.clo = false) (hl : ¬ d.written ≤ d.segs.length) (hO : d.Ok k) (hk : k < 900) (H : WinS w0 base wb d) (hse : s.e ≤ 1000) (ks_0 : SKey w0 kp2 s.key) (ms_0 : SMap w0 mp2 s.map) : Calls Tryd.prog 9 #[pt wb, .agg (ssegC s kp2 mp2)] w0 fun e w' => e = .returned (.tuple #[]) ∧ WinS w' base wb (d.slide s) ∧ Kt base DS w0 w' := by
 have H_0 := H
 obtain ⟨⟨kp, mp, sv, nv, Bx, -, -, sw_0, -⟩, hb, hw⟩ := H
 have Bw_0 : Blk w0 wb 51 #[(.int .i64 d.places), (.int .i64 d.written), (.int .i64 d.ver), (.int .u64 d.seq), (.int .i64 d.tgt), (.bool false), (.bool d.ifr), (pto kp), (pto mp), sv, nv] := by
   have h := Bx
   unfold winC at h
   rw [hc] at h
   exact h
 clear Bx
 refine calls_of_wp Tryd.func9 rfl ?_
 generalize hA : Act.mk _ _ = a0
 have F0 : Fz 26 a0 := by subst hA; exact ⟨by simp [Tryd.ntmps9], rfl⟩
 have h0_0 : a0.tmps.getD 0 undef = (.pointer (some ⟨wb, 0, none⟩)) := by subst hA; exact fr_arg rfl
 have h1_0 : a0.tmps.getD 1 undef = (.agg #[(.string s.title), (.string s.uri), (.int .i64 s.e), (.int .i64 s.li), (.int .i64 s.off), (pto kp2), (pto mp2), (.bool s.disc), (.string s.date)]) := by subst hA; exact fr_arg rfl
 have K_0 := Kt.refl base DS w0
 refine wp_sr ?_
 obtain ⟨g3, hg3⟩ : ∃ g, w0.heap.size = g := ⟨_, rfl⟩
 have ne_w_3 : wb ≠ g3 := by have := Bw_0.lt; omega
 obtain ⟨w1, hr1, B3_1, G1, hs1⟩ := al_run (op := Instr.box 32 (.agg #[(.string s.title), (.string s.uri), (.int .i64 s.e), (.int .i64 s.li), (.int .i64 s.off), (pto kp2), (pto mp2), (.bool s.disc), (.string s.date)])) (T := 32) (cs := #[(.string s.title), (.string s.uri), (.int .i64 s.e), (.int .i64 s.li), (.int .i64 s.off), (pto kp2), (pto mp2), (.bool s.disc), (.string s.date)]) hg3 (fun _ => by kernel_rfl)
 have Bw_1 := Bw_0.gn G1
 have K_1 := K_0.nw hw G1
 have sw_1 := sw_0.kt (Kt.of_none G1) (by decide) (by decide) (by decide)
 have ks_1 := ks_0.kt (Kt.of_none G1) (by decide)
 have ms_1 := ms_0.kt (Kt.of_none G1) (by decide)
 have H_1 := H_0.kt (Kt.of_none G1) (by decide)
 refine wl_pq F0 (ex_bx h1_0 hr1) fun a1 u1 F1 (h3_1 : a1.tmps.getD 3 undef = (.pointer (some ⟨g3, 0, none⟩))) => ?_
 clear K_0 sw_0 H_0
 change Code.wp _ _ _ _ _
 refine wp_seq ?_
 refine wp_seq ?_
 obtain ⟨w2, hw2⟩ : ∃ w, w = w1.drew := ⟨_, rfl⟩
 have G2 : w1.grownBy w2 none := hw2 ▸ grown_drew _
 have Bw_2 := Bw_1.gn G2
 have B3_2 := B3_1.gn G2
 have K_2 := K_1.nw hw G2
 have sw_2 := sw_1.kt (Kt.of_none G2) (by decide) (by decide) (by decide)
 have ks_2 := ks_1.kt (Kt.of_none G2) (by decide)
 have ms_2 := ms_1.kt (Kt.of_none G2) (by decide)
 have H_2 := H_1.kt (Kt.of_none G2) (by decide)
 refine rg_still hw2 hmix (by kernel_rfl) ?_
 clear K_1 sw_1 H_1
 refine st_pq F1 (ex_mv (u1.w h0_0)) fun a2 u2 F2 h4_2 => ?_
 refine st_pq F2 (ex_nil h4_2) fun a3 u3 F3 h5_3 => ?_
 refine st_pq F3 (ex_fb 5 h5_3) fun a4 u4 F4 h6_4 => ?_
 refine st_pq F4 (ex_le (v := (.bool false)) h6_4 (Bw_2.cell 5)) fun a5 u5 F5 h7_5 => ?_
 refine st_pq F5 (ex_un (vx := (.bool false)) (v := (.bool true)) h7_5 rfl) fun a6 u6 F6 h8_6 => ?_
 refine st_pq F6 (ex_mv h8_6) fun a7 u7 F7 h9_7 => ?_
 have h0_7 := u7.w (u6.w (u5.w (u4.w (u3.w (u2.w (u1.w h0_0))))))
 refine st_g (yl (e := 9) rfl h9_7) (ex_mv h0_7) F7.l fun a8 u8 h10_8 => ?_
 have F8 := F7.pt u8
 refine st_g (yl (e := 9) rfl (u8.w h9_7)) (ex_nil h10_8) F8.l fun a9 u9 h11_9 => ?_
 have F9 := F8.pt u9
 refine st_g (yl (e := 9) rfl (u9.w (u8.w h9_7))) (ex_fb 9 h11_9) F9.l fun a10 u10 h12_10 => ?_
 have F10 := F9.pt u10
 have h9_10 := u10.w (u9.w (u8.w h9_7))
 refine st_g (yl (e := 9) rfl h9_10) (ex_le (v := sv) h12_10 (Bw_2.cell 9)) F10.l fun a11 u11 h13_11 => ?_
 have F11 := F10.pt u11
 refine st_g (yl (e := 9) rfl (u11.w h9_10)) (ex_bi (w' := w2) (args := #[sv]) (v := (.int .i64 d.segs.length)) (arg1 h13_11) (sw_2.len _)) F11.l fun a12 u12 h14_12 => ?_
 have F12 := F11.pt u12
 have h0_12 := u12.w (u11.w (u10.w (u9.w (u8.w h0_7))))
 refine st_g (yl (e := 9) rfl (u12.w (u11.w h9_10))) (ex_mv h0_12) F12.l fun a13 u13 h15_13 => ?_
 have F13 := F12.pt u13
 have h9_13 := u13.w (u12.w (u11.w h9_10))
 refine st_g (yl (e := 9) rfl h9_13) (ex_nil h15_13) F13.l fun a14 u14 h16_14 => ?_
 have F14 := F13.pt u14
 refine st_g (yl (e := 9) rfl (u14.w h9_13)) (ex_fb 1 h16_14) F14.l fun a15 u15 h17_15 => ?_
 have F15 := F14.pt u15
 refine st_g (yl (e := 9) rfl (u15.w (u14.w h9_13))) (ex_le (v := (.int .i64 d.written)) h17_15 (Bw_2.cell 1)) F15.l fun a16 u16 h18_16 => ?_
 have F16 := F15.pt u16
 have h9_16 := u16.w (u15.w (u14.w h9_13))
 have h14_16 := u16.w (u15.w (u14.w (u13.w h14_12)))
 refine st_g (yl (e := 9) rfl h9_16) (ex_bin (v := (.bool false)) h14_16 h18_16 ((bo_gen d.segs.length d.written _).trans (by rw [decide_eq_false hl]))) F16.l fun a17 u17 h19_17 => ?_
 have F17 := F16.pt u17
 refine st_pq F17 (ex_pick (q := true) (u17.w h9_16) h19_17) fun a18 u18 F18 h20_18 => ?_
 change Code.wp _ _ _ _ _
 refine wp_cond_false h20_18 ?_
 refine wp_skip ?_
 change Code.wp _ _ _ _ _
 refine rg_list ?_
 have h0_18 := u18.w (u17.w (u16.w (u15.w (u14.w (u13.w h0_12)))))
 refine wl_pq F18 (ex_mv h0_18) fun a19 u19 F19 h23_19 => ?_
 have h3_19 := u19.w (u18.w (u17.w (u16.w (u15.w (u14.w (u13.w (u12.w (u11.w (u10.w (u9.w (u8.w (u7.w (u6.w (u5.w (u4.w (u3.w (u2.w h3_1)))))))))))))))))
 refine wl_pq F19 (ex_lda h3_19 (ld_agg (n := 9) (xs := #[(.string s.title), (.string s.uri), (.int .i64 s.e), (.int .i64 s.li), (.int .i64 s.off), (pto kp2), (pto mp2), (.bool s.disc), (.string s.date)]) (fun _ => by kernel_rfl) (fun _ => by kernel_rfl) B3_2 rfl (fun _ _ => by rw [Nat.zero_add] <;> rfl))) fun a20 u20 F20 (h24_20 : a20.tmps.getD 24 undef = (.agg #[(.string s.title), (.string s.uri), (.int .i64 s.e), (.int .i64 s.li), (.int .i64 s.off), (pto kp2), (pto mp2), (.bool s.disc), (.string s.date)])) => ?_
 refine wl_cl (args := #[(.pointer (some ⟨wb, 0, none⟩)), (.agg #[(.string s.title), (.string s.uri), (.int .i64 s.e), (.int .i64 s.li), (.int .i64 s.off), (pto kp2), (pto mp2), (.bool s.disc), (.string s.date)])]) (R := fun v w' => v = (.bool (decide ((d).segs.length ≠ (d).places))) ∧ WinS w' base wb ((d).put s) ∧ Kt base DS w2 w') (ex_cl (fun _ _ => by kernel_rfl) (arg2 (u20.w h23_19) h24_20)) ((put_any hO (by omega) H_2 hse ks_2 ms_2).mono fun _ _ h => ⟨_, h.1, rfl, h.2⟩) F20.l ?_
 rintro v w3 ⟨rfl, H_3, KK⟩
 have K_3 := K_2.trans KK
 clear K_2 KK
 intro a21 u21 h25_21
 have F21 := F20.pt u21
 exact bodyPost_end (v := .tuple #[]) (results_none rfl _ _ _) F21.defers ⟨rfl, by unfold WinD.slide; rw [hc, decide_eq_false hl]; exact H_3, K_3⟩
theorem slide_take {d : WinD} {k base wb : Nat} {kp2 mp2 : Option Nat} {s : SegD} {w0 : World} (hc : d.clo = false) (hl : d.written ≤ d.segs.length) (hO : d.Ok k) (hk : k < 900) (H : WinS w0 base wb d) (hse : s.e ≤ 1000) (ks_0 : SKey w0 kp2 s.key) (ms_0 : SMap w0 mp2 s.map) : Calls Tryd.prog 9 #[pt wb, .agg (ssegC s kp2 mp2)] w0 fun e w' => e = .returned (.tuple #[]) ∧ WinS w' base wb (d.slide s) ∧ Kt base DS w0 w' := by
 have H_0 := H
 obtain ⟨⟨kp, mp, sv, nv, Bx, -, -, sw_0, -⟩, hb, hw⟩ := H
 have Bw_0 : Blk w0 wb 51 #[(.int .i64 d.places), (.int .i64 d.written), (.int .i64 d.ver), (.int .u64 d.seq), (.int .i64 d.tgt), (.bool false), (.bool d.ifr), (pto kp), (pto mp), sv, nv] := by
   have h := Bx
   unfold winC at h
   rw [hc] at h
   exact h
 clear Bx
 refine calls_of_wp Tryd.func9 rfl ?_
 generalize hA : Act.mk _ _ = a0
 have F0 : Fz 26 a0 := by subst hA; exact ⟨by simp [Tryd.ntmps9], rfl⟩
 have h0_0 : a0.tmps.getD 0 undef = (.pointer (some ⟨wb, 0, none⟩)) := by subst hA; exact fr_arg rfl
 have h1_0 : a0.tmps.getD 1 undef = (.agg #[(.string s.title), (.string s.uri), (.int .i64 s.e), (.int .i64 s.li), (.int .i64 s.off), (pto kp2), (pto mp2), (.bool s.disc), (.string s.date)]) := by subst hA; exact fr_arg rfl
 have K_0 := Kt.refl base DS w0
 refine wp_sr ?_
 obtain ⟨g3, hg3⟩ : ∃ g, w0.heap.size = g := ⟨_, rfl⟩
 have ne_w_3 : wb ≠ g3 := by have := Bw_0.lt; omega
 obtain ⟨w1, hr1, B3_1, G1, hs1⟩ := al_run (op := Instr.box 32 (.agg #[(.string s.title), (.string s.uri), (.int .i64 s.e), (.int .i64 s.li), (.int .i64 s.off), (pto kp2), (pto mp2), (.bool s.disc), (.string s.date)])) (T := 32) (cs := #[(.string s.title), (.string s.uri), (.int .i64 s.e), (.int .i64 s.li), (.int .i64 s.off), (pto kp2), (pto mp2), (.bool s.disc), (.string s.date)]) hg3 (fun _ => by kernel_rfl)
 have Bw_1 := Bw_0.gn G1
 have K_1 := K_0.nw hw G1
 have sw_1 := sw_0.kt (Kt.of_none G1) (by decide) (by decide) (by decide)
 have ks_1 := ks_0.kt (Kt.of_none G1) (by decide)
 have ms_1 := ms_0.kt (Kt.of_none G1) (by decide)
 have H_1 := H_0.kt (Kt.of_none G1) (by decide)
 refine wl_pq F0 (ex_bx h1_0 hr1) fun a1 u1 F1 (h3_1 : a1.tmps.getD 3 undef = (.pointer (some ⟨g3, 0, none⟩))) => ?_
 clear K_0 sw_0 H_0
 change Code.wp _ _ _ _ _
 refine wp_seq ?_
 refine wp_seq ?_
 obtain ⟨w2, hw2⟩ : ∃ w, w = w1.drew := ⟨_, rfl⟩
 have G2 : w1.grownBy w2 none := hw2 ▸ grown_drew _
 have Bw_2 := Bw_1.gn G2
 have B3_2 := B3_1.gn G2
 have K_2 := K_1.nw hw G2
 have sw_2 := sw_1.kt (Kt.of_none G2) (by decide) (by decide) (by decide)
 have ks_2 := ks_1.kt (Kt.of_none G2) (by decide)
 have ms_2 := ms_1.kt (Kt.of_none G2) (by decide)
 have H_2 := H_1.kt (Kt.of_none G2) (by decide)
 refine rg_still hw2 hmix (by kernel_rfl) ?_
 clear K_1 sw_1 H_1
 refine st_pq F1 (ex_mv (u1.w h0_0)) fun a2 u2 F2 h4_2 => ?_
 refine st_pq F2 (ex_nil h4_2) fun a3 u3 F3 h5_3 => ?_
 refine st_pq F3 (ex_fb 5 h5_3) fun a4 u4 F4 h6_4 => ?_
 refine st_pq F4 (ex_le (v := (.bool false)) h6_4 (Bw_2.cell 5)) fun a5 u5 F5 h7_5 => ?_
 refine st_pq F5 (ex_un (vx := (.bool false)) (v := (.bool true)) h7_5 rfl) fun a6 u6 F6 h8_6 => ?_
 refine st_pq F6 (ex_mv h8_6) fun a7 u7 F7 h9_7 => ?_
 have h0_7 := u7.w (u6.w (u5.w (u4.w (u3.w (u2.w (u1.w h0_0))))))
 refine st_g (yl (e := 9) rfl h9_7) (ex_mv h0_7) F7.l fun a8 u8 h10_8 => ?_
 have F8 := F7.pt u8
 refine st_g (yl (e := 9) rfl (u8.w h9_7)) (ex_nil h10_8) F8.l fun a9 u9 h11_9 => ?_
 have F9 := F8.pt u9
 refine st_g (yl (e := 9) rfl (u9.w (u8.w h9_7))) (ex_fb 9 h11_9) F9.l fun a10 u10 h12_10 => ?_
 have F10 := F9.pt u10
 have h9_10 := u10.w (u9.w (u8.w h9_7))
 refine st_g (yl (e := 9) rfl h9_10) (ex_le (v := sv) h12_10 (Bw_2.cell 9)) F10.l fun a11 u11 h13_11 => ?_
 have F11 := F10.pt u11
 refine st_g (yl (e := 9) rfl (u11.w h9_10)) (ex_bi (w' := w2) (args := #[sv]) (v := (.int .i64 d.segs.length)) (arg1 h13_11) (sw_2.len _)) F11.l fun a12 u12 h14_12 => ?_
 have F12 := F11.pt u12
 have h0_12 := u12.w (u11.w (u10.w (u9.w (u8.w h0_7))))
 refine st_g (yl (e := 9) rfl (u12.w (u11.w h9_10))) (ex_mv h0_12) F12.l fun a13 u13 h15_13 => ?_
 have F13 := F12.pt u13
 have h9_13 := u13.w (u12.w (u11.w h9_10))
 refine st_g (yl (e := 9) rfl h9_13) (ex_nil h15_13) F13.l fun a14 u14 h16_14 => ?_
 have F14 := F13.pt u14
 refine st_g (yl (e := 9) rfl (u14.w h9_13)) (ex_fb 1 h16_14) F14.l fun a15 u15 h17_15 => ?_
 have F15 := F14.pt u15
 refine st_g (yl (e := 9) rfl (u15.w (u14.w h9_13))) (ex_le (v := (.int .i64 d.written)) h17_15 (Bw_2.cell 1)) F15.l fun a16 u16 h18_16 => ?_
 have F16 := F15.pt u16
 have h9_16 := u16.w (u15.w (u14.w h9_13))
 have h14_16 := u16.w (u15.w (u14.w (u13.w h14_12)))
 refine st_g (yl (e := 9) rfl h9_16) (ex_bin (v := (.bool true)) h14_16 h18_16 ((bo_gen d.segs.length d.written _).trans (by rw [decide_eq_true hl]))) F16.l fun a17 u17 h19_17 => ?_
 have F17 := F16.pt u17
 refine st_pq F17 (ex_pick (q := true) (u17.w h9_16) h19_17) fun a18 u18 F18 h20_18 => ?_
 change Code.wp _ _ _ _ _
 refine wp_cond_true h20_18 ?_
 refine rg_list ?_
 have h0_18 := u18.w (u17.w (u16.w (u15.w (u14.w (u13.w h0_12)))))
 refine wl_pq F18 (ex_mv h0_18) fun a19 u19 F19 h21_19 => ?_
 refine wl_cl (args := #[(.pointer (some ⟨wb, 0, none⟩))]) (R := fun v w' => v = (.bool (decide (d.segs.length ≠ 0))) ∧ WinS w' base wb d.take ∧ w2.grownBy w' (some wb)) (ex_cl (fun _ _ => by kernel_rfl) (arg1 h21_19)) ((take_any hO (by omega) H_2).mono fun _ _ h => ⟨_, h.1, rfl, h.2⟩) F19.l ?_
 rintro v w3 ⟨rfl, H_3, G3⟩
 have B3_3 := B3_2.gk G3 (Ne.symm ne_w_3)
 have K_3 := K_2.blk hw Bw_2 hb (by decide) G3
 have ks_3 := ks_2.kt (Kt.of_blk Bw_2 G3) (by decide)
 have ms_3 := ms_2.kt (Kt.of_blk Bw_2 G3) (by decide)
 intro a20 u20 h22_20
 have F20 := F19.pt u20
 clear K_2 sw_2 H_2
 change Code.wp _ _ _ _ _
 refine rg_list ?_
 refine wl_pq F20 (ex_mv (u20.w (u19.w h0_18))) fun a21 u21 F21 h23_21 => ?_
 have h3_21 := u21.w (u20.w (u19.w (u18.w (u17.w (u16.w (u15.w (u14.w (u13.w (u12.w (u11.w (u10.w (u9.w (u8.w (u7.w (u6.w (u5.w (u4.w (u3.w (u2.w h3_1)))))))))))))))))))
 refine wl_pq F21 (ex_lda h3_21 (ld_agg (n := 9) (xs := #[(.string s.title), (.string s.uri), (.int .i64 s.e), (.int .i64 s.li), (.int .i64 s.off), (pto kp2), (pto mp2), (.bool s.disc), (.string s.date)]) (fun _ => by kernel_rfl) (fun _ => by kernel_rfl) B3_3 rfl (fun _ _ => by rw [Nat.zero_add] <;> rfl))) fun a22 u22 F22 (h24_22 : a22.tmps.getD 24 undef = (.agg #[(.string s.title), (.string s.uri), (.int .i64 s.e), (.int .i64 s.li), (.int .i64 s.off), (pto kp2), (pto mp2), (.bool s.disc), (.string s.date)])) => ?_
 refine wl_cl (args := #[(.pointer (some ⟨wb, 0, none⟩)), (.agg #[(.string s.title), (.string s.uri), (.int .i64 s.e), (.int .i64 s.li), (.int .i64 s.off), (pto kp2), (pto mp2), (.bool s.disc), (.string s.date)])]) (R := fun v w' => v = (.bool (decide ((d.take).segs.length ≠ (d.take).places))) ∧ WinS w' base wb ((d.take).put s) ∧ Kt base DS w3 w') (ex_cl (fun _ _ => by kernel_rfl) (arg2 (u22.w h23_21) h24_22)) ((put_any hO.take (by omega) H_3 hse ks_3 ms_3).mono fun _ _ h => ⟨_, h.1, rfl, h.2⟩) F22.l ?_
 rintro v w4 ⟨rfl, H_4, KK⟩
 have K_4 := K_3.trans KK
 clear K_3 KK
 intro a23 u23 h25_23
 have F23 := F22.pt u23
 exact bodyPost_end (v := .tuple #[]) (results_none rfl _ _ _) F23.defers ⟨rfl, by unfold WinD.slide; rw [hc, decide_eq_true hl]; exact H_4, K_4⟩
theorem range_nil {d : WinD} {k base wb : Nat} {w0 : World} (hO : d.Ok k) (H : WinS w0 base wb d) (hn : d.segs.length = 0) {li off : Nat} : Calls Tryd.prog 16 #[pt wb, .int .i64 li, .int .i64 off] w0 fun e w' => e = .returned (.bool false) ∧ WinS w' base wb d ∧ Kt base DS w0 w' := by
 obtain ⟨⟨kp, mp, sv, nv, Bw_0, kq_0, mq_0, sw_0, nw_0⟩, hb, hw⟩ := H
 refine calls_of_wp Tryd.func16 rfl ?_
 generalize hA : Act.mk _ _ = a0
 have F0 : Fz 22 a0 := by subst hA; exact ⟨by simp [Tryd.ntmps16], rfl⟩
 have h0_0 : a0.tmps.getD 0 undef = (.pointer (some ⟨wb, 0, none⟩)) := by subst hA; exact fr_arg rfl
 have h1_0 : a0.tmps.getD 1 undef = (.int .i64 li) := by subst hA; exact fr_arg rfl
 have h2_0 : a0.tmps.getD 2 undef = (.int .i64 off) := by subst hA; exact fr_arg rfl
 have K_0 := Kt.refl base DS w0
 refine wp_sr ?_
 refine wl_pq F0 (ex_as (v := (.bool false)) rfl) fun a1 u1 F1 h6_1 => ?_
 change Code.wp _ _ _ _ _
 refine wp_sr ?_
 refine wl_pq F1 (ex_mv (u1.w h0_0)) fun a2 u2 F2 h8_2 => ?_
 refine wl_cl (args := #[(.pointer (some ⟨wb, 0, none⟩))]) (R := fun v w' => v = (.pointer none) ∧ w0.grownBy w' none) (ex_cl (fun _ _ => by kernel_rfl) (arg1 h8_2)) ((last_nil Bw_0 sw_0 hn).mono fun _ _ h => ⟨_, h.1, rfl, h.2⟩) F2.l ?_
 rintro v w1 ⟨rfl, G1⟩
 have Bw_1 := Bw_0.gn G1
 have K_1 := K_0.nw hw G1
 have sw_1 := sw_0.kt (Kt.of_none G1) (by decide) (by decide) (by decide)
 have nw_1 := nw_0.kt (Kt.of_none G1) (by decide)
 have kq_1 := kq_0.kt (Kt.of_none G1) (by decide)
 have mq_1 := mq_0.kt (Kt.of_none G1) (by decide)
 intro a3 u3 h9_3
 have F3 := F2.pt u3
 clear K_0 sw_0 nw_0 kq_0 mq_0
 refine wl_pq F3 (ex_as h9_3) fun a4 u4 F4 h7_4 => ?_
 change Code.wp _ _ _ _ _
 refine wp_seq ?_
 refine wp_sr ?_
 refine wl_pq F4 (ex_mv h7_4) fun a5 u5 F5 h10_5 => ?_
 refine wl_pq F5 (ex_bin (vy := (.pointer none)) (v := (.bool true)) h10_5 rfl (by kernel_rfl)) fun a6 u6 F6 h11_6 => ?_
 change Code.wp _ _ _ _ _
 refine wp_cond_true h11_6 ?_
 refine wp_sr ?_
 refine wl_pq F6 (ex_as (v := (.bool false)) rfl) fun a7 u7 F7 h6_7 => ?_
 change Code.wp _ _ _ _ _
 refine wp_ret ?_
 try simp only [Exit.then, Exit.inBlock]
 exact bodyPost_ret (v := (.bool false)) ((results_tmp rfl _ _ _).trans (by rw [h6_7])) F7.defers ⟨rfl, ⟨⟨_, _, _, _, Bw_1, kq_1, mq_1, sw_1, nw_1⟩, hb, K_1.le hw⟩, K_1⟩
theorem range_some {d : WinD} {k base wb : Nat} {w0 : World} (hO : d.Ok k) (H : WinS w0 base wb d) (hn : 0 < d.segs.length) {li off : Nat} : Calls Tryd.prog 16 #[pt wb, .int .i64 li, .int .i64 off] w0 fun e w' => e = .returned (.bool true) ∧ WinS w' base wb ((d.upd fun L => { L with li := li, off := off }).least 4) ∧ Kt base DS w0 w' := by
 obtain ⟨⟨kp, mp, sv, nv, Bw_0, kq_0, mq_0, sw_0, nw_0⟩, hb, hw⟩ := H
 obtain ⟨gl, ul, hix⟩ := sw_0.last hn
 obtain ⟨L, hL⟩ : ∃ L, d.segs[d.segs.length - 1]? = some L := ⟨_, List.getElem?_eq_getElem (by omega)⟩
 refine calls_of_wp Tryd.func16 rfl ?_
 generalize hA : Act.mk _ _ = a0
 have F0 : Fz 22 a0 := by subst hA; exact ⟨by simp [Tryd.ntmps16], rfl⟩
 have h0_0 : a0.tmps.getD 0 undef = (.pointer (some ⟨wb, 0, none⟩)) := by subst hA; exact fr_arg rfl
 have h1_0 : a0.tmps.getD 1 undef = (.int .i64 li) := by subst hA; exact fr_arg rfl
 have h2_0 : a0.tmps.getD 2 undef = (.int .i64 off) := by subst hA; exact fr_arg rfl
 have K_0 := Kt.refl base DS w0
 refine wp_sr ?_
 refine wl_pq F0 (ex_as (v := (.bool false)) rfl) fun a1 u1 F1 h6_1 => ?_
 change Code.wp _ _ _ _ _
 refine wp_sr ?_
 refine wl_pq F1 (ex_mv (u1.w h0_0)) fun a2 u2 F2 h8_2 => ?_
 refine wl_cl (args := #[(.pointer (some ⟨wb, 0, none⟩))]) (R := fun v w' => v = (.pointer (some ⟨gl, ul, none⟩)) ∧ w0.grownBy w' none) (ex_cl (fun _ _ => by kernel_rfl) (arg1 h8_2)) ((last_some Bw_0 sw_0 hn (by have := hO.room; have := hO.p12; omega) hix).mono fun _ _ h => ⟨_, h.1, rfl, h.2⟩) F2.l ?_
 rintro v w1 ⟨rfl, G1⟩
 have Bw_1 := Bw_0.gn G1
 have K_1 := K_0.nw hw G1
 have sw_1 := sw_0.kt (Kt.of_none G1) (by decide) (by decide) (by decide)
 have nw_1 := nw_0.kt (Kt.of_none G1) (by decide)
 have kq_1 := kq_0.kt (Kt.of_none G1) (by decide)
 have mq_1 := mq_0.kt (Kt.of_none G1) (by decide)
 intro a3 u3 h9_3
 have F3 := F2.pt u3
 clear K_0 sw_0 nw_0 kq_0 mq_0
 refine wl_pq F3 (ex_as h9_3) fun a4 u4 F4 h7_4 => ?_
 change Code.wp _ _ _ _ _
 refine wp_seq ?_
 refine wp_sr ?_
 refine wl_pq F4 (ex_mv h7_4) fun a5 u5 F5 h10_5 => ?_
 refine wl_pq F5 (ex_bin (vy := (.pointer none)) (v := (.bool false)) h10_5 rfl (by kernel_rfl)) fun a6 u6 F6 h11_6 => ?_
 change Code.wp _ _ _ _ _
 refine wp_cond_false h11_6 ?_
 refine wp_skip ?_
 change Code.wp _ _ _ _ _
 refine wp_sr ?_
 have h0_6 := u6.w (u5.w (u4.w (u3.w (u2.w (u1.w h0_0)))))
 refine wl_pq F6 (ex_mv h0_6) fun a7 u7 F7 h12_7 => ?_
 refine wl_cl (args := #[(.pointer (some ⟨wb, 0, none⟩)), (.int .i64 4)]) (R := fun v w' => v = .tuple #[] ∧ Blk w' wb 51 #[(.int .i64 d.places), (.int .i64 d.written), (.int .i64 (max d.ver 4 : Nat)), (.int .u64 d.seq), (.int .i64 d.tgt), (.bool d.clo), (.bool d.ifr), (pto kp), (pto mp), sv, nv] ∧ w1.grownBy w' (some wb)) (ex_cl (fun _ _ => by kernel_rfl) (arg2 h12_7 rfl)) ((least_raw (n := 4) Bw_1).mono fun _ _ h => ⟨_, h.1, rfl, h.2⟩) F7.l ?_
 rintro v w2 ⟨rfl, Bw_2, G2⟩
 have K_2 := K_1.blk hw Bw_1 hb (by decide) G2
 have sw_2 := sw_1.kt (Kt.of_blk Bw_1 G2) (by decide) (by decide) (by decide)
 have nw_2 := nw_1.kt (Kt.of_blk Bw_1 G2) (by decide)
 have kq_2 := kq_1.kt (Kt.of_blk Bw_1 G2) (by decide)
 have mq_2 := mq_1.kt (Kt.of_blk Bw_1 G2) (by decide)
 intro a8 u8 h13_8
 have F8 := F7.pt u8
 clear K_1 sw_1 nw_1 kq_1 mq_1
 change Code.wp _ _ _ _ _
 refine wp_sr ?_
 have h7_8 := u8.w (u7.w (u6.w (u5.w h7_4)))
 refine wl_pq F8 (ex_mv h7_8) fun a9 u9 F9 h14_9 => ?_
 refine wl_pq F9 (ex_mv (u9.w h7_8)) fun a10 u10 F10 h15_10 => ?_
 have h1_10 := u10.w (u9.w (u8.w (u7.w (u6.w (u5.w (u4.w (u3.w (u2.w (u1.w h1_0)))))))))
 refine wl_pq F10 (ex_mv h1_10) fun a11 u11 F11 h16_11 => ?_
 have h2_11 := u11.w (u10.w (u9.w (u8.w (u7.w (u6.w (u5.w (u4.w (u3.w (u2.w (u1.w h2_0))))))))))
 refine wl_pq F11 (ex_mv h2_11) fun a12 u12 F12 h17_12 => ?_
 have h14_12 := u12.w (u11.w (u10.w h14_9))
 refine wl_pq F12 (ex_nil h14_12) fun a13 u13 F13 h18_13 => ?_
 refine wl_pq F13 (ex_fag (vx := (.pointer (some ⟨gl, ul, none⟩))) (v := (.pointer (some ⟨gl, ul + 3, none⟩))) h18_13 (by kernel_rfl)) fun a14 u14 F14 h19_14 => ?_
 obtain ⟨w3, hr3, sw_3, G3, ⟨cur3, hcur3⟩, hge3⟩ := sw_2.setL (T := 2) (f := 3) (j := d.segs.length - 1) (u := (.int .i64 li)) (L := L) (L' := { L with li := li }) (fun _ => by kernel_rfl) hL (by decide) rfl hix (fun kp mp hk hm => ⟨kp, mp, fun k hk => by rcases k with _ | _ | _ | _ | _ | _ | _ | _ | _ | k <;> first | rfl | omega, hk, hm⟩)
 have KB3 := Kt.of_blk hcur3 G3
 have Bw_3 := Bw_2.kt KB3 (by decide)
 have K_3 := K_2.blk hw hcur3 hge3 (by decide) G3
 have nw_3 := nw_2.kt KB3 (by decide)
 have kq_3 := kq_2.kt KB3 (by decide)
 have mq_3 := mq_2.kt KB3 (by decide)
 have h16_14 := u14.w (u13.w (u12.w h16_11))
 refine wl_n (ex_st h19_14 h16_14 hr3) ?_
 clear sw_2 hcur3 hge3 KB3 K_2 nw_2 kq_2 mq_2
 have h15_14 := u14.w (u13.w (u12.w (u11.w h15_10)))
 refine wl_pq F14 (ex_nil h15_14) fun a15 u15 F15 h20_15 => ?_
 refine wl_pq F15 (ex_fag (vx := (.pointer (some ⟨gl, ul, none⟩))) (v := (.pointer (some ⟨gl, ul + 4, none⟩))) h20_15 (by kernel_rfl)) fun a16 u16 F16 h21_16 => ?_
 obtain ⟨w4, hr4, sw_4, G4, ⟨cur4, hcur4⟩, hge4⟩ := sw_3.setL (T := 2) (f := 4) (j := d.segs.length - 1) (u := (.int .i64 off)) (L := { L with li := li }) (L' := { L with li := li, off := off }) (fun _ => by kernel_rfl) (by rw [List.getElem?_set, if_pos rfl, if_pos (by omega)]) (by decide) rfl hix (fun kp mp hk hm => ⟨kp, mp, fun k hk => by rcases k with _ | _ | _ | _ | _ | _ | _ | _ | _ | k <;> first | rfl | omega, hk, hm⟩)
 have KB4 := Kt.of_blk hcur4 G4
 have Bw_4 := Bw_3.kt KB4 (by decide)
 have K_4 := K_3.blk hw hcur4 hge4 (by decide) G4
 have nw_4 := nw_3.kt KB4 (by decide)
 have kq_4 := kq_3.kt KB4 (by decide)
 have mq_4 := mq_3.kt KB4 (by decide)
 have h17_16 := u16.w (u15.w (u14.w (u13.w h17_12)))
 refine wl_n (ex_st h21_16 h17_16 hr4) ?_
 clear sw_3 hcur4 hge4 KB4 K_3 nw_3 kq_3 mq_3
 change Code.wp _ _ _ _ _
 refine wp_sr ?_
 refine wl_pq F16 (ex_as (v := (.bool true)) rfl) fun a17 u17 F17 h6_17 => ?_
 change Code.wp _ _ _ _ _
 refine wp_ret ?_
 have hfin := sw_4
 rw [List.set_set] at hfin
 try simp only [Exit.then, Exit.inBlock]
 exact bodyPost_ret (v := (.bool true)) ((results_tmp rfl _ _ _).trans (by rw [h6_17])) F17.defers ⟨rfl, by rw [WinD.upd_some hL]; exact ⟨⟨_, _, _, _, Bw_4, kq_4, mq_4, hfin, nw_4⟩, hb, K_4.le hw⟩, K_4⟩
section
variable {x y : Operand}
theorem bo_nes0 (s : ByteArray) (h : s.size = 0) (w : World) : (do eqGuard .neq 9 x y (.string s) (.string ⟨#[]⟩); binOp .neq 9 (.string s) (.string ⟨#[]⟩) : Sem Value).run Tryd.prog w = .ok (.bool false) w := by
 obtain rfl : s = ⟨#[]⟩ := by rcases s with ⟨a⟩; exact congrArg _ (Array.eq_empty_of_size_eq_zero h)
 kernel_rfl
theorem bo_nes1 (s : ByteArray) (h : s.size ≠ 0) (w : World) : (do eqGuard .neq 9 x y (.string s) (.string ⟨#[]⟩); binOp .neq 9 (.string s) (.string ⟨#[]⟩) : Sem Value).run Tryd.prog w = .ok (.bool true) w := by
 obtain ⟨⟨l⟩⟩ := s
 cases l with
 | nil => exact absurd rfl h
 | cons a l => simp [go_sem]
end
theorem ev_const (a : Act) (v : Value) : a.eval (.const v) = v := rfl
theorem lock_nil {d : WinD} {k base wb : Nat} {w0 : World} (hO : d.Ok k) (H : WinS w0 base wb d) (hn : d.segs.length = 0) {q : KeyD} (hq : q.Ok) : Calls Tryd.prog 12 #[pt wb, .agg (keyC q), .bool false] w0 fun e w' => e = .returned (.bool false) ∧ WinS w' base wb d ∧ Kt base DS w0 w' := by
 obtain ⟨⟨kp, mp, sv, nv, Bw_0, kq_0, mq_0, sw_0, nw_0⟩, hb, hw⟩ := H
 refine calls_of_wp Tryd.func12 rfl ?_
 generalize hA : Act.mk _ _ = a0
 have F0 : Fz 32 a0 := by subst hA; exact ⟨by simp [Tryd.ntmps12], rfl⟩
 have h0_0 : a0.tmps.getD 0 undef = (.pointer (some ⟨wb, 0, none⟩)) := by subst hA; exact fr_arg rfl
 have h1_0 : a0.tmps.getD 1 undef = (.agg #[(.string q.me), (.string q.uri), (.string q.iv), (.string q.fo), (.string q.ve)]) := by subst hA; exact fr_arg rfl
 have h2_0 : a0.tmps.getD 2 undef = (.bool false) := by subst hA; exact fr_arg rfl
 have K_0 := Kt.refl base DS w0
 refine wp_sr ?_
 obtain ⟨g4, hg4⟩ : ∃ g, w0.heap.size = g := ⟨_, rfl⟩
 have ne_w_4 : wb ≠ g4 := by have := Bw_0.lt; omega
 obtain ⟨w1, hr1, B4_1, G1, hs1⟩ := al_run (op := Instr.box 56 (.agg #[(.string q.me), (.string q.uri), (.string q.iv), (.string q.fo), (.string q.ve)])) (T := 56) (cs := #[(.string q.me), (.string q.uri), (.string q.iv), (.string q.fo), (.string q.ve)]) hg4 (fun _ => by kernel_rfl)
 have Bw_1 := Bw_0.gn G1
 have K_1 := K_0.nw hw G1
 have sw_1 := sw_0.kt (Kt.of_none G1) (by decide) (by decide) (by decide)
 have nw_1 := nw_0.kt (Kt.of_none G1) (by decide)
 have kq_1 := kq_0.kt (Kt.of_none G1) (by decide)
 have mq_1 := mq_0.kt (Kt.of_none G1) (by decide)
 refine wl_pq F0 (ex_bx h1_0 hr1) fun a1 u1 F1 (h4_1 : a1.tmps.getD 4 undef = (.pointer (some ⟨g4, 0, none⟩))) => ?_
 clear K_0 sw_0 nw_0 kq_0 mq_0
 refine wl_pq F1 (ex_as (v := (.bool false)) rfl) fun a2 u2 F2 h6_2 => ?_
 change Code.wp _ _ _ _ _
 refine wp_seq ?_
 refine wp_sr ?_
 refine wl_pq F2 (ex_mv (u2.w (u1.w h2_0))) fun a3 u3 F3 h7_3 => ?_
 refine wl_pq F3 (ex_un (vx := (.bool false)) (v := (.bool true)) h7_3 rfl) fun a4 u4 F4 h8_4 => ?_
 refine wl_pq F4 (ex_mv h8_4) fun a5 u5 F5 h9_5 => ?_
 have h0_5 := u5.w (u4.w (u3.w (u2.w (u1.w h0_0))))
 refine wl_gq F5 (yl (e := 9) rfl h9_5) (ex_mv h0_5) fun a6 u6 F6 h10_6 => ?_
 refine wl_gc (yl (e := 9) rfl (u6.w h9_5)) (args := #[(.pointer (some ⟨wb, 0, none⟩))]) (R := fun v w' => v = (.pointer none) ∧ w1.grownBy w' none) (ex_cl (fun _ _ => by kernel_rfl) (arg1 h10_6)) ((last_nil Bw_1 sw_1 hn).mono fun _ _ h => ⟨_, h.1, rfl, h.2⟩) F6.l ?_
 rintro v w2 ⟨rfl, G2⟩
 have Bw_2 := Bw_1.gn G2
 have B4_2 := B4_1.gn G2
 have K_2 := K_1.nw hw G2
 have sw_2 := sw_1.kt (Kt.of_none G2) (by decide) (by decide) (by decide)
 have nw_2 := nw_1.kt (Kt.of_none G2) (by decide)
 have kq_2 := kq_1.kt (Kt.of_none G2) (by decide)
 have mq_2 := mq_1.kt (Kt.of_none G2) (by decide)
 intro a7 u7 h11_7
 have F7 := F6.pt u7
 clear K_1 sw_1 nw_1 kq_1 mq_1
 refine wl_gq F7 (yl (e := 9) rfl (u7.w (u6.w h9_5))) (ex_bin (vy := (.pointer none)) (v := (.bool true)) h11_7 rfl (by kernel_rfl)) fun a8 u8 F8 h12_8 => ?_
 have h9_8 := u8.w (u7.w (u6.w h9_5))
 refine wl_pq F8 (ex_pick (q := true) h9_8 h12_8) fun a9 u9 F9 h13_9 => ?_
 change Code.wp _ _ _ _ _
 refine wp_cond_true h13_9 ?_
 refine wp_sr ?_
 refine wl_pq F9 (ex_as (v := (.bool false)) rfl) fun a10 u10 F10 h6_10 => ?_
 change Code.wp _ _ _ _ _
 refine wp_ret ?_
 try simp only [Exit.then, Exit.inBlock]
 exact bodyPost_ret (v := (.bool false)) ((results_tmp rfl _ _ _).trans (by rw [h6_10])) F10.defers ⟨rfl, ⟨⟨_, _, _, _, Bw_2, kq_2, mq_2, sw_2, nw_2⟩, hb, K_2.le hw⟩, K_2⟩
theorem lock_all_v {d : WinD} {k base wb : Nat} {w0 : World} (hO : d.Ok k) (H : WinS w0 base wb d) {q : KeyD} (hq : q.Ok) (hf : q.fo.size ≠ 0) (hv : q.ve.size ≠ 0) : Calls Tryd.prog 12 #[pt wb, .agg (keyC q), .bool true] w0 fun e w' => e = .returned (.bool true) ∧ WinS w' base wb ({ d.least 5 with key := some q }) ∧ Kt base DS w0 w' := by
 obtain ⟨⟨kp, mp, sv, nv, Bw_0, kq_0, mq_0, sw_0, nw_0⟩, hb, hw⟩ := H
 refine calls_of_wp Tryd.func12 rfl ?_
 generalize hA : Act.mk _ _ = a0
 have F0 : Fz 32 a0 := by subst hA; exact ⟨by simp [Tryd.ntmps12], rfl⟩
 have h0_0 : a0.tmps.getD 0 undef = (.pointer (some ⟨wb, 0, none⟩)) := by subst hA; exact fr_arg rfl
 have h1_0 : a0.tmps.getD 1 undef = (.agg #[(.string q.me), (.string q.uri), (.string q.iv), (.string q.fo), (.string q.ve)]) := by subst hA; exact fr_arg rfl
 have h2_0 : a0.tmps.getD 2 undef = (.bool true) := by subst hA; exact fr_arg rfl
 have K_0 := Kt.refl base DS w0
 refine wp_sr ?_
 obtain ⟨g4, hg4⟩ : ∃ g, w0.heap.size = g := ⟨_, rfl⟩
 have ne_w_4 : wb ≠ g4 := by have := Bw_0.lt; omega
 obtain ⟨w1, hr1, B4_1, G1, hs1⟩ := al_run (op := Instr.box 56 (.agg #[(.string q.me), (.string q.uri), (.string q.iv), (.string q.fo), (.string q.ve)])) (T := 56) (cs := #[(.string q.me), (.string q.uri), (.string q.iv), (.string q.fo), (.string q.ve)]) hg4 (fun _ => by kernel_rfl)
 have Bw_1 := Bw_0.gn G1
 have K_1 := K_0.nw hw G1
 have sw_1 := sw_0.kt (Kt.of_none G1) (by decide) (by decide) (by decide)
 have nw_1 := nw_0.kt (Kt.of_none G1) (by decide)
 have kq_1 := kq_0.kt (Kt.of_none G1) (by decide)
 have mq_1 := mq_0.kt (Kt.of_none G1) (by decide)
 refine wl_pq F0 (ex_bx h1_0 hr1) fun a1 u1 F1 (h4_1 : a1.tmps.getD 4 undef = (.pointer (some ⟨g4, 0, none⟩))) => ?_
 clear K_0 sw_0 nw_0 kq_0 mq_0
 refine wl_pq F1 (ex_as (v := (.bool false)) rfl) fun a2 u2 F2 h6_2 => ?_
 change Code.wp _ _ _ _ _
 refine wp_seq ?_
 refine wp_sr ?_
 refine wl_pq F2 (ex_mv (u2.w (u1.w h2_0))) fun a3 u3 F3 h7_3 => ?_
 refine wl_pq F3 (ex_un (vx := (.bool true)) (v := (.bool false)) h7_3 rfl) fun a4 u4 F4 h8_4 => ?_
 refine wl_pq F4 (ex_mv h8_4) fun a5 u5 F5 h9_5 => ?_
 refine wl_k (yl (e := 9) rfl h9_5) (by decide) F5.l fun a6 u6 h10_6 => ?_
 have F6 := F5.pt u6
 refine wl_k (yl (e := 9) rfl (u6.w h9_5)) (by decide) F6.l fun a7 u7 h11_7 => ?_
 have F7 := F6.pt u7
 refine wl_k (yl (e := 9) rfl (u7.w (u6.w h9_5))) (by decide) F7.l fun a8 u8 h12_8 => ?_
 have F8 := F7.pt u8
 have h9_8 := u8.w (u7.w (u6.w h9_5))
 refine wl_pq F8 (ex_pick (q := false) (v := (.bool false)) h9_8 rfl) fun a9 u9 F9 h13_9 => ?_
 change Code.wp _ _ _ _ _
 refine wp_cond_false h13_9 ?_
 refine wp_skip ?_
 change Code.wp _ _ _ _ _
 refine wp_seq ?_
 refine wp_sr ?_
 have h4_9 := u9.w (u8.w (u7.w (u6.w (u5.w (u4.w (u3.w (u2.w h4_1)))))))
 refine wl_pq F9 (ex_fb 3 h4_9) fun a10 u10 F10 h14_10 => ?_
 refine wl_pq F10 (ex_le (v := (.string q.fo)) h14_10 (B4_1.cell 3)) fun a11 u11 F11 h15_11 => ?_
 refine wl_pq F11 (ex_bin (vy := (.string { data := #[] })) (v := (.bool true)) h15_11 rfl (bo_nes1 _ hf _)) fun a12 u12 F12 h16_12 => ?_
 refine wl_pq F12 (ex_mv h16_12) fun a13 u13 F13 h17_13 => ?_
 have h4_13 := u13.w (u12.w (u11.w (u10.w h4_9)))
 refine wl_gq F13 (yl (e := 17) rfl h17_13) (ex_fb 4 h4_13) fun a14 u14 F14 h18_14 => ?_
 refine wl_gq F14 (yl (e := 17) rfl (u14.w h17_13)) (ex_le (v := (.string q.ve)) h18_14 (B4_1.cell 4)) fun a15 u15 F15 h19_15 => ?_
 refine wl_gq F15 (yl (e := 17) rfl (u15.w (u14.w h17_13))) (ex_bin (vy := (.string { data := #[] })) (v := (.bool true)) h19_15 rfl (bo_nes1 _ hv _)) fun a16 u16 F16 h20_16 => ?_
 have h17_16 := u16.w (u15.w (u14.w h17_13))
 refine wl_pq F16 (ex_pick (q := true) h17_16 h20_16) fun a17 u17 F17 h21_17 => ?_
 change Code.wp _ _ _ _ _
 refine wp_cond_true h21_17 ?_
 refine rg_list ?_
 have h0_17 := u17.w (u16.w (u15.w (u14.w (u13.w (u12.w (u11.w (u10.w (u9.w (u8.w (u7.w (u6.w (u5.w (u4.w (u3.w (u2.w (u1.w h0_0))))))))))))))))
 refine wl_pq F17 (ex_mv h0_17) fun a18 u18 F18 h22_18 => ?_
 refine wl_cl (args := #[(.pointer (some ⟨wb, 0, none⟩)), (.int .i64 5)]) (R := fun v w' => v = .tuple #[] ∧ Blk w' wb 51 #[(.int .i64 d.places), (.int .i64 d.written), (.int .i64 (max d.ver 5 : Nat)), (.int .u64 d.seq), (.int .i64 d.tgt), (.bool d.clo), (.bool d.ifr), (pto kp), (pto mp), sv, nv] ∧ w1.grownBy w' (some wb)) (ex_cl (fun _ _ => by kernel_rfl) (arg2 h22_18 rfl)) ((least_raw (n := 5) Bw_1).mono fun _ _ h => ⟨_, h.1, rfl, h.2⟩) F18.l ?_
 rintro v w2 ⟨rfl, Bw_2, G2⟩
 have B4_2 := B4_1.gk G2 (Ne.symm ne_w_4)
 have K_2 := K_1.blk hw Bw_1 hb (by decide) G2
 have sw_2 := sw_1.kt (Kt.of_blk Bw_1 G2) (by decide) (by decide) (by decide)
 have nw_2 := nw_1.kt (Kt.of_blk Bw_1 G2) (by decide)
 have kq_2 := kq_1.kt (Kt.of_blk Bw_1 G2) (by decide)
 have mq_2 := mq_1.kt (Kt.of_blk Bw_1 G2) (by decide)
 intro a19 u19 h23_19
 have F19 := F18.pt u19
 clear K_1 sw_1 nw_1 kq_1 mq_1
 change Code.wp _ _ _ _ _
 refine wp_seq ?_
 refine wp_sr ?_
 have h2_19 := u19.w (u18.w (u17.w (u16.w (u15.w (u14.w (u13.w (u12.w (u11.w (u10.w (u9.w (u8.w (u7.w (u6.w (u5.w (u4.w (u3.w (u2.w (u1.w h2_0))))))))))))))))))
 refine wl_pq F19 (ex_mv h2_19) fun a20 u20 F20 h24_20 => ?_
 change Code.wp _ _ _ _ _
 refine wp_cond_true h24_20 ?_
 refine rg_list ?_
 have h0_20 := u20.w (u19.w (u18.w h0_17))
 refine wl_pq F20 (ex_mv h0_20) fun a21 u21 F21 h25_21 => ?_
 refine wl_pq F21 (ex_nil h25_21) fun a22 u22 F22 h26_22 => ?_
 refine wl_pq F22 (ex_fb 7 h26_22) fun a23 u23 F23 h27_23 => ?_
 obtain ⟨w3, hr3, Bw_3, G3⟩ := st_run (T := 29) (o := 7) (v := (.pointer (some ⟨g4, 0, none⟩))) (cs' := #[(.int .i64 d.places), (.int .i64 d.written), (.int .i64 (max d.ver 5 : Nat)), (.int .u64 d.seq), (.int .i64 d.tgt), (.bool d.clo), (.bool d.ifr), (.pointer (some ⟨g4, 0, none⟩)), (pto mp), sv, nv]) (fun _ => by kernel_rfl) Bw_2 rfl (Nat.le_of_ble_eq_true rfl) rfl
 have B4_3 := B4_2.gk G3 (Ne.symm ne_w_4)
 have K_3 := K_2.blk hw Bw_2 hb (by decide) G3
 have sw_3 := sw_2.kt (Kt.of_blk Bw_2 G3) (by decide) (by decide) (by decide)
 have nw_3 := nw_2.kt (Kt.of_blk Bw_2 G3) (by decide)
 have kq_3 := kq_2.kt (Kt.of_blk Bw_2 G3) (by decide)
 have mq_3 := mq_2.kt (Kt.of_blk Bw_2 G3) (by decide)
 have h4_23 := u23.w (u22.w (u21.w (u20.w (u19.w (u18.w (u17.w (u16.w (u15.w (u14.w h4_13)))))))))
 refine wl_n (ex_st h27_23 h4_23 hr3) ?_
 clear K_2 sw_2 nw_2 kq_2 mq_2
 change Code.wp _ _ _ _ _
 refine wp_sr ?_
 refine wl_pq F23 (ex_as (v := (.bool true)) rfl) fun a24 u24 F24 h6_24 => ?_
 change Code.wp _ _ _ _ _
 refine wp_ret ?_
 try simp only [Exit.then, Exit.inBlock]
 exact bodyPost_ret (v := (.bool true)) ((results_tmp rfl _ _ _).trans (by rw [h6_24])) F24.defers ⟨rfl, ⟨⟨some g4, mp, _, _, Bw_3, .mk B4_3 hq, mq_3, sw_3, nw_3⟩, hb, K_3.le hw⟩, K_3⟩
theorem lock_all_n {d : WinD} {k base wb : Nat} {w0 : World} (hO : d.Ok k) (H : WinS w0 base wb d) {q : KeyD} (hq : q.Ok) (hf : q.fo.size = 0) : Calls Tryd.prog 12 #[pt wb, .agg (keyC q), .bool true] w0 fun e w' => e = .returned (.bool true) ∧ WinS w' base wb ({ d with key := some q }) ∧ Kt base DS w0 w' := by
 obtain ⟨⟨kp, mp, sv, nv, Bw_0, kq_0, mq_0, sw_0, nw_0⟩, hb, hw⟩ := H
 refine calls_of_wp Tryd.func12 rfl ?_
 generalize hA : Act.mk _ _ = a0
 have F0 : Fz 32 a0 := by subst hA; exact ⟨by simp [Tryd.ntmps12], rfl⟩
 have h0_0 : a0.tmps.getD 0 undef = (.pointer (some ⟨wb, 0, none⟩)) := by subst hA; exact fr_arg rfl
 have h1_0 : a0.tmps.getD 1 undef = (.agg #[(.string q.me), (.string q.uri), (.string q.iv), (.string q.fo), (.string q.ve)]) := by subst hA; exact fr_arg rfl
 have h2_0 : a0.tmps.getD 2 undef = (.bool true) := by subst hA; exact fr_arg rfl
 have K_0 := Kt.refl base DS w0
 refine wp_sr ?_
 obtain ⟨g4, hg4⟩ : ∃ g, w0.heap.size = g := ⟨_, rfl⟩
 have ne_w_4 : wb ≠ g4 := by have := Bw_0.lt; omega
 obtain ⟨w1, hr1, B4_1, G1, hs1⟩ := al_run (op := Instr.box 56 (.agg #[(.string q.me), (.string q.uri), (.string q.iv), (.string q.fo), (.string q.ve)])) (T := 56) (cs := #[(.string q.me), (.string q.uri), (.string q.iv), (.string q.fo), (.string q.ve)]) hg4 (fun _ => by kernel_rfl)
 have Bw_1 := Bw_0.gn G1
 have K_1 := K_0.nw hw G1
 have sw_1 := sw_0.kt (Kt.of_none G1) (by decide) (by decide) (by decide)
 have nw_1 := nw_0.kt (Kt.of_none G1) (by decide)
 have kq_1 := kq_0.kt (Kt.of_none G1) (by decide)
 have mq_1 := mq_0.kt (Kt.of_none G1) (by decide)
 refine wl_pq F0 (ex_bx h1_0 hr1) fun a1 u1 F1 (h4_1 : a1.tmps.getD 4 undef = (.pointer (some ⟨g4, 0, none⟩))) => ?_
 clear K_0 sw_0 nw_0 kq_0 mq_0
 refine wl_pq F1 (ex_as (v := (.bool false)) rfl) fun a2 u2 F2 h6_2 => ?_
 change Code.wp _ _ _ _ _
 refine wp_seq ?_
 refine wp_sr ?_
 refine wl_pq F2 (ex_mv (u2.w (u1.w h2_0))) fun a3 u3 F3 h7_3 => ?_
 refine wl_pq F3 (ex_un (vx := (.bool true)) (v := (.bool false)) h7_3 rfl) fun a4 u4 F4 h8_4 => ?_
 refine wl_pq F4 (ex_mv h8_4) fun a5 u5 F5 h9_5 => ?_
 refine wl_k (yl (e := 9) rfl h9_5) (by decide) F5.l fun a6 u6 h10_6 => ?_
 have F6 := F5.pt u6
 refine wl_k (yl (e := 9) rfl (u6.w h9_5)) (by decide) F6.l fun a7 u7 h11_7 => ?_
 have F7 := F6.pt u7
 refine wl_k (yl (e := 9) rfl (u7.w (u6.w h9_5))) (by decide) F7.l fun a8 u8 h12_8 => ?_
 have F8 := F7.pt u8
 have h9_8 := u8.w (u7.w (u6.w h9_5))
 refine wl_pq F8 (ex_pick (q := false) (v := (.bool false)) h9_8 rfl) fun a9 u9 F9 h13_9 => ?_
 change Code.wp _ _ _ _ _
 refine wp_cond_false h13_9 ?_
 refine wp_skip ?_
 change Code.wp _ _ _ _ _
 refine wp_seq ?_
 refine wp_sr ?_
 have h4_9 := u9.w (u8.w (u7.w (u6.w (u5.w (u4.w (u3.w (u2.w h4_1)))))))
 refine wl_pq F9 (ex_fb 3 h4_9) fun a10 u10 F10 h14_10 => ?_
 refine wl_pq F10 (ex_le (v := (.string q.fo)) h14_10 (B4_1.cell 3)) fun a11 u11 F11 h15_11 => ?_
 refine wl_pq F11 (ex_bin (vy := (.string { data := #[] })) (v := (.bool false)) h15_11 rfl (bo_nes0 _ hf _)) fun a12 u12 F12 h16_12 => ?_
 refine wl_pq F12 (ex_mv h16_12) fun a13 u13 F13 h17_13 => ?_
 refine wl_k (yl (e := 17) rfl h17_13) (by decide) F13.l fun a14 u14 h18_14 => ?_
 have F14 := F13.pt u14
 refine wl_k (yl (e := 17) rfl (u14.w h17_13)) (by decide) F14.l fun a15 u15 h19_15 => ?_
 have F15 := F14.pt u15
 refine wl_k (yl (e := 17) rfl (u15.w (u14.w h17_13))) (by decide) F15.l fun a16 u16 h20_16 => ?_
 have F16 := F15.pt u16
 have h17_16 := u16.w (u15.w (u14.w h17_13))
 refine wl_pq F16 (ex_pick (q := false) (v := (.bool false)) h17_16 rfl) fun a17 u17 F17 h21_17 => ?_
 change Code.wp _ _ _ _ _
 refine wp_cond_false h21_17 ?_
 refine wp_skip ?_
 change Code.wp _ _ _ _ _
 refine wp_seq ?_
 refine wp_sr ?_
 have h2_17 := u17.w (u16.w (u15.w (u14.w (u13.w (u12.w (u11.w (u10.w (u9.w (u8.w (u7.w (u6.w (u5.w (u4.w (u3.w (u2.w (u1.w h2_0))))))))))))))))
 refine wl_pq F17 (ex_mv h2_17) fun a18 u18 F18 h24_18 => ?_
 change Code.wp _ _ _ _ _
 refine wp_cond_true h24_18 ?_
 refine rg_list ?_
 have h0_18 := u18.w (u17.w (u16.w (u15.w (u14.w (u13.w (u12.w (u11.w (u10.w (u9.w (u8.w (u7.w (u6.w (u5.w (u4.w (u3.w (u2.w (u1.w h0_0)))))))))))))))))
 refine wl_pq F18 (ex_mv h0_18) fun a19 u19 F19 h25_19 => ?_
 refine wl_pq F19 (ex_nil h25_19) fun a20 u20 F20 h26_20 => ?_
 refine wl_pq F20 (ex_fb 7 h26_20) fun a21 u21 F21 h27_21 => ?_
 obtain ⟨w2, hr2, Bw_2, G2⟩ := st_run (T := 29) (o := 7) (v := (.pointer (some ⟨g4, 0, none⟩))) (cs' := #[(.int .i64 d.places), (.int .i64 d.written), (.int .i64 d.ver), (.int .u64 d.seq), (.int .i64 d.tgt), (.bool d.clo), (.bool d.ifr), (.pointer (some ⟨g4, 0, none⟩)), (pto mp), sv, nv]) (fun _ => by kernel_rfl) Bw_1 rfl (Nat.le_of_ble_eq_true rfl) rfl
 have B4_2 := B4_1.gk G2 (Ne.symm ne_w_4)
 have K_2 := K_1.blk hw Bw_1 hb (by decide) G2
 have sw_2 := sw_1.kt (Kt.of_blk Bw_1 G2) (by decide) (by decide) (by decide)
 have nw_2 := nw_1.kt (Kt.of_blk Bw_1 G2) (by decide)
 have kq_2 := kq_1.kt (Kt.of_blk Bw_1 G2) (by decide)
 have mq_2 := mq_1.kt (Kt.of_blk Bw_1 G2) (by decide)
 have h4_21 := u21.w (u20.w (u19.w (u18.w (u17.w (u16.w (u15.w (u14.w (u13.w (u12.w (u11.w (u10.w h4_9)))))))))))
 refine wl_n (ex_st h27_21 h4_21 hr2) ?_
 clear K_1 sw_1 nw_1 kq_1 mq_1
 change Code.wp _ _ _ _ _
 refine wp_sr ?_
 refine wl_pq F21 (ex_as (v := (.bool true)) rfl) fun a22 u22 F22 h6_22 => ?_
 change Code.wp _ _ _ _ _
 refine wp_ret ?_
 try simp only [Exit.then, Exit.inBlock]
 exact bodyPost_ret (v := (.bool true)) ((results_tmp rfl _ _ _).trans (by rw [h6_22])) F22.defers ⟨rfl, ⟨⟨some g4, mp, _, _, Bw_2, .mk B4_2 hq, mq_2, sw_2, nw_2⟩, hb, K_2.le hw⟩, K_2⟩
theorem lock_some_v {d : WinD} {k base wb : Nat} {w0 : World} (hO : d.Ok k) (H : WinS w0 base wb d) (hn : 0 < d.segs.length) {q : KeyD} (hq : q.Ok) (hf : q.fo.size ≠ 0) (hv : q.ve.size ≠ 0) : Calls Tryd.prog 12 #[pt wb, .agg (keyC q), .bool false] w0 fun e w' => e = .returned (.bool true) ∧ WinS w' base wb ((d.upd fun L => { L with key := some q }).least 5) ∧ Kt base DS w0 w' := by
 obtain ⟨⟨kp, mp, sv, nv, Bw_0, kq_0, mq_0, sw_0, nw_0⟩, hb, hw⟩ := H
 obtain ⟨gl, ul, hix⟩ := sw_0.last hn
 obtain ⟨L, hL⟩ : ∃ L, d.segs[d.segs.length - 1]? = some L := ⟨_, List.getElem?_eq_getElem (by omega)⟩
 refine calls_of_wp Tryd.func12 rfl ?_
 generalize hA : Act.mk _ _ = a0
 have F0 : Fz 32 a0 := by subst hA; exact ⟨by simp [Tryd.ntmps12], rfl⟩
 have h0_0 : a0.tmps.getD 0 undef = (.pointer (some ⟨wb, 0, none⟩)) := by subst hA; exact fr_arg rfl
 have h1_0 : a0.tmps.getD 1 undef = (.agg #[(.string q.me), (.string q.uri), (.string q.iv), (.string q.fo), (.string q.ve)]) := by subst hA; exact fr_arg rfl
 have h2_0 : a0.tmps.getD 2 undef = (.bool false) := by subst hA; exact fr_arg rfl
 have K_0 := Kt.refl base DS w0
 refine wp_sr ?_
 obtain ⟨g4, hg4⟩ : ∃ g, w0.heap.size = g := ⟨_, rfl⟩
 have ne_w_4 : wb ≠ g4 := by have := Bw_0.lt; omega
 obtain ⟨w1, hr1, B4_1, G1, hs1⟩ := al_run (op := Instr.box 56 (.agg #[(.string q.me), (.string q.uri), (.string q.iv), (.string q.fo), (.string q.ve)])) (T := 56) (cs := #[(.string q.me), (.string q.uri), (.string q.iv), (.string q.fo), (.string q.ve)]) hg4 (fun _ => by kernel_rfl)
 have Bw_1 := Bw_0.gn G1
 have K_1 := K_0.nw hw G1
 have sw_1 := sw_0.kt (Kt.of_none G1) (by decide) (by decide) (by decide)
 have nw_1 := nw_0.kt (Kt.of_none G1) (by decide)
 have kq_1 := kq_0.kt (Kt.of_none G1) (by decide)
 have mq_1 := mq_0.kt (Kt.of_none G1) (by decide)
 refine wl_pq F0 (ex_bx h1_0 hr1) fun a1 u1 F1 (h4_1 : a1.tmps.getD 4 undef = (.pointer (some ⟨g4, 0, none⟩))) => ?_
 clear K_0 sw_0 nw_0 kq_0 mq_0
 refine wl_pq F1 (ex_as (v := (.bool false)) rfl) fun a2 u2 F2 h6_2 => ?_
 change Code.wp _ _ _ _ _
 refine wp_seq ?_
 refine wp_sr ?_
 refine wl_pq F2 (ex_mv (u2.w (u1.w h2_0))) fun a3 u3 F3 h7_3 => ?_
 refine wl_pq F3 (ex_un (vx := (.bool false)) (v := (.bool true)) h7_3 rfl) fun a4 u4 F4 h8_4 => ?_
 refine wl_pq F4 (ex_mv h8_4) fun a5 u5 F5 h9_5 => ?_
 have h0_5 := u5.w (u4.w (u3.w (u2.w (u1.w h0_0))))
 refine wl_gq F5 (yl (e := 9) rfl h9_5) (ex_mv h0_5) fun a6 u6 F6 h10_6 => ?_
 refine wl_gc (yl (e := 9) rfl (u6.w h9_5)) (args := #[(.pointer (some ⟨wb, 0, none⟩))]) (R := fun v w' => v = (.pointer (some ⟨gl, ul, none⟩)) ∧ w1.grownBy w' none) (ex_cl (fun _ _ => by kernel_rfl) (arg1 h10_6)) ((last_some Bw_1 sw_1 hn (by have := hO.room; have := hO.p12; omega) hix).mono fun _ _ h => ⟨_, h.1, rfl, h.2⟩) F6.l ?_
 rintro v w2 ⟨rfl, G2⟩
 have Bw_2 := Bw_1.gn G2
 have B4_2 := B4_1.gn G2
 have K_2 := K_1.nw hw G2
 have sw_2 := sw_1.kt (Kt.of_none G2) (by decide) (by decide) (by decide)
 have nw_2 := nw_1.kt (Kt.of_none G2) (by decide)
 have kq_2 := kq_1.kt (Kt.of_none G2) (by decide)
 have mq_2 := mq_1.kt (Kt.of_none G2) (by decide)
 intro a7 u7 h11_7
 have F7 := F6.pt u7
 clear K_1 sw_1 nw_1 kq_1 mq_1
 refine wl_gq F7 (yl (e := 9) rfl (u7.w (u6.w h9_5))) (ex_bin (vy := (.pointer none)) (v := (.bool false)) h11_7 rfl (by kernel_rfl)) fun a8 u8 F8 h12_8 => ?_
 have h9_8 := u8.w (u7.w (u6.w h9_5))
 refine wl_pq F8 (ex_pick (q := true) h9_8 h12_8) fun a9 u9 F9 h13_9 => ?_
 change Code.wp _ _ _ _ _
 refine wp_cond_false h13_9 ?_
 refine wp_skip ?_
 change Code.wp _ _ _ _ _
 refine wp_seq ?_
 refine wp_sr ?_
 have h4_9 := u9.w (u8.w (u7.w (u6.w (u5.w (u4.w (u3.w (u2.w h4_1)))))))
 refine wl_pq F9 (ex_fb 3 h4_9) fun a10 u10 F10 h14_10 => ?_
 refine wl_pq F10 (ex_le (v := (.string q.fo)) h14_10 (B4_2.cell 3)) fun a11 u11 F11 h15_11 => ?_
 refine wl_pq F11 (ex_bin (vy := (.string { data := #[] })) (v := (.bool true)) h15_11 rfl (bo_nes1 _ hf _)) fun a12 u12 F12 h16_12 => ?_
 refine wl_pq F12 (ex_mv h16_12) fun a13 u13 F13 h17_13 => ?_
 have h4_13 := u13.w (u12.w (u11.w (u10.w h4_9)))
 refine wl_gq F13 (yl (e := 17) rfl h17_13) (ex_fb 4 h4_13) fun a14 u14 F14 h18_14 => ?_
 refine wl_gq F14 (yl (e := 17) rfl (u14.w h17_13)) (ex_le (v := (.string q.ve)) h18_14 (B4_2.cell 4)) fun a15 u15 F15 h19_15 => ?_
 refine wl_gq F15 (yl (e := 17) rfl (u15.w (u14.w h17_13))) (ex_bin (vy := (.string { data := #[] })) (v := (.bool true)) h19_15 rfl (bo_nes1 _ hv _)) fun a16 u16 F16 h20_16 => ?_
 have h17_16 := u16.w (u15.w (u14.w h17_13))
 refine wl_pq F16 (ex_pick (q := true) h17_16 h20_16) fun a17 u17 F17 h21_17 => ?_
 change Code.wp _ _ _ _ _
 refine wp_cond_true h21_17 ?_
 refine rg_list ?_
 have h0_17 := u17.w (u16.w (u15.w (u14.w (u13.w (u12.w (u11.w (u10.w (u9.w (u8.w (u7.w (u6.w h0_5)))))))))))
 refine wl_pq F17 (ex_mv h0_17) fun a18 u18 F18 h22_18 => ?_
 refine wl_cl (args := #[(.pointer (some ⟨wb, 0, none⟩)), (.int .i64 5)]) (R := fun v w' => v = .tuple #[] ∧ Blk w' wb 51 #[(.int .i64 d.places), (.int .i64 d.written), (.int .i64 (max d.ver 5 : Nat)), (.int .u64 d.seq), (.int .i64 d.tgt), (.bool d.clo), (.bool d.ifr), (pto kp), (pto mp), sv, nv] ∧ w2.grownBy w' (some wb)) (ex_cl (fun _ _ => by kernel_rfl) (arg2 h22_18 rfl)) ((least_raw (n := 5) Bw_2).mono fun _ _ h => ⟨_, h.1, rfl, h.2⟩) F18.l ?_
 rintro v w3 ⟨rfl, Bw_3, G3⟩
 have B4_3 := B4_2.gk G3 (Ne.symm ne_w_4)
 have K_3 := K_2.blk hw Bw_2 hb (by decide) G3
 have sw_3 := sw_2.kt (Kt.of_blk Bw_2 G3) (by decide) (by decide) (by decide)
 have nw_3 := nw_2.kt (Kt.of_blk Bw_2 G3) (by decide)
 have kq_3 := kq_2.kt (Kt.of_blk Bw_2 G3) (by decide)
 have mq_3 := mq_2.kt (Kt.of_blk Bw_2 G3) (by decide)
 intro a19 u19 h23_19
 have F19 := F18.pt u19
 clear K_2 sw_2 nw_2 kq_2 mq_2
 change Code.wp _ _ _ _ _
 refine wp_seq ?_
 refine wp_sr ?_
 have h2_19 := u19.w (u18.w (u17.w (u16.w (u15.w (u14.w (u13.w (u12.w (u11.w (u10.w (u9.w (u8.w (u7.w (u6.w (u5.w (u4.w (u3.w (u2.w (u1.w h2_0))))))))))))))))))
 refine wl_pq F19 (ex_mv h2_19) fun a20 u20 F20 h24_20 => ?_
 change Code.wp _ _ _ _ _
 refine wp_cond_false h24_20 ?_
 refine rg_list ?_
 have h0_20 := u20.w (u19.w (u18.w h0_17))
 refine wl_pq F20 (ex_mv h0_20) fun a21 u21 F21 h28_21 => ?_
 refine wl_cl (args := #[(.pointer (some ⟨wb, 0, none⟩))]) (R := fun v w' => v = (.pointer (some ⟨gl, ul, none⟩)) ∧ w3.grownBy w' none) (ex_cl (fun _ _ => by kernel_rfl) (arg1 h28_21)) ((last_some Bw_3 sw_3 hn (by have := hO.room; have := hO.p12; omega) hix).mono fun _ _ h => ⟨_, h.1, rfl, h.2⟩) F21.l ?_
 rintro v w4 ⟨rfl, G4⟩
 have Bw_4 := Bw_3.gn G4
 have B4_4 := B4_3.gn G4
 have K_4 := K_3.nw hw G4
 have sw_4 := sw_3.kt (Kt.of_none G4) (by decide) (by decide) (by decide)
 have nw_4 := nw_3.kt (Kt.of_none G4) (by decide)
 have kq_4 := kq_3.kt (Kt.of_none G4) (by decide)
 have mq_4 := mq_3.kt (Kt.of_none G4) (by decide)
 intro a22 u22 h29_22
 have F22 := F21.pt u22
 clear K_3 sw_3 nw_3 kq_3 mq_3
 refine wl_pq F22 (ex_nil h29_22) fun a23 u23 F23 h30_23 => ?_
 refine wl_pq F23 (ex_fag (vx := (.pointer (some ⟨gl, ul, none⟩))) (v := (.pointer (some ⟨gl, ul + 5, none⟩))) h30_23 (by kernel_rfl)) fun a24 u24 F24 h31_24 => ?_
 obtain ⟨w5, hr5, sw_5, G5, ⟨cur5, hcur5⟩, hge5⟩ := sw_4.setL (T := 29) (f := 5) (j := d.segs.length - 1) (u := (.pointer (some ⟨g4, 0, none⟩))) (L := L) (L' := { L with key := some q }) (fun _ => by kernel_rfl) hL (by decide) rfl hix (fun kp mp hk hm => ⟨some g4, mp, fun k hk => by rcases k with _ | _ | _ | _ | _ | _ | _ | _ | _ | k <;> first | rfl | omega, .mk B4_4 hq, hm⟩)
 have KB5 := Kt.of_blk hcur5 G5
 have Bw_5 := Bw_4.kt KB5 (by decide)
 have B4_5 := B4_4.kt KB5 (by decide)
 have K_5 := K_4.blk hw hcur5 hge5 (by decide) G5
 have nw_5 := nw_4.kt KB5 (by decide)
 have kq_5 := kq_4.kt KB5 (by decide)
 have mq_5 := mq_4.kt KB5 (by decide)
 have h4_24 := u24.w (u23.w (u22.w (u21.w (u20.w (u19.w (u18.w (u17.w (u16.w (u15.w (u14.w h4_13))))))))))
 refine wl_n (ex_st h31_24 h4_24 hr5) ?_
 clear sw_4 hcur5 hge5 KB5 K_4 nw_4 kq_4 mq_4
 change Code.wp _ _ _ _ _
 refine wp_sr ?_
 refine wl_pq F24 (ex_as (v := (.bool true)) rfl) fun a25 u25 F25 h6_25 => ?_
 change Code.wp _ _ _ _ _
 refine wp_ret ?_
 try simp only [Exit.then, Exit.inBlock]
 exact bodyPost_ret (v := (.bool true)) ((results_tmp rfl _ _ _).trans (by rw [h6_25])) F25.defers ⟨rfl, by rw [WinD.upd_some hL]; exact ⟨⟨_, _, _, _, Bw_5, kq_5, mq_5, sw_5, nw_5⟩, hb, K_5.le hw⟩, K_5⟩
theorem lock_some_n {d : WinD} {k base wb : Nat} {w0 : World} (hO : d.Ok k) (H : WinS w0 base wb d) (hn : 0 < d.segs.length) {q : KeyD} (hq : q.Ok) (hf : q.fo.size = 0) : Calls Tryd.prog 12 #[pt wb, .agg (keyC q), .bool false] w0 fun e w' => e = .returned (.bool true) ∧ WinS w' base wb ((d.upd fun L => { L with key := some q })) ∧ Kt base DS w0 w' := by
 obtain ⟨⟨kp, mp, sv, nv, Bw_0, kq_0, mq_0, sw_0, nw_0⟩, hb, hw⟩ := H
 obtain ⟨gl, ul, hix⟩ := sw_0.last hn
 obtain ⟨L, hL⟩ : ∃ L, d.segs[d.segs.length - 1]? = some L := ⟨_, List.getElem?_eq_getElem (by omega)⟩
 refine calls_of_wp Tryd.func12 rfl ?_
 generalize hA : Act.mk _ _ = a0
 have F0 : Fz 32 a0 := by subst hA; exact ⟨by simp [Tryd.ntmps12], rfl⟩
 have h0_0 : a0.tmps.getD 0 undef = (.pointer (some ⟨wb, 0, none⟩)) := by subst hA; exact fr_arg rfl
 have h1_0 : a0.tmps.getD 1 undef = (.agg #[(.string q.me), (.string q.uri), (.string q.iv), (.string q.fo), (.string q.ve)]) := by subst hA; exact fr_arg rfl
 have h2_0 : a0.tmps.getD 2 undef = (.bool false) := by subst hA; exact fr_arg rfl
 have K_0 := Kt.refl base DS w0
 refine wp_sr ?_
 obtain ⟨g4, hg4⟩ : ∃ g, w0.heap.size = g := ⟨_, rfl⟩
 have ne_w_4 : wb ≠ g4 := by have := Bw_0.lt; omega
 obtain ⟨w1, hr1, B4_1, G1, hs1⟩ := al_run (op := Instr.box 56 (.agg #[(.string q.me), (.string q.uri), (.string q.iv), (.string q.fo), (.string q.ve)])) (T := 56) (cs := #[(.string q.me), (.string q.uri), (.string q.iv), (.string q.fo), (.string q.ve)]) hg4 (fun _ => by kernel_rfl)
 have Bw_1 := Bw_0.gn G1
 have K_1 := K_0.nw hw G1
 have sw_1 := sw_0.kt (Kt.of_none G1) (by decide) (by decide) (by decide)
 have nw_1 := nw_0.kt (Kt.of_none G1) (by decide)
 have kq_1 := kq_0.kt (Kt.of_none G1) (by decide)
 have mq_1 := mq_0.kt (Kt.of_none G1) (by decide)
 refine wl_pq F0 (ex_bx h1_0 hr1) fun a1 u1 F1 (h4_1 : a1.tmps.getD 4 undef = (.pointer (some ⟨g4, 0, none⟩))) => ?_
 clear K_0 sw_0 nw_0 kq_0 mq_0
 refine wl_pq F1 (ex_as (v := (.bool false)) rfl) fun a2 u2 F2 h6_2 => ?_
 change Code.wp _ _ _ _ _
 refine wp_seq ?_
 refine wp_sr ?_
 refine wl_pq F2 (ex_mv (u2.w (u1.w h2_0))) fun a3 u3 F3 h7_3 => ?_
 refine wl_pq F3 (ex_un (vx := (.bool false)) (v := (.bool true)) h7_3 rfl) fun a4 u4 F4 h8_4 => ?_
 refine wl_pq F4 (ex_mv h8_4) fun a5 u5 F5 h9_5 => ?_
 have h0_5 := u5.w (u4.w (u3.w (u2.w (u1.w h0_0))))
 refine wl_gq F5 (yl (e := 9) rfl h9_5) (ex_mv h0_5) fun a6 u6 F6 h10_6 => ?_
 refine wl_gc (yl (e := 9) rfl (u6.w h9_5)) (args := #[(.pointer (some ⟨wb, 0, none⟩))]) (R := fun v w' => v = (.pointer (some ⟨gl, ul, none⟩)) ∧ w1.grownBy w' none) (ex_cl (fun _ _ => by kernel_rfl) (arg1 h10_6)) ((last_some Bw_1 sw_1 hn (by have := hO.room; have := hO.p12; omega) hix).mono fun _ _ h => ⟨_, h.1, rfl, h.2⟩) F6.l ?_
 rintro v w2 ⟨rfl, G2⟩
 have Bw_2 := Bw_1.gn G2
 have B4_2 := B4_1.gn G2
 have K_2 := K_1.nw hw G2
 have sw_2 := sw_1.kt (Kt.of_none G2) (by decide) (by decide) (by decide)
 have nw_2 := nw_1.kt (Kt.of_none G2) (by decide)
 have kq_2 := kq_1.kt (Kt.of_none G2) (by decide)
 have mq_2 := mq_1.kt (Kt.of_none G2) (by decide)
 intro a7 u7 h11_7
 have F7 := F6.pt u7
 clear K_1 sw_1 nw_1 kq_1 mq_1
 refine wl_gq F7 (yl (e := 9) rfl (u7.w (u6.w h9_5))) (ex_bin (vy := (.pointer none)) (v := (.bool false)) h11_7 rfl (by kernel_rfl)) fun a8 u8 F8 h12_8 => ?_
 have h9_8 := u8.w (u7.w (u6.w h9_5))
 refine wl_pq F8 (ex_pick (q := true) h9_8 h12_8) fun a9 u9 F9 h13_9 => ?_
 change Code.wp _ _ _ _ _
 refine wp_cond_false h13_9 ?_
 refine wp_skip ?_
 change Code.wp _ _ _ _ _
 refine wp_seq ?_
 refine wp_sr ?_
 have h4_9 := u9.w (u8.w (u7.w (u6.w (u5.w (u4.w (u3.w (u2.w h4_1)))))))
 refine wl_pq F9 (ex_fb 3 h4_9) fun a10 u10 F10 h14_10 => ?_
 refine wl_pq F10 (ex_le (v := (.string q.fo)) h14_10 (B4_2.cell 3)) fun a11 u11 F11 h15_11 => ?_
 refine wl_pq F11 (ex_bin (vy := (.string { data := #[] })) (v := (.bool false)) h15_11 rfl (bo_nes0 _ hf _)) fun a12 u12 F12 h16_12 => ?_
 refine wl_pq F12 (ex_mv h16_12) fun a13 u13 F13 h17_13 => ?_
 refine wl_k (yl (e := 17) rfl h17_13) (by decide) F13.l fun a14 u14 h18_14 => ?_
 have F14 := F13.pt u14
 refine wl_k (yl (e := 17) rfl (u14.w h17_13)) (by decide) F14.l fun a15 u15 h19_15 => ?_
 have F15 := F14.pt u15
 refine wl_k (yl (e := 17) rfl (u15.w (u14.w h17_13))) (by decide) F15.l fun a16 u16 h20_16 => ?_
 have F16 := F15.pt u16
 have h17_16 := u16.w (u15.w (u14.w h17_13))
 refine wl_pq F16 (ex_pick (q := false) (v := (.bool false)) h17_16 rfl) fun a17 u17 F17 h21_17 => ?_
 change Code.wp _ _ _ _ _
 refine wp_cond_false h21_17 ?_
 refine wp_skip ?_
 change Code.wp _ _ _ _ _
 refine wp_seq ?_
 refine wp_sr ?_
 have h2_17 := u17.w (u16.w (u15.w (u14.w (u13.w (u12.w (u11.w (u10.w (u9.w (u8.w (u7.w (u6.w (u5.w (u4.w (u3.w (u2.w (u1.w h2_0))))))))))))))))
 refine wl_pq F17 (ex_mv h2_17) fun a18 u18 F18 h24_18 => ?_
 change Code.wp _ _ _ _ _
 refine wp_cond_false h24_18 ?_
 refine rg_list ?_
 have h0_18 := u18.w (u17.w (u16.w (u15.w (u14.w (u13.w (u12.w (u11.w (u10.w (u9.w (u8.w (u7.w (u6.w h0_5))))))))))))
 refine wl_pq F18 (ex_mv h0_18) fun a19 u19 F19 h28_19 => ?_
 refine wl_cl (args := #[(.pointer (some ⟨wb, 0, none⟩))]) (R := fun v w' => v = (.pointer (some ⟨gl, ul, none⟩)) ∧ w2.grownBy w' none) (ex_cl (fun _ _ => by kernel_rfl) (arg1 h28_19)) ((last_some Bw_2 sw_2 hn (by have := hO.room; have := hO.p12; omega) hix).mono fun _ _ h => ⟨_, h.1, rfl, h.2⟩) F19.l ?_
 rintro v w3 ⟨rfl, G3⟩
 have Bw_3 := Bw_2.gn G3
 have B4_3 := B4_2.gn G3
 have K_3 := K_2.nw hw G3
 have sw_3 := sw_2.kt (Kt.of_none G3) (by decide) (by decide) (by decide)
 have nw_3 := nw_2.kt (Kt.of_none G3) (by decide)
 have kq_3 := kq_2.kt (Kt.of_none G3) (by decide)
 have mq_3 := mq_2.kt (Kt.of_none G3) (by decide)
 intro a20 u20 h29_20
 have F20 := F19.pt u20
 clear K_2 sw_2 nw_2 kq_2 mq_2
 refine wl_pq F20 (ex_nil h29_20) fun a21 u21 F21 h30_21 => ?_
 refine wl_pq F21 (ex_fag (vx := (.pointer (some ⟨gl, ul, none⟩))) (v := (.pointer (some ⟨gl, ul + 5, none⟩))) h30_21 (by kernel_rfl)) fun a22 u22 F22 h31_22 => ?_
 obtain ⟨w4, hr4, sw_4, G4, ⟨cur4, hcur4⟩, hge4⟩ := sw_3.setL (T := 29) (f := 5) (j := d.segs.length - 1) (u := (.pointer (some ⟨g4, 0, none⟩))) (L := L) (L' := { L with key := some q }) (fun _ => by kernel_rfl) hL (by decide) rfl hix (fun kp mp hk hm => ⟨some g4, mp, fun k hk => by rcases k with _ | _ | _ | _ | _ | _ | _ | _ | _ | k <;> first | rfl | omega, .mk B4_3 hq, hm⟩)
 have KB4 := Kt.of_blk hcur4 G4
 have Bw_4 := Bw_3.kt KB4 (by decide)
 have B4_4 := B4_3.kt KB4 (by decide)
 have K_4 := K_3.blk hw hcur4 hge4 (by decide) G4
 have nw_4 := nw_3.kt KB4 (by decide)
 have kq_4 := kq_3.kt KB4 (by decide)
 have mq_4 := mq_3.kt KB4 (by decide)
 have h4_22 := u22.w (u21.w (u20.w (u19.w (u18.w (u17.w (u16.w (u15.w (u14.w (u13.w (u12.w (u11.w (u10.w h4_9))))))))))))
 refine wl_n (ex_st h31_22 h4_22 hr4) ?_
 clear sw_3 hcur4 hge4 KB4 K_3 nw_3 kq_3 mq_3
 change Code.wp _ _ _ _ _
 refine wp_sr ?_
 refine wl_pq F22 (ex_as (v := (.bool true)) rfl) fun a23 u23 F23 h6_23 => ?_
 change Code.wp _ _ _ _ _
 refine wp_ret ?_
 try simp only [Exit.then, Exit.inBlock]
 exact bodyPost_ret (v := (.bool true)) ((results_tmp rfl _ _ _).trans (by rw [h6_23])) F23.defers ⟨rfl, by rw [WinD.upd_some hL]; exact ⟨⟨_, _, _, _, Bw_4, kq_4, mq_4, sw_4, nw_4⟩, hb, K_4.le hw⟩, K_4⟩
theorem lead_nil {d : WinD} {k base wb : Nat} {w0 : World} (hO : d.Ok k) (H : WinS w0 base wb d) (hn : d.segs.length = 0) {q : MapD} (hq : q.Ok) : Calls Tryd.prog 15 #[pt wb, .agg (mapC q), .bool false] w0 fun e w' => e = .returned (.bool false) ∧ WinS w' base wb d ∧ Kt base DS w0 w' := by
 obtain ⟨⟨kp, mp, sv, nv, Bw_0, kq_0, mq_0, sw_0, nw_0⟩, hb, hw⟩ := H
 refine calls_of_wp Tryd.func15 rfl ?_
 generalize hA : Act.mk _ _ = a0
 have F0 : Fz 24 a0 := by subst hA; exact ⟨by simp [Tryd.ntmps15], rfl⟩
 have h0_0 : a0.tmps.getD 0 undef = (.pointer (some ⟨wb, 0, none⟩)) := by subst hA; exact fr_arg rfl
 have h1_0 : a0.tmps.getD 1 undef = (.agg #[(.string q.uri), (.int .i64 q.li), (.int .i64 q.off)]) := by subst hA; exact fr_arg rfl
 have h2_0 : a0.tmps.getD 2 undef = (.bool false) := by subst hA; exact fr_arg rfl
 have K_0 := Kt.refl base DS w0
 refine wp_sr ?_
 obtain ⟨g4, hg4⟩ : ∃ g, w0.heap.size = g := ⟨_, rfl⟩
 have ne_w_4 : wb ≠ g4 := by have := Bw_0.lt; omega
 obtain ⟨w1, hr1, B4_1, G1, hs1⟩ := al_run (op := Instr.box 61 (.agg #[(.string q.uri), (.int .i64 q.li), (.int .i64 q.off)])) (T := 61) (cs := #[(.string q.uri), (.int .i64 q.li), (.int .i64 q.off)]) hg4 (fun _ => by kernel_rfl)
 have Bw_1 := Bw_0.gn G1
 have K_1 := K_0.nw hw G1
 have sw_1 := sw_0.kt (Kt.of_none G1) (by decide) (by decide) (by decide)
 have nw_1 := nw_0.kt (Kt.of_none G1) (by decide)
 have kq_1 := kq_0.kt (Kt.of_none G1) (by decide)
 have mq_1 := mq_0.kt (Kt.of_none G1) (by decide)
 refine wl_pq F0 (ex_bx h1_0 hr1) fun a1 u1 F1 (h4_1 : a1.tmps.getD 4 undef = (.pointer (some ⟨g4, 0, none⟩))) => ?_
 clear K_0 sw_0 nw_0 kq_0 mq_0
 refine wl_pq F1 (ex_as (v := (.bool false)) rfl) fun a2 u2 F2 h6_2 => ?_
 change Code.wp _ _ _ _ _
 refine wp_seq ?_
 refine wp_sr ?_
 refine wl_pq F2 (ex_mv (u2.w (u1.w h2_0))) fun a3 u3 F3 h7_3 => ?_
 refine wl_pq F3 (ex_un (vx := (.bool false)) (v := (.bool true)) h7_3 rfl) fun a4 u4 F4 h8_4 => ?_
 refine wl_pq F4 (ex_mv h8_4) fun a5 u5 F5 h9_5 => ?_
 have h0_5 := u5.w (u4.w (u3.w (u2.w (u1.w h0_0))))
 refine wl_gq F5 (yl (e := 9) rfl h9_5) (ex_mv h0_5) fun a6 u6 F6 h10_6 => ?_
 refine wl_gc (yl (e := 9) rfl (u6.w h9_5)) (args := #[(.pointer (some ⟨wb, 0, none⟩))]) (R := fun v w' => v = (.pointer none) ∧ w1.grownBy w' none) (ex_cl (fun _ _ => by kernel_rfl) (arg1 h10_6)) ((last_nil Bw_1 sw_1 hn).mono fun _ _ h => ⟨_, h.1, rfl, h.2⟩) F6.l ?_
 rintro v w2 ⟨rfl, G2⟩
 have Bw_2 := Bw_1.gn G2
 have B4_2 := B4_1.gn G2
 have K_2 := K_1.nw hw G2
 have sw_2 := sw_1.kt (Kt.of_none G2) (by decide) (by decide) (by decide)
 have nw_2 := nw_1.kt (Kt.of_none G2) (by decide)
 have kq_2 := kq_1.kt (Kt.of_none G2) (by decide)
 have mq_2 := mq_1.kt (Kt.of_none G2) (by decide)
 intro a7 u7 h11_7
 have F7 := F6.pt u7
 clear K_1 sw_1 nw_1 kq_1 mq_1
 refine wl_gq F7 (yl (e := 9) rfl (u7.w (u6.w h9_5))) (ex_bin (vy := (.pointer none)) (v := (.bool true)) h11_7 rfl (by kernel_rfl)) fun a8 u8 F8 h12_8 => ?_
 have h9_8 := u8.w (u7.w (u6.w h9_5))
 refine wl_pq F8 (ex_pick (q := true) h9_8 h12_8) fun a9 u9 F9 h13_9 => ?_
 change Code.wp _ _ _ _ _
 refine wp_cond_true h13_9 ?_
 refine wp_sr ?_
 refine wl_pq F9 (ex_as (v := (.bool false)) rfl) fun a10 u10 F10 h6_10 => ?_
 change Code.wp _ _ _ _ _
 refine wp_ret ?_
 try simp only [Exit.then, Exit.inBlock]
 exact bodyPost_ret (v := (.bool false)) ((results_tmp rfl _ _ _).trans (by rw [h6_10])) F10.defers ⟨rfl, ⟨⟨_, _, _, _, Bw_2, kq_2, mq_2, sw_2, nw_2⟩, hb, K_2.le hw⟩, K_2⟩
theorem lead_all {d : WinD} {k base wb : Nat} {w0 : World} (hO : d.Ok k) (H : WinS w0 base wb d) {q : MapD} (hq : q.Ok) : Calls Tryd.prog 15 #[pt wb, .agg (mapC q), .bool true] w0 fun e w' => e = .returned (.bool true) ∧ WinS w' base wb ({ d.least 5 with map := some q }) ∧ Kt base DS w0 w' := by
 obtain ⟨⟨kp, mp, sv, nv, Bw_0, kq_0, mq_0, sw_0, nw_0⟩, hb, hw⟩ := H
 refine calls_of_wp Tryd.func15 rfl ?_
 generalize hA : Act.mk _ _ = a0
 have F0 : Fz 24 a0 := by subst hA; exact ⟨by simp [Tryd.ntmps15], rfl⟩
 have h0_0 : a0.tmps.getD 0 undef = (.pointer (some ⟨wb, 0, none⟩)) := by subst hA; exact fr_arg rfl
 have h1_0 : a0.tmps.getD 1 undef = (.agg #[(.string q.uri), (.int .i64 q.li), (.int .i64 q.off)]) := by subst hA; exact fr_arg rfl
 have h2_0 : a0.tmps.getD 2 undef = (.bool true) := by subst hA; exact fr_arg rfl
 have K_0 := Kt.refl base DS w0
 refine wp_sr ?_
 obtain ⟨g4, hg4⟩ : ∃ g, w0.heap.size = g := ⟨_, rfl⟩
 have ne_w_4 : wb ≠ g4 := by have := Bw_0.lt; omega
 obtain ⟨w1, hr1, B4_1, G1, hs1⟩ := al_run (op := Instr.box 61 (.agg #[(.string q.uri), (.int .i64 q.li), (.int .i64 q.off)])) (T := 61) (cs := #[(.string q.uri), (.int .i64 q.li), (.int .i64 q.off)]) hg4 (fun _ => by kernel_rfl)
 have Bw_1 := Bw_0.gn G1
 have K_1 := K_0.nw hw G1
 have sw_1 := sw_0.kt (Kt.of_none G1) (by decide) (by decide) (by decide)
 have nw_1 := nw_0.kt (Kt.of_none G1) (by decide)
 have kq_1 := kq_0.kt (Kt.of_none G1) (by decide)
 have mq_1 := mq_0.kt (Kt.of_none G1) (by decide)
 refine wl_pq F0 (ex_bx h1_0 hr1) fun a1 u1 F1 (h4_1 : a1.tmps.getD 4 undef = (.pointer (some ⟨g4, 0, none⟩))) => ?_
 clear K_0 sw_0 nw_0 kq_0 mq_0
 refine wl_pq F1 (ex_as (v := (.bool false)) rfl) fun a2 u2 F2 h6_2 => ?_
 change Code.wp _ _ _ _ _
 refine wp_seq ?_
 refine wp_sr ?_
 refine wl_pq F2 (ex_mv (u2.w (u1.w h2_0))) fun a3 u3 F3 h7_3 => ?_
 refine wl_pq F3 (ex_un (vx := (.bool true)) (v := (.bool false)) h7_3 rfl) fun a4 u4 F4 h8_4 => ?_
 refine wl_pq F4 (ex_mv h8_4) fun a5 u5 F5 h9_5 => ?_
 refine wl_k (yl (e := 9) rfl h9_5) (by decide) F5.l fun a6 u6 h10_6 => ?_
 have F6 := F5.pt u6
 refine wl_k (yl (e := 9) rfl (u6.w h9_5)) (by decide) F6.l fun a7 u7 h11_7 => ?_
 have F7 := F6.pt u7
 refine wl_k (yl (e := 9) rfl (u7.w (u6.w h9_5))) (by decide) F7.l fun a8 u8 h12_8 => ?_
 have F8 := F7.pt u8
 have h9_8 := u8.w (u7.w (u6.w h9_5))
 refine wl_pq F8 (ex_pick (q := false) (v := (.bool false)) h9_8 rfl) fun a9 u9 F9 h13_9 => ?_
 change Code.wp _ _ _ _ _
 refine wp_cond_false h13_9 ?_
 refine wp_skip ?_
 change Code.wp _ _ _ _ _
 refine wp_sr ?_
 have h0_9 := u9.w (u8.w (u7.w (u6.w (u5.w (u4.w (u3.w (u2.w (u1.w h0_0))))))))
 refine wl_pq F9 (ex_mv h0_9) fun a10 u10 F10 h14_10 => ?_
 refine wl_cl (args := #[(.pointer (some ⟨wb, 0, none⟩)), (.int .i64 5)]) (R := fun v w' => v = .tuple #[] ∧ Blk w' wb 51 #[(.int .i64 d.places), (.int .i64 d.written), (.int .i64 (max d.ver 5 : Nat)), (.int .u64 d.seq), (.int .i64 d.tgt), (.bool d.clo), (.bool d.ifr), (pto kp), (pto mp), sv, nv] ∧ w1.grownBy w' (some wb)) (ex_cl (fun _ _ => by kernel_rfl) (arg2 h14_10 rfl)) ((least_raw (n := 5) Bw_1).mono fun _ _ h => ⟨_, h.1, rfl, h.2⟩) F10.l ?_
 rintro v w2 ⟨rfl, Bw_2, G2⟩
 have B4_2 := B4_1.gk G2 (Ne.symm ne_w_4)
 have K_2 := K_1.blk hw Bw_1 hb (by decide) G2
 have sw_2 := sw_1.kt (Kt.of_blk Bw_1 G2) (by decide) (by decide) (by decide)
 have nw_2 := nw_1.kt (Kt.of_blk Bw_1 G2) (by decide)
 have kq_2 := kq_1.kt (Kt.of_blk Bw_1 G2) (by decide)
 have mq_2 := mq_1.kt (Kt.of_blk Bw_1 G2) (by decide)
 intro a11 u11 h15_11
 have F11 := F10.pt u11
 clear K_1 sw_1 nw_1 kq_1 mq_1
 change Code.wp _ _ _ _ _
 refine wp_seq ?_
 refine wp_sr ?_
 have h2_11 := u11.w (u10.w (u9.w (u8.w (u7.w (u6.w (u5.w (u4.w (u3.w (u2.w (u1.w h2_0))))))))))
 refine wl_pq F11 (ex_mv h2_11) fun a12 u12 F12 h16_12 => ?_
 change Code.wp _ _ _ _ _
 refine wp_cond_true h16_12 ?_
 refine rg_list ?_
 have h0_12 := u12.w (u11.w (u10.w h0_9))
 refine wl_pq F12 (ex_mv h0_12) fun a13 u13 F13 h17_13 => ?_
 refine wl_pq F13 (ex_nil h17_13) fun a14 u14 F14 h18_14 => ?_
 refine wl_pq F14 (ex_fb 8 h18_14) fun a15 u15 F15 h19_15 => ?_
 obtain ⟨w3, hr3, Bw_3, G3⟩ := st_run (T := 30) (o := 8) (v := (.pointer (some ⟨g4, 0, none⟩))) (cs' := #[(.int .i64 d.places), (.int .i64 d.written), (.int .i64 (max d.ver 5 : Nat)), (.int .u64 d.seq), (.int .i64 d.tgt), (.bool d.clo), (.bool d.ifr), (pto kp), (.pointer (some ⟨g4, 0, none⟩)), sv, nv]) (fun _ => by kernel_rfl) Bw_2 rfl (Nat.le_of_ble_eq_true rfl) rfl
 have B4_3 := B4_2.gk G3 (Ne.symm ne_w_4)
 have K_3 := K_2.blk hw Bw_2 hb (by decide) G3
 have sw_3 := sw_2.kt (Kt.of_blk Bw_2 G3) (by decide) (by decide) (by decide)
 have nw_3 := nw_2.kt (Kt.of_blk Bw_2 G3) (by decide)
 have kq_3 := kq_2.kt (Kt.of_blk Bw_2 G3) (by decide)
 have mq_3 := mq_2.kt (Kt.of_blk Bw_2 G3) (by decide)
 have h4_15 := u15.w (u14.w (u13.w (u12.w (u11.w (u10.w (u9.w (u8.w (u7.w (u6.w (u5.w (u4.w (u3.w (u2.w h4_1)))))))))))))
 refine wl_n (ex_st h19_15 h4_15 hr3) ?_
 clear K_2 sw_2 nw_2 kq_2 mq_2
 change Code.wp _ _ _ _ _
 refine wp_sr ?_
 refine wl_pq F15 (ex_as (v := (.bool true)) rfl) fun a16 u16 F16 h6_16 => ?_
 change Code.wp _ _ _ _ _
 refine wp_ret ?_
 try simp only [Exit.then, Exit.inBlock]
 exact bodyPost_ret (v := (.bool true)) ((results_tmp rfl _ _ _).trans (by rw [h6_16])) F16.defers ⟨rfl, ⟨⟨kp, some g4, _, _, Bw_3, kq_3, .mk B4_3 hq, sw_3, nw_3⟩, hb, K_3.le hw⟩, K_3⟩
theorem lead_some {d : WinD} {k base wb : Nat} {w0 : World} (hO : d.Ok k) (H : WinS w0 base wb d) (hn : 0 < d.segs.length) {q : MapD} (hq : q.Ok) : Calls Tryd.prog 15 #[pt wb, .agg (mapC q), .bool false] w0 fun e w' => e = .returned (.bool true) ∧ WinS w' base wb ((d.upd fun L => { L with map := some q }).least 5) ∧ Kt base DS w0 w' := by
 obtain ⟨⟨kp, mp, sv, nv, Bw_0, kq_0, mq_0, sw_0, nw_0⟩, hb, hw⟩ := H
 obtain ⟨gl, ul, hix⟩ := sw_0.last hn
 obtain ⟨L, hL⟩ : ∃ L, d.segs[d.segs.length - 1]? = some L := ⟨_, List.getElem?_eq_getElem (by omega)⟩
 refine calls_of_wp Tryd.func15 rfl ?_
 generalize hA : Act.mk _ _ = a0
 have F0 : Fz 24 a0 := by subst hA; exact ⟨by simp [Tryd.ntmps15], rfl⟩
 have h0_0 : a0.tmps.getD 0 undef = (.pointer (some ⟨wb, 0, none⟩)) := by subst hA; exact fr_arg rfl
 have h1_0 : a0.tmps.getD 1 undef = (.agg #[(.string q.uri), (.int .i64 q.li), (.int .i64 q.off)]) := by subst hA; exact fr_arg rfl
 have h2_0 : a0.tmps.getD 2 undef = (.bool false) := by subst hA; exact fr_arg rfl
 have K_0 := Kt.refl base DS w0
 refine wp_sr ?_
 obtain ⟨g4, hg4⟩ : ∃ g, w0.heap.size = g := ⟨_, rfl⟩
 have ne_w_4 : wb ≠ g4 := by have := Bw_0.lt; omega
 obtain ⟨w1, hr1, B4_1, G1, hs1⟩ := al_run (op := Instr.box 61 (.agg #[(.string q.uri), (.int .i64 q.li), (.int .i64 q.off)])) (T := 61) (cs := #[(.string q.uri), (.int .i64 q.li), (.int .i64 q.off)]) hg4 (fun _ => by kernel_rfl)
 have Bw_1 := Bw_0.gn G1
 have K_1 := K_0.nw hw G1
 have sw_1 := sw_0.kt (Kt.of_none G1) (by decide) (by decide) (by decide)
 have nw_1 := nw_0.kt (Kt.of_none G1) (by decide)
 have kq_1 := kq_0.kt (Kt.of_none G1) (by decide)
 have mq_1 := mq_0.kt (Kt.of_none G1) (by decide)
 refine wl_pq F0 (ex_bx h1_0 hr1) fun a1 u1 F1 (h4_1 : a1.tmps.getD 4 undef = (.pointer (some ⟨g4, 0, none⟩))) => ?_
 clear K_0 sw_0 nw_0 kq_0 mq_0
 refine wl_pq F1 (ex_as (v := (.bool false)) rfl) fun a2 u2 F2 h6_2 => ?_
 change Code.wp _ _ _ _ _
 refine wp_seq ?_
 refine wp_sr ?_
 refine wl_pq F2 (ex_mv (u2.w (u1.w h2_0))) fun a3 u3 F3 h7_3 => ?_
 refine wl_pq F3 (ex_un (vx := (.bool false)) (v := (.bool true)) h7_3 rfl) fun a4 u4 F4 h8_4 => ?_
 refine wl_pq F4 (ex_mv h8_4) fun a5 u5 F5 h9_5 => ?_
 have h0_5 := u5.w (u4.w (u3.w (u2.w (u1.w h0_0))))
 refine wl_gq F5 (yl (e := 9) rfl h9_5) (ex_mv h0_5) fun a6 u6 F6 h10_6 => ?_
 refine wl_gc (yl (e := 9) rfl (u6.w h9_5)) (args := #[(.pointer (some ⟨wb, 0, none⟩))]) (R := fun v w' => v = (.pointer (some ⟨gl, ul, none⟩)) ∧ w1.grownBy w' none) (ex_cl (fun _ _ => by kernel_rfl) (arg1 h10_6)) ((last_some Bw_1 sw_1 hn (by have := hO.room; have := hO.p12; omega) hix).mono fun _ _ h => ⟨_, h.1, rfl, h.2⟩) F6.l ?_
 rintro v w2 ⟨rfl, G2⟩
 have Bw_2 := Bw_1.gn G2
 have B4_2 := B4_1.gn G2
 have K_2 := K_1.nw hw G2
 have sw_2 := sw_1.kt (Kt.of_none G2) (by decide) (by decide) (by decide)
 have nw_2 := nw_1.kt (Kt.of_none G2) (by decide)
 have kq_2 := kq_1.kt (Kt.of_none G2) (by decide)
 have mq_2 := mq_1.kt (Kt.of_none G2) (by decide)
 intro a7 u7 h11_7
 have F7 := F6.pt u7
 clear K_1 sw_1 nw_1 kq_1 mq_1
 refine wl_gq F7 (yl (e := 9) rfl (u7.w (u6.w h9_5))) (ex_bin (vy := (.pointer none)) (v := (.bool false)) h11_7 rfl (by kernel_rfl)) fun a8 u8 F8 h12_8 => ?_
 have h9_8 := u8.w (u7.w (u6.w h9_5))
 refine wl_pq F8 (ex_pick (q := true) h9_8 h12_8) fun a9 u9 F9 h13_9 => ?_
 change Code.wp _ _ _ _ _
 refine wp_cond_false h13_9 ?_
 refine wp_skip ?_
 change Code.wp _ _ _ _ _
 refine wp_sr ?_
 have h0_9 := u9.w (u8.w (u7.w (u6.w h0_5)))
 refine wl_pq F9 (ex_mv h0_9) fun a10 u10 F10 h14_10 => ?_
 refine wl_cl (args := #[(.pointer (some ⟨wb, 0, none⟩)), (.int .i64 5)]) (R := fun v w' => v = .tuple #[] ∧ Blk w' wb 51 #[(.int .i64 d.places), (.int .i64 d.written), (.int .i64 (max d.ver 5 : Nat)), (.int .u64 d.seq), (.int .i64 d.tgt), (.bool d.clo), (.bool d.ifr), (pto kp), (pto mp), sv, nv] ∧ w2.grownBy w' (some wb)) (ex_cl (fun _ _ => by kernel_rfl) (arg2 h14_10 rfl)) ((least_raw (n := 5) Bw_2).mono fun _ _ h => ⟨_, h.1, rfl, h.2⟩) F10.l ?_
 rintro v w3 ⟨rfl, Bw_3, G3⟩
 have B4_3 := B4_2.gk G3 (Ne.symm ne_w_4)
 have K_3 := K_2.blk hw Bw_2 hb (by decide) G3
 have sw_3 := sw_2.kt (Kt.of_blk Bw_2 G3) (by decide) (by decide) (by decide)
 have nw_3 := nw_2.kt (Kt.of_blk Bw_2 G3) (by decide)
 have kq_3 := kq_2.kt (Kt.of_blk Bw_2 G3) (by decide)
 have mq_3 := mq_2.kt (Kt.of_blk Bw_2 G3) (by decide)
 intro a11 u11 h15_11
 have F11 := F10.pt u11
 clear K_2 sw_2 nw_2 kq_2 mq_2
 change Code.wp _ _ _ _ _
 refine wp_seq ?_
 refine wp_sr ?_
 have h2_11 := u11.w (u10.w (u9.w (u8.w (u7.w (u6.w (u5.w (u4.w (u3.w (u2.w (u1.w h2_0))))))))))
 refine wl_pq F11 (ex_mv h2_11) fun a12 u12 F12 h16_12 => ?_
 change Code.wp _ _ _ _ _
 refine wp_cond_false h16_12 ?_
 refine rg_list ?_
 have h0_12 := u12.w (u11.w (u10.w h0_9))
 refine wl_pq F12 (ex_mv h0_12) fun a13 u13 F13 h20_13 => ?_
 refine wl_cl (args := #[(.pointer (some ⟨wb, 0, none⟩))]) (R := fun v w' => v = (.pointer (some ⟨gl, ul, none⟩)) ∧ w3.grownBy w' none) (ex_cl (fun _ _ => by kernel_rfl) (arg1 h20_13)) ((last_some Bw_3 sw_3 hn (by have := hO.room; have := hO.p12; omega) hix).mono fun _ _ h => ⟨_, h.1, rfl, h.2⟩) F13.l ?_
 rintro v w4 ⟨rfl, G4⟩
 have Bw_4 := Bw_3.gn G4
 have B4_4 := B4_3.gn G4
 have K_4 := K_3.nw hw G4
 have sw_4 := sw_3.kt (Kt.of_none G4) (by decide) (by decide) (by decide)
 have nw_4 := nw_3.kt (Kt.of_none G4) (by decide)
 have kq_4 := kq_3.kt (Kt.of_none G4) (by decide)
 have mq_4 := mq_3.kt (Kt.of_none G4) (by decide)
 intro a14 u14 h21_14
 have F14 := F13.pt u14
 clear K_3 sw_3 nw_3 kq_3 mq_3
 refine wl_pq F14 (ex_nil h21_14) fun a15 u15 F15 h22_15 => ?_
 refine wl_pq F15 (ex_fag (vx := (.pointer (some ⟨gl, ul, none⟩))) (v := (.pointer (some ⟨gl, ul + 6, none⟩))) h22_15 (by kernel_rfl)) fun a16 u16 F16 h23_16 => ?_
 obtain ⟨w5, hr5, sw_5, G5, ⟨cur5, hcur5⟩, hge5⟩ := sw_4.setL (T := 30) (f := 6) (j := d.segs.length - 1) (u := (.pointer (some ⟨g4, 0, none⟩))) (L := L) (L' := { L with map := some q }) (fun _ => by kernel_rfl) hL (by decide) rfl hix (fun kp mp hk hm => ⟨kp, some g4, fun k hk => by rcases k with _ | _ | _ | _ | _ | _ | _ | _ | _ | k <;> first | rfl | omega, hk, .mk B4_4 hq⟩)
 have KB5 := Kt.of_blk hcur5 G5
 have Bw_5 := Bw_4.kt KB5 (by decide)
 have B4_5 := B4_4.kt KB5 (by decide)
 have K_5 := K_4.blk hw hcur5 hge5 (by decide) G5
 have nw_5 := nw_4.kt KB5 (by decide)
 have kq_5 := kq_4.kt KB5 (by decide)
 have mq_5 := mq_4.kt KB5 (by decide)
 have h4_16 := u16.w (u15.w (u14.w (u13.w (u12.w (u11.w (u10.w (u9.w (u8.w (u7.w (u6.w (u5.w (u4.w (u3.w (u2.w h4_1))))))))))))))
 refine wl_n (ex_st h23_16 h4_16 hr5) ?_
 clear sw_4 hcur5 hge5 KB5 K_4 nw_4 kq_4 mq_4
 change Code.wp _ _ _ _ _
 refine wp_sr ?_
 refine wl_pq F16 (ex_as (v := (.bool true)) rfl) fun a17 u17 F17 h6_17 => ?_
 change Code.wp _ _ _ _ _
 refine wp_ret ?_
 try simp only [Exit.then, Exit.inBlock]
 exact bodyPost_ret (v := (.bool true)) ((results_tmp rfl _ _ _).trans (by rw [h6_17])) F17.defers ⟨rfl, by rw [WinD.upd_some hL]; exact ⟨⟨_, _, _, _, Bw_5, kq_5, mq_5, sw_5, nw_5⟩, hb, K_5.le hw⟩, K_5⟩
theorem newwin {wr p : Nat} {w0 : World} : Calls Tryd.prog 4 #[.int .i64 wr, .int .i64 p] w0 fun e w' => ∃ wb, e = .returned (pt wb) ∧ WinS w' w0.heap.size wb ⟨p, wr, 3, 0, 0, false, false, none, none, [], []⟩ ∧ w0.grownBy w' none ∧ w0.heap.size ≤ wb := by
 refine calls_of_wp Tryd.func4 rfl ?_
 generalize hA : Act.mk _ _ = a0
 have F0 : Fz 9 a0 := by subst hA; exact ⟨by simp [Tryd.ntmps4], rfl⟩
 have h0_0 : a0.tmps.getD 0 undef = (.int .i64 wr) := by subst hA; exact fr_arg rfl
 have h1_0 : a0.tmps.getD 1 undef = (.int .i64 p) := by subst hA; exact fr_arg rfl
 have Q_0 := grown_refl w0 none
 refine wp_sr ?_
 refine wl_pq F0 (ex_as (v := (.pointer none)) rfl) fun a1 u1 F1 h4_1 => ?_
 change Code.wp _ _ _ _ _
 refine wp_sr ?_
 refine wl_pq F1 (ex_mv (u1.w h1_0)) fun a2 u2 F2 h5_2 => ?_
 refine wl_pq F2 (ex_mv (u2.w (u1.w h0_0))) fun a3 u3 F3 h6_3 => ?_
 refine wl_pq F3 (ex_bd (w' := w0) (vs :=  #[(0, (.int .i64 p)), (1, (.int .i64 wr)), (2, (.int .i64 3))]) (v := (.agg #[(.int .i64 p), (.int .i64 wr), (.int .i64 3), (.int .u64 0), (.int .i64 0), (.bool false), (.bool false), (.pointer none), (.pointer none), (.slice none 0 0), (.slice none 0 0)])) (by have e0 : a3.eval (.tmp 5) = (.int .i64 p) := (u3.w h5_2); have e1 : a3.eval (.tmp 6) = (.int .i64 wr) := h6_3; simp only [List.map_toArray, List.map_cons, List.map_nil, e0, e1, ev_const]) (by kernel_rfl)) fun a4 u4 F4 h7_4 => ?_
 obtain ⟨g8, hg8⟩ : ∃ g, w0.heap.size = g := ⟨_, rfl⟩
 have hb8 : w0.heap.size ≤ g8 := hg8 ▸ Q_0.size
 obtain ⟨w1, hr1, B8_1, G1, hs1⟩ := al_run (op := Instr.box 51 (.agg #[(.int .i64 p), (.int .i64 wr), (.int .i64 3), (.int .u64 0), (.int .i64 0), (.bool false), (.bool false), (.pointer none), (.pointer none), (.slice none 0 0), (.slice none 0 0)])) (T := 51) (cs := #[(.int .i64 p), (.int .i64 wr), (.int .i64 3), (.int .u64 0), (.int .i64 0), (.bool false), (.bool false), (.pointer none), (.pointer none), (.slice none 0 0), (.slice none 0 0)]) hg8 (fun _ => by kernel_rfl)
 have Q_1 := grown_trans Q_0 G1
 refine wl_pq F4 (ex_bx h7_4 hr1) fun a5 u5 F5 (h8_5 : a5.tmps.getD 8 undef = (.pointer (some ⟨g8, 0, none⟩))) => ?_
 clear Q_0
 refine wl_pq F5 (ex_as h8_5) fun a6 u6 F6 h4_6 => ?_
 change Code.wp _ _ _ _ _
 refine wp_ret ?_
 try simp only [Exit.then, Exit.inBlock]
 exact bodyPost_ret (v := (.pointer (some ⟨g8, 0, none⟩))) ((results_tmp rfl _ _ _).trans (by rw [h4_6])) F6.defers ⟨g8, rfl, ⟨⟨none, none, _, _, B8_1, .nil, .nil, SW.nil, NW.nil⟩, hb8, Nat.le_of_lt (Nat.lt_of_le_of_lt hb8 B8_1.lt)⟩, Q_1, hb8⟩
end Go.Proofs.YtdpebhlkgmopkaaDoor
