/-
 FnSteps: the plain steps; the library's methods as such steps; Append, Slide.
-/
import Derived.Test.YtdpebhlkgmopkaaDoorPla
namespace Go.Proofs.YtdpebhlkgmopkaaDoor
open Go.RowKit
set_option maxRecDepth 100000
/-- an error, or none -/
def Er (v : Value) (t : Bool) : Prop := (t = true ∧ v = .nilIface) ∨ (t = false ∧ ∃ a b, v = .iface a b)
/-- formats and versions come together -/
def KV (q : KeyD) : Prop := q.fo.size = 0 ↔ q.ve.size = 0
def WinD.swin (d : WinD) (n : Nat) : WinD := if n ≤ d.places then { d with written := n } else d
def WinD.lockL (d : WinD) (q : KeyD) : WinD := if d.segs.length = 0 then d else if q.fo.size = 0 then d.upd fun L => { L with key := some q } else (d.upd fun L => { L with key := some q }).least 5
def WinD.lockA (d : WinD) (q : KeyD) : WinD := if q.fo.size = 0 then { d with key := some q } else { d.least 5 with key := some q }
def WinD.leadL (d : WinD) (q : MapD) : WinD := if d.segs.length = 0 then d else (d.upd fun L => { L with map := some q }).least 5
def WinD.leadA (d : WinD) (q : MapD) : WinD := { d.least 5 with map := some q }
def WinD.rangeL (d : WinD) (li off : Nat) : WinD := if d.segs.length = 0 then d else (d.upd fun L => { L with li := li, off := off }).least 4
def WinD.discL (d : WinD) : WinD := if d.segs.length = 0 then d else d.upd fun L => { L with disc := true }
def WinD.dateL (d : WinD) (s : ByteArray) : WinD := if d.segs.length = 0 then d else d.upd fun L => { L with date := s }
def WinD.frm (d : WinD) : WinD := { d.least 4 with ifr := true }
section
variable {d : WinD} {k B b : Nat} {w0 : World}
theorem PlS.hw_ (H : PlS w0 B b d) : B ≤ w0.heap.size := by
 obtain ⟨g, hd, ms, kp, mp, arr, H⟩ := H
 exact H.hw
theorem PlS.gn {w' : World} (H : PlS w0 B b d) (G : w0.grownBy w' none) : PlS w' B b d := by
 obtain ⟨g, hd, ms, kp, mp, arr, H⟩ := H
 exact ⟨g, hd, ms, kp, mp, arr, H.gn G⟩
theorem app_any {q : Nat} {s : SegD} {kq mq : Option Nat} (hO : d.Ok k) (hk : k ≤ 900) (H : PlQ w0 B b d q) (hse : s.e < 160) (hBq : B ≤ q) (Bq_0 : Blk w0 q 95 (segC 0 s kq mq)) (hkq : KeyP w0 B kq s.key) (hmqq : MapP w0 B mq s.map) :
   Calls Tryd.prog 34 #[pt b, pt q] w0 fun e w' => ∃ v, e = .returned v ∧ Er v (decide (d.segs.length ≠ d.places)) ∧ PlS w' B b (d.put s) ∧ Kt B DP w0 w' := by
 by_cases hf : d.segs.length = d.places
 · refine (app_full hO hk H hse hBq Bq_0 hkq hmqq hf).mono ?_
   rintro e w' ⟨t, p, rfl, h1, h2⟩
   exact ⟨_, rfl, .inr ⟨by rw [decide_eq_false (fun h => h hf)], _, _, rfl⟩, by unfold WinD.put; rw [if_pos hf]; exact h1, h2⟩
 · have hput : d.put s = d.push s := by unfold WinD.put; rw [if_neg hf]
   have he : decide (d.segs.length ≠ d.places) = true := decide_eq_true hf
   rw [hput, he]
   by_cases hup : d.tgt * 8 < s.e
   · rcases Nat.eq_zero_or_pos d.segs.length with h0 | h0
     · refine (app_first_up hO hk H hse hBq Bq_0 hkq hmqq hf h0 hup).mono ?_
       rintro e w' ⟨rfl, h1, h2⟩
       exact ⟨_, rfl, .inl ⟨rfl, rfl⟩, h1, h2⟩
     · refine (app_more_up hO hk H hse hBq Bq_0 hkq hmqq hf h0 hup).mono ?_
       rintro e w' ⟨rfl, h1, h2⟩
       exact ⟨_, rfl, .inl ⟨rfl, rfl⟩, h1, h2⟩
   · rcases Nat.eq_zero_or_pos d.segs.length with h0 | h0
     · refine (app_first_no hO hk H hse hBq Bq_0 hkq hmqq hf h0 hup).mono ?_
       rintro e w' ⟨rfl, h1, h2⟩
       exact ⟨_, rfl, .inl ⟨rfl, rfl⟩, h1, h2⟩
     · refine (app_more_no hO hk H hse hBq Bq_0 hkq hmqq hf h0 hup).mono ?_
       rintro e w' ⟨rfl, h1, h2⟩
       exact ⟨_, rfl, .inl ⟨rfl, rfl⟩, h1, h2⟩
theorem rem_any (hO : d.Ok k) (hk : k ≤ 900) (H : PlS w0 B b d) :
   Calls Tryd.prog 35 #[pt b] w0 fun e w' => ∃ v, e = .returned v ∧ Er v (decide (d.segs.length ≠ 0)) ∧ PlS w' B b d.take ∧ Kt B DP w0 w' := by
 rcases Nat.eq_zero_or_pos d.segs.length with h0 | h0
 · refine (rem_nil hO hk H h0).mono ?_
   rintro e w' ⟨t, p, rfl, h1, h2⟩
   exact ⟨_, rfl, .inr ⟨by rw [decide_eq_false (fun h => h h0)], _, _, rfl⟩, by unfold WinD.take; rw [if_pos h0]; exact h1, h2⟩
 · have he : decide (d.segs.length ≠ 0) = true := decide_eq_true (by omega)
   rw [he]
   rcases hc : d.clo with _ | _
   · refine (rem_false hO hk H h0 hc).mono ?_
     rintro e w' ⟨rfl, h1, h2⟩
     exact ⟨_, rfl, .inl ⟨rfl, rfl⟩, h1, h2⟩
   · refine (rem_true hO hk H h0 hc).mono ?_
     rintro e w' ⟨rfl, h1, h2⟩
     exact ⟨_, rfl, .inl ⟨rfl, rfl⟩, h1, h2⟩
theorem swin_any {n : Nat} (hO : d.Ok k) (hk : k ≤ 900) (H : PlS w0 B b d) :
   Calls Tryd.prog 31 #[pt b, .int .u64 n] w0 fun e w' => ∃ v, e = .returned v ∧ Er v (decide (n ≤ d.places)) ∧ PlS w' B b (d.swin n) ∧ Kt B DP w0 w' := by
 unfold WinD.swin
 by_cases h0 : n ≤ d.places
 · rw [if_pos h0, decide_eq_true h0]
   refine (swin_ok hO hk H h0).mono ?_
   rintro e w' ⟨rfl, h1, h2⟩
   exact ⟨_, rfl, .inl ⟨rfl, rfl⟩, h1, h2⟩
 · rw [if_neg h0, decide_eq_false h0]
   refine (swin_no hO hk H (by omega)).mono ?_
   rintro e w' ⟨t, p, rfl, h1, h2⟩
   exact ⟨_, rfl, .inr ⟨rfl, _, _, rfl⟩, h1, h2⟩
end
theorem sdisc {d : WinD} {k B b : Nat} {w0 : World} (hO : d.Ok k) (hk : k ≤ 900) (H : PlS w0 B b d) :
   Calls Tryd.prog 44 #[pt b] w0 fun e w' => ∃ v, e = .returned v ∧ Er v (decide (d.segs.length ≠ 0)) ∧ PlS w' B b (d.discL) ∧ Kt B DP w0 w' := by
 unfold WinD.discL
 rcases Nat.eq_zero_or_pos d.segs.length with h0 | h0
 · rw [if_pos h0, decide_eq_false (fun h => h h0)]
   refine (sdisc_nil hO hk H h0).mono ?_
   rintro e w' ⟨t, p, rfl, h1, h2⟩
   exact ⟨_, rfl, .inr ⟨rfl, _, _, rfl⟩, h1, h2⟩
 · rw [if_neg (by omega), decide_eq_true (show d.segs.length ≠ 0 by omega)]
   refine (sdisc_any hO hk H h0).mono ?_
   rintro e w' ⟨rfl, h1, h2⟩
   exact ⟨_, rfl, .inl ⟨rfl, rfl⟩, h1, h2⟩
theorem sdate {d : WinD} {k B b : Nat} {w0 : World} (hO : d.Ok k) (hk : k ≤ 900) (H : PlS w0 B b d) {s : ByteArray} :
   Calls Tryd.prog 45 #[pt b, .string s] w0 fun e w' => ∃ v, e = .returned v ∧ Er v (decide (d.segs.length ≠ 0)) ∧ PlS w' B b (d.dateL s) ∧ Kt B DP w0 w' := by
 unfold WinD.dateL
 rcases Nat.eq_zero_or_pos d.segs.length with h0 | h0
 · rw [if_pos h0, decide_eq_false (fun h => h h0)]
   refine (sdate_nil hO hk H h0).mono ?_
   rintro e w' ⟨t, p, rfl, h1, h2⟩
   exact ⟨_, rfl, .inr ⟨rfl, _, _, rfl⟩, h1, h2⟩
 · rw [if_neg (by omega), decide_eq_true (show d.segs.length ≠ 0 by omega)]
   refine (sdate_any hO hk H h0).mono ?_
   rintro e w' ⟨rfl, h1, h2⟩
   exact ⟨_, rfl, .inl ⟨rfl, rfl⟩, h1, h2⟩
theorem srange {d : WinD} {k B b : Nat} {w0 : World} (hO : d.Ok k) (hk : k ≤ 900) (H : PlS w0 B b d) {li off : Nat} :
   Calls Tryd.prog 42 #[pt b, .int .i64 li, .int .i64 off] w0 fun e w' => ∃ v, e = .returned v ∧ Er v (decide (d.segs.length ≠ 0)) ∧ PlS w' B b (d.rangeL li off) ∧ Kt B DP w0 w' := by
 unfold WinD.rangeL
 rcases Nat.eq_zero_or_pos d.segs.length with h0 | h0
 · rw [if_pos h0, decide_eq_false (fun h => h h0)]
   refine (srange_nil hO hk H h0).mono ?_
   rintro e w' ⟨t, p, rfl, h1, h2⟩
   exact ⟨_, rfl, .inr ⟨rfl, _, _, rfl⟩, h1, h2⟩
 · rw [if_neg (by omega), decide_eq_true (show d.segs.length ≠ 0 by omega)]
   refine (srange_any hO hk H h0).mono ?_
   rintro e w' ⟨rfl, h1, h2⟩
   exact ⟨_, rfl, .inl ⟨rfl, rfl⟩, h1, h2⟩
theorem smap {d : WinD} {k B b : Nat} {w0 : World} (hO : d.Ok k) (hk : k ≤ 900) (H : PlS w0 B b d) {q : MapD} (hq : q.Ok) :
   Calls Tryd.prog 40 #[pt b, .string q.uri, .int .i64 q.li, .int .i64 q.off] w0 fun e w' => ∃ v, e = .returned v ∧ Er v (decide (d.segs.length ≠ 0)) ∧ PlS w' B b (d.leadL q) ∧ Kt B DP w0 w' := by
 unfold WinD.leadL
 rcases Nat.eq_zero_or_pos d.segs.length with h0 | h0
 · rw [if_pos h0, decide_eq_false (fun h => h h0)]
   refine (smap_nil hO hk H h0).mono ?_
   rintro e w' ⟨t, p, rfl, h1, h2⟩
   exact ⟨_, rfl, .inr ⟨rfl, _, _, rfl⟩, h1, h2⟩
 · rw [if_neg (by omega), decide_eq_true (show d.segs.length ≠ 0 by omega)]
   refine (smap_any hO hk H hq h0).mono ?_
   rintro e w' ⟨rfl, h1, h2⟩
   exact ⟨_, rfl, .inl ⟨rfl, rfl⟩, h1, h2⟩
theorem skey {d : WinD} {k B b : Nat} {w0 : World} (hO : d.Ok k) (hk : k ≤ 900) (H : PlS w0 B b d) {q : KeyD} (hq : q.Ok) (hv : KV q) :
   Calls Tryd.prog 38 #[pt b, .string q.me, .string q.uri, .string q.iv, .string q.fo, .string q.ve] w0 fun e w' => ∃ v, e = .returned v ∧ Er v (decide (d.segs.length ≠ 0)) ∧ PlS w' B b (d.lockL q) ∧ Kt B DP w0 w' := by
 unfold WinD.lockL
 rcases Nat.eq_zero_or_pos d.segs.length with h0 | h0
 · rw [if_pos h0, decide_eq_false (fun h => h h0)]
   refine (skey_nil hO hk H h0).mono ?_
   rintro e w' ⟨t, p, rfl, h1, h2⟩
   exact ⟨_, rfl, .inr ⟨rfl, _, _, rfl⟩, h1, h2⟩
 · rw [if_neg (by omega), decide_eq_true (show d.segs.length ≠ 0 by omega)]
   by_cases hf : q.fo.size = 0
   rw [if_pos hf]
   refine (skey_n hO hk H hq hf (hv.1 hf) h0).mono ?_
   rintro e w' ⟨rfl, h1, h2⟩
   exact ⟨_, rfl, .inl ⟨rfl, rfl⟩, h1, h2⟩
   rw [if_neg hf]
   refine (skey_v hO hk H hq hf h0).mono ?_
   rintro e w' ⟨rfl, h1, h2⟩
   exact ⟨_, rfl, .inl ⟨rfl, rfl⟩, h1, h2⟩
theorem dkey {d : WinD} {k B b : Nat} {w0 : World} (hO : d.Ok k) (hk : k ≤ 900) (H : PlS w0 B b d) {q : KeyD} (hq : q.Ok) (hv : KV q) :
   Calls Tryd.prog 39 #[pt b, .string q.me, .string q.uri, .string q.iv, .string q.fo, .string q.ve] w0 fun e w' => ∃ v, e = .returned v ∧ Er v true ∧ PlS w' B b (d.lockA q) ∧ Kt B DP w0 w' := by
 unfold WinD.lockA
 by_cases hf : q.fo.size = 0
 · rw [if_pos hf]
   refine (dkey_n hO hk H hq hf (hv.1 hf)).mono ?_
   rintro e w' ⟨rfl, h1, h2⟩
   exact ⟨_, rfl, .inl ⟨rfl, rfl⟩, h1, h2⟩
 · rw [if_neg hf]
   refine (dkey_v hO hk H hq hf).mono ?_
   rintro e w' ⟨rfl, h1, h2⟩
   exact ⟨_, rfl, .inl ⟨rfl, rfl⟩, h1, h2⟩
/-- a segment of which no more is told -/
def bare (u t : ByteArray) (e : Nat) : SegD := ⟨t, u, e, 0, 0, none, none, false, ⟨#[]⟩⟩
theorem append_any {d : WinD} {k B b e : Nat} {u t : ByteArray} {w0 : World} (hO : d.Ok k) (hk : k ≤ 900) (H : PlS w0 B b d) (he : e < 160) : Calls Tryd.prog 60 #[pt b, .string u, .float .f64 (fb e), .string t] w0 fun e' w' => ∃ v, e' = .returned v ∧ Er v (decide (d.segs.length ≠ d.places)) ∧ PlS w' B b (d.put (bare u t e)) ∧ Kt B DP w0 w' := by
 refine calls_of_wp Tryd.func60 rfl ?_
 generalize hA : Act.mk _ _ = a0
 have F0 : Fz 26 a0 := by subst hA; exact ⟨by simp [Tryd.ntmps60], rfl⟩
 have h0_0 : a0.tmps.getD 0 undef = (.pointer (some ⟨b, 0, none⟩)) := by subst hA; exact fr_arg rfl
 have h1_0 : a0.tmps.getD 1 undef = (.string u) := by subst hA; exact fr_arg rfl
 have h2_0 : a0.tmps.getD 2 undef = (.float .f64 (fb e)) := by subst hA; exact fr_arg rfl
 have h3_0 : a0.tmps.getD 3 undef = (.string t) := by subst hA; exact fr_arg rfl
 have Kp0 := Kp.refl [] w0
 refine wp_sr ?_
 refine wl_pq F0 (ex_as (v := .nilIface) rfl) fun a1 u1 F1 h8_1 => ?_
 change Code.wp _ _ _ _ _
 refine wp_sr ?_
 obtain ⟨gx, hgx⟩ : ∃ g, w0.heap.size = g := ⟨_, rfl⟩
 have ge_x : w0.heap.size ≤ gx := by have := Kp0.size; omega
 obtain ⟨w1, hr1, Bx_1, G1, hs1⟩ := al_run (op := Instr.alloc 95 true (.tuple #[])) (T := 95) (cs := #[(.int .u64 0), (.string { data := #[] }), (.string { data := #[] }), (.float .f64 0), (.int .i64 0), (.int .i64 0), (.pointer none), (.pointer none), (.bool false), (.pointer none), (.string { data := #[] })]) hgx (fun _ => by kernel_rfl)
 have Kp1 := Kp0.new G1
 refine wl_pq F1 (ex_al hr1) fun a2 u2 F2 (h10_2 : a2.tmps.getD 10 undef = (.pointer (some ⟨gx, 0, none⟩))) => ?_
 clear hgx
 refine wl_pq F2 (ex_as h10_2) fun a3 u3 F3 h9_3 => ?_
 change Code.wp _ _ _ _ _
 refine wp_sr ?_
 refine wl_pq F3 (ex_mv h9_3) fun a4 u4 F4 h11_4 => ?_
 have h1_4 := u4.w (u3.w (u2.w (u1.w h1_0)))
 refine wl_pq F4 (ex_mv h1_4) fun a5 u5 F5 h12_5 => ?_
 refine wl_pq F5 (ex_nil (u5.w h11_4)) fun a6 u6 F6 h13_6 => ?_
 refine wl_pq F6 (ex_fb 2 h13_6) fun a7 u7 F7 h14_7 => ?_
 obtain ⟨w2, hr2, Bx_2, G2⟩ := st_run (T := 9) (o := 2) (v := (.string u)) (cs' := #[(.int .u64 0), (.string { data := #[] }), (.string u), (.float .f64 0), (.int .i64 0), (.int .i64 0), (.pointer none), (.pointer none), (.bool false), (.pointer none), (.string { data := #[] })]) (fun _ => by kernel_rfl) Bx_1 rfl (Nat.le_of_ble_eq_true rfl) rfl
 have Kp2 := Kp1.set G2 (Or.inr ge_x)
 refine wl_n (ex_st h14_7 (u7.w (u6.w h12_5)) hr2) ?_
 change Code.wp _ _ _ _ _
 refine wp_sr ?_
 have h9_7 := u7.w (u6.w (u5.w (u4.w h9_3)))
 refine wl_pq F7 (ex_mv h9_7) fun a8 u8 F8 h15_8 => ?_
 have h2_8 := u8.w (u7.w (u6.w (u5.w (u4.w (u3.w (u2.w (u1.w h2_0)))))))
 refine wl_pq F8 (ex_mv h2_8) fun a9 u9 F9 h16_9 => ?_
 refine wl_pq F9 (ex_nil (u9.w h15_8)) fun a10 u10 F10 h17_10 => ?_
 refine wl_pq F10 (ex_fb 3 h17_10) fun a11 u11 F11 h18_11 => ?_
 obtain ⟨w3, hr3, Bx_3, G3⟩ := st_run (T := 35) (o := 3) (v := (.float .f64 (fb e))) (cs' := #[(.int .u64 0), (.string { data := #[] }), (.string u), (.float .f64 (fb e)), (.int .i64 0), (.int .i64 0), (.pointer none), (.pointer none), (.bool false), (.pointer none), (.string { data := #[] })]) (fun _ => by kernel_rfl) Bx_2 rfl (Nat.le_of_ble_eq_true rfl) rfl
 have Kp3 := Kp2.set G3 (Or.inr ge_x)
 refine wl_n (ex_st h18_11 (u11.w (u10.w h16_9)) hr3) ?_
 change Code.wp _ _ _ _ _
 refine wp_sr ?_
 have h9_11 := u11.w (u10.w (u9.w (u8.w h9_7)))
 refine wl_pq F11 (ex_mv h9_11) fun a12 u12 F12 h19_12 => ?_
 have h3_12 := u12.w (u11.w (u10.w (u9.w (u8.w (u7.w (u6.w (u5.w (u4.w (u3.w (u2.w (u1.w h3_0)))))))))))
 refine wl_pq F12 (ex_mv h3_12) fun a13 u13 F13 h20_13 => ?_
 refine wl_pq F13 (ex_nil (u13.w h19_12)) fun a14 u14 F14 h21_14 => ?_
 refine wl_pq F14 (ex_fb 1 h21_14) fun a15 u15 F15 h22_15 => ?_
 obtain ⟨w4, hr4, Bx_4, G4⟩ := st_run (T := 9) (o := 1) (v := (.string t)) (cs' := #[(.int .u64 0), (.string t), (.string u), (.float .f64 (fb e)), (.int .i64 0), (.int .i64 0), (.pointer none), (.pointer none), (.bool false), (.pointer none), (.string { data := #[] })]) (fun _ => by kernel_rfl) Bx_3 rfl (Nat.le_of_ble_eq_true rfl) rfl
 have Kp4 := Kp3.set G4 (Or.inr ge_x)
 refine wl_n (ex_st h22_15 (u15.w (u14.w h20_13)) hr4) ?_
 change Code.wp _ _ _ _ _
 refine wp_sr ?_
 have h0_15 := u15.w (u14.w (u13.w (u12.w (u11.w (u10.w (u9.w (u8.w (u7.w (u6.w (u5.w (u4.w (u3.w (u2.w (u1.w h0_0))))))))))))))
 refine wl_pq F15 (ex_mv h0_15) fun a16 u16 F16 h23_16 => ?_
 have h9_16 := u16.w (u15.w (u14.w (u13.w (u12.w h9_11))))
 refine wl_pq F16 (ex_mv h9_16) fun a17 u17 F17 h24_17 => ?_
 refine wl_cl (args := #[(.pointer (some ⟨b, 0, none⟩)), (.pointer (some ⟨gx, 0, none⟩))]) (R := fun v w' => Er v (decide (d.segs.length ≠ d.places)) ∧ PlS w' B b (d.put (bare u t e)) ∧ Kt B DP w4 w') (ex_cl (fun _ _ => by kernel_rfl) (arg2 (u17.w h23_16) h24_17)) ((app_any (s := bare u t e) (kq := none) (mq := none) hO hk (H.toQ Kp4.grown ge_x) he (Nat.le_trans H.hw_ ge_x) Bx_4 .nil .nil).mono fun _ _ h => h) F17.l ?_
 rintro vr w5 ⟨hE, hS, K5⟩
 have KK := ((Kt.refl B DP w0).nw H.hw_ Kp4.grown).trans K5
 intro a18 u18 h25_18
 have F18 := F17.pt u18
 refine wl_pq F18 (ex_as h25_18) fun a19 u19 F19 h8_19 => ?_
 change Code.wp _ _ _ _ _
 refine wp_ret ?_
 try simp only [Exit.then, Exit.inBlock]
 exact bodyPost_ret (v := vr) ((results_tmp rfl _ _ _).trans (by rw [h8_19])) F19.defers ⟨vr, rfl, hE, hS, KK⟩
theorem slidep_clo {d : WinD} {k B b e : Nat} {u t : ByteArray} {w0 : World} (hc : d.clo = true) (hO : d.Ok k) (hk : k < 900) (H : PlS w0 B b d) (he : e < 160) : Calls Tryd.prog 36 #[pt b, .string u, .float .f64 (fb e), .string t] w0 fun e' w' => e' = .returned (.tuple #[]) ∧ PlS w' B b (d.slide (bare u t e)) ∧ Kt B DP w0 w' := by
 obtain ⟨g, hd, ms, kp, mp, arr, H⟩ := H
 have hk := Nat.le_of_lt hk
 obtain ⟨tl, htl⟩ : ∃ tl, (hd + d.segs.length) % d.places = tl := ⟨_, rfl⟩
 have hp1 := hO.p1
 have hp12 := hO.p12
 have hroom := hO.room
 have hseq := hO.seq
 have hhd := H.ring.hlt
 have htlt : tl < d.places := htl ▸ Nat.mod_lt _ (by omega)
 have hgb : g ≠ b := H.row.ne_ H.blk (by decide)
 have Bb_0 : Blk w0 b 104 #[(.float .f64 (fn d.tgt)), (.int .u64 d.seq), (.slice (some ⟨g, 0, none⟩) d.places d.places), (.string ⟨#[]⟩), (.bool d.ifr), (.bool true), (.int .u64 0), (.int .u64 0), (.float .f64 0), (.bool false), (.bool false), (.int .i64 0), (.int .u64 d.written), (.int .u64 d.places), (.int .u64 hd), (.int .u64 tl), (.int .u64 d.segs.length), (.slice none 0 0), (.int .i64 0), (.int .i8 0), (.int .u8 d.ver), (pto kp), (pto mp)] := by
   have h := H.blk
   unfold plC at h
   rw [htl, hc] at h
   exact h
 have Bg_0 := H.row
 refine calls_of_wp Tryd.func36 rfl ?_
 generalize hA : Act.mk _ _ = a0
 have F0 : Fz 31 a0 := by subst hA; exact ⟨by simp [Tryd.ntmps36], rfl⟩
 have h0_0 : a0.tmps.getD 0 undef = (.pointer (some ⟨b, 0, none⟩)) := by subst hA; exact fr_arg rfl
 have h1_0 : a0.tmps.getD 1 undef = (.string u) := by subst hA; exact fr_arg rfl
 have h2_0 : a0.tmps.getD 2 undef = (.float .f64 (fb e)) := by subst hA; exact fr_arg rfl
 have h3_0 : a0.tmps.getD 3 undef = (.string t) := by subst hA; exact fr_arg rfl
 have H_0 := H
 have Q_0 := grown_refl w0 none
 refine wp_seq ?_
 refine wp_seq ?_
 obtain ⟨w1, hw1⟩ : ∃ w, w = w0.drew := ⟨_, rfl⟩
 have G1 : w0.grownBy w1 none := hw1 ▸ grown_drew _
 have Bg_1 := Bg_0.gn G1
 have Bb_1 := Bb_0.gn G1
 have H_1 := H_0.gn G1
 have Q_1 := grown_trans Q_0 G1
 refine rg_still hw1 hmix (by kernel_rfl) ?_
 clear H_0 Q_0
 refine st_pq F0 (ex_mv h0_0) fun a1 u1 F1 h8_1 => ?_
 refine st_pq F1 (ex_nil h8_1) fun a2 u2 F2 h9_2 => ?_
 refine st_pq F2 (ex_fb 5 h9_2) fun a3 u3 F3 h10_3 => ?_
 refine st_pq F3 (ex_le (v := (.bool true)) h10_3 (Bb_1.cell 5)) fun a4 u4 F4 h11_4 => ?_
 refine st_pq F4 (ex_un (vx := (.bool true)) (v := (.bool false)) h11_4 rfl) fun a5 u5 F5 h12_5 => ?_
 refine st_pq F5 (ex_mv h12_5) fun a6 u6 F6 h13_6 => ?_
 refine st_k (yl (e := 13) rfl h13_6) (by decide) F6.l fun a7 u7 h14_7 => ?_
 have F7 := F6.pt u7
 refine st_k (yl (e := 13) rfl (u7.w h13_6)) (by decide) F7.l fun a8 u8 h15_8 => ?_
 have F8 := F7.pt u8
 refine st_k (yl (e := 13) rfl (u8.w (u7.w h13_6))) (by decide) F8.l fun a9 u9 h16_9 => ?_
 have F9 := F8.pt u9
 have h13_9 := u9.w (u8.w (u7.w h13_6))
 refine st_k (yl (e := 13) rfl h13_9) (by decide) F9.l fun a10 u10 h17_10 => ?_
 have F10 := F9.pt u10
 refine st_k (yl (e := 13) rfl (u10.w h13_9)) (by decide) F10.l fun a11 u11 h18_11 => ?_
 have F11 := F10.pt u11
 refine st_k (yl (e := 13) rfl (u11.w (u10.w h13_9))) (by decide) F11.l fun a12 u12 h19_12 => ?_
 have F12 := F11.pt u12
 have h13_12 := u12.w (u11.w (u10.w h13_9))
 refine st_k (yl (e := 13) rfl h13_12) (by decide) F12.l fun a13 u13 h20_13 => ?_
 have F13 := F12.pt u13
 refine st_k (yl (e := 13) rfl (u13.w h13_12)) (by decide) F13.l fun a14 u14 h21_14 => ?_
 have F14 := F13.pt u14
 refine st_k (yl (e := 13) rfl (u14.w (u13.w h13_12))) (by decide) F14.l fun a15 u15 h22_15 => ?_
 have F15 := F14.pt u15
 have h13_15 := u15.w (u14.w (u13.w h13_12))
 refine st_pq F15 (ex_pick (q := false) (v := (.bool false)) h13_15 rfl) fun a16 u16 F16 h23_16 => ?_
 change Code.wp _ _ _ _ _
 refine wp_cond_false h23_16 ?_
 refine wp_skip ?_
 change Code.wp _ _ _ _ _
 refine rg_list ?_
 have h0_16 := u16.w (u15.w (u14.w (u13.w (u12.w (u11.w (u10.w (u9.w (u8.w (u7.w (u6.w (u5.w (u4.w (u3.w (u2.w (u1.w h0_0)))))))))))))))
 refine wl_pq F16 (ex_mv h0_16) fun a17 u17 F17 h26_17 => ?_
 have h1_17 := u17.w (u16.w (u15.w (u14.w (u13.w (u12.w (u11.w (u10.w (u9.w (u8.w (u7.w (u6.w (u5.w (u4.w (u3.w (u2.w (u1.w h1_0))))))))))))))))
 refine wl_pq F17 (ex_mv h1_17) fun a18 u18 F18 h27_18 => ?_
 have h2_18 := u18.w (u17.w (u16.w (u15.w (u14.w (u13.w (u12.w (u11.w (u10.w (u9.w (u8.w (u7.w (u6.w (u5.w (u4.w (u3.w (u2.w (u1.w h2_0)))))))))))))))))
 refine wl_pq F18 (ex_mv h2_18) fun a19 u19 F19 h28_19 => ?_
 have h3_19 := u19.w (u18.w (u17.w (u16.w (u15.w (u14.w (u13.w (u12.w (u11.w (u10.w (u9.w (u8.w (u7.w (u6.w (u5.w (u4.w (u3.w (u2.w (u1.w h3_0))))))))))))))))))
 refine wl_pq F19 (ex_mv h3_19) fun a20 u20 F20 h29_20 => ?_
 have h26_20 := u20.w (u19.w (u18.w h26_17))
 refine wl_cl (args := #[(.pointer (some ⟨b, 0, none⟩)), (.string u), (.float .f64 (fb e)), (.string t)]) (R := fun v w' => Er v (decide ((d).segs.length ≠ (d).places)) ∧ PlS w' B b ((d).put (bare u t e)) ∧ Kt B DP w1 w') (ex_cl (fun _ _ => by kernel_rfl) (arg4 h26_20 (u20.w (u19.w h27_18)) (u20.w h28_19) h29_20)) ((append_any hO (by omega) ⟨g, hd, ms, kp, mp, arr, H_1⟩ he).mono fun _ _ h => h) F20.l ?_
 rintro v2 w2 ⟨hE2, hS2, K2⟩
 have KK2 := (((Kt.refl B DP w0).nw H.hw Q_1)).trans K2
 intro a21 u21 h30_21
 have F21 := F20.pt u21
 exact bodyPost_end (v := .tuple #[]) (results_none rfl _ _ _) F21.defers ⟨rfl, by unfold WinD.slide; rw [hc]; exact hS2, KK2⟩
theorem slidep_lt {d : WinD} {k B b e : Nat} {u t : ByteArray} {w0 : World} (hc : d.clo = false) (hl : ¬ d.written ≤ d.segs.length) (hO : d.Ok k) (hk : k < 900) (H : PlS w0 B b d) (he : e < 160) : Calls Tryd.prog 36 #[pt b, .string u, .float .f64 (fb e), .string t] w0 fun e' w' => e' = .returned (.tuple #[]) ∧ PlS w' B b (d.slide (bare u t e)) ∧ Kt B DP w0 w' := by
 obtain ⟨g, hd, ms, kp, mp, arr, H⟩ := H
 have hk := Nat.le_of_lt hk
 obtain ⟨tl, htl⟩ : ∃ tl, (hd + d.segs.length) % d.places = tl := ⟨_, rfl⟩
 have hp1 := hO.p1
 have hp12 := hO.p12
 have hroom := hO.room
 have hseq := hO.seq
 have hhd := H.ring.hlt
 have htlt : tl < d.places := htl ▸ Nat.mod_lt _ (by omega)
 have hgb : g ≠ b := H.row.ne_ H.blk (by decide)
 have Bb_0 : Blk w0 b 104 #[(.float .f64 (fn d.tgt)), (.int .u64 d.seq), (.slice (some ⟨g, 0, none⟩) d.places d.places), (.string ⟨#[]⟩), (.bool d.ifr), (.bool false), (.int .u64 0), (.int .u64 0), (.float .f64 0), (.bool false), (.bool false), (.int .i64 0), (.int .u64 d.written), (.int .u64 d.places), (.int .u64 hd), (.int .u64 tl), (.int .u64 d.segs.length), (.slice none 0 0), (.int .i64 0), (.int .i8 0), (.int .u8 d.ver), (pto kp), (pto mp)] := by
   have h := H.blk
   unfold plC at h
   rw [htl, hc] at h
   exact h
 have Bg_0 := H.row
 refine calls_of_wp Tryd.func36 rfl ?_
 generalize hA : Act.mk _ _ = a0
 have F0 : Fz 31 a0 := by subst hA; exact ⟨by simp [Tryd.ntmps36], rfl⟩
 have h0_0 : a0.tmps.getD 0 undef = (.pointer (some ⟨b, 0, none⟩)) := by subst hA; exact fr_arg rfl
 have h1_0 : a0.tmps.getD 1 undef = (.string u) := by subst hA; exact fr_arg rfl
 have h2_0 : a0.tmps.getD 2 undef = (.float .f64 (fb e)) := by subst hA; exact fr_arg rfl
 have h3_0 : a0.tmps.getD 3 undef = (.string t) := by subst hA; exact fr_arg rfl
 have H_0 := H
 have Q_0 := grown_refl w0 none
 refine wp_seq ?_
 refine wp_seq ?_
 obtain ⟨w1, hw1⟩ : ∃ w, w = w0.drew := ⟨_, rfl⟩
 have G1 : w0.grownBy w1 none := hw1 ▸ grown_drew _
 have Bg_1 := Bg_0.gn G1
 have Bb_1 := Bb_0.gn G1
 have H_1 := H_0.gn G1
 have Q_1 := grown_trans Q_0 G1
 refine rg_still hw1 hmix (by kernel_rfl) ?_
 clear H_0 Q_0
 refine st_pq F0 (ex_mv h0_0) fun a1 u1 F1 h8_1 => ?_
 refine st_pq F1 (ex_nil h8_1) fun a2 u2 F2 h9_2 => ?_
 refine st_pq F2 (ex_fb 5 h9_2) fun a3 u3 F3 h10_3 => ?_
 refine st_pq F3 (ex_le (v := (.bool false)) h10_3 (Bb_1.cell 5)) fun a4 u4 F4 h11_4 => ?_
 refine st_pq F4 (ex_un (vx := (.bool false)) (v := (.bool true)) h11_4 rfl) fun a5 u5 F5 h12_5 => ?_
 refine st_pq F5 (ex_mv h12_5) fun a6 u6 F6 h13_6 => ?_
 have h0_6 := u6.w (u5.w (u4.w (u3.w (u2.w (u1.w h0_0)))))
 refine st_g (yl (e := 13) rfl h13_6) (ex_mv h0_6) F6.l fun a7 u7 h14_7 => ?_
 have F7 := F6.pt u7
 refine st_g (yl (e := 13) rfl (u7.w h13_6)) (ex_nil h14_7) F7.l fun a8 u8 h15_8 => ?_
 have F8 := F7.pt u8
 refine st_g (yl (e := 13) rfl (u8.w (u7.w h13_6))) (ex_fb 16 h15_8) F8.l fun a9 u9 h16_9 => ?_
 have F9 := F8.pt u9
 have h13_9 := u9.w (u8.w (u7.w h13_6))
 refine st_g (yl (e := 13) rfl h13_9) (ex_le (v := (.int .u64 d.segs.length)) h16_9 (Bb_1.cell 16)) F9.l fun a10 u10 h17_10 => ?_
 have F10 := F9.pt u10
 have h0_10 := u10.w (u9.w (u8.w (u7.w h0_6)))
 refine st_g (yl (e := 13) rfl (u10.w h13_9)) (ex_mv h0_10) F10.l fun a11 u11 h18_11 => ?_
 have F11 := F10.pt u11
 refine st_g (yl (e := 13) rfl (u11.w (u10.w h13_9))) (ex_nil h18_11) F11.l fun a12 u12 h19_12 => ?_
 have F12 := F11.pt u12
 have h13_12 := u12.w (u11.w (u10.w h13_9))
 refine st_g (yl (e := 13) rfl h13_12) (ex_fb 12 h19_12) F12.l fun a13 u13 h20_13 => ?_
 have F13 := F12.pt u13
 refine st_g (yl (e := 13) rfl (u13.w h13_12)) (ex_le (v := (.int .u64 d.written)) h20_13 (Bb_1.cell 12)) F13.l fun a14 u14 h21_14 => ?_
 have F14 := F13.pt u14
 have h17_14 := u14.w (u13.w (u12.w (u11.w h17_10)))
 refine st_g (yl (e := 13) rfl (u14.w (u13.w h13_12))) (ex_bin (v := (.bool false)) h17_14 h21_14 ((uo_ge d.segs.length d.written _).trans (by rw [decide_eq_false (by omega)]))) F14.l fun a15 u15 h22_15 => ?_
 have F15 := F14.pt u15
 have h13_15 := u15.w (u14.w (u13.w h13_12))
 refine st_pq F15 (ex_pick (q := true) h13_15 h22_15) fun a16 u16 F16 h23_16 => ?_
 change Code.wp _ _ _ _ _
 refine wp_cond_false h23_16 ?_
 refine wp_skip ?_
 change Code.wp _ _ _ _ _
 refine rg_list ?_
 have h0_16 := u16.w (u15.w (u14.w (u13.w (u12.w (u11.w h0_10)))))
 refine wl_pq F16 (ex_mv h0_16) fun a17 u17 F17 h26_17 => ?_
 have h1_17 := u17.w (u16.w (u15.w (u14.w (u13.w (u12.w (u11.w (u10.w (u9.w (u8.w (u7.w (u6.w (u5.w (u4.w (u3.w (u2.w (u1.w h1_0))))))))))))))))
 refine wl_pq F17 (ex_mv h1_17) fun a18 u18 F18 h27_18 => ?_
 have h2_18 := u18.w (u17.w (u16.w (u15.w (u14.w (u13.w (u12.w (u11.w (u10.w (u9.w (u8.w (u7.w (u6.w (u5.w (u4.w (u3.w (u2.w (u1.w h2_0)))))))))))))))))
 refine wl_pq F18 (ex_mv h2_18) fun a19 u19 F19 h28_19 => ?_
 have h3_19 := u19.w (u18.w (u17.w (u16.w (u15.w (u14.w (u13.w (u12.w (u11.w (u10.w (u9.w (u8.w (u7.w (u6.w (u5.w (u4.w (u3.w (u2.w (u1.w h3_0))))))))))))))))))
 refine wl_pq F19 (ex_mv h3_19) fun a20 u20 F20 h29_20 => ?_
 have h26_20 := u20.w (u19.w (u18.w h26_17))
 refine wl_cl (args := #[(.pointer (some ⟨b, 0, none⟩)), (.string u), (.float .f64 (fb e)), (.string t)]) (R := fun v w' => Er v (decide ((d).segs.length ≠ (d).places)) ∧ PlS w' B b ((d).put (bare u t e)) ∧ Kt B DP w1 w') (ex_cl (fun _ _ => by kernel_rfl) (arg4 h26_20 (u20.w (u19.w h27_18)) (u20.w h28_19) h29_20)) ((append_any hO (by omega) ⟨g, hd, ms, kp, mp, arr, H_1⟩ he).mono fun _ _ h => h) F20.l ?_
 rintro v2 w2 ⟨hE2, hS2, K2⟩
 have KK2 := (((Kt.refl B DP w0).nw H.hw Q_1)).trans K2
 intro a21 u21 h30_21
 have F21 := F20.pt u21
 exact bodyPost_end (v := .tuple #[]) (results_none rfl _ _ _) F21.defers ⟨rfl, by unfold WinD.slide; rw [hc, decide_eq_false hl]; exact hS2, KK2⟩
theorem slidep_take {d : WinD} {k B b e : Nat} {u t : ByteArray} {w0 : World} (hc : d.clo = false) (hl : d.written ≤ d.segs.length) (hO : d.Ok k) (hk : k < 900) (H : PlS w0 B b d) (he : e < 160) : Calls Tryd.prog 36 #[pt b, .string u, .float .f64 (fb e), .string t] w0 fun e' w' => e' = .returned (.tuple #[]) ∧ PlS w' B b (d.slide (bare u t e)) ∧ Kt B DP w0 w' := by
 obtain ⟨g, hd, ms, kp, mp, arr, H⟩ := H
 have hk := Nat.le_of_lt hk
 obtain ⟨tl, htl⟩ : ∃ tl, (hd + d.segs.length) % d.places = tl := ⟨_, rfl⟩
 have hp1 := hO.p1
 have hp12 := hO.p12
 have hroom := hO.room
 have hseq := hO.seq
 have hhd := H.ring.hlt
 have htlt : tl < d.places := htl ▸ Nat.mod_lt _ (by omega)
 have hgb : g ≠ b := H.row.ne_ H.blk (by decide)
 have Bb_0 : Blk w0 b 104 #[(.float .f64 (fn d.tgt)), (.int .u64 d.seq), (.slice (some ⟨g, 0, none⟩) d.places d.places), (.string ⟨#[]⟩), (.bool d.ifr), (.bool false), (.int .u64 0), (.int .u64 0), (.float .f64 0), (.bool false), (.bool false), (.int .i64 0), (.int .u64 d.written), (.int .u64 d.places), (.int .u64 hd), (.int .u64 tl), (.int .u64 d.segs.length), (.slice none 0 0), (.int .i64 0), (.int .i8 0), (.int .u8 d.ver), (pto kp), (pto mp)] := by
   have h := H.blk
   unfold plC at h
   rw [htl, hc] at h
   exact h
 have Bg_0 := H.row
 refine calls_of_wp Tryd.func36 rfl ?_
 generalize hA : Act.mk _ _ = a0
 have F0 : Fz 31 a0 := by subst hA; exact ⟨by simp [Tryd.ntmps36], rfl⟩
 have h0_0 : a0.tmps.getD 0 undef = (.pointer (some ⟨b, 0, none⟩)) := by subst hA; exact fr_arg rfl
 have h1_0 : a0.tmps.getD 1 undef = (.string u) := by subst hA; exact fr_arg rfl
 have h2_0 : a0.tmps.getD 2 undef = (.float .f64 (fb e)) := by subst hA; exact fr_arg rfl
 have h3_0 : a0.tmps.getD 3 undef = (.string t) := by subst hA; exact fr_arg rfl
 have H_0 := H
 have Q_0 := grown_refl w0 none
 refine wp_seq ?_
 refine wp_seq ?_
 obtain ⟨w1, hw1⟩ : ∃ w, w = w0.drew := ⟨_, rfl⟩
 have G1 : w0.grownBy w1 none := hw1 ▸ grown_drew _
 have Bg_1 := Bg_0.gn G1
 have Bb_1 := Bb_0.gn G1
 have H_1 := H_0.gn G1
 have Q_1 := grown_trans Q_0 G1
 refine rg_still hw1 hmix (by kernel_rfl) ?_
 clear H_0 Q_0
 refine st_pq F0 (ex_mv h0_0) fun a1 u1 F1 h8_1 => ?_
 refine st_pq F1 (ex_nil h8_1) fun a2 u2 F2 h9_2 => ?_
 refine st_pq F2 (ex_fb 5 h9_2) fun a3 u3 F3 h10_3 => ?_
 refine st_pq F3 (ex_le (v := (.bool false)) h10_3 (Bb_1.cell 5)) fun a4 u4 F4 h11_4 => ?_
 refine st_pq F4 (ex_un (vx := (.bool false)) (v := (.bool true)) h11_4 rfl) fun a5 u5 F5 h12_5 => ?_
 refine st_pq F5 (ex_mv h12_5) fun a6 u6 F6 h13_6 => ?_
 have h0_6 := u6.w (u5.w (u4.w (u3.w (u2.w (u1.w h0_0)))))
 refine st_g (yl (e := 13) rfl h13_6) (ex_mv h0_6) F6.l fun a7 u7 h14_7 => ?_
 have F7 := F6.pt u7
 refine st_g (yl (e := 13) rfl (u7.w h13_6)) (ex_nil h14_7) F7.l fun a8 u8 h15_8 => ?_
 have F8 := F7.pt u8
 refine st_g (yl (e := 13) rfl (u8.w (u7.w h13_6))) (ex_fb 16 h15_8) F8.l fun a9 u9 h16_9 => ?_
 have F9 := F8.pt u9
 have h13_9 := u9.w (u8.w (u7.w h13_6))
 refine st_g (yl (e := 13) rfl h13_9) (ex_le (v := (.int .u64 d.segs.length)) h16_9 (Bb_1.cell 16)) F9.l fun a10 u10 h17_10 => ?_
 have F10 := F9.pt u10
 have h0_10 := u10.w (u9.w (u8.w (u7.w h0_6)))
 refine st_g (yl (e := 13) rfl (u10.w h13_9)) (ex_mv h0_10) F10.l fun a11 u11 h18_11 => ?_
 have F11 := F10.pt u11
 refine st_g (yl (e := 13) rfl (u11.w (u10.w h13_9))) (ex_nil h18_11) F11.l fun a12 u12 h19_12 => ?_
 have F12 := F11.pt u12
 have h13_12 := u12.w (u11.w (u10.w h13_9))
 refine st_g (yl (e := 13) rfl h13_12) (ex_fb 12 h19_12) F12.l fun a13 u13 h20_13 => ?_
 have F13 := F12.pt u13
 refine st_g (yl (e := 13) rfl (u13.w h13_12)) (ex_le (v := (.int .u64 d.written)) h20_13 (Bb_1.cell 12)) F13.l fun a14 u14 h21_14 => ?_
 have F14 := F13.pt u14
 have h17_14 := u14.w (u13.w (u12.w (u11.w h17_10)))
 refine st_g (yl (e := 13) rfl (u14.w (u13.w h13_12))) (ex_bin (v := (.bool true)) h17_14 h21_14 ((uo_ge d.segs.length d.written _).trans (by rw [decide_eq_true (by omega)]))) F14.l fun a15 u15 h22_15 => ?_
 have F15 := F14.pt u15
 have h13_15 := u15.w (u14.w (u13.w h13_12))
 refine st_pq F15 (ex_pick (q := true) h13_15 h22_15) fun a16 u16 F16 h23_16 => ?_
 change Code.wp _ _ _ _ _
 refine wp_cond_true h23_16 ?_
 refine rg_list ?_
 have h0_16 := u16.w (u15.w (u14.w (u13.w (u12.w (u11.w h0_10)))))
 refine wl_pq F16 (ex_mv h0_16) fun a17 u17 F17 h24_17 => ?_
 refine wl_cl (args := #[(.pointer (some ⟨b, 0, none⟩))]) (R := fun v w' => Er v (decide (d.segs.length ≠ 0)) ∧ PlS w' B b (d.take) ∧ Kt B DP w1 w') (ex_cl (fun _ _ => by kernel_rfl) (arg1 h24_17)) ((rem_any hO hk ⟨g, hd, ms, kp, mp, arr, H_1⟩).mono fun _ _ h => h) F17.l ?_
 rintro v2 w2 ⟨hE2, hS2, K2⟩
 have KK2 := (((Kt.refl B DP w0).nw H.hw Q_1)).trans K2
 intro a18 u18 h25_18
 have F18 := F17.pt u18
 change Code.wp _ _ _ _ _
 refine rg_list ?_
 refine wl_pq F18 (ex_mv (u18.w (u17.w h0_16))) fun a19 u19 F19 h26_19 => ?_
 have h1_19 := u19.w (u18.w (u17.w (u16.w (u15.w (u14.w (u13.w (u12.w (u11.w (u10.w (u9.w (u8.w (u7.w (u6.w (u5.w (u4.w (u3.w (u2.w (u1.w h1_0))))))))))))))))))
 refine wl_pq F19 (ex_mv h1_19) fun a20 u20 F20 h27_20 => ?_
 have h2_20 := u20.w (u19.w (u18.w (u17.w (u16.w (u15.w (u14.w (u13.w (u12.w (u11.w (u10.w (u9.w (u8.w (u7.w (u6.w (u5.w (u4.w (u3.w (u2.w (u1.w h2_0)))))))))))))))))))
 refine wl_pq F20 (ex_mv h2_20) fun a21 u21 F21 h28_21 => ?_
 have h3_21 := u21.w (u20.w (u19.w (u18.w (u17.w (u16.w (u15.w (u14.w (u13.w (u12.w (u11.w (u10.w (u9.w (u8.w (u7.w (u6.w (u5.w (u4.w (u3.w (u2.w (u1.w h3_0))))))))))))))))))))
 refine wl_pq F21 (ex_mv h3_21) fun a22 u22 F22 h29_22 => ?_
 have h26_22 := u22.w (u21.w (u20.w h26_19))
 refine wl_cl (args := #[(.pointer (some ⟨b, 0, none⟩)), (.string u), (.float .f64 (fb e)), (.string t)]) (R := fun v w' => Er v (decide ((d.take).segs.length ≠ (d.take).places)) ∧ PlS w' B b ((d.take).put (bare u t e)) ∧ Kt B DP w2 w') (ex_cl (fun _ _ => by kernel_rfl) (arg4 h26_22 (u22.w (u21.w h27_20)) (u22.w h28_21) h29_22)) ((append_any hO.take (by omega) hS2 he).mono fun _ _ h => h) F22.l ?_
 rintro v3 w3 ⟨hE3, hS3, K3⟩
 have KK3 := (KK2).trans K3
 intro a23 u23 h30_23
 have F23 := F22.pt u23
 exact bodyPost_end (v := .tuple #[]) (results_none rfl _ _ _) F23.defers ⟨rfl, by unfold WinD.slide; rw [hc, decide_eq_true hl]; exact hS3, KK3⟩
theorem slidep_any {d : WinD} {k B b e : Nat} {u t : ByteArray} {w0 : World} (hO : d.Ok k) (hk : k < 900) (H : PlS w0 B b d) (he : e < 160) : Calls Tryd.prog 36 #[pt b, .string u, .float .f64 (fb e), .string t] w0 fun e' w' => e' = .returned (.tuple #[]) ∧ PlS w' B b (d.slide (bare u t e)) ∧ Kt B DP w0 w' := by
 rcases hc : d.clo with _ | _
 · by_cases hl : d.written ≤ d.segs.length
   · exact slidep_take hc hl hO hk H he
   · exact slidep_lt hc hl hO hk H he
 · exact slidep_clo hc hO hk H he
theorem slide_any {d : WinD} {k base wb : Nat} {kp2 mp2 : Option Nat} {s : SegD} {w0 : World} (hO : d.Ok k) (hk : k < 900) (H : WinS w0 base wb d) (hse : s.e ≤ 1000) (ks_0 : SKey w0 kp2 s.key) (ms_0 : SMap w0 mp2 s.map) : Calls Tryd.prog 9 #[pt wb, .agg (ssegC s kp2 mp2)] w0 fun e w' => e = .returned (.tuple #[]) ∧ WinS w' base wb (d.slide s) ∧ Kt base DS w0 w' := by
 rcases hc : d.clo with _ | _
 · by_cases hl : d.written ≤ d.segs.length
   · exact slide_take hc hl hO hk H hse ks_0 ms_0
   · exact slide_lt hc hl hO hk H hse ks_0 ms_0
 · exact slide_clo hc hO hk H hse ks_0 ms_0
theorem range_any {d : WinD} {k base wb : Nat} {w0 : World} (hO : d.Ok k) (H : WinS w0 base wb d) {li off : Nat} :
   Calls Tryd.prog 16 #[pt wb, .int .i64 li, .int .i64 off] w0 fun e w' => e = .returned (.bool (decide (d.segs.length ≠ 0))) ∧ WinS w' base wb (d.rangeL li off) ∧ Kt base DS w0 w' := by
 unfold WinD.rangeL
 rcases Nat.eq_zero_or_pos d.segs.length with h0 | h0
 · rw [if_pos h0, decide_eq_false (fun h => h h0)]
   exact range_nil hO H h0
 · rw [if_neg (by omega), decide_eq_true (show d.segs.length ≠ 0 by omega)]
   exact range_some hO H h0
theorem lead_one {d : WinD} {k base wb : Nat} {w0 : World} (hO : d.Ok k) (H : WinS w0 base wb d) {q : MapD} (hq : q.Ok) :
   Calls Tryd.prog 15 #[pt wb, .agg (mapC q), .bool false] w0 fun e w' => e = .returned (.bool (decide (d.segs.length ≠ 0))) ∧ WinS w' base wb (d.leadL q) ∧ Kt base DS w0 w' := by
 unfold WinD.leadL
 rcases Nat.eq_zero_or_pos d.segs.length with h0 | h0
 · rw [if_pos h0, decide_eq_false (fun h => h h0)]
   exact lead_nil hO H h0 hq
 · rw [if_neg (by omega), decide_eq_true (show d.segs.length ≠ 0 by omega)]
   exact lead_some hO H h0 hq
theorem lock_one {d : WinD} {k base wb : Nat} {w0 : World} (hO : d.Ok k) (H : WinS w0 base wb d) {q : KeyD} (hq : q.Ok) (hv : KV q) :
   Calls Tryd.prog 12 #[pt wb, .agg (keyC q), .bool false] w0 fun e w' => e = .returned (.bool (decide (d.segs.length ≠ 0))) ∧ WinS w' base wb (d.lockL q) ∧ Kt base DS w0 w' := by
 unfold WinD.lockL
 rcases Nat.eq_zero_or_pos d.segs.length with h0 | h0
 · rw [if_pos h0, decide_eq_false (fun h => h h0)]
   exact lock_nil hO H h0 hq
 · rw [if_neg (by omega), decide_eq_true (show d.segs.length ≠ 0 by omega)]
   by_cases hf : q.fo.size = 0
   · rw [if_pos hf]; exact lock_some_n hO H h0 hq hf
   · rw [if_neg hf]; exact lock_some_v hO H h0 hq hf (fun h => hf (hv.2 h))
theorem lock_every {d : WinD} {k base wb : Nat} {w0 : World} (hO : d.Ok k) (H : WinS w0 base wb d) {q : KeyD} (hq : q.Ok) (hv : KV q) :
   Calls Tryd.prog 12 #[pt wb, .agg (keyC q), .bool true] w0 fun e w' => e = .returned (.bool true) ∧ WinS w' base wb (d.lockA q) ∧ Kt base DS w0 w' := by
 unfold WinD.lockA
 by_cases hf : q.fo.size = 0
 · rw [if_pos hf]; exact lock_all_n hO H hq hf
 · rw [if_neg hf]; exact lock_all_v hO H hq hf (fun h => hf (hv.2 h))
end Go.Proofs.YtdpebhlkgmopkaaDoor
