/-
 FnSteps: impl.Steps.
-/
import Derived.Test.YtdpebhlkgmopkaaDoorExe
namespace Go.Proofs.YtdpebhlkgmopkaaDoor
open Go.RowKit
set_option maxRecDepth 100000
theorem results_mix {f : Func} (hr : f.results = #[.tmp 6, .cell 7 67, .tmp 8, .tmp 9]) (tmps : Array Value) (w : World) {g : Nat} {cs : Array Value} {v6 v8 v9 : Value} (h6 : tmps.getD 6 undef = v6) (h7 : tmps.getD 7 undef = pt g) (hB : Blk w g 67 cs) (h8 : tmps.getD 8 undef = v8) (h9 : tmps.getD 9 undef = v9) (hcs : (Tryd.prog.info? 67).map (·.size) = some cs.size) :
   (results f tmps).run Tryd.prog w = .ok (.tuple #[v6, .agg cs, v8, v9]) w := by
 have h6' : tmps[6]?.getD undef = v6 := by simpa using h6
 have h7' : tmps[7]?.getD undef = pt g := by simpa using h7
 have h8' : tmps[8]?.getD undef = v8 := by simpa using h8
 have h9' : tmps[9]?.getD undef = v9 := by simpa using h9
 have hl := run_loadVar_row (P := Tryd.prog) w g 67 67 cs (0, 0) _ hB Tryd.underlying67 rfl hcs
 simp [results, hr, h6', h7', h8', h9', asAddr, hl]
abbrev DZ : List Nat := [104, 90, 95, 4, 44, 67, 9, 40]
theorem EV.gn {w w' : World} (h : EV w) (hlo : 0 < w.heap.size) (G : w.grownBy w' none) : EV w' := h.below ((Kt.refl w.heap.size [] w).nw (Nat.le_refl _) G).bel hlo
/-- an empty one -/
theorem PlS.new {w w0 : World} {B b g p wr : Nat} (hp : 1 ≤ p) (hB : Blk w b 104 (plC ⟨p, wr, 3, 0, 0, false, false, none, none, [], []⟩ g 0 none none)) (hG : Blk w g 90 (Array.replicate p (.pointer none))) (hb : B ≤ b) (hg : B ≤ g) (ev : EV w) (lo : 0 < B) : PlS w B b ⟨p, wr, 3, 0, 0, false, false, none, none, [], []⟩ :=
 ⟨g, 0, [], none, none, _, hB, .nil, .nil, hG, ⟨by simp, hp, List.nodup_nil, by simp, fun i m h => by simp at h⟩, ⟨rfl, rfl, fun i s n m h => by simp at h⟩, hb, hg, Nat.le_of_lt (Nat.lt_of_le_of_lt hb hB.lt), ev, lo⟩
theorem WinD.new_ok {p wr : Nat} (hp : 1 ≤ p) (hp2 : p ≤ 12) (hw : wr ≤ p) : WinD.Ok ⟨p, wr, 3, 0, 0, false, false, none, none, [], []⟩ 0 := ⟨rfl, Nat.zero_le _, hp, hp2, hw, (by show 3 < 16; decide), Nat.le_refl _, (fun n (h : n ∈ ([] : List Nat)) => by cases h), Nat.zero_le _, (fun s (h : s ∈ ([] : List SegD)) => by cases h)⟩
theorem steps_any {wr p : Nat} {sv : Value} {base : Nat} {xs : List StepD} {w0 : World} (hp1 : 1 ≤ p) (hp12 : p ≤ 12) (hwr : wr ≤ p) (hs : STR w0 base sv xs) (hxs : ∀ x ∈ xs, x.Ok) (hl : xs.length ≤ 60) (hev : EV w0) (hlo : 0 < w0.heap.size) : Calls Tryd.prog 19 #[.int .i64 wr, .int .i64 p, sv] w0 fun e w' => ∃ tv iv kv mv uv bi, e = .returned (.tuple #[tv, .agg (medC ((⟨p, wr, 3, 0, 0, false, false, none, none, [], []⟩ : WinD).execs xs) iv kv mv), uv, .bool true]) ∧ GR w' w0.heap.size 4 Value.bool tv ((⟨p, wr, 3, 0, 0, false, false, none, none, [], []⟩ : WinD).tolds xs) ∧ ISR w' bi iv (((⟨p, wr, 3, 0, 0, false, false, none, none, [], []⟩ : WinD).execs xs).nums.zip ((⟨p, wr, 3, 0, 0, false, false, none, none, [], []⟩ : WinD).execs xs).segs) ∧ KeySl w' kv ((⟨p, wr, 3, 0, 0, false, false, none, none, [], []⟩ : WinD).execs xs).key ∧ MapSl w' mv ((⟨p, wr, 3, 0, 0, false, false, none, none, [], []⟩ : WinD).execs xs).map ∧ Below w0.heap.size w0 w' := by
 have hw : w0.heap.size ≤ w0.heap.size := Nat.le_refl _
 have hO0 := WinD.new_ok hp1 hp12 hwr
 obtain ⟨d0, hd0⟩ : ∃ d0, (⟨p, wr, 3, 0, 0, false, false, none, none, [], []⟩ : WinD) = d0 := ⟨_, rfl⟩
 rw [hd0] at hO0
 have hp_ : d0.places = p := by rw [← hd0]
 refine calls_of_wp Tryd.func19 rfl ?_
 generalize hA : Act.mk _ _ = a0
 have F0 : Fz 93 a0 := by subst hA; exact ⟨by simp [Tryd.ntmps19], rfl⟩
 have h0_0 : a0.tmps.getD 0 undef = (.int .i64 wr) := by subst hA; exact fr_arg rfl
 have h1_0 : a0.tmps.getD 1 undef = (.int .i64 p) := by subst hA; exact fr_arg rfl
 have h2_0 : a0.tmps.getD 2 undef = sv := by subst hA; exact fr_arg rfl
 have K_0 := Kt.refl w0.heap.size DZ w0
 have E_0 := hev
 refine wp_sr ?_
 refine wl_pq F0 (ex_as (v := (.slice none 0 0)) rfl) fun a1 u1 F1 h6_1 => ?_
 obtain ⟨g7, hg7⟩ : ∃ g, w0.heap.size = g := ⟨_, rfl⟩
 have ge7 : w0.heap.size ≤ g7 := by have := K_0.bel.size; omega
 obtain ⟨w1, hr1, B7_1, G1, hs1⟩ := al_run (op := Instr.alloc 67 true (.tuple #[])) (T := 67) (cs := #[(.float .f64 0), (.int .u64 0), (.slice none 0 0), (.string { data := #[] }), (.bool false), (.bool false), (.int .i64 0), (.int .u64 0), (.float .f64 0), (.bool false), (.int .i64 0), (.slice none 0 0), (.slice none 0 0), (.int .i64 0)]) hg7 (fun _ => by kernel_rfl)
 have K_1 := K_0.nw hw G1
 have E_1 := E_0.gn (Nat.lt_of_lt_of_le hlo K_0.bel.size) G1
 refine wl_pq F1 (ex_al hr1) fun a2 u2 F2 (h7_2 : a2.tmps.getD 7 undef = (.pointer (some ⟨g7, 0, none⟩))) => ?_
 clear K_0 E_0
 refine wl_pq F2 (ex_as (v := (.slice none 0 0)) rfl) fun a3 u3 F3 h8_3 => ?_
 refine wl_pq F3 (ex_as (v := (.bool false)) rfl) fun a4 u4 F4 h9_4 => ?_
 change Code.wp _ _ _ _ _
 refine wp_seq ?_
 refine wp_sr ?_
 have h1_4 := u4.w (u3.w (u2.w (u1.w h1_0)))
 refine wl_pq F4 (ex_mv h1_4) fun a5 u5 F5 h20_5 => ?_
 refine wl_pq F5 (ex_bin (vy := (.int .i64 1)) (v := (.bool false)) h20_5 rfl ((bo_ltn p 1 _).trans (by rw [decide_eq_false (by omega)]))) fun a6 u6 F6 h21_6 => ?_
 refine wl_pq F6 (ex_mv h21_6) fun a7 u7 F7 h22_7 => ?_
 have h1_7 := u7.w (u6.w (u5.w h1_4))
 refine wl_gq F7 (yl (e := 22) rfl h22_7) (ex_mv h1_7) fun a8 u8 F8 h23_8 => ?_
 refine wl_gq F8 (yl (e := 22) rfl (u8.w h22_7)) (ex_bin (vy := (.int .i64 1024)) (v := (.bool false)) h23_8 rfl ((bo_gtn p 1024 _).trans (by rw [decide_eq_false (by omega)]))) fun a9 u9 F9 h24_9 => ?_
 refine wl_pq F9 (ex_pick (q := false) (u9.w (u8.w h22_7)) h24_9) fun a10 u10 F10 h25_10 => ?_
 refine wl_pq F10 (ex_mv h25_10) fun a11 u11 F11 h26_11 => ?_
 have h0_11 := u11.w (u10.w (u9.w (u8.w (u7.w (u6.w (u5.w (u4.w (u3.w (u2.w (u1.w h0_0))))))))))
 refine wl_gq F11 (yl (e := 26) rfl h26_11) (ex_mv h0_11) fun a12 u12 F12 h27_12 => ?_
 refine wl_gq F12 (yl (e := 26) rfl (u12.w h26_11)) (ex_bin (vy := (.int .i64 0)) (v := (.bool false)) h27_12 rfl ((bo_ltn wr 0 _).trans (by rw [decide_eq_false (by omega)]))) fun a13 u13 F13 h28_13 => ?_
 refine wl_pq F13 (ex_pick (q := false) (u13.w (u12.w h26_11)) h28_13) fun a14 u14 F14 h29_14 => ?_
 refine wl_pq F14 (ex_mv h29_14) fun a15 u15 F15 h30_15 => ?_
 have h0_15 := u15.w (u14.w (u13.w (u12.w h0_11)))
 refine wl_gq F15 (yl (e := 30) rfl h30_15) (ex_mv h0_15) fun a16 u16 F16 h31_16 => ?_
 have h1_16 := u16.w (u15.w (u14.w (u13.w (u12.w (u11.w (u10.w (u9.w (u8.w h1_7))))))))
 refine wl_gq F16 (yl (e := 30) rfl (u16.w h30_15)) (ex_mv h1_16) fun a17 u17 F17 h32_17 => ?_
 refine wl_gq F17 (yl (e := 30) rfl (u17.w (u16.w h30_15))) (ex_bin (v := (.bool false)) (u17.w h31_16) h32_17 ((bo_gtn wr p _).trans (by rw [decide_eq_false (by omega)]))) fun a18 u18 F18 h33_18 => ?_
 have h30_18 := u18.w (u17.w (u16.w h30_15))
 refine wl_pq F18 (ex_pick (q := false) h30_18 h33_18) fun a19 u19 F19 h34_19 => ?_
 refine wl_pq F19 (ex_mv h34_19) fun a20 u20 F20 h35_20 => ?_
 have h2_20 := u20.w (u19.w (u18.w (u17.w (u16.w (u15.w (u14.w (u13.w (u12.w (u11.w (u10.w (u9.w (u8.w (u7.w (u6.w (u5.w (u4.w (u3.w (u2.w (u1.w h2_0)))))))))))))))))))
 refine wl_gq F20 (yl (e := 35) rfl h35_20) (ex_mv h2_20) fun a21 u21 F21 h36_21 => ?_
 refine wl_gq F21 (yl (e := 35) rfl (u21.w h35_20)) (ex_bi (w' := w1) (args := #[sv]) (v := (.int .i64 xs.length)) (arg1 h36_21) (hs.len (by intros; kernel_rfl) (by intros; kernel_rfl) _)) fun a22 u22 F22 h37_22 => ?_
 refine wl_gq F22 (yl (e := 35) rfl (u22.w (u21.w h35_20))) (ex_bin (vy := (.int .i64 200)) (v := (.bool false)) h37_22 rfl ((bo_gtn xs.length 200 _).trans (by rw [decide_eq_false (by omega)]))) fun a23 u23 F23 h38_23 => ?_
 have h35_23 := u23.w (u22.w (u21.w h35_20))
 refine wl_pq F23 (ex_pick (q := false) h35_23 h38_23) fun a24 u24 F24 h39_24 => ?_
 change Code.wp _ _ _ _ _
 refine wp_cond_false h39_24 ?_
 refine wp_skip ?_
 change Code.wp _ _ _ _ _
 refine wp_sr ?_
 have h0_24 := u24.w (u23.w (u22.w (u21.w (u20.w (u19.w (u18.w (u17.w (u16.w h0_15))))))))
 refine wl_pq F24 (ex_mv h0_24) fun a25 u25 F25 h42_25 => ?_
 refine wl_pq F25 (ex_conv (vx := (.int .i64 wr)) (v := (.int .u64 wr)) h42_25 (cv_iu wr (by omega) _)) fun a26 u26 F26 h43_26 => ?_
 have h1_26 := u26.w (u25.w (u24.w (u23.w (u22.w (u21.w (u20.w (u19.w (u18.w (u17.w h1_16)))))))))
 refine wl_pq F26 (ex_mv h1_26) fun a27 u27 F27 h44_27 => ?_
 refine wl_pq F27 (ex_conv (vx := (.int .i64 p)) (v := (.int .u64 p)) h44_27 (cv_iu p (by omega) _)) fun a28 u28 F28 h45_28 => ?_
 refine wl_cl (args := #[(.int .u64 wr), (.int .u64 p)]) (R := fun v w' => ∃ b, v = .tuple #[pt b, .nilIface] ∧ PlS w' w0.heap.size b d0 ∧ w1.grownBy w' none) (ex_cl (fun _ _ => by kernel_rfl) (arg2 (u28.w (u27.w h43_26)) h45_28)) ((newpl (win := wr) (cap := p) (w0 := w1) hwr (by omega)).mono fun _ _ ⟨b, g, h, hB, hG, _, G, hb, hg⟩ => ⟨_, h, b, rfl, hd0 ▸ PlS.new (w0 := w0) hp1 hB hG (Nat.le_trans K_1.bel.size hb) (Nat.le_trans K_1.bel.size hg) (E_1.gn (Nat.lt_of_lt_of_le hlo K_1.bel.size) G) hlo, G⟩) F28.l ?_
 rintro v w2 ⟨b, rfl, H_2, G2⟩
 have B7_2 := B7_1.gn G2
 have K_2 := K_1.nw hw G2
 intro a29 u29 h46_29
 have F29 := F28.pt u29
 clear K_1 E_1
 refine wl_pq F29 (ex_mv h46_29) fun a30 u30 F30 h41_30 => ?_
 refine wl_pq F30 (ex_ext (vs := #[(pt b), .nilIface]) (v := (pt b)) h41_30 rfl) fun a31 u31 F31 h47_31 => ?_
 refine wl_pq F31 (ex_ext (vs := #[(pt b), .nilIface]) (v := .nilIface) (u31.w h41_30) rfl) fun a32 u32 F32 h48_32 => ?_
 refine wl_pq F32 (ex_as (u32.w h47_31)) fun a33 u33 F33 h10_33 => ?_
 refine wl_pq F33 (ex_as (u33.w h48_32)) fun a34 u34 F34 h11_34 => ?_
 change Code.wp _ _ _ _ _
 refine wp_seq ?_
 refine wp_sr ?_
 refine wl_pq F34 (ex_mv h11_34) fun a35 u35 F35 h49_35 => ?_
 refine wl_pq F35 (ex_bin (vy := .nilIface) (v := (.bool false)) h49_35 rfl (by kernel_rfl)) fun a36 u36 F36 h50_36 => ?_
 change Code.wp _ _ _ _ _
 refine wp_cond_false h50_36 ?_
 refine wp_skip ?_
 change Code.wp _ _ _ _ _
 refine wp_sr ?_
 refine wl_pq F36 (ex_as (v := (.slice none 0 0)) rfl) fun a37 u37 F37 h12_37 => ?_
 change Code.wp _ _ _ _ _
 refine wp_seq ?_
 refine wp_sr ?_
 have h2_37 := u37.w (u36.w (u35.w (u34.w (u33.w (u32.w (u31.w (u30.w (u29.w (u28.w (u27.w (u26.w (u25.w (u24.w (u23.w (u22.w (u21.w h2_20))))))))))))))))
 refine wl_pq F37 (ex_mv h2_37) fun a38 u38 F38 h52_38 => ?_
 refine wl_pq F38 (ex_bi (w' := w2) (args := #[sv]) (v := (.int .i64 xs.length)) (arg1 h52_38) (hs.len (by intros; kernel_rfl) (by intros; kernel_rfl) _)) fun a39 u39 F39 h53_39 => ?_
 refine wl_pq F39 (ex_mv (v := (.int .i64 0)) rfl) fun a40 u40 F40 h54_40 => ?_
 change Code.wp _ _ _ _ _
 have tw_2 : GR w2 w0.heap.size 4 Value.bool (.slice none 0 0) (d0.tolds (xs.take 0)) := GR.nil
 have h10_40 := u40.w (u39.w (u38.w (u37.w (u36.w (u35.w (u34.w h10_33))))))
 have h7_40 := u40.w (u39.w (u38.w (u37.w (u36.w (u35.w (u34.w (u33.w (u32.w (u31.w (u30.w (u29.w (u28.w (u27.w (u26.w (u25.w (u24.w (u23.w (u22.w (u21.w (u20.w (u19.w (u18.w (u17.w (u16.w (u15.w (u14.w (u13.w (u12.w (u11.w (u10.w (u9.w (u8.w (u7.w (u6.w (u5.w (u4.w (u3.w h7_2)))))))))))))))))))))))))))))))))))))
 have h12_40 := u40.w (u39.w (u38.w h12_37))
 refine loop_k (si := 54) (ty := .i64) (m := xs.length) (fun (j : Nat) a w => ∃ tv : Value, (Fz 93 a) ∧ (a.tmps.getD 54 undef = .int .i64 j) ∧ (a.tmps.getD 10 undef = (pt b)) ∧ (a.tmps.getD 52 undef = sv) ∧ (a.tmps.getD 53 undef = (.int .i64 xs.length)) ∧ (a.tmps.getD 7 undef = (.pointer (some ⟨g7, 0, none⟩))) ∧ (a.tmps.getD 12 undef = tv) ∧ (Kt w0.heap.size DZ w0 w) ∧ (PlS w w0.heap.size b (d0.execs (xs.take j))) ∧ (GR w w0.heap.size 4 Value.bool tv (d0.tolds (xs.take j))) ∧ (Blk w g7 67 #[(.float .f64 0), (.int .u64 0), (.slice none 0 0), (.string { data := #[] }), (.bool false), (.bool false), (.int .i64 0), (.int .u64 0), (.float .f64 0), (.bool false), (.int .i64 0), (.slice none 0 0), (.slice none 0 0), (.int .i64 0)])) ⟨.slice none 0 0, F40, h54_40, h10_40, (u40.w (u39.w h52_38)), (u40.w h53_39), h7_40, h12_40, K_2, H_2, tw_2, B7_2⟩ (fun _ _ _ ⟨_, h⟩ => h.2.1) ?_ ?_
 · clear K_2 H_2
   intro j a41 w3 hj ⟨tv, F41, h54_41, h10_41, h52_41, h53_41, h7_41, h12_41, K_3, H_3, tw_3, B7_3⟩ R hR
   have hj60 : j < 60 := by omega
   obtain ⟨x, hx⟩ : ∃ x, xs[j]? = some x := ⟨_, List.getElem?_eq_getElem hj⟩
   have hxo := hxs x (List.mem_of_getElem? hx)
   have hOj := hO0.execs (xs.take j) (fun y hy => hxs y (List.mem_of_mem_take hy))
   have hlt : (xs.take j).length ≤ j := List.length_take_le _ _
   obtain ⟨gv, uv, cv, kv, mv, hv, ⟨cur, hcur, hcl⟩, hks, hms⟩ := hs.elem (by decide) hx
   obtain ⟨kva, kvn, kvc, rfl⟩ := hks.shape
   obtain ⟨mva, mvn, mvc, rfl⟩ := hms.shape
   refine wp_sr ?_
   refine wl_pq F41 (ex_bin (v := (.bool true)) h54_41 h53_41 ((bo_ltn j xs.length _).trans (by rw [decide_eq_true (by omega)]))) fun a42 u42 F42 h55_42 => ?_
   change Code.wp _ _ _ _ _
   refine wp_seq ?_
   refine wp_cond_true h55_42 ?_
   refine wp_skip ?_
   change Code.wp _ _ _ _ _
   refine wp_seq ?_
   refine wp_block ?_
   refine wp_sr ?_
   refine wl_pq F42 (ex_ixg (vx := sv) (vy := (.int .i64 j)) (v := (.pointer (some ⟨gv, uv + 13 * j, none⟩))) (u42.w h52_41) (u42.w h54_41) (by rw [hv]; exact ix_step gv uv _ cv j hj _)) fun a43 u43 F43 h56_43 => ?_
   refine wl_pq F43 (ex_lda h56_43 (ld_agg (n := 13) (o := uv + 13 * j) (xs := #[(.int .i64 x.kind), (.int .u64 0), (.string x.seg.title), (.string x.seg.uri), (.float .f64 (fb x.seg.e)), (.int .i64 x.seg.li), (.int .i64 x.seg.off), (.slice kva kvn kvc), (.slice mva mvn mvc), (.slice none 0 0), (.bool x.seg.disc), (.string x.seg.date), (.int .i64 x.num)]) (fun _ => by kernel_rfl) (fun _ => by kernel_rfl) (hcur.bl K_3.bel) rfl hcl)) fun a44 u44 F44 (h57_44 : a44.tmps.getD 57 undef = (.agg #[(.int .i64 x.kind), (.int .u64 0), (.string x.seg.title), (.string x.seg.uri), (.float .f64 (fb x.seg.e)), (.int .i64 x.seg.li), (.int .i64 x.seg.off), (.slice kva kvn kvc), (.slice mva mvn mvc), (.slice none 0 0), (.bool x.seg.disc), (.string x.seg.date), (.int .i64 x.num)])) => ?_
   obtain ⟨ge, hge⟩ : ∃ g, w3.heap.size = g := ⟨_, rfl⟩
   have ne_7_e : g7 ≠ ge := by have := B7_3.lt; omega
   have gee : w0.heap.size ≤ ge := by have := K_3.bel.size; omega
   obtain ⟨w4, hr4, Be_4, G4, hs4⟩ := al_run (op := Instr.alloc 44 true (.tuple #[])) (T := 44) (cs := #[(.int .i64 0), (.int .u64 0), (.string { data := #[] }), (.string { data := #[] }), (.float .f64 0), (.int .i64 0), (.int .i64 0), (.slice none 0 0), (.slice none 0 0), (.slice none 0 0), (.bool false), (.string { data := #[] }), (.int .i64 0)]) hge (fun _ => by kernel_rfl)
   have B7_4 := B7_3.gn G4
   have K_4 := K_3.nw hw G4
   have H_4 := H_3.gn G4
   have tw_4 := tw_3.kt (Kt.of_none G4) (by decide)
   refine wl_pq F44 (ex_al hr4) fun a45 u45 F45 (h14_45 : a45.tmps.getD 14 undef = (.pointer (some ⟨ge, 0, none⟩))) => ?_
   clear K_3 H_3 tw_3 hge
   obtain ⟨w5, hr5, Be_5, G5⟩ := sta_run (T := 44) (cs := #[(.int .i64 x.kind), (.int .u64 0), (.string x.seg.title), (.string x.seg.uri), (.float .f64 (fb x.seg.e)), (.int .i64 x.seg.li), (.int .i64 x.seg.off), (.slice kva kvn kvc), (.slice mva mvn mvc), (.slice none 0 0), (.bool x.seg.disc), (.string x.seg.date), (.int .i64 x.num)]) (fun _ => by kernel_rfl) Be_4 rfl rfl (by simp [Value.oneCell'])
   have B7_5 := B7_4.gk G5 ne_7_e
   have K_5 := K_4.blk hw Be_4 (gee) (by decide) G5
   have H_5 := H_4.gb Be_4 gee (by decide) G5
   have tw_5 := tw_4.kt (Kt.of_blk Be_4 G5) (by decide)
   refine wl_n (ex_st h14_45 (u45.w h57_44) hr5) ?_
   clear K_4 H_4 tw_4
   change Code.wp _ _ _ _ _
   refine wp_sr ?_
   have h10_45 := u45.w (u44.w (u43.w (u42.w h10_41)))
   refine wl_pq F45 (ex_mv h10_45) fun a46 u46 F46 h59_46 => ?_
   refine wl_pq F46 (ex_lda (u46.w h14_45) (ld_agg (n := 13) (xs := #[(.int .i64 x.kind), (.int .u64 0), (.string x.seg.title), (.string x.seg.uri), (.float .f64 (fb x.seg.e)), (.int .i64 x.seg.li), (.int .i64 x.seg.off), (.slice kva kvn kvc), (.slice mva mvn mvc), (.slice none 0 0), (.bool x.seg.disc), (.string x.seg.date), (.int .i64 x.num)]) (fun _ => by kernel_rfl) (fun _ => by kernel_rfl) Be_5 rfl (fun _ _ => by rw [Nat.zero_add] <;> rfl))) fun a47 u47 F47 (h60_47 : a47.tmps.getD 60 undef = (.agg #[(.int .i64 x.kind), (.int .u64 0), (.string x.seg.title), (.string x.seg.uri), (.float .f64 (fb x.seg.e)), (.int .i64 x.seg.li), (.int .i64 x.seg.off), (.slice kva kvn kvc), (.slice mva mvn mvc), (.slice none 0 0), (.bool x.seg.disc), (.string x.seg.date), (.int .i64 x.num)])) => ?_
   refine wl_cl (args := #[(pt b), (.agg #[(.int .i64 x.kind), (.int .u64 0), (.string x.seg.title), (.string x.seg.uri), (.float .f64 (fb x.seg.e)), (.int .i64 x.seg.li), (.int .i64 x.seg.off), (.slice kva kvn kvc), (.slice mva mvn mvc), (.slice none 0 0), (.bool x.seg.disc), (.string x.seg.date), (.int .i64 x.num)])]) (R := fun v w' => v = .tuple #[.bool ((d0.execs (xs.take j)).told x), .bool true] ∧ PlS w' w0.heap.size b ((d0.execs (xs.take j)).exec x) ∧ Kt w0.heap.size DP w5 w') (ex_cl (fun _ _ => by kernel_rfl) (arg2 (u47.w h59_46) h60_47)) ((step_any (x := x) (kv := .slice kva kvn kvc) (mv := .slice mva mvn mvc) hxo hOj (by have := hj60; omega) H_5 (hks.bl K_5.bel) (hms.bl K_5.bel)).mono fun _ _ h => ⟨_, h.1, rfl, h.2⟩) F47.l ?_
   rintro v w6 ⟨rfl, H_6, KK⟩
   have B7_6 := B7_5.kt KK (by decide)
   have Be_6 := Be_5.kt KK (by decide)
   have K_6 := K_5.trans (KK.sub (by decide))
   have tw_6 := tw_5.kt KK (by decide)
   intro a48 u48 h61_48
   have F48 := F47.pt u48
   clear K_5 tw_5 H_5 KK
   refine wl_pq F48 (ex_mv h61_48) fun a49 u49 F49 h58_49 => ?_
   refine wl_pq F49 (ex_ext (vs := #[(.bool ((d0.execs (xs.take j)).told x)), (.bool true)]) (v := (.bool ((d0.execs (xs.take j)).told x))) h58_49 rfl) fun a50 u50 F50 h62_50 => ?_
   refine wl_pq F50 (ex_ext (vs := #[(.bool ((d0.execs (xs.take j)).told x)), (.bool true)]) (v := (.bool true)) (u50.w h58_49) rfl) fun a51 u51 F51 h63_51 => ?_
   refine wl_pq F51 (ex_as (u51.w h62_50)) fun a52 u52 F52 h15_52 => ?_
   refine wl_pq F52 (ex_as (u52.w h63_51)) fun a53 u53 F53 h16_53 => ?_
   change Code.wp _ _ _ _ _
   refine wp_seq ?_
   refine wp_sr ?_
   refine wl_pq F53 (ex_mv h16_53) fun a54 u54 F54 h64_54 => ?_
   refine wl_pq F54 (ex_un (vx := (.bool true)) (v := (.bool false)) h64_54 rfl) fun a55 u55 F55 h65_55 => ?_
   change Code.wp _ _ _ _ _
   refine wp_cond_false h65_55 ?_
   refine wp_skip ?_
   change Code.wp _ _ _ _ _
   refine rg_list ?_
   have h12_55 := u55.w (u54.w (u53.w (u52.w (u51.w (u50.w (u49.w (u48.w (u47.w (u46.w (u45.w (u44.w (u43.w (u42.w h12_41)))))))))))))
   refine wl_pq F55 (ex_mv h12_55) fun a56 u56 F56 h67_56 => ?_
   have h15_56 := u56.w (u55.w (u54.w (u53.w h15_52)))
   refine wl_pq F56 (ex_mv h15_56) fun a57 u57 F57 h68_57 => ?_
   obtain ⟨gt, hgt⟩ : ∃ g, w6.heap.size = g := ⟨_, rfl⟩
   have ne_7_t : g7 ≠ gt := by have := B7_6.lt; omega
   have ne_e_t : ge ≠ gt := by have := Be_6.lt; omega
   have get : w0.heap.size ≤ gt := by have := K_6.bel.size; omega
   obtain ⟨w7, hr7, Bt_7, G7, hs7⟩ := bs_run (op := Instr.buildSlice 26 1 #[(0, (.bool ((d0.execs (xs.take j)).told x)))]) (n := 1) (T := 4) (cs := #[(.bool ((d0.execs (xs.take j)).told x))]) hgt (fun _ => by kernel_rfl)
   have B7_7 := B7_6.gn G7
   have Be_7 := Be_6.gn G7
   have K_7 := K_6.nw hw G7
   have H_7 := H_6.gn G7
   have tw_7 := tw_6.kt (Kt.of_none G7) (by decide)
   refine wl_pq F57 (ex_bs (vs := #[(0, (.bool ((d0.execs (xs.take j)).told x)))]) (by have e0 : a57.eval (.tmp 68) = (.bool ((d0.execs (xs.take j)).told x)) := h68_57; simp only [List.map_toArray, List.map_cons, List.map_nil, e0]) hr7) fun a58 u58 F58 (h69_58 : a58.tmps.getD 69 undef = (.slice (some ⟨gt, 0, none⟩) 1 1)) => ?_
   clear K_6 H_6 tw_6 hgt
   obtain ⟨v8, w8, hr8, tw_8, G8⟩ := tw_7.push (f := Value.bool) (x := (d0.execs (xs.take j)).told x) (ty := 26) (c := 1) (z := .bool false) (by_ := 1) Tryd.underlying26 (by kernel_rfl) rfl (by decide) (by decide) Bt_7 rfl (K_7.le hw) (by rw [WinD.tolds_length, List.length_take]; omega)
   have KR8 := tw_7.ktof G8
   have B7_8 := B7_7.kt KR8 (by decide)
   have Be_8 := Be_7.kt KR8 (by decide)
   have K_8 := tw_7.ktr K_7 hw (Nat.le_refl _) (by decide) G8
   have H_8 := H_7.gr tw_7 (Nat.le_refl _) (by decide) G8
   refine wl_pq F58 (ex_app (u58.w (u57.w h67_56)) h69_58 hr8) fun a59 u59 F59 (h70_59 : a59.tmps.getD 70 undef = v8) => ?_
   clear KR8 K_7 H_7 tw_7
   refine wl_pq F59 (ex_as h70_59) fun a60 u60 F60 h12_60 => ?_
   change Code.wp _ _ _ _ _
   refine rg_list ?_
   have h54_60 := u60.w (u59.w (u58.w (u57.w (u56.w (u55.w (u54.w (u53.w (u52.w (u51.w (u50.w (u49.w (u48.w (u47.w (u46.w (u45.w (u44.w (u43.w (u42.w h54_41))))))))))))))))))
   refine wl_pq F60 (ex_bin (vy := (.int .i64 1)) (v := (.int .i64 (j + 1 : Nat))) h54_60 rfl (bo_addn j 1 (by omega) _)) fun a61 u61 F61 h71_61 => ?_
   refine wl_pq F61 (ex_mv h71_61) fun a62 u62 F62 h54_62 => ?_
   have h10_62 := u62.w (u61.w (u60.w (u59.w (u58.w (u57.w (u56.w (u55.w (u54.w (u53.w (u52.w (u51.w (u50.w (u49.w (u48.w (u47.w (u46.w h10_45))))))))))))))))
   have h52_62 := u62.w (u61.w (u60.w (u59.w (u58.w (u57.w (u56.w (u55.w (u54.w (u53.w (u52.w (u51.w (u50.w (u49.w (u48.w (u47.w (u46.w (u45.w (u44.w (u43.w (u42.w h52_41))))))))))))))))))))
   have h53_62 := u62.w (u61.w (u60.w (u59.w (u58.w (u57.w (u56.w (u55.w (u54.w (u53.w (u52.w (u51.w (u50.w (u49.w (u48.w (u47.w (u46.w (u45.w (u44.w (u43.w (u42.w h53_41))))))))))))))))))))
   have h7_62 := u62.w (u61.w (u60.w (u59.w (u58.w (u57.w (u56.w (u55.w (u54.w (u53.w (u52.w (u51.w (u50.w (u49.w (u48.w (u47.w (u46.w (u45.w (u44.w (u43.w (u42.w h7_41))))))))))))))))))))
   exact hR _ _ ⟨v8, F62, h54_62, h10_62, h52_62, h53_62, h7_62, (u62.w (u61.w h12_60)), K_8, (by rw [List.take_add_one, hx]; show PlS _ _ _ (d0.execs (xs.take j ++ [x])); rw [WinD.execs_snoc]; exact H_8), (by rw [List.take_add_one, hx]; show GR _ _ _ _ _ (d0.tolds (xs.take j ++ [x])); rw [WinD.tolds_snoc]; exact tw_8), B7_8⟩
 · clear K_2 H_2
   intro a41 w3 ⟨tv, F41, h54_41, h10_41, h52_41, h53_41, h7_41, h12_41, K_3, H_3, tw_3, B7_3⟩
   refine wp_sr ?_
   refine wl_pq F41 (ex_bin (v := (.bool false)) h54_41 h53_41 ((bo_ltn xs.length xs.length _).trans (by rw [decide_eq_false (by omega)]))) fun a42 u42 F42 h55_42 => ?_
   change Code.wp _ _ _ _ _
   refine wp_seq ?_
   refine wp_cond_false h55_42 ?_
   refine wp_exit ?_
   try simp only [Exit.then]
   refine inBlock_exit ?_
   change Code.wp _ _ _ _ _
   refine wp_sr ?_
   refine wl_pq F42 (ex_as (v := (.slice none 0 0)) rfl) fun a43 u43 F43 h17_43 => ?_
   change Code.wp _ _ _ _ _
   refine wp_seq ?_
   refine wp_sr ?_
   refine wl_pq F43 (ex_mv (u43.w (u42.w h10_41))) fun a44 u44 F44 h72_44 => ?_
   rw [List.take_length] at H_3 tw_3
   obtain ⟨g, hd, ms, kp, mp, arr, H_3⟩ := H_3
   refine wl_cl (args := #[(pt b)]) (R := fun v w' => ∃ ls ba, GR w' ba 90 pt v ls ∧ (∀ x, x ∈ ls → x ∈ ms) ∧ ls.length ≤ 24 ∧ Kt w3.heap.size [90] w3 w') (ex_cl (fun _ _ => by kernel_rfl) (arg1 h72_44)) ((gas_any H_3 (by have := (hO0.execs xs hxs).p12; omega)).mono fun _ _ ⟨v, xs, ba, h, r⟩ => ⟨v, h, xs, ba, r⟩) F44.l ?_
   rintro pv w4 ⟨ls, ba, vr_4, hls, hll, KK⟩
   have B7_4 := B7_3.bl KK.bel
   have K_4 := K_3.into KK hw rfl (by decide)
   have tw_4 := tw_3.bl KK.bel
   have H_4 := H_3.bl KK.bel
   have Ha := H_4
   have va := vr_4
   have ta := tw_4
   have B7a := B7_4
   have Ka := K_4
   have hwa : w4.heap.size ≤ w4.heap.size := Nat.le_refl _
   have K2_4 := Kt.refl w4.heap.size [9] w4
   intro a45 u45 h73_45
   have F45 := F44.pt u45
   clear K_3 tw_3 H_3 KK H_4 vr_4 tw_4 K_4
   refine wl_pq F45 (ex_bi (w' := w4) (args := #[pv]) (v := (.int .i64 ls.length)) (arg1 h73_45) (va.len (by intros; kernel_rfl) (by intros; kernel_rfl) _)) fun a46 u46 F46 h74_46 => ?_
   refine wl_pq F46 (ex_mv (v := (.int .i64 0)) rfl) fun a47 u47 F47 h75_47 => ?_
   change Code.wp _ _ _ _ _
   have us_4 : GR w4 w4.heap.size 9 Value.string (.slice none 0 0) ([] : List ByteArray) := GR.nil
   have h10_47 := u47.w (u46.w (u45.w (u44.w (u43.w (u42.w h10_41)))))
   have h7_47 := u47.w (u46.w (u45.w (u44.w (u43.w (u42.w h7_41)))))
   have h12_47 := u47.w (u46.w (u45.w (u44.w (u43.w (u42.w h12_41)))))
   have h17_47 := u47.w (u46.w (u45.w (u44.w h17_43)))
   refine loop_k (si := 75) (ty := .i64) (m := ls.length) (fun (j : Nat) a w => ∃ uv2 : Value, ∃ ul : List ByteArray, (Fz 93 a) ∧ (a.tmps.getD 75 undef = .int .i64 j) ∧ (a.tmps.getD 10 undef = (pt b)) ∧ (a.tmps.getD 73 undef = pv) ∧ (a.tmps.getD 74 undef = (.int .i64 ls.length)) ∧ (a.tmps.getD 7 undef = (.pointer (some ⟨g7, 0, none⟩))) ∧ (a.tmps.getD 12 undef = tv) ∧ (a.tmps.getD 17 undef = uv2) ∧ (Kt w4.heap.size [9] w4 w) ∧ (GR w w4.heap.size 9 Value.string uv2 ul) ∧ (ul.length ≤ j)) ⟨.slice none 0 0, ([] : List ByteArray), F47, h75_47, h10_47, (u47.w (u46.w h73_45)), (u47.w h74_46), h7_47, h12_47, h17_47, K2_4, us_4, (by simp)⟩ (fun _ _ _ ⟨_, _, h⟩ => h.2.1) ?_ ?_
   · clear K2_4
     intro j a48 w5 hj ⟨uv2, ul, F48, h75_48, h10_48, h73_48, h74_48, h7_48, h12_48, h17_48, K2_5, us_5, hn_5⟩ R hR
     obtain ⟨m, hm⟩ : ∃ m, ls[j]? = some m := ⟨_, List.getElem?_eq_getElem hj⟩
     obtain ⟨i, hi⟩ := List.mem_iff_getElem?.1 (hls m (List.mem_of_getElem? hm))
     have hil := (List.getElem?_eq_some_iff.1 hi).1
     obtain ⟨s, hs1⟩ : ∃ s, (d0.execs xs).segs[i]? = some s := ⟨_, List.getElem?_eq_getElem (by rw [← Ha.fms.1]; exact hil)⟩
     obtain ⟨n, hn1⟩ : ∃ n, (d0.execs xs).nums[i]? = some n := ⟨_, List.getElem?_eq_getElem (by rw [Ha.fms.2.1, ← Ha.fms.1]; exact hil)⟩
     obtain ⟨kp2, mp2, _, Bm_5, _, _⟩ := (Ha.fms.bl K2_5.bel).2.2 i s n m hs1 hn1 hi
     refine wp_sr ?_
     refine wl_pq F48 (ex_bin (v := (.bool true)) h75_48 h74_48 ((bo_ltn j ls.length _).trans (by rw [decide_eq_true (by omega)]))) fun a49 u49 F49 h76_49 => ?_
     change Code.wp _ _ _ _ _
     refine wp_seq ?_
     refine wp_cond_true h76_49 ?_
     refine wp_skip ?_
     change Code.wp _ _ _ _ _
     refine wp_seq ?_
     refine wp_block ?_
     refine wp_sr ?_
     obtain ⟨gp, up, cp, hv2, hcl2⟩ := (va.bl K2_5.bel).elem hm
     refine wl_pq F49 (ex_ixg (vx := pv) (vy := (.int .i64 j)) (v := (.pointer (some ⟨gp, up + j, none⟩))) (u49.w h73_48) (u49.w h75_48) (by rw [hv2]; exact ix_pms gp up _ cp j hj _)) fun a50 u50 F50 h77_50 => ?_
     refine wl_pq F50 (ex_le (v := pt m) h77_50 hcl2) fun a51 u51 F51 (h78_51 : a51.tmps.getD 78 undef = (.pointer (some ⟨m, 0, none⟩))) => ?_
     refine wl_pq F51 (ex_as h78_51) fun a52 u52 F52 h19_52 => ?_
     change Code.wp _ _ _ _ _
     refine wp_sr ?_
     refine wl_pq F52 (ex_mv h19_52) fun a53 u53 F53 h79_53 => ?_
     refine wl_pq F53 (ex_bin (vy := (.pointer none)) (v := (.bool true)) h79_53 rfl (by kernel_rfl)) fun a54 u54 F54 h80_54 => ?_
     change Code.wp _ _ _ _ _
     refine wp_cond_true h80_54 ?_
     refine rg_list ?_
     have h17_54 := u54.w (u53.w (u52.w (u51.w (u50.w (u49.w h17_48)))))
     refine wl_pq F54 (ex_mv h17_54) fun a55 u55 F55 h81_55 => ?_
     have h19_55 := u55.w (u54.w (u53.w h19_52))
     refine wl_pq F55 (ex_mv h19_55) fun a56 u56 F56 h82_56 => ?_
     refine wl_pq F56 (ex_nil h82_56) fun a57 u57 F57 h83_57 => ?_
     refine wl_pq F57 (ex_fb 2 h83_57) fun a58 u58 F58 h84_58 => ?_
     refine wl_pq F58 (ex_le (v := (.string s.uri)) h84_58 (Bm_5.cell 2)) fun a59 u59 F59 h85_59 => ?_
     obtain ⟨gu, hgu⟩ : ∃ g, w5.heap.size = g := ⟨_, rfl⟩
     have ne_m_u : m ≠ gu := by have := Bm_5.lt; omega
     obtain ⟨w6, hr6, Bu_6, G6, hs6⟩ := bs_run (op := Instr.buildSlice 68 1 #[(0, (.string s.uri))]) (n := 1) (T := 9) (cs := #[(.string s.uri)]) hgu (fun _ => by kernel_rfl)
     have Bm_6 := Bm_5.gn G6
     have K2_6 := K2_5.nw hwa G6
     have us_6 := us_5.kt (Kt.of_none G6) (by decide)
     refine wl_pq F59 (ex_bs (vs := #[(0, (.string s.uri))]) (by have e0 : a59.eval (.tmp 85) = (.string s.uri) := h85_59; simp only [List.map_toArray, List.map_cons, List.map_nil, e0]) hr6) fun a60 u60 F60 (h86_60 : a60.tmps.getD 86 undef = (.slice (some ⟨gu, 0, none⟩) 1 1)) => ?_
     clear K2_5 us_5 hgu
     obtain ⟨v7, w7, hr7, us_7, G7⟩ := us_6.push (f := Value.string) (x := s.uri) (ty := 68) (c := 1) (z := .string ⟨#[]⟩) (by_ := 16) Tryd.underlying68 (by kernel_rfl) rfl (by decide) (by decide) Bu_6 rfl (K2_6.le hwa) (by have := hn_5; omega)
     have KR7 := us_6.ktof G7
     have Bm_7 := Bm_6.kt KR7 (by decide)
     have K2_7 := us_6.ktr K2_6 hwa (Nat.le_refl _) (by decide) G7
     have h81_60 := u60.w (u59.w (u58.w (u57.w (u56.w h81_55))))
     refine wl_pq F60 (ex_app h81_60 h86_60 hr7) fun a61 u61 F61 (h87_61 : a61.tmps.getD 87 undef = v7) => ?_
     clear KR7 K2_6 us_6
     refine wl_pq F61 (ex_as h87_61) fun a62 u62 F62 h17_62 => ?_
     change Code.wp _ _ _ _ _
     refine rg_list ?_
     have h75_62 := u62.w (u61.w (u60.w (u59.w (u58.w (u57.w (u56.w (u55.w (u54.w (u53.w (u52.w (u51.w (u50.w (u49.w h75_48)))))))))))))
     refine wl_pq F62 (ex_bin (vy := (.int .i64 1)) (v := (.int .i64 (j + 1 : Nat))) h75_62 rfl (bo_addn j 1 (by omega) _)) fun a63 u63 F63 h88_63 => ?_
     refine wl_pq F63 (ex_mv h88_63) fun a64 u64 F64 h75_64 => ?_
     have h10_64 := u64.w (u63.w (u62.w (u61.w (u60.w (u59.w (u58.w (u57.w (u56.w (u55.w (u54.w (u53.w (u52.w (u51.w (u50.w (u49.w h10_48)))))))))))))))
     have h73_64 := u64.w (u63.w (u62.w (u61.w (u60.w (u59.w (u58.w (u57.w (u56.w (u55.w (u54.w (u53.w (u52.w (u51.w (u50.w (u49.w h73_48)))))))))))))))
     have h74_64 := u64.w (u63.w (u62.w (u61.w (u60.w (u59.w (u58.w (u57.w (u56.w (u55.w (u54.w (u53.w (u52.w (u51.w (u50.w (u49.w h74_48)))))))))))))))
     have h7_64 := u64.w (u63.w (u62.w (u61.w (u60.w (u59.w (u58.w (u57.w (u56.w (u55.w (u54.w (u53.w (u52.w (u51.w (u50.w (u49.w h7_48)))))))))))))))
     have h12_64 := u64.w (u63.w (u62.w (u61.w (u60.w (u59.w (u58.w (u57.w (u56.w (u55.w (u54.w (u53.w (u52.w (u51.w (u50.w (u49.w h12_48)))))))))))))))
     exact hR _ _ ⟨v7, (ul ++ [s.uri]), F64, h75_64, h10_64, h73_64, h74_64, h7_64, h12_64, (u64.w (u63.w h17_62)), K2_7, us_7, (by rw [List.length_append]; have := hn_5; simp only [List.length_cons, List.length_nil]; omega)⟩
   · clear K2_4
     intro a48 w5 ⟨uv2, ul, F48, h75_48, h10_48, h73_48, h74_48, h7_48, h12_48, h17_48, K2_5, us_5, hn_5⟩
     refine wp_sr ?_
     refine wl_pq F48 (ex_bin (v := (.bool false)) h75_48 h74_48 ((bo_ltn ls.length ls.length _).trans (by rw [decide_eq_false (by omega)]))) fun a49 u49 F49 h76_49 => ?_
     change Code.wp _ _ _ _ _
     refine wp_seq ?_
     refine wp_cond_false h76_49 ?_
     refine wp_exit ?_
     try simp only [Exit.then]
     refine inBlock_exit ?_
     change Code.wp _ _ _ _ _
     refine wp_sr ?_
     refine wl_pq F49 (ex_mv (u49.w h12_48)) fun a50 u50 F50 h89_50 => ?_
     refine wl_pq F50 (ex_mv (u50.w (u49.w h10_48))) fun a51 u51 F51 h90_51 => ?_
     refine wl_cl (args := #[(pt b)]) (R := fun v w' => ∃ iv kv mv ba, v = .agg (medC (d0.execs xs) iv kv mv) ∧ ISR w' ba iv ((d0.execs xs).nums.zip (d0.execs xs).segs) ∧ KeySl w' kv (d0.execs xs).key ∧ MapSl w' mv (d0.execs xs).map ∧ Kt w5.heap.size DM w5 w') (ex_cl (fun _ _ => by kernel_rfl) (arg1 h90_51)) ((mediaof_any (Ha.bl K2_5.bel) (hO0.execs xs hxs).p12 (by have := (hO0.execs xs hxs).ver; omega) (by have h1 := (hO0.execs xs hxs).p12; have h2 := (hO0.execs xs hxs).wr; omega)).mono fun _ _ ⟨iv, kv, mv, ba, h, r⟩ => ⟨_, h, iv, kv, mv, ba, rfl, r⟩) F51.l ?_
     rintro v w6 ⟨iv, kv, mv, bi, rfl, is_6, sk_6, sm_6, KK⟩
     have B7_6 := (B7a.bl K2_5.bel).bl KK.bel
     have tw_6 := (ta.bl K2_5.bel).bl KK.bel
     have K_6 := (Ka.into K2_5 hw rfl (by decide)).into KK hw rfl (by decide)
     obtain ⟨iva, ivn, ivc, rfl⟩ := is_6.shape
     obtain ⟨kva, kvn, kvc, rfl⟩ := sk_6.shape
     obtain ⟨mva, mvn, mvc, rfl⟩ := sm_6.shape
     intro a52 u52 h91_52
     have F52 := F51.pt u52
     clear KK K2_5 us_5
     have h17_52 := u52.w (u51.w (u50.w (u49.w h17_48)))
     refine wl_pq F52 (ex_mv h17_52) fun a53 u53 F53 h92_53 => ?_
     have h89_53 := u53.w (u52.w (u51.w h89_50))
     refine wl_pq F53 (ex_as h89_53) fun a54 u54 F54 h6_54 => ?_
     obtain ⟨w7, hr7, B7_7, G7⟩ := sta_run (T := 67) (cs := #[(.float .f64 (fn (d0.execs xs).tgt)), (.int .u64 (d0.execs xs).seq), (.slice iva ivn ivc), (.string { data := #[] }), (.bool (d0.execs xs).ifr), (.bool (d0.execs xs).clo), (.int .i64 0), (.int .u64 0), (.float .f64 0), (.bool false), (.int .i64 (d0.execs xs).ver), (.slice kva kvn kvc), (.slice mva mvn mvc), (.int .i64 (d0.execs xs).written)]) (fun _ => by kernel_rfl) B7_6 rfl rfl (by simp [Value.oneCell'])
     have is_7 := is_6.kt (Kt.of_blk B7_6 G7) (by decide) (by decide) (by decide)
     have sk_7 := sk_6.kt (Kt.of_blk B7_6 G7) (by decide)
     have sm_7 := sm_6.kt (Kt.of_blk B7_6 G7) (by decide)
     have tw_7 := tw_6.kt (Kt.of_blk B7_6 G7) (by decide)
     have K_7 := K_6.blk hw B7_6 (ge7) (by decide) G7
     have h7_54 := u54.w (u53.w (u52.w (u51.w (u50.w (u49.w h7_48)))))
     refine wl_n (ex_st h7_54 (u54.w (u53.w h91_52)) hr7) ?_
     clear is_6 tw_6 K_6
     refine wl_pq F54 (ex_as (u54.w h92_53)) fun a55 u55 F55 h8_55 => ?_
     refine wl_pq F55 (ex_as (v := (.bool true)) rfl) fun a56 u56 F56 h9_56 => ?_
     change Code.wp _ _ _ _ _
     refine wp_ret ?_
     try simp only [Exit.then, Exit.inBlock]
     subst hd0
     refine bodyPost_ret (v := .tuple #[tv, .agg #[(.float .f64 (fn ((⟨p, wr, 3, 0, 0, false, false, none, none, [], []⟩ : WinD).execs xs).tgt)), (.int .u64 ((⟨p, wr, 3, 0, 0, false, false, none, none, [], []⟩ : WinD).execs xs).seq), (.slice iva ivn ivc), (.string { data := #[] }), (.bool ((⟨p, wr, 3, 0, 0, false, false, none, none, [], []⟩ : WinD).execs xs).ifr), (.bool ((⟨p, wr, 3, 0, 0, false, false, none, none, [], []⟩ : WinD).execs xs).clo), (.int .i64 0), (.int .u64 0), (.float .f64 0), (.bool false), (.int .i64 ((⟨p, wr, 3, 0, 0, false, false, none, none, [], []⟩ : WinD).execs xs).ver), (.slice kva kvn kvc), (.slice mva mvn mvc), (.int .i64 ((⟨p, wr, 3, 0, 0, false, false, none, none, [], []⟩ : WinD).execs xs).written)], uv2, (.bool true)]) ?_ F56.defers ⟨_, _, _, _, _, _, rfl, tw_7, is_7, sk_7, sm_7, K_7.bel⟩
     exact results_mix rfl _ _ (u56.w (u55.w h6_54)) (u56.w (u55.w h7_54)) B7_7 (u56.w h8_55) h9_56 (by kernel_rfl)
end Go.Proofs.YtdpebhlkgmopkaaDoor
