/-
 FnSteps: the law's comparison of the whole playlists.
-/
import Derived.Test.YtdpebhlkgmopkaaDoorFno
namespace Go.Proofs.YtdpebhlkgmopkaaDoor
open Go.RowKit
set_option maxRecDepth 100000
noncomputable def r59 : Array Oper := match cat [1, 1, 1, 1, 1, 1, 1, 1, 1, 0, 0] fsB with
 | .region _ ops _ => ops
 | _ => #[]
theorem r59_ns : Region.noSelect r59 = true := by kernel_rfl
def Lk (k : Nat) : Array Bool := (List.replicate k true ++ List.replicate (95 - k) false).toArray
section
variable {ops ops2 : Array Oper} {S : World → Prop} {K : Act → World → Prop} {a : Act} {w : World} {n : Nat} {l : Array Bool}
theorem tree_q0 {l2 : Array Bool} (h : ops = ops2) (hl : l = l2) (hK : Tree ops2 S K n l2 a w) : Tree ops S K n l a w := by
 subst h
 subst hl
 exact hK
theorem Lk_set (k : Nat) (h : k < 95) : (Lk k).setIfInBounds k true = Lk (k + 1) := by
 unfold Lk
 rw [show 95 - k = 95 - (k + 1) + 1 by omega, List.replicate_succ, List.setIfInBounds_toArray, List.set_append_right _ _ (by simp), List.length_replicate, Nat.sub_self, List.set_cons_zero, List.replicate_succ', List.append_assoc]
 rfl
noncomputable def ck (k : Nat) : Bool := Region.free .any r59 (Lk k) k && rdy r59 (Lk k) k
variable {i k : Nat} {q : Bool} {v : Value} {d : Tmp} {op : Op} {ty : TypeId} {p : String} {af : Array Edge}
theorem tree_ckh (h0 : r59[k]? = some ⟨some d, op, ty, p, af, none⟩) (hc : ck k = true) (hk : k < 95) (hrun : ∀ w, S w → (execOp a.eval ⟨some d, op, ty, p, af, none⟩).run Tryd.prog w = .ok (.value v) w) (hS : S w) (hsz : d < a.tmps.size)
   (hK : ∀ a', Pt d a a' → a'.tmps.getD d undef = v → Tree r59 S K n (Lk (k + 1)) a' w) : Tree r59 S K (n + 1) (Lk k) a w := by
 unfold ck at hc
 rw [Bool.and_eq_true] at hc
 exact tree_takeh r59_ns h0 hc.1 hc.2 hrun hS hsz (by rw [Lk_set k hk]; exact hK)
theorem tree_cki (h0 : r59[k]? = some ⟨some d, op, ty, p, af, some (i, q)⟩) (hc : ck k = true) (hk : k < 95) (hg : yielded r59 a.tmps i = some q) (hrun : ∀ w, S w → (execOp a.eval ⟨some d, op, ty, p, af, some (i, q)⟩).run Tryd.prog w = .ok (.value v) w) (hS : S w) (hsz : d < a.tmps.size)
   (hK : ∀ a', Pt d a a' → a'.tmps.getD d undef = v → Tree r59 S K n (Lk (k + 1)) a' w) : Tree r59 S K (n + 1) (Lk k) a w := by
 unfold ck at hc
 rw [Bool.and_eq_true] at hc
 exact tree_takei r59_ns h0 hc.1 hc.2 hg hrun hS hsz (by rw [Lk_set k hk]; exact hK)
end
theorem ckg0 : ∀ x ∈ ([0, 1, 2, 3, 4, 5, 6, 7, 8, 9] : List Nat), ck x = true := List.all_eq_true.1 (by kernel_rfl)
theorem ckg1 : ∀ x ∈ ([10, 11, 12, 13, 14, 15, 16, 17, 18, 19] : List Nat), ck x = true := List.all_eq_true.1 (by kernel_rfl)
theorem ckg2 : ∀ x ∈ ([20, 21, 22, 23, 24, 25, 26, 27, 28, 29] : List Nat), ck x = true := List.all_eq_true.1 (by kernel_rfl)
theorem ckg3 : ∀ x ∈ ([30, 31, 32, 33, 34, 35, 36, 37, 38, 39] : List Nat), ck x = true := List.all_eq_true.1 (by kernel_rfl)
theorem ckg4 : ∀ x ∈ ([40, 41, 42, 43, 44, 45, 46, 47, 48, 49] : List Nat), ck x = true := List.all_eq_true.1 (by kernel_rfl)
theorem ckg5 : ∀ x ∈ ([50, 51, 52, 53, 54, 55, 56, 57, 58, 59] : List Nat), ck x = true := List.all_eq_true.1 (by kernel_rfl)
theorem ckg6 : ∀ x ∈ ([60, 61, 62, 63, 64, 65, 66, 67, 68, 69] : List Nat), ck x = true := List.all_eq_true.1 (by kernel_rfl)
theorem ckg7 : ∀ x ∈ ([70, 71, 72, 73, 74, 75, 76, 77, 78, 79] : List Nat), ck x = true := List.all_eq_true.1 (by kernel_rfl)
theorem ckg8 : ∀ x ∈ ([80, 81, 83, 84, 85, 86, 87, 88, 89] : List Nat), ck x = true := List.all_eq_true.1 (by kernel_rfl)
theorem ckg9 : ∀ x ∈ ([90, 91, 93, 94] : List Nat), ck x = true := List.all_eq_true.1 (by kernel_rfl)
theorem rd59_82 : Region.ready .any r59 (Lk 82) = [82] := by kernel_rfl
theorem rd59_92 : Region.ready .any r59 (Lk 92) = [92] := by kernel_rfl
theorem rd59_95 : Region.ready .any r59 (Lk 95) = [] := by kernel_rfl
set_option maxHeartbeats 800000 in
theorem fs_cmp {len wb k9 : Nat} {d0 : WinD} {xs : List StepD} {wv tv swv nwv : Value} {kpw mpw : Option Nat} {iva kva mva : Option Addr} {ivn ivc kvn kvc mvn mvc g22 bb bi : Nat} {w0 w1 : World} {a1 : Act} {KK : Act → World → Prop} (hw : w0.heap.size ≤ w0.heap.size) (hOx : (d0.execs xs).Ok k9) (F1 : Fz 358 a1) (h9_1 : a1.tmps.getD 9 undef = pt wb) (h11_1 : a1.tmps.getD 11 undef = wv) (h21_1 : a1.tmps.getD 21 undef = tv) (h22_1 : a1.tmps.getD 22 undef = pt g22) (h24_1 : a1.tmps.getD 24 undef = .bool true) (B22_1 : Blk w1 g22 67 #[(.float .f64 (fn (d0.execs xs).tgt)), (.int .u64 (d0.execs xs).seq), (.slice iva ivn ivc), (.string { data := #[] }), (.bool (d0.execs xs).ifr), (.bool (d0.execs xs).clo), (.int .i64 0), (.int .u64 0), (.float .f64 0), (.bool false), (.int .i64 (d0.execs xs).ver), (.slice kva kvn kvc), (.slice mva mvn mvc), (.int .i64 (d0.execs xs).written)]) (Bw_1 : Blk w1 wb 51 #[(.int .i64 (d0.execs xs).places), (.int .i64 (d0.execs xs).written), (.int .i64 (d0.execs xs).ver), (.int .u64 (d0.execs xs).seq), (.int .i64 (d0.execs xs).tgt), (.bool (d0.execs xs).clo), (.bool (d0.execs xs).ifr), (pto kpw), (pto mpw), swv, nwv]) (Q_1 : Below w0.heap.size w0 w1) (wr_1 : GR w1 w0.heap.size 4 Value.bool wv (d0.tolds xs)) (tv_1 : GR w1 bb 4 Value.bool tv (d0.tolds xs)) (is_1 : ISR w1 bi (.slice iva ivn ivc) ((d0.execs xs).nums.zip (d0.execs xs).segs)) (sk_1 : KeySl w1 (.slice kva kvn kvc) (d0.execs xs).key) (sm_1 : MapSl w1 (.slice mva mvn mvc) (d0.execs xs).map) (kw_1 : SKey w1 kpw (d0.execs xs).key) (mw_1 : SMap w1 mpw (d0.execs xs).map) (sw_1 : SW w1 w0.heap.size swv (d0.execs xs).segs) (nw_1 : NW w1 w0.heap.size nwv (d0.execs xs).nums) (hK : ∀ (a' : Act) (w' : World), Fz 358 a' → a'.tmps.getD 9 undef = pt wb → a'.tmps.getD 11 undef = wv → a'.tmps.getD 21 undef = tv → a'.tmps.getD 22 undef = pt g22 → a'.tmps.getD 316 undef = .bool false → Blk w' g22 67 #[(.float .f64 (fn (d0.execs xs).tgt)), (.int .u64 (d0.execs xs).seq), (.slice iva ivn ivc), (.string { data := #[] }), (.bool (d0.execs xs).ifr), (.bool (d0.execs xs).clo), (.int .i64 0), (.int .u64 0), (.float .f64 0), (.bool false), (.int .i64 (d0.execs xs).ver), (.slice kva kvn kvc), (.slice mva mvn mvc), (.int .i64 (d0.execs xs).written)] → Blk w' wb 51 #[(.int .i64 (d0.execs xs).places), (.int .i64 (d0.execs xs).written), (.int .i64 (d0.execs xs).ver), (.int .u64 (d0.execs xs).seq), (.int .i64 (d0.execs xs).tgt), (.bool (d0.execs xs).clo), (.bool (d0.execs xs).ifr), (pto kpw), (pto mpw), swv, nwv] → Below w0.heap.size w0 w' → GR w' w0.heap.size 4 Value.bool wv (d0.tolds xs) → GR w' bb 4 Value.bool tv (d0.tolds xs) → ISR w' bi (.slice iva ivn ivc) ((d0.execs xs).nums.zip (d0.execs xs).segs) → KeySl w' (.slice kva kvn kvc) (d0.execs xs).key → MapSl w' (.slice mva mvn mvc) (d0.execs xs).map → SKey w' kpw (d0.execs xs).key → SMap w' mpw (d0.execs xs).map → SW w' w0.heap.size swv (d0.execs xs).segs → NW w' w0.heap.size nwv (d0.execs xs).nums → KK a' w') : Tree r59 (fun w' => Blk w' g22 67 #[(.float .f64 (fn (d0.execs xs).tgt)), (.int .u64 (d0.execs xs).seq), (.slice iva ivn ivc), (.string { data := #[] }), (.bool (d0.execs xs).ifr), (.bool (d0.execs xs).clo), (.int .i64 0), (.int .u64 0), (.float .f64 0), (.bool false), (.int .i64 (d0.execs xs).ver), (.slice kva kvn kvc), (.slice mva mvn mvc), (.int .i64 (d0.execs xs).written)] ∧ Blk w' wb 51 #[(.int .i64 (d0.execs xs).places), (.int .i64 (d0.execs xs).written), (.int .i64 (d0.execs xs).ver), (.int .u64 (d0.execs xs).seq), (.int .i64 (d0.execs xs).tgt), (.bool (d0.execs xs).clo), (.bool (d0.execs xs).ifr), (pto kpw), (pto mpw), swv, nwv]) KK 95 (Lk 0) a1 w1 := by
 refine tree_ckh (k := 0) rfl (ckg0 0 (by decide)) (by decide) (fun w hw => ex_mv h24_1) (⟨B22_1, Bw_1⟩) F1.l fun a2 u2 h222_2 => ?_
 have F2 := F1.pt u2
 refine tree_ckh (k := 1) rfl (ckg0 1 (by decide)) (by decide) (fun w hw => ex_un (vx := (.bool true)) (v := (.bool false)) h222_2 rfl) (⟨B22_1, Bw_1⟩) F2.l fun a3 u3 h223_3 => ?_
 have F3 := F2.pt u3
 refine tree_ckh (k := 2) rfl (ckg0 2 (by decide)) (by decide) (fun w hw => ex_mv h223_3) (⟨B22_1, Bw_1⟩) F3.l fun a4 u4 h224_4 => ?_
 have F4 := F3.pt u4
 have h21_4 := u4.w (u3.w (u2.w h21_1))
 refine tree_cki (k := 3) rfl (ckg0 3 (by decide)) (by decide) (yl (e := 224) rfl h224_4) (fun w hw => ex_mv h21_4) (⟨B22_1, Bw_1⟩) F4.l fun a5 u5 h225_5 => ?_
 have F5 := F4.pt u5
 refine tree_cki (k := 4) rfl (ckg0 4 (by decide)) (by decide) (yl (e := 224) rfl (u5.w h224_4)) (fun w hw => ex_bi (w' := w) (args := #[tv]) (v := (.int .i64 (d0.tolds xs).length)) (arg1 h225_5) (tv_1.len (by intros; kernel_rfl) (by intros; kernel_rfl) _)) (⟨B22_1, Bw_1⟩) F5.l fun a6 u6 h226_6 => ?_
 have F6 := F5.pt u6
 have h11_6 := u6.w (u5.w (u4.w (u3.w (u2.w h11_1))))
 refine tree_cki (k := 5) rfl (ckg0 5 (by decide)) (by decide) (yl (e := 224) rfl (u6.w (u5.w h224_4))) (fun w hw => ex_mv h11_6) (⟨B22_1, Bw_1⟩) F6.l fun a7 u7 h227_7 => ?_
 have F7 := F6.pt u7
 have h224_7 := u7.w (u6.w (u5.w h224_4))
 refine tree_cki (k := 6) rfl (ckg0 6 (by decide)) (by decide) (yl (e := 224) rfl h224_7) (fun w hw => ex_bi (w' := w) (args := #[wv]) (v := (.int .i64 (d0.tolds xs).length)) (arg1 h227_7) (wr_1.len (by intros; kernel_rfl) (by intros; kernel_rfl) _)) (⟨B22_1, Bw_1⟩) F7.l fun a8 u8 h228_8 => ?_
 have F8 := F7.pt u8
 refine tree_cki (k := 7) rfl (ckg0 7 (by decide)) (by decide) (yl (e := 224) rfl (u8.w h224_7)) (fun w hw => ex_bin (v := (.bool false)) (u8.w (u7.w h226_6)) h228_8 (ne_int (d0.tolds xs).length _)) (⟨B22_1, Bw_1⟩) F8.l fun a9 u9 h229_9 => ?_
 have F9 := F8.pt u9
 refine tree_ckh (k := 8) rfl (ckg0 8 (by decide)) (by decide) (fun w hw => ex_pick (q := false) (u9.w (u8.w h224_7)) h229_9) (⟨B22_1, Bw_1⟩) F9.l fun a10 u10 h230_10 => ?_
 have F10 := F9.pt u10
 refine tree_ckh (k := 9) rfl (ckg0 9 (by decide)) (by decide) (fun w hw => ex_mv h230_10) (⟨B22_1, Bw_1⟩) F10.l fun a11 u11 h231_11 => ?_
 have F11 := F10.pt u11
 have h22_11 := u11.w (u10.w (u9.w (u8.w (u7.w (u6.w (u5.w (u4.w (u3.w (u2.w h22_1)))))))))
 refine tree_cki (k := 10) rfl (ckg1 10 (by decide)) (by decide) (yl (e := 231) rfl h231_11) (fun w hw => ex_fb 2 h22_11) (⟨B22_1, Bw_1⟩) F11.l fun a12 u12 h232_12 => ?_
 have F12 := F11.pt u12
 refine tree_cki (k := 11) rfl (ckg1 11 (by decide)) (by decide) (yl (e := 231) rfl (u12.w h231_11)) (fun w hw => ex_le (v := (.slice iva ivn ivc)) h232_12 (hw.1.cell 2)) (⟨B22_1, Bw_1⟩) F12.l fun a13 u13 h233_13 => ?_
 have F13 := F12.pt u13
 refine tree_cki (k := 12) rfl (ckg1 12 (by decide)) (by decide) (yl (e := 231) rfl (u13.w (u12.w h231_11))) (fun w hw => ex_bi (w' := w) (args := #[(.slice iva ivn ivc)]) (v := (.int .i64 (d0.execs xs).segs.length)) (arg1 h233_13) ((is_1.len (by intros; kernel_rfl) (by intros; kernel_rfl) _).trans (by rw [zip_len hOx.len]))) (⟨B22_1, Bw_1⟩) F13.l fun a14 u14 h234_14 => ?_
 have F14 := F13.pt u14
 have h231_14 := u14.w (u13.w (u12.w h231_11))
 have h9_14 := u14.w (u13.w (u12.w (u11.w (u10.w (u9.w (u8.w (u7.w (u6.w (u5.w (u4.w (u3.w (u2.w h9_1))))))))))))
 refine tree_cki (k := 13) rfl (ckg1 13 (by decide)) (by decide) (yl (e := 231) rfl h231_14) (fun w hw => ex_mv h9_14) (⟨B22_1, Bw_1⟩) F14.l fun a15 u15 h235_15 => ?_
 have F15 := F14.pt u15
 refine tree_cki (k := 14) rfl (ckg1 14 (by decide)) (by decide) (yl (e := 231) rfl (u15.w h231_14)) (fun w hw => ex_nil h235_15) (⟨B22_1, Bw_1⟩) F15.l fun a16 u16 h236_16 => ?_
 have F16 := F15.pt u16
 refine tree_cki (k := 15) rfl (ckg1 15 (by decide)) (by decide) (yl (e := 231) rfl (u16.w (u15.w h231_14))) (fun w hw => ex_fb 9 h236_16) (⟨B22_1, Bw_1⟩) F16.l fun a17 u17 h237_17 => ?_
 have F17 := F16.pt u17
 have h231_17 := u17.w (u16.w (u15.w h231_14))
 refine tree_cki (k := 16) rfl (ckg1 16 (by decide)) (by decide) (yl (e := 231) rfl h231_17) (fun w hw => ex_le (v := swv) h237_17 (hw.2.cell 9)) (⟨B22_1, Bw_1⟩) F17.l fun a18 u18 h238_18 => ?_
 have F18 := F17.pt u18
 refine tree_cki (k := 17) rfl (ckg1 17 (by decide)) (by decide) (yl (e := 231) rfl (u18.w h231_17)) (fun w hw => ex_bi (w' := w) (args := #[swv]) (v := (.int .i64 (d0.execs xs).segs.length)) (arg1 h238_18) (sw_1.len _)) (⟨B22_1, Bw_1⟩) F18.l fun a19 u19 h239_19 => ?_
 have F19 := F18.pt u19
 have h234_19 := u19.w (u18.w (u17.w (u16.w (u15.w h234_14))))
 refine tree_cki (k := 18) rfl (ckg1 18 (by decide)) (by decide) (yl (e := 231) rfl (u19.w (u18.w h231_17))) (fun w hw => ex_bin (v := (.bool false)) h234_19 h239_19 (ne_int (d0.execs xs).segs.length _)) (⟨B22_1, Bw_1⟩) F19.l fun a20 u20 h240_20 => ?_
 have F20 := F19.pt u20
 have h231_20 := u20.w (u19.w (u18.w h231_17))
 refine tree_ckh (k := 19) rfl (ckg1 19 (by decide)) (by decide) (fun w hw => ex_pick (q := false) h231_20 h240_20) (⟨B22_1, Bw_1⟩) F20.l fun a21 u21 h241_21 => ?_
 have F21 := F20.pt u21
 refine tree_ckh (k := 20) rfl (ckg2 20 (by decide)) (by decide) (fun w hw => ex_mv h241_21) (⟨B22_1, Bw_1⟩) F21.l fun a22 u22 h242_22 => ?_
 have F22 := F21.pt u22
 have h22_22 := u22.w (u21.w (u20.w (u19.w (u18.w (u17.w (u16.w (u15.w (u14.w (u13.w (u12.w h22_11))))))))))
 refine tree_cki (k := 21) rfl (ckg2 21 (by decide)) (by decide) (yl (e := 242) rfl h242_22) (fun w hw => ex_fb 1 h22_22) (⟨B22_1, Bw_1⟩) F22.l fun a23 u23 h243_23 => ?_
 have F23 := F22.pt u23
 refine tree_cki (k := 22) rfl (ckg2 22 (by decide)) (by decide) (yl (e := 242) rfl (u23.w h242_22)) (fun w hw => ex_le (v := (.int .u64 (d0.execs xs).seq)) h243_23 (hw.1.cell 1)) (⟨B22_1, Bw_1⟩) F23.l fun a24 u24 h244_24 => ?_
 have F24 := F23.pt u24
 have h9_24 := u24.w (u23.w (u22.w (u21.w (u20.w (u19.w (u18.w (u17.w (u16.w (u15.w h9_14)))))))))
 refine tree_cki (k := 23) rfl (ckg2 23 (by decide)) (by decide) (yl (e := 242) rfl (u24.w (u23.w h242_22))) (fun w hw => ex_mv h9_24) (⟨B22_1, Bw_1⟩) F24.l fun a25 u25 h245_25 => ?_
 have F25 := F24.pt u25
 have h242_25 := u25.w (u24.w (u23.w h242_22))
 refine tree_cki (k := 24) rfl (ckg2 24 (by decide)) (by decide) (yl (e := 242) rfl h242_25) (fun w hw => ex_nil h245_25) (⟨B22_1, Bw_1⟩) F25.l fun a26 u26 h246_26 => ?_
 have F26 := F25.pt u26
 refine tree_cki (k := 25) rfl (ckg2 25 (by decide)) (by decide) (yl (e := 242) rfl (u26.w h242_25)) (fun w hw => ex_fb 3 h246_26) (⟨B22_1, Bw_1⟩) F26.l fun a27 u27 h247_27 => ?_
 have F27 := F26.pt u27
 refine tree_cki (k := 26) rfl (ckg2 26 (by decide)) (by decide) (yl (e := 242) rfl (u27.w (u26.w h242_25))) (fun w hw => ex_le (v := (.int .u64 (d0.execs xs).seq)) h247_27 (hw.2.cell 3)) (⟨B22_1, Bw_1⟩) F27.l fun a28 u28 h248_28 => ?_
 have F28 := F27.pt u28
 have h242_28 := u28.w (u27.w (u26.w h242_25))
 have h244_28 := u28.w (u27.w (u26.w (u25.w h244_24)))
 refine tree_cki (k := 27) rfl (ckg2 27 (by decide)) (by decide) (yl (e := 242) rfl h242_28) (fun w hw => ex_bin (v := (.bool false)) h244_28 h248_28 (ne_int (d0.execs xs).seq _)) (⟨B22_1, Bw_1⟩) F28.l fun a29 u29 h249_29 => ?_
 have F29 := F28.pt u29
 refine tree_ckh (k := 28) rfl (ckg2 28 (by decide)) (by decide) (fun w hw => ex_pick (q := false) (u29.w h242_28) h249_29) (⟨B22_1, Bw_1⟩) F29.l fun a30 u30 h250_30 => ?_
 have F30 := F29.pt u30
 refine tree_ckh (k := 29) rfl (ckg2 29 (by decide)) (by decide) (fun w hw => ex_mv h250_30) (⟨B22_1, Bw_1⟩) F30.l fun a31 u31 h251_31 => ?_
 have F31 := F30.pt u31
 have h22_31 := u31.w (u30.w (u29.w (u28.w (u27.w (u26.w (u25.w (u24.w (u23.w h22_22))))))))
 refine tree_cki (k := 30) rfl (ckg3 30 (by decide)) (by decide) (yl (e := 251) rfl h251_31) (fun w hw => ex_fb 0 h22_31) (⟨B22_1, Bw_1⟩) F31.l fun a32 u32 h252_32 => ?_
 have F32 := F31.pt u32
 refine tree_cki (k := 31) rfl (ckg3 31 (by decide)) (by decide) (yl (e := 251) rfl (u32.w h251_31)) (fun w hw => ex_le (v := (.float .f64 (fn (d0.execs xs).tgt))) h252_32 (hw.1.cell 0)) (⟨B22_1, Bw_1⟩) F32.l fun a33 u33 h253_33 => ?_
 have F33 := F32.pt u33
 have h9_33 := u33.w (u32.w (u31.w (u30.w (u29.w (u28.w (u27.w (u26.w (u25.w h9_24))))))))
 refine tree_cki (k := 32) rfl (ckg3 32 (by decide)) (by decide) (yl (e := 251) rfl (u33.w (u32.w h251_31))) (fun w hw => ex_mv h9_33) (⟨B22_1, Bw_1⟩) F33.l fun a34 u34 h254_34 => ?_
 have F34 := F33.pt u34
 have h251_34 := u34.w (u33.w (u32.w h251_31))
 refine tree_cki (k := 33) rfl (ckg3 33 (by decide)) (by decide) (yl (e := 251) rfl h251_34) (fun w hw => ex_nil h254_34) (⟨B22_1, Bw_1⟩) F34.l fun a35 u35 h255_35 => ?_
 have F35 := F34.pt u35
 refine tree_cki (k := 34) rfl (ckg3 34 (by decide)) (by decide) (yl (e := 251) rfl (u35.w h251_34)) (fun w hw => ex_fb 4 h255_35) (⟨B22_1, Bw_1⟩) F35.l fun a36 u36 h256_36 => ?_
 have F36 := F35.pt u36
 refine tree_cki (k := 35) rfl (ckg3 35 (by decide)) (by decide) (yl (e := 251) rfl (u36.w (u35.w h251_34))) (fun w hw => ex_le (v := (.int .i64 (d0.execs xs).tgt)) h256_36 (hw.2.cell 4)) (⟨B22_1, Bw_1⟩) F36.l fun a37 u37 h257_37 => ?_
 have F37 := F36.pt u37
 have h251_37 := u37.w (u36.w (u35.w h251_34))
 refine tree_cki (k := 36) rfl (ckg3 36 (by decide)) (by decide) (yl (e := 251) rfl h251_37) (fun w hw => ex_conv (vx := (.int .i64 (d0.execs xs).tgt)) (v := (.float .f64 (fn (d0.execs xs).tgt))) h257_37 (cv_f64 (d0.execs xs).tgt (by have := hOx.tgt; omega) _)) (⟨B22_1, Bw_1⟩) F37.l fun a38 u38 h258_38 => ?_
 have F38 := F37.pt u38
 have h253_38 := u38.w (u37.w (u36.w (u35.w (u34.w h253_33))))
 refine tree_cki (k := 37) rfl (ckg3 37 (by decide)) (by decide) (yl (e := 251) rfl (u38.w h251_37)) (fun w hw => ex_bin (v := (.bool false)) h253_38 h258_38 ((fo_ne _ _ _).trans (by rw [fn_eq (by have := hOx.tgt; omega) (by have := hOx.tgt; omega), decide_eq_true rfl]; rfl))) (⟨B22_1, Bw_1⟩) F38.l fun a39 u39 h259_39 => ?_
 have F39 := F38.pt u39
 refine tree_ckh (k := 38) rfl (ckg3 38 (by decide)) (by decide) (fun w hw => ex_pick (q := false) (u39.w (u38.w h251_37)) h259_39) (⟨B22_1, Bw_1⟩) F39.l fun a40 u40 h260_40 => ?_
 have F40 := F39.pt u40
 refine tree_ckh (k := 39) rfl (ckg3 39 (by decide)) (by decide) (fun w hw => ex_mv h260_40) (⟨B22_1, Bw_1⟩) F40.l fun a41 u41 h261_41 => ?_
 have F41 := F40.pt u41
 have h22_41 := u41.w (u40.w (u39.w (u38.w (u37.w (u36.w (u35.w (u34.w (u33.w (u32.w h22_31)))))))))
 refine tree_cki (k := 40) rfl (ckg4 40 (by decide)) (by decide) (yl (e := 261) rfl h261_41) (fun w hw => ex_fb 5 h22_41) (⟨B22_1, Bw_1⟩) F41.l fun a42 u42 h262_42 => ?_
 have F42 := F41.pt u42
 refine tree_cki (k := 41) rfl (ckg4 41 (by decide)) (by decide) (yl (e := 261) rfl (u42.w h261_41)) (fun w hw => ex_le (v := (.bool (d0.execs xs).clo)) h262_42 (hw.1.cell 5)) (⟨B22_1, Bw_1⟩) F42.l fun a43 u43 h263_43 => ?_
 have F43 := F42.pt u43
 have h9_43 := u43.w (u42.w (u41.w (u40.w (u39.w (u38.w (u37.w (u36.w (u35.w (u34.w h9_33)))))))))
 refine tree_cki (k := 42) rfl (ckg4 42 (by decide)) (by decide) (yl (e := 261) rfl (u43.w (u42.w h261_41))) (fun w hw => ex_mv h9_43) (⟨B22_1, Bw_1⟩) F43.l fun a44 u44 h264_44 => ?_
 have F44 := F43.pt u44
 have h261_44 := u44.w (u43.w (u42.w h261_41))
 refine tree_cki (k := 43) rfl (ckg4 43 (by decide)) (by decide) (yl (e := 261) rfl h261_44) (fun w hw => ex_nil h264_44) (⟨B22_1, Bw_1⟩) F44.l fun a45 u45 h265_45 => ?_
 have F45 := F44.pt u45
 refine tree_cki (k := 44) rfl (ckg4 44 (by decide)) (by decide) (yl (e := 261) rfl (u45.w h261_44)) (fun w hw => ex_fb 5 h265_45) (⟨B22_1, Bw_1⟩) F45.l fun a46 u46 h266_46 => ?_
 have F46 := F45.pt u46
 refine tree_cki (k := 45) rfl (ckg4 45 (by decide)) (by decide) (yl (e := 261) rfl (u46.w (u45.w h261_44))) (fun w hw => ex_le (v := (.bool (d0.execs xs).clo)) h266_46 (hw.2.cell 5)) (⟨B22_1, Bw_1⟩) F46.l fun a47 u47 h267_47 => ?_
 have F47 := F46.pt u47
 have h261_47 := u47.w (u46.w (u45.w h261_44))
 have h263_47 := u47.w (u46.w (u45.w (u44.w h263_43)))
 refine tree_cki (k := 46) rfl (ckg4 46 (by decide)) (by decide) (yl (e := 261) rfl h261_47) (fun w hw => ex_bin (v := (.bool false)) h263_47 h267_47 (ne_bool (d0.execs xs).clo _)) (⟨B22_1, Bw_1⟩) F47.l fun a48 u48 h268_48 => ?_
 have F48 := F47.pt u48
 refine tree_ckh (k := 47) rfl (ckg4 47 (by decide)) (by decide) (fun w hw => ex_pick (q := false) (u48.w h261_47) h268_48) (⟨B22_1, Bw_1⟩) F48.l fun a49 u49 h269_49 => ?_
 have F49 := F48.pt u49
 refine tree_ckh (k := 48) rfl (ckg4 48 (by decide)) (by decide) (fun w hw => ex_mv h269_49) (⟨B22_1, Bw_1⟩) F49.l fun a50 u50 h270_50 => ?_
 have F50 := F49.pt u50
 have h22_50 := u50.w (u49.w (u48.w (u47.w (u46.w (u45.w (u44.w (u43.w (u42.w h22_41))))))))
 refine tree_cki (k := 49) rfl (ckg4 49 (by decide)) (by decide) (yl (e := 270) rfl h270_50) (fun w hw => ex_fb 4 h22_50) (⟨B22_1, Bw_1⟩) F50.l fun a51 u51 h271_51 => ?_
 have F51 := F50.pt u51
 refine tree_cki (k := 50) rfl (ckg5 50 (by decide)) (by decide) (yl (e := 270) rfl (u51.w h270_50)) (fun w hw => ex_le (v := (.bool (d0.execs xs).ifr)) h271_51 (hw.1.cell 4)) (⟨B22_1, Bw_1⟩) F51.l fun a52 u52 h272_52 => ?_
 have F52 := F51.pt u52
 have h9_52 := u52.w (u51.w (u50.w (u49.w (u48.w (u47.w (u46.w (u45.w (u44.w h9_43))))))))
 refine tree_cki (k := 51) rfl (ckg5 51 (by decide)) (by decide) (yl (e := 270) rfl (u52.w (u51.w h270_50))) (fun w hw => ex_mv h9_52) (⟨B22_1, Bw_1⟩) F52.l fun a53 u53 h273_53 => ?_
 have F53 := F52.pt u53
 have h270_53 := u53.w (u52.w (u51.w h270_50))
 refine tree_cki (k := 52) rfl (ckg5 52 (by decide)) (by decide) (yl (e := 270) rfl h270_53) (fun w hw => ex_nil h273_53) (⟨B22_1, Bw_1⟩) F53.l fun a54 u54 h274_54 => ?_
 have F54 := F53.pt u54
 refine tree_cki (k := 53) rfl (ckg5 53 (by decide)) (by decide) (yl (e := 270) rfl (u54.w h270_53)) (fun w hw => ex_fb 6 h274_54) (⟨B22_1, Bw_1⟩) F54.l fun a55 u55 h275_55 => ?_
 have F55 := F54.pt u55
 refine tree_cki (k := 54) rfl (ckg5 54 (by decide)) (by decide) (yl (e := 270) rfl (u55.w (u54.w h270_53))) (fun w hw => ex_le (v := (.bool (d0.execs xs).ifr)) h275_55 (hw.2.cell 6)) (⟨B22_1, Bw_1⟩) F55.l fun a56 u56 h276_56 => ?_
 have F56 := F55.pt u56
 have h270_56 := u56.w (u55.w (u54.w h270_53))
 have h272_56 := u56.w (u55.w (u54.w (u53.w h272_52)))
 refine tree_cki (k := 55) rfl (ckg5 55 (by decide)) (by decide) (yl (e := 270) rfl h270_56) (fun w hw => ex_bin (v := (.bool false)) h272_56 h276_56 (ne_bool (d0.execs xs).ifr _)) (⟨B22_1, Bw_1⟩) F56.l fun a57 u57 h277_57 => ?_
 have F57 := F56.pt u57
 refine tree_ckh (k := 56) rfl (ckg5 56 (by decide)) (by decide) (fun w hw => ex_pick (q := false) (u57.w h270_56) h277_57) (⟨B22_1, Bw_1⟩) F57.l fun a58 u58 h278_58 => ?_
 have F58 := F57.pt u58
 refine tree_ckh (k := 57) rfl (ckg5 57 (by decide)) (by decide) (fun w hw => ex_mv h278_58) (⟨B22_1, Bw_1⟩) F58.l fun a59 u59 h279_59 => ?_
 have F59 := F58.pt u59
 have h22_59 := u59.w (u58.w (u57.w (u56.w (u55.w (u54.w (u53.w (u52.w (u51.w h22_50))))))))
 refine tree_cki (k := 58) rfl (ckg5 58 (by decide)) (by decide) (yl (e := 279) rfl h279_59) (fun w hw => ex_fb 10 h22_59) (⟨B22_1, Bw_1⟩) F59.l fun a60 u60 h280_60 => ?_
 have F60 := F59.pt u60
 refine tree_cki (k := 59) rfl (ckg5 59 (by decide)) (by decide) (yl (e := 279) rfl (u60.w h279_59)) (fun w hw => ex_le (v := (.int .i64 (d0.execs xs).ver)) h280_60 (hw.1.cell 10)) (⟨B22_1, Bw_1⟩) F60.l fun a61 u61 h281_61 => ?_
 have F61 := F60.pt u61
 have h9_61 := u61.w (u60.w (u59.w (u58.w (u57.w (u56.w (u55.w (u54.w (u53.w h9_52))))))))
 refine tree_cki (k := 60) rfl (ckg6 60 (by decide)) (by decide) (yl (e := 279) rfl (u61.w (u60.w h279_59))) (fun w hw => ex_mv h9_61) (⟨B22_1, Bw_1⟩) F61.l fun a62 u62 h282_62 => ?_
 have F62 := F61.pt u62
 have h279_62 := u62.w (u61.w (u60.w h279_59))
 refine tree_cki (k := 61) rfl (ckg6 61 (by decide)) (by decide) (yl (e := 279) rfl h279_62) (fun w hw => ex_nil h282_62) (⟨B22_1, Bw_1⟩) F62.l fun a63 u63 h283_63 => ?_
 have F63 := F62.pt u63
 refine tree_cki (k := 62) rfl (ckg6 62 (by decide)) (by decide) (yl (e := 279) rfl (u63.w h279_62)) (fun w hw => ex_fb 2 h283_63) (⟨B22_1, Bw_1⟩) F63.l fun a64 u64 h284_64 => ?_
 have F64 := F63.pt u64
 refine tree_cki (k := 63) rfl (ckg6 63 (by decide)) (by decide) (yl (e := 279) rfl (u64.w (u63.w h279_62))) (fun w hw => ex_le (v := (.int .i64 (d0.execs xs).ver)) h284_64 (hw.2.cell 2)) (⟨B22_1, Bw_1⟩) F64.l fun a65 u65 h285_65 => ?_
 have F65 := F64.pt u65
 have h279_65 := u65.w (u64.w (u63.w h279_62))
 have h281_65 := u65.w (u64.w (u63.w (u62.w h281_61)))
 refine tree_cki (k := 64) rfl (ckg6 64 (by decide)) (by decide) (yl (e := 279) rfl h279_65) (fun w hw => ex_bin (v := (.bool false)) h281_65 h285_65 (ne_int (d0.execs xs).ver _)) (⟨B22_1, Bw_1⟩) F65.l fun a66 u66 h286_66 => ?_
 have F66 := F65.pt u66
 refine tree_ckh (k := 65) rfl (ckg6 65 (by decide)) (by decide) (fun w hw => ex_pick (q := false) (u66.w h279_65) h286_66) (⟨B22_1, Bw_1⟩) F66.l fun a67 u67 h287_67 => ?_
 have F67 := F66.pt u67
 refine tree_ckh (k := 66) rfl (ckg6 66 (by decide)) (by decide) (fun w hw => ex_mv h287_67) (⟨B22_1, Bw_1⟩) F67.l fun a68 u68 h288_68 => ?_
 have F68 := F67.pt u68
 have h22_68 := u68.w (u67.w (u66.w (u65.w (u64.w (u63.w (u62.w (u61.w (u60.w h22_59))))))))
 refine tree_cki (k := 67) rfl (ckg6 67 (by decide)) (by decide) (yl (e := 288) rfl h288_68) (fun w hw => ex_fb 13 h22_68) (⟨B22_1, Bw_1⟩) F68.l fun a69 u69 h289_69 => ?_
 have F69 := F68.pt u69
 refine tree_cki (k := 68) rfl (ckg6 68 (by decide)) (by decide) (yl (e := 288) rfl (u69.w h288_68)) (fun w hw => ex_le (v := (.int .i64 (d0.execs xs).written)) h289_69 (hw.1.cell 13)) (⟨B22_1, Bw_1⟩) F69.l fun a70 u70 h290_70 => ?_
 have F70 := F69.pt u70
 have h9_70 := u70.w (u69.w (u68.w (u67.w (u66.w (u65.w (u64.w (u63.w (u62.w h9_61))))))))
 refine tree_cki (k := 69) rfl (ckg6 69 (by decide)) (by decide) (yl (e := 288) rfl (u70.w (u69.w h288_68))) (fun w hw => ex_mv h9_70) (⟨B22_1, Bw_1⟩) F70.l fun a71 u71 h291_71 => ?_
 have F71 := F70.pt u71
 have h288_71 := u71.w (u70.w (u69.w h288_68))
 refine tree_cki (k := 70) rfl (ckg7 70 (by decide)) (by decide) (yl (e := 288) rfl h288_71) (fun w hw => ex_nil h291_71) (⟨B22_1, Bw_1⟩) F71.l fun a72 u72 h292_72 => ?_
 have F72 := F71.pt u72
 refine tree_cki (k := 71) rfl (ckg7 71 (by decide)) (by decide) (yl (e := 288) rfl (u72.w h288_71)) (fun w hw => ex_fb 1 h292_72) (⟨B22_1, Bw_1⟩) F72.l fun a73 u73 h293_73 => ?_
 have F73 := F72.pt u73
 refine tree_cki (k := 72) rfl (ckg7 72 (by decide)) (by decide) (yl (e := 288) rfl (u73.w (u72.w h288_71))) (fun w hw => ex_le (v := (.int .i64 (d0.execs xs).written)) h293_73 (hw.2.cell 1)) (⟨B22_1, Bw_1⟩) F73.l fun a74 u74 h294_74 => ?_
 have F74 := F73.pt u74
 have h288_74 := u74.w (u73.w (u72.w h288_71))
 have h290_74 := u74.w (u73.w (u72.w (u71.w h290_70)))
 refine tree_cki (k := 73) rfl (ckg7 73 (by decide)) (by decide) (yl (e := 288) rfl h288_74) (fun w hw => ex_bin (v := (.bool false)) h290_74 h294_74 (ne_int (d0.execs xs).written _)) (⟨B22_1, Bw_1⟩) F74.l fun a75 u75 h295_75 => ?_
 have F75 := F74.pt u75
 refine tree_ckh (k := 74) rfl (ckg7 74 (by decide)) (by decide) (fun w hw => ex_pick (q := false) (u75.w h288_74) h295_75) (⟨B22_1, Bw_1⟩) F75.l fun a76 u76 h296_76 => ?_
 have F76 := F75.pt u76
 refine tree_ckh (k := 75) rfl (ckg7 75 (by decide)) (by decide) (fun w hw => ex_mv h296_76) (⟨B22_1, Bw_1⟩) F76.l fun a77 u77 h297_77 => ?_
 have F77 := F76.pt u77
 have h22_77 := u77.w (u76.w (u75.w (u74.w (u73.w (u72.w (u71.w (u70.w (u69.w h22_68))))))))
 refine tree_cki (k := 76) rfl (ckg7 76 (by decide)) (by decide) (yl (e := 297) rfl h297_77) (fun w hw => ex_fb 11 h22_77) (⟨B22_1, Bw_1⟩) F77.l fun a78 u78 h298_78 => ?_
 have F78 := F77.pt u78
 refine tree_cki (k := 77) rfl (ckg7 77 (by decide)) (by decide) (yl (e := 297) rfl (u78.w h297_77)) (fun w hw => ex_le (v := (.slice kva kvn kvc)) h298_78 (hw.1.cell 11)) (⟨B22_1, Bw_1⟩) F78.l fun a79 u79 h299_79 => ?_
 have F79 := F78.pt u79
 have h9_79 := u79.w (u78.w (u77.w (u76.w (u75.w (u74.w (u73.w (u72.w (u71.w h9_70))))))))
 refine tree_cki (k := 78) rfl (ckg7 78 (by decide)) (by decide) (yl (e := 297) rfl (u79.w (u78.w h297_77))) (fun w hw => ex_mv h9_79) (⟨B22_1, Bw_1⟩) F79.l fun a80 u80 h300_80 => ?_
 have F80 := F79.pt u80
 have h297_80 := u80.w (u79.w (u78.w h297_77))
 refine tree_cki (k := 79) rfl (ckg7 79 (by decide)) (by decide) (yl (e := 297) rfl h297_80) (fun w hw => ex_nil h300_80) (⟨B22_1, Bw_1⟩) F80.l fun a81 u81 h301_81 => ?_
 have F81 := F80.pt u81
 refine tree_cki (k := 80) rfl (ckg8 80 (by decide)) (by decide) (yl (e := 297) rfl (u81.w h297_80)) (fun w hw => ex_fb 7 h301_81) (⟨B22_1, Bw_1⟩) F81.l fun a82 u82 h302_82 => ?_
 have F82 := F81.pt u82
 refine tree_cki (k := 81) rfl (ckg8 81 (by decide)) (by decide) (yl (e := 297) rfl (u82.w (u81.w h297_80))) (fun w hw => ex_le (v := (pto kpw)) h302_82 (hw.2.cell 7)) (⟨B22_1, Bw_1⟩) F82.l fun a83 u83 h303_83 => ?_
 have F83 := F82.pt u83
 refine tree1 (j := 82) rd59_82 ?_
 have h297_83 := u83.w (u82.w (u81.w h297_80))
 have h299_83 := u83.w (u82.w (u81.w (u80.w h299_79)))
 refine tk_gc rfl (yl (e := 297) rfl h297_83) (args := #[(.slice kva kvn kvc), (pto kpw)]) (R := fun v w' => v = (.bool true) ∧ w1.grownBy w' none) (ex_cl (fun _ _ => by kernel_rfl) (arg2 h299_83 h303_83)) ((skeys_any sk_1 kw_1).mono fun _ _ h => ⟨_, h.1, rfl, h.2⟩) F83.l ?_
 rintro v w2 ⟨rfl, G2⟩
 have B22_2 := B22_1.gn G2
 have Bw_2 := Bw_1.gn G2
 have Q_2 := below_gn Q_1 hw G2
 have wr_2 := wr_1.kt (Kt.of_none G2) (by decide)
 have tv_2 := tv_1.kt (Kt.of_none G2) (by decide)
 have is_2 := is_1.kt (Kt.of_none G2) (by decide) (by decide) (by decide)
 have sk_2 := sk_1.kt (Kt.of_none G2) (by decide)
 have sm_2 := sm_1.kt (Kt.of_none G2) (by decide)
 have kw_2 := kw_1.kt (Kt.of_none G2) (by decide)
 have mw_2 := mw_1.kt (Kt.of_none G2) (by decide)
 have sw_2 := sw_1.kt (Kt.of_none G2) (by decide) (by decide) (by decide)
 have nw_2 := nw_1.kt (Kt.of_none G2) (by decide)
 refine ⟨⟨B22_2, Bw_2⟩, ?_⟩
 intro a84 u84 h304_84
 have F84 := F83.pt u84
 clear Q_1 wr_1 tv_1 is_1 kw_1 mw_1 sw_1 nw_1
 refine tree_norm (Lk_set 82 (by decide)) ?_
 refine tree_cki (k := 83) rfl (ckg8 83 (by decide)) (by decide) (yl (e := 297) rfl (u84.w h297_83)) (fun w hw => ex_un (vx := (.bool true)) (v := (.bool false)) h304_84 rfl) (⟨B22_2, Bw_2⟩) F84.l fun a85 u85 h305_85 => ?_
 have F85 := F84.pt u85
 refine tree_ckh (k := 84) rfl (ckg8 84 (by decide)) (by decide) (fun w hw => ex_pick (q := false) (u85.w (u84.w h297_83)) h305_85) (⟨B22_2, Bw_2⟩) F85.l fun a86 u86 h306_86 => ?_
 have F86 := F85.pt u86
 refine tree_ckh (k := 85) rfl (ckg8 85 (by decide)) (by decide) (fun w hw => ex_mv h306_86) (⟨B22_2, Bw_2⟩) F86.l fun a87 u87 h307_87 => ?_
 have F87 := F86.pt u87
 have h22_87 := u87.w (u86.w (u85.w (u84.w (u83.w (u82.w (u81.w (u80.w (u79.w (u78.w h22_77)))))))))
 refine tree_cki (k := 86) rfl (ckg8 86 (by decide)) (by decide) (yl (e := 307) rfl h307_87) (fun w hw => ex_fb 12 h22_87) (⟨B22_2, Bw_2⟩) F87.l fun a88 u88 h308_88 => ?_
 have F88 := F87.pt u88
 refine tree_cki (k := 87) rfl (ckg8 87 (by decide)) (by decide) (yl (e := 307) rfl (u88.w h307_87)) (fun w hw => ex_le (v := (.slice mva mvn mvc)) h308_88 (hw.1.cell 12)) (⟨B22_2, Bw_2⟩) F88.l fun a89 u89 h309_89 => ?_
 have F89 := F88.pt u89
 have h9_89 := u89.w (u88.w (u87.w (u86.w (u85.w (u84.w (u83.w (u82.w (u81.w (u80.w h9_79)))))))))
 refine tree_cki (k := 88) rfl (ckg8 88 (by decide)) (by decide) (yl (e := 307) rfl (u89.w (u88.w h307_87))) (fun w hw => ex_mv h9_89) (⟨B22_2, Bw_2⟩) F89.l fun a90 u90 h310_90 => ?_
 have F90 := F89.pt u90
 have h307_90 := u90.w (u89.w (u88.w h307_87))
 refine tree_cki (k := 89) rfl (ckg8 89 (by decide)) (by decide) (yl (e := 307) rfl h307_90) (fun w hw => ex_nil h310_90) (⟨B22_2, Bw_2⟩) F90.l fun a91 u91 h311_91 => ?_
 have F91 := F90.pt u91
 refine tree_cki (k := 90) rfl (ckg9 90 (by decide)) (by decide) (yl (e := 307) rfl (u91.w h307_90)) (fun w hw => ex_fb 8 h311_91) (⟨B22_2, Bw_2⟩) F91.l fun a92 u92 h312_92 => ?_
 have F92 := F91.pt u92
 refine tree_cki (k := 91) rfl (ckg9 91 (by decide)) (by decide) (yl (e := 307) rfl (u92.w (u91.w h307_90))) (fun w hw => ex_le (v := (pto mpw)) h312_92 (hw.2.cell 8)) (⟨B22_2, Bw_2⟩) F92.l fun a93 u93 h313_93 => ?_
 have F93 := F92.pt u93
 refine tree1 (j := 92) rd59_92 ?_
 have h307_93 := u93.w (u92.w (u91.w h307_90))
 have h309_93 := u93.w (u92.w (u91.w (u90.w h309_89)))
 refine tk_gc rfl (yl (e := 307) rfl h307_93) (args := #[(.slice mva mvn mvc), (pto mpw)]) (R := fun v w' => v = (.bool true) ∧ w2.grownBy w' none) (ex_cl (fun _ _ => by kernel_rfl) (arg2 h309_93 h313_93)) ((smaps_any sm_2 mw_2).mono fun _ _ h => ⟨_, h.1, rfl, h.2⟩) F93.l ?_
 rintro v w3 ⟨rfl, G3⟩
 have B22_3 := B22_2.gn G3
 have Bw_3 := Bw_2.gn G3
 have Q_3 := below_gn Q_2 hw G3
 have wr_3 := wr_2.kt (Kt.of_none G3) (by decide)
 have tv_3 := tv_2.kt (Kt.of_none G3) (by decide)
 have is_3 := is_2.kt (Kt.of_none G3) (by decide) (by decide) (by decide)
 have sk_3 := sk_2.kt (Kt.of_none G3) (by decide)
 have sm_3 := sm_2.kt (Kt.of_none G3) (by decide)
 have kw_3 := kw_2.kt (Kt.of_none G3) (by decide)
 have mw_3 := mw_2.kt (Kt.of_none G3) (by decide)
 have sw_3 := sw_2.kt (Kt.of_none G3) (by decide) (by decide) (by decide)
 have nw_3 := nw_2.kt (Kt.of_none G3) (by decide)
 refine ⟨⟨B22_3, Bw_3⟩, ?_⟩
 intro a94 u94 h314_94
 have F94 := F93.pt u94
 clear Q_2 wr_2 tv_2 is_2 kw_2 mw_2 sw_2 nw_2
 refine tree_norm (Lk_set 92 (by decide)) ?_
 refine tree_cki (k := 93) rfl (ckg9 93 (by decide)) (by decide) (yl (e := 307) rfl (u94.w h307_93)) (fun w hw => ex_un (vx := (.bool true)) (v := (.bool false)) h314_94 rfl) (⟨B22_3, Bw_3⟩) F94.l fun a95 u95 h315_95 => ?_
 have F95 := F94.pt u95
 refine tree_ckh (k := 94) rfl (ckg9 94 (by decide)) (by decide) (fun w hw => ex_pick (q := false) (u95.w (u94.w h307_93)) h315_95) (⟨B22_3, Bw_3⟩) F95.l fun a96 u96 h316_96 => ?_
 have F96 := F95.pt u96
 have h9_96 := u96.w (u95.w (u94.w (u93.w (u92.w (u91.w (u90.w h9_89))))))
 have h11_96 := u96.w (u95.w (u94.w (u93.w (u92.w (u91.w (u90.w (u89.w (u88.w (u87.w (u86.w (u85.w (u84.w (u83.w (u82.w (u81.w (u80.w (u79.w (u78.w (u77.w (u76.w (u75.w (u74.w (u73.w (u72.w (u71.w (u70.w (u69.w (u68.w (u67.w (u66.w (u65.w (u64.w (u63.w (u62.w (u61.w (u60.w (u59.w (u58.w (u57.w (u56.w (u55.w (u54.w (u53.w (u52.w (u51.w (u50.w (u49.w (u48.w (u47.w (u46.w (u45.w (u44.w (u43.w (u42.w (u41.w (u40.w (u39.w (u38.w (u37.w (u36.w (u35.w (u34.w (u33.w (u32.w (u31.w (u30.w (u29.w (u28.w (u27.w (u26.w (u25.w (u24.w (u23.w (u22.w (u21.w (u20.w (u19.w (u18.w (u17.w (u16.w (u15.w (u14.w (u13.w (u12.w (u11.w (u10.w (u9.w (u8.w (u7.w h11_6)))))))))))))))))))))))))))))))))))))))))))))))))))))))))))))))))))))))))))))))))))))))))
 have h21_96 := u96.w (u95.w (u94.w (u93.w (u92.w (u91.w (u90.w (u89.w (u88.w (u87.w (u86.w (u85.w (u84.w (u83.w (u82.w (u81.w (u80.w (u79.w (u78.w (u77.w (u76.w (u75.w (u74.w (u73.w (u72.w (u71.w (u70.w (u69.w (u68.w (u67.w (u66.w (u65.w (u64.w (u63.w (u62.w (u61.w (u60.w (u59.w (u58.w (u57.w (u56.w (u55.w (u54.w (u53.w (u52.w (u51.w (u50.w (u49.w (u48.w (u47.w (u46.w (u45.w (u44.w (u43.w (u42.w (u41.w (u40.w (u39.w (u38.w (u37.w (u36.w (u35.w (u34.w (u33.w (u32.w (u31.w (u30.w (u29.w (u28.w (u27.w (u26.w (u25.w (u24.w (u23.w (u22.w (u21.w (u20.w (u19.w (u18.w (u17.w (u16.w (u15.w (u14.w (u13.w (u12.w (u11.w (u10.w (u9.w (u8.w (u7.w (u6.w (u5.w h21_4)))))))))))))))))))))))))))))))))))))))))))))))))))))))))))))))))))))))))))))))))))))))))))
 have h22_96 := u96.w (u95.w (u94.w (u93.w (u92.w (u91.w (u90.w (u89.w (u88.w h22_87))))))))
 exact tree0 rd59_95 (hK _ _ F96 h9_96 h11_96 h21_96 h22_96 h316_96 B22_3 Bw_3 Q_3 wr_3 tv_3 is_3 sk_3 sm_3 kw_3 mw_3 sw_3 nw_3)
end Go.Proofs.YtdpebhlkgmopkaaDoor
