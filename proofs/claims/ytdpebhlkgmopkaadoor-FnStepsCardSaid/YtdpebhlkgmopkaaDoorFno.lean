/-
 FnSteps: the law itself.
-/
import Derived.Test.YtdpebhlkgmopkaaDoorFnk
import Derived.Test.YtdpebhlkgmopkaaDoorFnl
namespace Go.Proofs.YtdpebhlkgmopkaaDoor
open Go.RowKit
set_option maxRecDepth 100000
section
variable {ops : Array Oper} {S : World → Prop} {K : Act → World → Prop} {a : Act} {w w' : World} {n j i : Nat} {q : Bool} {l : Array Bool}
variable {v : Value} {d : Tmp} {op : Op} {ty : TypeId} {p : String} {af : Array Edge} {f : FuncId} {args : Array Value} {R : Value → World → Prop}
theorem tree_takeg (h0 : ops[j]? = some ⟨some d, op, ty, p, af, some (i, q)⟩) (hs : Region.noSelect ops = true) (hf : Region.free .any ops l j = true) (hr : (Region.ready .any ops l).contains j = true) (hg : yielded ops a.tmps i = some q) (hrun : ∀ w, S w → (execOp a.eval ⟨some d, op, ty, p, af, some (i, q)⟩).run Tryd.prog w = .ok (.value v) w) (hS : S w) (hsz : d < a.tmps.size)
   (hK : ∀ a', Pt d a a' → a'.tmps.getD d undef = v → Tree ops S K n (l.setIfInBounds j true) a' w) : Tree ops S K (n + 1) l a w :=
 wpAnyH_take h0 hs hf hr (fun _ _ _ h => h) (.inl ⟨by simp [Region.wanted, hg], hrun⟩) hS (hK _ (Pt.put _ _ _) (put_get _ hsz))
/-- an operation that may come up, by its own edges -/
def rdy (ops : Array Oper) (l : Array Bool) (j : Nat) : Bool := !(l.getD j true) && (match ops[j]? with | some o => o.after.all (fun e => !(Region.binds .any e) || l.getD e.on false) | none => false)
theorem rdy_ready (h : rdy ops l j = true) : (Region.ready .any ops l).contains j = true := by
 unfold rdy at h
 rw [Bool.and_eq_true] at h
 obtain ⟨h1, h2⟩ := h
 have h3 : j ∈ Region.ready .any ops l := by
   refine mem_ready.2 ⟨by simpa using h1, ?_⟩
   cases ho : ops[j]? with
   | none => rw [ho] at h2; cases h2
   | some o =>
     rw [ho] at h2
     refine ⟨o, rfl, fun e he hb => ?_⟩
     have h4 := (Array.all_eq_true_iff_forall_mem.1 h2) e he
     rw [hb] at h4
     simpa using h4
 simpa using h3
theorem tree_takeh (hs : Region.noSelect ops = true) (h0 : ops[j]? = some ⟨some d, op, ty, p, af, none⟩) (hf : Region.free .any ops l j = true) (hr : rdy ops l j = true) (hrun : ∀ w, S w → (execOp a.eval ⟨some d, op, ty, p, af, none⟩).run Tryd.prog w = .ok (.value v) w) (hS : S w) (hsz : d < a.tmps.size)
   (hK : ∀ a', Pt d a a' → a'.tmps.getD d undef = v → Tree ops S K n (l.setIfInBounds j true) a' w) : Tree ops S K (n + 1) l a w := tree_take h0 hs hf (rdy_ready hr) hrun hS hsz hK
theorem tree_takei (hs : Region.noSelect ops = true) (h0 : ops[j]? = some ⟨some d, op, ty, p, af, some (i, q)⟩) (hf : Region.free .any ops l j = true) (hr : rdy ops l j = true) (hg : yielded ops a.tmps i = some q) (hrun : ∀ w, S w → (execOp a.eval ⟨some d, op, ty, p, af, some (i, q)⟩).run Tryd.prog w = .ok (.value v) w) (hS : S w) (hsz : d < a.tmps.size)
   (hK : ∀ a', Pt d a a' → a'.tmps.getD d undef = v → Tree ops S K n (l.setIfInBounds j true) a' w) : Tree ops S K (n + 1) l a w := tree_takeg h0 hs hf (rdy_ready hr) hg hrun hS hsz hK
theorem tree_norm {l' : Array Bool} (h : l = l') (hK : Tree ops S K n l' a w) : Tree ops S K n l a w := h ▸ hK
theorem tk_gc (h0 : ops[j]? = some ⟨some d, op, ty, p, af, some (i, q)⟩) (hg : yielded ops a.tmps i = some q) (hrun : (execOp a.eval ⟨some d, op, ty, p, af, some (i, q)⟩).run Tryd.prog w = .ok (.enter f args) w) (hC : Calls Tryd.prog f args w fun e w'' => ∃ v, e = .returned v ∧ R v w'') (hsz : d < a.tmps.size)
   (hK : ∀ v w'', R v w'' → S w'' ∧ ∀ a', Pt d a a' → a'.tmps.getD d undef = v → Tree ops S K n (l.setIfInBounds j true) a' w'') : TK ops S K n j l a w := by
 unfold TK wpOp
 simp only [h0]
 rw [if_pos (by simp [Region.wanted, hg])]
 refine .inl ?_
 unfold Oper.wp
 rw [hrun]
 refine hC.mono ?_
 rintro e w'' ⟨v, rfl, hR⟩
 exact ⟨(hK v w'' hR).1, (hK v w'' hR).2 _ (Pt.put _ _ _) (put_get _ hsz)⟩
end
theorem below_tr {n : Nat} {w0 w w' : World} (h : Below n w0 w) (hn : n ≤ w0.heap.size) (h2 : Below w.heap.size w w') : Below n w0 w' := h.trans ⟨h2.os, h2.tape, h2.output, h2.size, fun k hk => h2.block k (Nat.lt_of_lt_of_le hk (Nat.le_trans hn h.size))⟩
theorem below_gn {n : Nat} {w0 w w' : World} (h : Below n w0 w) (hn : n ≤ w0.heap.size) (G : w.grownBy w' none) : Below n w0 w' := below_tr h hn ((Kt.refl w.heap.size [] w).nw (Nat.le_refl _) G).bel
theorem below_st {n g : Nat} {w0 w w' : World} (h : Below n w0 w) (hn : n ≤ w0.heap.size) (hg : n ≤ g) (G : w.grownBy w' (some g)) : Below n w0 w' :=
 h.trans ⟨G.os, G.tape, G.output, G.size, fun k hk => G.block k (Nat.lt_of_lt_of_le hk (Nat.le_trans hn h.size)) (fun e => by
   have := Option.some.inj e
   omega)⟩
theorem u32_at {w0 w : World} {ao : Option Addr} {b off len cap j : Nat} {zs : Nat → Nat} (hu : U32s w0 ao b off len cap zs) (K : Below w0.heap.size w0 w) (hj : j < len) : w.cell? ⟨b, off + j, none⟩ = some (.int .u32 (zs j)) := by
 rw [cell_eq (K.block b (hu.at_ (by omega)).2)]
 exact hu.cell j hj
theorem STR.zero {w : World} {base g : Nat} (h : Blk w g 44 #[]) (hb : base ≤ g) : STR w base (.slice (some ⟨g, 0, none⟩) 0 0) [] := ⟨[], ⟨rfl, .inr ⟨g, 0, 0, #[], rfl, hb, h, Nat.le_refl _, Nat.zero_le _, by simp, by simp⟩⟩, fun i x h => by simp at h⟩
theorem BR.zero {w : World} {base g : Nat} (h : Blk w g 4 #[]) (hb : base ≤ g) : GR w base 4 Value.bool (.slice (some ⟨g, 0, none⟩) 0 0) [] := ⟨rfl, .inr ⟨g, 0, 0, #[], rfl, hb, h, Nat.le_refl _, Nat.zero_le _, by simp, by simp⟩⟩
theorem zip_len {α β : Type} {l : List α} {r : List β} (h : l.length = r.length) : (l.zip r).length = r.length := by rw [List.length_zip]; omega
theorem sw_all {w00 : World} {N0 wb g16 g17 h k kind : Nat} {d : WinD} {sv wv : Value} {xs : List StepD} {tl : List Bool} {c7 c8 c48 c49 c50 : Value} {num : Nat} {s : SegD} {kp mp : Option Nat} {kv mv : Value} {a0 : Act} {w0 : World} {R : Exit → Act → World → Prop} (hO : d.Ok k) (hk : k < 900) (hkd : kind ∈ [0, 1, 2, 3, 4, 5, 6, 7, 9, 10, 11, 12, 13, 14]) (hJ : PrJ w00 N0 wb g16 g17 h d sv wv xs tl c7 c8 c48 c49 c50 kind num s kp mp kv mv a0 w0) (hR : ∀ x t a w, SwJ w00 N0 wb g17 d sv wv xs tl c7 c8 c48 c49 c50 x t a w → R .normal a w) : (cat [1, 1, 1, 1, 1, 1, 1, 0, 1, 0, 0, 1, 1, 0, 0, 1, 1, 1, 1, 1, 1, 0, 1] fsB).wp Tryd.prog R a0 w0 := by
 simp only [List.mem_cons, List.not_mem_nil, or_false] at hkd
 rcases hkd with rfl | rfl | rfl | rfl | rfl | rfl | rfl | rfl | rfl | rfl | rfl | rfl | rfl | rfl
 · exact sw_0 hO hk hJ hR
 · exact sw_1 hO hk hJ hR
 · exact sw_2 hO hk hJ hR
 · exact sw_3 hO hk hJ hR
 · exact sw_4 hO hk hJ hR
 · exact sw_5 hO hk hJ hR
 · exact sw_6 hO hk hJ hR
 · exact sw_7 hO hk hJ hR
 · rcases Nat.eq_zero_or_pos d.segs.length with hn | hn
   · exact sw_9_nil hO hk hJ hR hn
   · exact sw_9_some hO hk hJ hR hn
 · rcases Nat.eq_zero_or_pos d.segs.length with hn | hn
   · exact sw_10_nil hO hk hJ hR hn
   · exact sw_10_some hO hk hJ hR hn
 · exact sw_11 hO hk hJ hR
 · exact sw_12 hO hk hJ hR
 · exact sw_13 hO hk hJ hR
 · exact sw_14 hO hk hJ hR
theorem below_cell {n : Nat} {w w' : World} {ad : Addr} {v : Value} (K : Below n w w') (h : w.cell? ad = some v) (hn : n = w.heap.size := by rfl) : w'.cell? ad = some v := by
 subst hn
 rw [K.cell (World.block_lt_of_cell? w ad h)]
 exact h
set_option maxHeartbeats 800000 in
theorem fs_tail2 {len p wr wb : Nat} {d0 : WinD} {xs : List StepD} {wv : Value} {tv : Value} {iva kva mva : Option Addr} {ivn ivc kvn kvc mvn mvc g22 bb bi : Nat} {w0 w1 : World} {a1 : Act} (hw : w0.heap.size ≤ w0.heap.size) (hO0 : d0.Ok 0) (hl : len ≤ 60) (hxs : ∀ x ∈ xs, x.Ok) (hxl : xs.length = len) (F1 : Fz 358 a1) (h9_1 : a1.tmps.getD 9 undef = pt wb) (h11_1 : a1.tmps.getD 11 undef = wv) (h21_1 : a1.tmps.getD 21 undef = tv) (h22_1 : a1.tmps.getD 22 undef = pt g22) (Q_1 : Below w0.heap.size w0 w1) (H_1 : WinS w1 w0.heap.size wb (d0.execs xs)) (wr_1 : GR w1 w0.heap.size 4 Value.bool wv (d0.tolds xs)) (tv_1 : GR w1 bb 4 Value.bool tv (d0.tolds xs)) (is_1 : ISR w1 bi (.slice iva ivn ivc) ((d0.execs xs).nums.zip (d0.execs xs).segs)) (B22_1 : Blk w1 g22 67 #[(.float .f64 (fn (d0.execs xs).tgt)), (.int .u64 (d0.execs xs).seq), (.slice iva ivn ivc), (.string { data := #[] }), (.bool (d0.execs xs).ifr), (.bool (d0.execs xs).clo), (.int .i64 0), (.int .u64 0), (.float .f64 0), (.bool false), (.int .i64 (d0.execs xs).ver), (.slice kva kvn kvc), (.slice mva mvn mvc), (.int .i64 (d0.execs xs).written)]) : (cat [1, 1, 1, 1, 1, 1, 1, 1, 1, 1] fsB).wp Tryd.prog (fun e a w => bodyPost Tryd.prog Tryd.f3 (fun e w' => e = .returned (.bool true) ∧ Below w0.heap.size w0 w') e a w) a1 w1 := by
 have hOx := hO0.execs xs hxs
 have hTL : (d0.tolds xs).length ≤ 60 := by rw [WinD.tolds_length]; omega
 have hSL : (d0.execs xs).segs.length ≤ 12 := Nat.le_trans hOx.room hOx.p12
 change Code.wp _ (Code.seq _ _) _ _ _
 refine wp_seq ?_
 refine wp_sr ?_
 refine wl_pq F1 (ex_mv h11_1) fun a2 u2 F2 h317_2 => ?_
 refine wl_pq F2 (ex_bi (w' := w1) (args := #[wv]) (v := (.int .i64 (d0.tolds xs).length)) (arg1 h317_2) (wr_1.len (by intros; kernel_rfl) (by intros; kernel_rfl) _)) fun a3 u3 F3 h318_3 => ?_
 refine wl_pq F3 (ex_mv (v := (.int .i64 0)) rfl) fun a4 u4 F4 h319_4 => ?_
 change Code.wp _ _ _ _ _
 have h9_4 := u4.w (u3.w (u2.w h9_1))
 have h11_4 := u4.w (u3.w (u2.w h11_1))
 have h21_4 := u4.w (u3.w (u2.w h21_1))
 have h22_4 := u4.w (u3.w (u2.w h22_1))
 refine loop_k (si := 319) (ty := .i64) (m := (d0.tolds xs).length) (fun (j : Nat) a w => (Fz 358 a) ∧ (a.tmps.getD 319 undef = .int .i64 j) ∧ (a.tmps.getD 318 undef = (.int .i64 (d0.tolds xs).length)) ∧ (a.tmps.getD 9 undef = (pt wb)) ∧ (a.tmps.getD 11 undef = wv) ∧ (a.tmps.getD 21 undef = tv) ∧ (a.tmps.getD 22 undef = (.pointer (some ⟨g22, 0, none⟩))) ∧ (Below w0.heap.size w0 w) ∧ (WinS w w0.heap.size wb (d0.execs xs)) ∧ (GR w w0.heap.size 4 Value.bool wv (d0.tolds xs)) ∧ (GR w bb 4 Value.bool tv (d0.tolds xs)) ∧ (ISR w bi (.slice iva ivn ivc) ((d0.execs xs).nums.zip (d0.execs xs).segs)) ∧ (Blk w g22 67 #[(.float .f64 (fn (d0.execs xs).tgt)), (.int .u64 (d0.execs xs).seq), (.slice iva ivn ivc), (.string { data := #[] }), (.bool (d0.execs xs).ifr), (.bool (d0.execs xs).clo), (.int .i64 0), (.int .u64 0), (.float .f64 0), (.bool false), (.int .i64 (d0.execs xs).ver), (.slice kva kvn kvc), (.slice mva mvn mvc), (.int .i64 (d0.execs xs).written)])) ⟨F4, h319_4, (u4.w h318_3), h9_4, h11_4, h21_4, h22_4, Q_1, H_1, wr_1, tv_1, is_1, B22_1⟩ (fun _ _ _ h => h.2.1) ?_ ?_
 · clear Q_1 H_1 wr_1 tv_1 is_1
   intro j a5 w2 hj ⟨F5, h319_5, h318_5, h9_5, h11_5, h21_5, h22_5, Q_2, H_2, wr_2, tv_2, is_2, B22_2⟩ R hR
   obtain ⟨bj, hbj⟩ : ∃ bj, (d0.tolds xs)[j]? = some bj := ⟨_, List.getElem?_eq_getElem hj⟩
   refine wp_sr ?_
   refine wl_pq F5 (ex_bin (v := (.bool true)) h319_5 h318_5 ((bo_ltn j (d0.tolds xs).length _).trans (by rw [decide_eq_true (by omega)]))) fun a6 u6 F6 h320_6 => ?_
   change Code.wp _ _ _ _ _
   refine wp_seq ?_
   refine wp_cond_true h320_6 ?_
   refine wp_skip ?_
   change Code.wp _ _ _ _ _
   refine wp_seq ?_
   refine wp_block ?_
   refine wp_sr ?_
   refine wl_pq F6 (ex_mv (u6.w h319_5)) fun a7 u7 F7 h321_7 => ?_
   refine wl_pq F7 (ex_as h321_7) fun a8 u8 F8 h25_8 => ?_
   change Code.wp _ _ _ _ _
   refine wp_seq ?_
   obtain ⟨w3, hw3⟩ : ∃ w, w = w2.drew := ⟨_, rfl⟩
   have G3 : w2.grownBy w3 none := hw3 ▸ grown_drew _
   have B22_3 := B22_2.gn G3
   have Q_3 := below_gn Q_2 hw G3
   have H_3 := H_2.kt (Kt.of_none G3) (by decide)
   have wr_3 := wr_2.kt (Kt.of_none G3) (by decide)
   have tv_3 := tv_2.kt (Kt.of_none G3) (by decide)
   have is_3 := is_2.kt (Kt.of_none G3) (by decide) (by decide) (by decide)
   refine rg_still hw3 hmix (by kernel_rfl) ?_
   clear Q_2 H_2 wr_2 tv_2 is_2
   have h21_8 := u8.w (u7.w (u6.w h21_5))
   refine st_pq F8 (ex_mv h21_8) fun a9 u9 F9 h322_9 => ?_
   refine st_pq F9 (ex_mv (u9.w h25_8)) fun a10 u10 F10 h323_10 => ?_
   obtain ⟨etg, etu, etc, etv, etl⟩ := tv_3.elem hbj
   refine st_pq F10 (ex_ixg (vx := tv) (vy := (.int .i64 j)) (v := (.pointer (some ⟨etg, etu + j, none⟩))) (u10.w h322_9) h323_10 (by rw [etv]; exact ix_bool etg etu _ etc j hj _)) fun a11 u11 F11 h324_11 => ?_
   refine st_pq F11 (ex_le (v := .bool bj) h324_11 etl) fun a12 u12 F12 h325_12 => ?_
   have h11_12 := u12.w (u11.w (u10.w (u9.w (u8.w (u7.w (u6.w h11_5))))))
   refine st_pq F12 (ex_mv h11_12) fun a13 u13 F13 h326_13 => ?_
   have h25_13 := u13.w (u12.w (u11.w (u10.w (u9.w h25_8))))
   refine st_pq F13 (ex_mv h25_13) fun a14 u14 F14 h327_14 => ?_
   obtain ⟨ewg, ewu, ewc, ewv, ewl⟩ := wr_3.elem hbj
   refine st_pq F14 (ex_ixg (vx := wv) (vy := (.int .i64 j)) (v := (.pointer (some ⟨ewg, ewu + j, none⟩))) (u14.w h326_13) h327_14 (by rw [ewv]; exact ix_bool ewg ewu _ ewc j hj _)) fun a15 u15 F15 h328_15 => ?_
   refine st_pq F15 (ex_le (v := .bool bj) h328_15 ewl) fun a16 u16 F16 h329_16 => ?_
   have h325_16 := u16.w (u15.w (u14.w (u13.w h325_12)))
   refine st_pq F16 (ex_bin (v := (.bool false)) h325_16 h329_16 (ne_bool bj _)) fun a17 u17 F17 h330_17 => ?_
   change Code.wp _ _ _ _ _
   refine wp_cond_false h330_17 ?_
   refine wp_skip ?_
   change Code.wp _ _ _ _ _
   refine rg_list ?_
   have h319_17 := u17.w (u16.w (u15.w (u14.w (u13.w (u12.w (u11.w (u10.w (u9.w (u8.w (u7.w (u6.w h319_5)))))))))))
   refine wl_pq F17 (ex_bin (vy := (.int .i64 1)) (v := (.int .i64 (j + 1 : Nat))) h319_17 rfl (bo_addn j 1 (by omega) _)) fun a18 u18 F18 h331_18 => ?_
   refine wl_pq F18 (ex_mv h331_18) fun a19 u19 F19 h319_19 => ?_
   have h318_19 := u19.w (u18.w (u17.w (u16.w (u15.w (u14.w (u13.w (u12.w (u11.w (u10.w (u9.w (u8.w (u7.w (u6.w h318_5)))))))))))))
   have h9_19 := u19.w (u18.w (u17.w (u16.w (u15.w (u14.w (u13.w (u12.w (u11.w (u10.w (u9.w (u8.w (u7.w (u6.w h9_5)))))))))))))
   have h11_19 := u19.w (u18.w (u17.w (u16.w (u15.w (u14.w (u13.w h11_12))))))
   have h21_19 := u19.w (u18.w (u17.w (u16.w (u15.w (u14.w (u13.w (u12.w (u11.w (u10.w (u9.w h21_8))))))))))
   have h22_19 := u19.w (u18.w (u17.w (u16.w (u15.w (u14.w (u13.w (u12.w (u11.w (u10.w (u9.w (u8.w (u7.w (u6.w h22_5)))))))))))))
   exact hR _ _ ⟨F19, h319_19, h318_19, h9_19, h11_19, h21_19, h22_19, Q_3, H_3, wr_3, tv_3, is_3, B22_3⟩
 · clear Q_1 H_1 wr_1 tv_1 is_1
   intro a5 w2 ⟨F5, h319_5, h318_5, h9_5, h11_5, h21_5, h22_5, Q_2, H_2, wr_2, tv_2, is_2, B22_2⟩
   refine wp_sr ?_
   refine wl_pq F5 (ex_bin (v := (.bool false)) h319_5 h318_5 ((bo_ltn ((d0.tolds xs).length) (d0.tolds xs).length _).trans (by rw [decide_eq_false (by omega)]))) fun a6 u6 F6 h320_6 => ?_
   change Code.wp _ _ _ _ _
   refine wp_seq ?_
   refine wp_cond_false h320_6 ?_
   refine wp_exit ?_
   try simp only [Exit.then]
   refine inBlock_exit ?_
   change Code.wp _ _ _ _ _
   refine wp_seq ?_
   refine wp_sr ?_
   refine wl_pq F6 (ex_fb 2 (u6.w h22_5)) fun a7 u7 F7 h332_7 => ?_
   refine wl_pq F7 (ex_le (v := (.slice iva ivn ivc)) h332_7 (B22_2.cell 2)) fun a8 u8 F8 h333_8 => ?_
   refine wl_pq F8 (ex_bi (w' := w2) (args := #[(.slice iva ivn ivc)]) (v := (.int .i64 (d0.execs xs).segs.length)) (arg1 h333_8) ((is_2.len (by intros; kernel_rfl) (by intros; kernel_rfl) _).trans (by rw [zip_len hOx.len]))) fun a9 u9 F9 h334_9 => ?_
   refine wl_pq F9 (ex_mv (v := (.int .i64 0)) rfl) fun a10 u10 F10 h335_10 => ?_
   change Code.wp _ _ _ _ _
   have h9_10 := u10.w (u9.w (u8.w (u7.w (u6.w h9_5))))
   have h22_10 := u10.w (u9.w (u8.w (u7.w (u6.w h22_5))))
   refine loop_k (si := 335) (ty := .i64) (m := (d0.execs xs).segs.length) (fun (j : Nat) a w => (Fz 358 a) ∧ (a.tmps.getD 335 undef = .int .i64 j) ∧ (a.tmps.getD 333 undef = (.slice iva ivn ivc)) ∧ (a.tmps.getD 334 undef = (.int .i64 (d0.execs xs).segs.length)) ∧ (a.tmps.getD 9 undef = (pt wb)) ∧ (a.tmps.getD 22 undef = (.pointer (some ⟨g22, 0, none⟩))) ∧ (Below w0.heap.size w0 w) ∧ (WinS w w0.heap.size wb (d0.execs xs)) ∧ (GR w w0.heap.size 4 Value.bool wv (d0.tolds xs)) ∧ (GR w bb 4 Value.bool tv (d0.tolds xs)) ∧ (ISR w bi (.slice iva ivn ivc) ((d0.execs xs).nums.zip (d0.execs xs).segs)) ∧ (Blk w g22 67 #[(.float .f64 (fn (d0.execs xs).tgt)), (.int .u64 (d0.execs xs).seq), (.slice iva ivn ivc), (.string { data := #[] }), (.bool (d0.execs xs).ifr), (.bool (d0.execs xs).clo), (.int .i64 0), (.int .u64 0), (.float .f64 0), (.bool false), (.int .i64 (d0.execs xs).ver), (.slice kva kvn kvc), (.slice mva mvn mvc), (.int .i64 (d0.execs xs).written)])) ⟨F10, h335_10, (u10.w (u9.w h333_8)), (u10.w h334_9), h9_10, h22_10, Q_2, H_2, wr_2, tv_2, is_2, B22_2⟩ (fun _ _ _ h => h.2.1) ?_ ?_
   · clear Q_2 H_2 wr_2 tv_2 is_2
     intro j a11 w3 hj ⟨F11, h335_11, h333_11, h334_11, h9_11, h22_11, Q_3, H_3, wr_3, tv_3, is_3, B22_3⟩ R hR
     obtain ⟨s, hs⟩ : ∃ s, (d0.execs xs).segs[j]? = some s := ⟨_, List.getElem?_eq_getElem hj⟩
     obtain ⟨n, hn⟩ : ∃ n, (d0.execs xs).nums[j]? = some n := ⟨_, List.getElem?_eq_getElem (by rw [hOx.len]; exact hj)⟩
     have hse := (hOx.segs s (List.mem_of_getElem? hs)).2
     obtain ⟨gi, ui, ci, kv5, mv5, hiv, ⟨curi, hcuri, hcli⟩, hki, hmi⟩ := is_3.elem (by decide) (zip_at hn hs)
     obtain ⟨k5a, k5n, k5c, rfl⟩ := hki.shape
     obtain ⟨m5a, m5n, m5c, rfl⟩ := hmi.shape
     have ks_3 := hki
     have ms_3 := hmi
     obtain ⟨⟨kpw, mpw, swv, nwv, Bw_3, kw_3, mw_3, sw_3, nw_3⟩, hwb, hbw⟩ := H_3
     obtain ⟨gs5, us5, kp5, mp5, hix5, hge5, ⟨cur5, hcur5, hcl5⟩, kq_3, mq_3⟩ := sw_3.elem hj
     have hsj : (d0.execs xs).segs[j] = s := by have h := List.getElem?_eq_getElem hj; rw [hs] at h; exact (Option.some.inj h).symm
     rw [hsj] at kq_3 mq_3 hcl5
     obtain ⟨adn, hixn, hcln⟩ := nw_3.elem? hn
     have KR_3 := Kt.refl w3.heap.size [40] w3
     refine wp_sr ?_
     refine wl_pq F11 (ex_bin (v := (.bool true)) h335_11 h334_11 ((bo_ltn j (d0.execs xs).segs.length _).trans (by rw [decide_eq_true (by omega)]))) fun a12 u12 F12 h336_12 => ?_
     change Code.wp _ _ _ _ _
     refine wp_seq ?_
     refine wp_cond_true h336_12 ?_
     refine wp_skip ?_
     change Code.wp _ _ _ _ _
     refine wp_seq ?_
     refine wp_block ?_
     refine wp_sr ?_
     refine wl_pq F12 (ex_mv (u12.w h335_11)) fun a13 u13 F13 h337_13 => ?_
     refine wl_pq F13 (ex_ixg (vx := (.slice iva ivn ivc)) (vy := (.int .i64 j)) (v := (.pointer (some ⟨gi, ui + 11 * j, none⟩))) (u13.w (u12.w h333_11)) (u13.w (u12.w h335_11)) (by rw [hiv]; exact ix_iseg gi ui _ ci j (by rw [zip_len hOx.len]; exact hj) _)) fun a14 u14 F14 h338_14 => ?_
     refine wl_pq F14 (ex_lda h338_14 (ld_agg (n := 11) (o := ui + 11 * j) (xs := #[(.int .u64 n), (.string s.title), (.string s.uri), (.float .f64 (fb s.e)), (.int .i64 s.li), (.int .i64 s.off), (.slice k5a k5n k5c), (.slice m5a m5n m5c), (.slice none 0 0), (.bool s.disc), (.string s.date)]) (fun _ => by kernel_rfl) (fun _ => by kernel_rfl) hcuri rfl hcli)) fun a15 u15 F15 (h339_15 : a15.tmps.getD 339 undef = (.agg #[(.int .u64 n), (.string s.title), (.string s.uri), (.float .f64 (fb s.e)), (.int .i64 s.li), (.int .i64 s.off), (.slice k5a k5n k5c), (.slice m5a m5n m5c), (.slice none 0 0), (.bool s.disc), (.string s.date)])) => ?_
     obtain ⟨g27, hg27⟩ : ∃ g, w3.heap.size = g := ⟨_, rfl⟩
     have ne_22_27 : g22 ≠ g27 := by have := B22_3.lt; omega
     have ne_w_27 : wb ≠ g27 := by have := Bw_3.lt; omega
     have hfar27 := is_3.far0 (Nat.le_of_eq hg27)
     have ge27 : w3.heap.size ≤ g27 := by have := KR_3.bel.size; omega
     have gq27 : w0.heap.size ≤ g27 := by have := Q_3.size; omega
     obtain ⟨w4, hr4, B27_4, G4, hs4⟩ := al_run (op := Instr.alloc 40 true (.tuple #[])) (T := 40) (cs := #[(.int .u64 0), (.string { data := #[] }), (.string { data := #[] }), (.float .f64 0), (.int .i64 0), (.int .i64 0), (.slice none 0 0), (.slice none 0 0), (.slice none 0 0), (.bool false), (.string { data := #[] })]) hg27 (fun _ => by kernel_rfl)
     have B22_4 := B22_3.gn G4
     have Bw_4 := Bw_3.gn G4
     have Q_4 := below_gn Q_3 hw G4
     have wr_4 := wr_3.kt (Kt.of_none G4) (by decide)
     have tv_4 := tv_3.kt (Kt.of_none G4) (by decide)
     have is_4 := is_3.kt (Kt.of_none G4) (by decide) (by decide) (by decide)
     have ks_4 := ks_3.kt (Kt.of_none G4) (by decide)
     have ms_4 := ms_3.kt (Kt.of_none G4) (by decide)
     have kw_4 := kw_3.kt (Kt.of_none G4) (by decide)
     have mw_4 := mw_3.kt (Kt.of_none G4) (by decide)
     have sw_4 := sw_3.kt (Kt.of_none G4) (by decide) (by decide) (by decide)
     have nw_4 := nw_3.kt (Kt.of_none G4) (by decide)
     have kq_4 := kq_3.kt (Kt.of_none G4) (by decide)
     have mq_4 := mq_3.kt (Kt.of_none G4) (by decide)
     have KR_4 := KR_3.nw (Nat.le_refl _) G4
     refine wl_pq F15 (ex_al hr4) fun a16 u16 F16 (h27_16 : a16.tmps.getD 27 undef = (.pointer (some ⟨g27, 0, none⟩))) => ?_
     clear Q_3 wr_3 tv_3 is_3 kw_3 mw_3 sw_3 nw_3 kq_3 mq_3 KR_3
     have h337_16 := u16.w (u15.w (u14.w h337_13))
     refine wl_pq F16 (ex_as h337_16) fun a17 u17 F17 h26_17 => ?_
     obtain ⟨w5, hr5, B27_5, G5⟩ := sta_run (T := 40) (cs := #[(.int .u64 n), (.string s.title), (.string s.uri), (.float .f64 (fb s.e)), (.int .i64 s.li), (.int .i64 s.off), (.slice k5a k5n k5c), (.slice m5a m5n m5c), (.slice none 0 0), (.bool s.disc), (.string s.date)]) (fun _ => by kernel_rfl) B27_4 rfl rfl (by simp [Value.oneCell'])
     have B22_5 := B22_4.gk G5 ne_22_27
     have Bw_5 := Bw_4.gk G5 ne_w_27
     have Q_5 := below_st Q_4 hw gq27 G5
     have wr_5 := wr_4.kt (Kt.of_blk B27_4 G5) (by decide)
     have tv_5 := tv_4.kt (Kt.of_blk B27_4 G5) (by decide)
     have is_5 := is_4.gfar B27_4 (by decide) (by decide) hfar27 G5
     have ks_5 := ks_4.kt (Kt.of_blk B27_4 G5) (by decide)
     have ms_5 := ms_4.kt (Kt.of_blk B27_4 G5) (by decide)
     have kw_5 := kw_4.kt (Kt.of_blk B27_4 G5) (by decide)
     have mw_5 := mw_4.kt (Kt.of_blk B27_4 G5) (by decide)
     have sw_5 := sw_4.kt (Kt.of_blk B27_4 G5) (by decide) (by decide) (by decide)
     have nw_5 := nw_4.kt (Kt.of_blk B27_4 G5) (by decide)
     have kq_5 := kq_4.kt (Kt.of_blk B27_4 G5) (by decide)
     have mq_5 := mq_4.kt (Kt.of_blk B27_4 G5) (by decide)
     have KR_5 := KR_4.blk (Nat.le_refl _) B27_4 ge27 (by decide) G5
     refine wl_n (ex_st (u17.w h27_16) (u17.w (u16.w h339_15)) hr5) ?_
     clear Q_4 wr_4 tv_4 is_4 kw_4 mw_4 sw_4 nw_4 kq_4 mq_4 KR_4
     change Code.wp _ _ _ _ _
     refine wp_seq ?_
     obtain ⟨w6, hw6⟩ : ∃ w, w = w5.drew := ⟨_, rfl⟩
     have G6 : w5.grownBy w6 none := hw6 ▸ grown_drew _
     have B22_6 := B22_5.gn G6
     have Bw_6 := Bw_5.gn G6
     have B27_6 := B27_5.gn G6
     have Q_6 := below_gn Q_5 hw G6
     have wr_6 := wr_5.kt (Kt.of_none G6) (by decide)
     have tv_6 := tv_5.kt (Kt.of_none G6) (by decide)
     have is_6 := is_5.kt (Kt.of_none G6) (by decide) (by decide) (by decide)
     have ks_6 := ks_5.kt (Kt.of_none G6) (by decide)
     have ms_6 := ms_5.kt (Kt.of_none G6) (by decide)
     have kw_6 := kw_5.kt (Kt.of_none G6) (by decide)
     have mw_6 := mw_5.kt (Kt.of_none G6) (by decide)
     have sw_6 := sw_5.kt (Kt.of_none G6) (by decide) (by decide) (by decide)
     have nw_6 := nw_5.kt (Kt.of_none G6) (by decide)
     have kq_6 := kq_5.kt (Kt.of_none G6) (by decide)
     have mq_6 := mq_5.kt (Kt.of_none G6) (by decide)
     have KR_6 := KR_5.nw (Nat.le_refl _) G6
     refine rg_stillt 15 hw6 hmix (by kernel_rfl) ?_
     clear Q_5 wr_5 tv_5 is_5 kw_5 mw_5 sw_5 nw_5 kq_5 mq_5 KR_5
     refine st_pq F17 (ex_lda (u17.w h27_16) (ld_agg (n := 11) (xs := #[(.int .u64 n), (.string s.title), (.string s.uri), (.float .f64 (fb s.e)), (.int .i64 s.li), (.int .i64 s.off), (.slice k5a k5n k5c), (.slice m5a m5n m5c), (.slice none 0 0), (.bool s.disc), (.string s.date)]) (fun _ => by kernel_rfl) (fun _ => by kernel_rfl) B27_6 rfl (fun _ _ => by rw [Nat.zero_add] <;> rfl))) fun a18 u18 F18 (h340_18 : a18.tmps.getD 340 undef = (.agg #[(.int .u64 n), (.string s.title), (.string s.uri), (.float .f64 (fb s.e)), (.int .i64 s.li), (.int .i64 s.off), (.slice k5a k5n k5c), (.slice m5a m5n m5c), (.slice none 0 0), (.bool s.disc), (.string s.date)])) => ?_
     have h9_18 := u18.w (u17.w (u16.w (u15.w (u14.w (u13.w (u12.w h9_11))))))
     refine st_pq F18 (ex_mv h9_18) fun a19 u19 F19 h341_19 => ?_
     refine st_pq F19 (ex_nil h341_19) fun a20 u20 F20 h342_20 => ?_
     refine st_pq F20 (ex_fb 9 h342_20) fun a21 u21 F21 h343_21 => ?_
     refine st_pq F21 (ex_le (v := swv) h343_21 (Bw_6.cell 9)) fun a22 u22 F22 h344_22 => ?_
     have h26_22 := u22.w (u21.w (u20.w (u19.w (u18.w h26_17))))
     refine st_pq F22 (ex_mv h26_22) fun a23 u23 F23 h345_23 => ?_
     refine st_pq F23 (ex_ixg (vx := swv) (vy := (.int .i64 j)) (v := (.pointer (some ⟨gs5, us5, none⟩))) (u23.w h344_22) h345_23 (hix5 _)) fun a24 u24 F24 h346_24 => ?_
     refine st_pq F24 (ex_lda h346_24 (ld_agg (n := 9) (o := us5) (xs := #[(.string s.title), (.string s.uri), (.int .i64 s.e), (.int .i64 s.li), (.int .i64 s.off), (pto kp5), (pto mp5), (.bool s.disc), (.string s.date)]) (fun _ => by kernel_rfl) (fun _ => by kernel_rfl) (hcur5.bl KR_6.bel) rfl hcl5)) fun a25 u25 F25 (h347_25 : a25.tmps.getD 347 undef = (.agg #[(.string s.title), (.string s.uri), (.int .i64 s.e), (.int .i64 s.li), (.int .i64 s.off), (pto kp5), (pto mp5), (.bool s.disc), (.string s.date)])) => ?_
     have h9_25 := u25.w (u24.w (u23.w (u22.w (u21.w (u20.w (u19.w h9_18))))))
     refine st_pq F25 (ex_mv h9_25) fun a26 u26 F26 h348_26 => ?_
     refine st_pq F26 (ex_nil h348_26) fun a27 u27 F27 h349_27 => ?_
     refine st_pq F27 (ex_fb 10 h349_27) fun a28 u28 F28 h350_28 => ?_
     refine st_pq F28 (ex_le (v := nwv) h350_28 (Bw_6.cell 10)) fun a29 u29 F29 h351_29 => ?_
     have h26_29 := u29.w (u28.w (u27.w (u26.w (u25.w (u24.w (u23.w h26_22))))))
     refine st_pq F29 (ex_mv h26_29) fun a30 u30 F30 h352_30 => ?_
     refine st_pq F30 (ex_ixg (vx := nwv) (vy := (.int .i64 j)) (v := (.pointer (some adn))) (u30.w h351_29) h352_30 (hixn _)) fun a31 u31 F31 h353_31 => ?_
     refine st_pq F31 (ex_le (v := (.int .u64 n)) h353_31 (below_cell KR_6.bel hcln)) fun a32 u32 F32 h354_32 => ?_
     have h340_32 := u32.w (u31.w (u30.w (u29.w (u28.w (u27.w (u26.w (u25.w (u24.w (u23.w (u22.w (u21.w (u20.w (u19.w h340_18)))))))))))))
     have h347_32 := u32.w (u31.w (u30.w (u29.w (u28.w (u27.w (u26.w h347_25))))))
     refine wl_cl (args := #[(.agg #[(.int .u64 n), (.string s.title), (.string s.uri), (.float .f64 (fb s.e)), (.int .i64 s.li), (.int .i64 s.off), (.slice k5a k5n k5c), (.slice m5a m5n m5c), (.slice none 0 0), (.bool s.disc), (.string s.date)]), (.agg #[(.string s.title), (.string s.uri), (.int .i64 s.e), (.int .i64 s.li), (.int .i64 s.off), (pto kp5), (pto mp5), (.bool s.disc), (.string s.date)]), (.int .u64 n)]) (R := fun v w' => v = (.bool true) ∧ w6.grownBy w' none) (ex_cl (fun _ _ => by kernel_rfl) (arg3 h340_32 h347_32 h354_32)) ((sameseg_any hse ks_6 ms_6 kq_6 mq_6).mono fun _ _ h => ⟨_, h.1, rfl, h.2⟩) F32.l ?_
     rintro v w7 ⟨rfl, G7⟩
     have B22_7 := B22_6.gn G7
     have Bw_7 := Bw_6.gn G7
     have B27_7 := B27_6.gn G7
     have Q_7 := below_gn Q_6 hw G7
     have wr_7 := wr_6.kt (Kt.of_none G7) (by decide)
     have tv_7 := tv_6.kt (Kt.of_none G7) (by decide)
     have is_7 := is_6.kt (Kt.of_none G7) (by decide) (by decide) (by decide)
     have ks_7 := ks_6.kt (Kt.of_none G7) (by decide)
     have ms_7 := ms_6.kt (Kt.of_none G7) (by decide)
     have kw_7 := kw_6.kt (Kt.of_none G7) (by decide)
     have mw_7 := mw_6.kt (Kt.of_none G7) (by decide)
     have sw_7 := sw_6.kt (Kt.of_none G7) (by decide) (by decide) (by decide)
     have nw_7 := nw_6.kt (Kt.of_none G7) (by decide)
     have kq_7 := kq_6.kt (Kt.of_none G7) (by decide)
     have mq_7 := mq_6.kt (Kt.of_none G7) (by decide)
     have KR_7 := KR_6.nw (Nat.le_refl _) G7
     intro a33 u33 h355_33
     have F33 := F32.pt u33
     clear Q_6 wr_6 tv_6 is_6 kw_6 mw_6 sw_6 nw_6 kq_6 mq_6 KR_6
     refine wl_pq F33 (ex_un (vx := (.bool true)) (v := (.bool false)) h355_33 rfl) fun a34 u34 F34 h356_34 => ?_
     change Code.wp _ _ _ _ _
     refine wp_cond_false h356_34 ?_
     refine wp_skip ?_
     change Code.wp _ _ _ _ _
     refine rg_list ?_
     have h335_34 := u34.w (u33.w (u32.w (u31.w (u30.w (u29.w (u28.w (u27.w (u26.w (u25.w (u24.w (u23.w (u22.w (u21.w (u20.w (u19.w (u18.w (u17.w (u16.w (u15.w (u14.w (u13.w (u12.w h335_11))))))))))))))))))))))
     refine wl_pq F34 (ex_bin (vy := (.int .i64 1)) (v := (.int .i64 (j + 1 : Nat))) h335_34 rfl (bo_addn j 1 (by omega) _)) fun a35 u35 F35 h357_35 => ?_
     refine wl_pq F35 (ex_mv h357_35) fun a36 u36 F36 h335_36 => ?_
     have h333_36 := u36.w (u35.w (u34.w (u33.w (u32.w (u31.w (u30.w (u29.w (u28.w (u27.w (u26.w (u25.w (u24.w (u23.w (u22.w (u21.w (u20.w (u19.w (u18.w (u17.w (u16.w (u15.w (u14.w (u13.w (u12.w h333_11))))))))))))))))))))))))
     have h334_36 := u36.w (u35.w (u34.w (u33.w (u32.w (u31.w (u30.w (u29.w (u28.w (u27.w (u26.w (u25.w (u24.w (u23.w (u22.w (u21.w (u20.w (u19.w (u18.w (u17.w (u16.w (u15.w (u14.w (u13.w (u12.w h334_11))))))))))))))))))))))))
     have h9_36 := u36.w (u35.w (u34.w (u33.w (u32.w (u31.w (u30.w (u29.w (u28.w (u27.w (u26.w h9_25))))))))))
     have h22_36 := u36.w (u35.w (u34.w (u33.w (u32.w (u31.w (u30.w (u29.w (u28.w (u27.w (u26.w (u25.w (u24.w (u23.w (u22.w (u21.w (u20.w (u19.w (u18.w (u17.w (u16.w (u15.w (u14.w (u13.w (u12.w h22_11))))))))))))))))))))))))
     exact hR _ _ ⟨F36, h335_36, h333_36, h334_36, h9_36, h22_36, Q_7, ⟨⟨kpw, mpw, swv, nwv, Bw_7, kw_7, mw_7, sw_7, nw_7⟩, hwb, Q_7.size⟩, wr_7, tv_7, is_7, B22_7⟩
   · clear Q_2 H_2 wr_2 tv_2 is_2
     intro a11 w3 ⟨F11, h335_11, h333_11, h334_11, h9_11, h22_11, Q_3, H_3, wr_3, tv_3, is_3, B22_3⟩
     refine wp_sr ?_
     refine wl_pq F11 (ex_bin (v := (.bool false)) h335_11 h334_11 ((bo_ltn ((d0.execs xs).segs.length) (d0.execs xs).segs.length _).trans (by rw [decide_eq_false (by omega)]))) fun a12 u12 F12 h336_12 => ?_
     change Code.wp _ _ _ _ _
     refine wp_seq ?_
     refine wp_cond_false h336_12 ?_
     refine wp_exit ?_
     try simp only [Exit.then]
     refine inBlock_exit ?_
     change Code.wp _ _ _ _ _
     refine wp_sr ?_
     refine wl_pq F12 (ex_as (v := (.bool true)) rfl) fun a13 u13 F13 h6_13 => ?_
     change Code.wp _ _ _ _ _
     refine wp_ret ?_
     try simp only [Exit.then, Exit.inBlock]
     exact bodyPost_ret (v := (.bool true)) ((results_tmp rfl _ _ _).trans (by rw [h6_13])) F13.defers ⟨rfl, Q_3⟩
end Go.Proofs.YtdpebhlkgmopkaaDoor
