/-
  Whole statements of a walk over a frame that is not written out: writes into the buffer of a constant, of a field along a path, of what a function makes of it; tests of fields.
-/
import Derived.Test.YtlphcidpaidclaaGreatDoorMix
namespace Go.Proofs.YtlphcidpaidclaaGreatDoor
open Go.RowKit

theorem ev_const (a : Act) (v : Value) : a.eval (.const v) = v := rfl
/-- the pointer to the head of block b -/
abbrev pt (b : Nat) : Value := .pointer (some ⟨b, 0, none⟩)
theorem hmix : Tryz.prog.follows .mixedOrders = true := by kernel_rfl
theorem faBuf : FA 70 17 17 := fun _ _ => by kernel_rfl
theorem cfWS : CF 46 := fun _ _ => by kernel_rfl
theorem cfWR : CF 48 := fun _ _ => by kernel_rfl

section
set_option maxRecDepth 100000
variable {ty1 ty2 ty3 ty4 ty5 ty6 ty7 ty8 ty9 ty10 ty11 ty12 ty13 ty14 ty15 ty16 : TypeId} {p1 p2 p3 p4 p5 p6 p7 p8 p9 p10 p11 p12 p13 p14 p15 p16 : String} {af1 af2 af3 af4 af5 af6 af7 af8 af9 af10 af11 af12 af13 af14 af15 af16 : Array Edge} {ats ats' : Array TypeId}
variable {ops : Array Oper} {QS : Act → Prop} {Q : Exit → Act → World → Prop} {a : Act} {w w0 : World} {rest : List Oper} {v v2 : Value} {B b c c2 : Nat} {R : Nat → Option Value} {l : List UInt8} {id t r s T f k L T2 f2 k2 L2 : Nat}

theorem st_addr (hf : FA T f k) (hr : a.tmps.getD r undef = pt b) (hsz : t + 2 < a.tmps.size) (hK : ∀ a', Up t a a' → a'.tmps.getD (t + 2) undef = .pointer (some ⟨b, k, none⟩) → wpStill Tryz.prog ops w QS rest a') :
    wpStill Tryz.prog ops w QS (⟨some t, .move (.tmp r), ty1, p1, af1, none⟩ :: ⟨some (t + 1), .nilCheck (.tmp t), ty2, p2, af2, none⟩ :: ⟨some (t + 2), .fieldAddr T (.tmp (t + 1)) f, ty3, p3, af3, none⟩ :: rest) a := by
  refine st_v ex_move ?_
  refine st_v (ex_nil (ad := ⟨b, 0, none⟩) ((put_get (d := t) _ (by omega)).trans hr)) ?_
  have e : ((a.put (some t) (a.eval (.tmp r))).put (some (t + 1)) (pt b)).eval (.tmp (t + 1)) = pt b := put_get _ (by rw [put_size]; omega)
  have hx := ex_fa (w := w) (d := some (t + 2)) (ty := ty3) (p := p3) (af := af3) (g := none) hf e
  refine st_v hx ?_
  refine hK _ (((Up.put _ _ (Nat.le_refl t)).trans (Up.put _ _ (Nat.le_refl (t + 1))) (by omega)).trans (Up.put _ _ (Nat.le_refl (t + 2))) (by omega)) (put_get _ (by rw [put_size, put_size]; omega))
theorem st_load (hl : LD L) {ad : Addr} (hs : a.tmps.getD s undef = .pointer (some ad)) (hc : w.cell? ad = some v) (hsz : t < a.tmps.size) (hK : ∀ a', Up t a a' → a'.tmps.getD t undef = v → wpStill Tryz.prog ops w QS rest a') :
    wpStill Tryz.prog ops w QS (⟨some t, .load L (.tmp s), ty1, p1, af1, none⟩ :: rest) a := by
  refine st_v (ex_ld hl hs hc) ?_
  exact hK _ (Up.put _ _ (Nat.le_refl t)) (put_get _ hsz)
theorem st_hop (hf : FA T f k) (hl : LD L) (hs : a.tmps.getD s undef = pt b) (hc : w.cell? ⟨b, k, none⟩ = some v) (hsz : t + 2 < a.tmps.size) (hK : ∀ a', Up t a a' → a'.tmps.getD (t + 2) undef = v → wpStill Tryz.prog ops w QS rest a') :
    wpStill Tryz.prog ops w QS (⟨some t, .nilCheck (.tmp s), ty1, p1, af1, none⟩ :: ⟨some (t + 1), .fieldAddr T (.tmp t) f, ty2, p2, af2, none⟩ :: ⟨some (t + 2), .load L (.tmp (t + 1)), ty3, p3, af3, none⟩ :: rest) a := by
  refine st_v (ex_nil (ad := ⟨b, 0, none⟩) hs) ?_
  have e : (a.put (some t) (pt b)).eval (.tmp t) = pt b := put_get _ (by omega)
  refine st_v (ex_fa hf e) ?_
  have e2 : ((a.put (some t) (pt b)).put (some (t + 1)) (.pointer (some ⟨b, k, none⟩))).eval (.tmp (t + 1)) = .pointer (some ⟨b, k, none⟩) := put_get _ (by rw [put_size]; omega)
  refine st_v (ex_ld hl e2 hc) ?_
  exact hK _ (((Up.put _ _ (Nat.le_refl t)).trans (Up.put _ _ (Nat.le_refl (t + 1))) (by omega)).trans (Up.put _ _ (Nat.le_refl (t + 2))) (by omega)) (put_get _ (by rw [put_size, put_size]; omega))
theorem st_path1 (hf : FA T f k) (hL : LD L) (hr : a.tmps.getD r undef = pt c) (hc : w.cell? ⟨c, k, none⟩ = some v) (hsz : t + 3 < a.tmps.size) (hK : ∀ a', Up t a a' → a'.tmps.getD (t + 3) undef = v → wpStill Tryz.prog ops w QS rest a') :
    wpStill Tryz.prog ops w QS (⟨some t, .move (.tmp r), ty1, p1, af1, none⟩ :: ⟨some (t + 1), .nilCheck (.tmp t), ty2, p2, af2, none⟩ :: ⟨some (t + 2), .fieldAddr T (.tmp (t + 1)) f, ty3, p3, af3, none⟩ :: ⟨some (t + 3), .load L (.tmp (t + 2)), ty4, p4, af4, none⟩ :: rest) a := by
  refine st_addr hf hr (by omega) fun a1 u1 h1 => ?_
  exact st_load hL h1 hc (by rw [u1.size]; omega) fun a2 u2 h2 => hK _ (u1.trans u2 (by omega)) h2
theorem st_path2 (hf : FA T f k) (hL : LD L) (hf2 : FA T2 f2 k2) (hL2 : LD L2) (hr : a.tmps.getD r undef = pt c) (hc : w.cell? ⟨c, k, none⟩ = some (pt c2)) (hc2 : w.cell? ⟨c2, k2, none⟩ = some v) (hsz : t + 6 < a.tmps.size) (hK : ∀ a', Up t a a' → a'.tmps.getD (t + 6) undef = v → wpStill Tryz.prog ops w QS rest a') :
    wpStill Tryz.prog ops w QS (⟨some t, .move (.tmp r), ty1, p1, af1, none⟩ :: ⟨some (t + 1), .nilCheck (.tmp t), ty2, p2, af2, none⟩ :: ⟨some (t + 2), .fieldAddr T (.tmp (t + 1)) f, ty3, p3, af3, none⟩ :: ⟨some (t + 3), .load L (.tmp (t + 2)), ty4, p4, af4, none⟩ :: ⟨some (t + 4), .nilCheck (.tmp (t + 3)), ty5, p5, af5, none⟩ :: ⟨some (t + 5), .fieldAddr T2 (.tmp (t + 4)) f2, ty6, p6, af6, none⟩ :: ⟨some (t + 6), .load L2 (.tmp (t + 5)), ty7, p7, af7, none⟩ :: rest) a := by
  refine st_path1 hf hL hr hc (by omega) fun a1 u1 h1 => ?_
  exact st_hop hf2 hL2 h1 hc2 (by rw [u1.size]; omega) fun a2 u2 h2 => hK _ (u1.trans u2 (by omega)) h2
variable {S : World → Prop} {KH : Act → Prop}
theorem mh_addr (hf : FA T f k) (hr : a.tmps.getD r undef = pt b) (hsz : t + 2 < a.tmps.size) (hK : ∀ a', Up t a a' → a'.tmps.getD (t + 2) undef = .pointer (some ⟨b, k, none⟩) → wpHead ops S KH rest a') :
    wpHead ops S KH (⟨some t, .move (.tmp r), ty1, p1, af1, none⟩ :: ⟨some (t + 1), .nilCheck (.tmp t), ty2, p2, af2, none⟩ :: ⟨some (t + 2), .fieldAddr T (.tmp (t + 1)) f, ty3, p3, af3, none⟩ :: rest) a := by
  refine mh_v (fun _ _ => ex_move) ?_
  refine mh_v (fun _ _ => ex_nil (ad := ⟨b, 0, none⟩) ((put_get (d := t) _ (by omega)).trans hr)) ?_
  have e : ((a.put (some t) (a.eval (.tmp r))).put (some (t + 1)) (pt b)).eval (.tmp (t + 1)) = pt b := put_get _ (by rw [put_size]; omega)
  refine mh_v (fun _ _ => ex_fa hf e) ?_
  refine hK _ (((Up.put _ _ (Nat.le_refl t)).trans (Up.put _ _ (Nat.le_refl (t + 1))) (by omega)).trans (Up.put _ _ (Nat.le_refl (t + 2))) (by omega)) (put_get _ (by rw [put_size, put_size]; omega))
theorem mh_load (hl : LD L) {ad : Addr} (hs : a.tmps.getD s undef = .pointer (some ad)) (hc : ∀ w, S w → w.cell? ad = some v) (hsz : t < a.tmps.size) (hK : ∀ a', Up t a a' → a'.tmps.getD t undef = v → wpHead ops S KH rest a') :
    wpHead ops S KH (⟨some t, .load L (.tmp s), ty1, p1, af1, none⟩ :: rest) a := by
  refine mh_v (fun w hw => ex_ld hl hs (hc w hw)) ?_
  exact hK _ (Up.put _ _ (Nat.le_refl t)) (put_get _ hsz)
theorem mh_hop (hf : FA T f k) (hl : LD L) (hs : a.tmps.getD s undef = pt b) (hc : ∀ w, S w → w.cell? ⟨b, k, none⟩ = some v) (hsz : t + 2 < a.tmps.size) (hK : ∀ a', Up t a a' → a'.tmps.getD (t + 2) undef = v → wpHead ops S KH rest a') :
    wpHead ops S KH (⟨some t, .nilCheck (.tmp s), ty1, p1, af1, none⟩ :: ⟨some (t + 1), .fieldAddr T (.tmp t) f, ty2, p2, af2, none⟩ :: ⟨some (t + 2), .load L (.tmp (t + 1)), ty3, p3, af3, none⟩ :: rest) a := by
  refine mh_v (fun _ _ => ex_nil (ad := ⟨b, 0, none⟩) hs) ?_
  have e : (a.put (some t) (pt b)).eval (.tmp t) = pt b := put_get _ (by omega)
  refine mh_v (fun _ _ => ex_fa hf e) ?_
  have e2 : ((a.put (some t) (pt b)).put (some (t + 1)) (.pointer (some ⟨b, k, none⟩))).eval (.tmp (t + 1)) = .pointer (some ⟨b, k, none⟩) := put_get _ (by rw [put_size]; omega)
  refine mh_v (fun w hw => ex_ld hl e2 (hc w hw)) ?_
  exact hK _ (((Up.put _ _ (Nat.le_refl t)).trans (Up.put _ _ (Nat.le_refl (t + 1))) (by omega)).trans (Up.put _ _ (Nat.le_refl (t + 2))) (by omega)) (put_get _ (by rw [put_size, put_size]; omega))
theorem mh_path1 (hf : FA T f k) (hL : LD L) (hr : a.tmps.getD r undef = pt c) (hc : ∀ w, S w → w.cell? ⟨c, k, none⟩ = some v) (hsz : t + 3 < a.tmps.size) (hK : ∀ a', Up t a a' → a'.tmps.getD (t + 3) undef = v → wpHead ops S KH rest a') :
    wpHead ops S KH (⟨some t, .move (.tmp r), ty1, p1, af1, none⟩ :: ⟨some (t + 1), .nilCheck (.tmp t), ty2, p2, af2, none⟩ :: ⟨some (t + 2), .fieldAddr T (.tmp (t + 1)) f, ty3, p3, af3, none⟩ :: ⟨some (t + 3), .load L (.tmp (t + 2)), ty4, p4, af4, none⟩ :: rest) a := by
  refine mh_addr hf hr (by omega) fun a1 u1 h1 => ?_
  exact mh_load hL h1 hc (by rw [u1.size]; omega) fun a2 u2 h2 => hK _ (u1.trans u2 (by omega)) h2
theorem mh_path2 (hf : FA T f k) (hL : LD L) (hf2 : FA T2 f2 k2) (hL2 : LD L2) (hr : a.tmps.getD r undef = pt c) (hc : ∀ w, S w → w.cell? ⟨c, k, none⟩ = some (pt c2)) (hc2 : ∀ w, S w → w.cell? ⟨c2, k2, none⟩ = some v) (hsz : t + 6 < a.tmps.size) (hK : ∀ a', Up t a a' → a'.tmps.getD (t + 6) undef = v → wpHead ops S KH rest a') :
    wpHead ops S KH (⟨some t, .move (.tmp r), ty1, p1, af1, none⟩ :: ⟨some (t + 1), .nilCheck (.tmp t), ty2, p2, af2, none⟩ :: ⟨some (t + 2), .fieldAddr T (.tmp (t + 1)) f, ty3, p3, af3, none⟩ :: ⟨some (t + 3), .load L (.tmp (t + 2)), ty4, p4, af4, none⟩ :: ⟨some (t + 4), .nilCheck (.tmp (t + 3)), ty5, p5, af5, none⟩ :: ⟨some (t + 5), .fieldAddr T2 (.tmp (t + 4)) f2, ty6, p6, af6, none⟩ :: ⟨some (t + 6), .load L2 (.tmp (t + 5)), ty7, p7, af7, none⟩ :: rest) a := by
  refine mh_path1 hf hL hr hc (by omega) fun a1 u1 h1 => ?_
  exact mh_hop hf2 hL2 h1 hc2 (by rw [u1.size]; omega) fun a2 u2 h2 => hK _ (u1.trans u2 (by omega)) h2

/-- p.buf.WriteString of a constant -/
theorem s_wsc {x : ByteArray} (h0 : a.tmps.getD 0 undef = pt b) (_ht : 0 < t) (hsz : t + 3 < a.tmps.size) (hE : Enc B b R w0 l w) (hl : l.length + x.size ≤ 140737488355328) (hK : ∀ a' w', Up t a a' → Enc B b R w0 (l ++ x.data.toList) w' → Q .normal a' w') :
    (Code.region id #[⟨some t, .move (.tmp 0), ty1, p1, af1, none⟩, ⟨some (t + 1), .nilCheck (.tmp t), ty2, p2, af2, none⟩, ⟨some (t + 2), .fieldAddr 70 (.tmp (t + 1)) 17, ty3, p3, af3, none⟩, ⟨some (t + 3), .call ⟨.value (.func 46), #[.tmp (t + 2), .const (.string x)], ats⟩, ty4, p4, af4, none⟩] false).wp Tryz.prog Q a w := by
  refine rg_plain 3 ?_
  refine st_addr faBuf h0 (by omega) fun a1 u1 h1 => ?_
  refine wl_c (ex_call cfWS) (R := fun _ w' => Enc B b R w0 (l ++ x.data.toList) w') ?_ ?_
  · have e : (#[Operand.tmp (t + 2), Operand.const (.string x)] : Array Operand).map a1.eval = #[.pointer (some ⟨b, 17, none⟩), .string x] := by
      have e1 : a1.eval (.tmp (t + 2)) = .pointer (some ⟨b, 17, none⟩) := h1
      simp only [List.map_toArray, List.map_cons, List.map_nil, e1, ev_const]
    rw [e]
    exact (enc_ws x hE hl).mono fun _ _ h => ⟨_, h.1, h.2⟩
  · intro v w' h
    exact hK _ _ (u1.trans (Up.put _ _ (Nat.le_refl (t + 3))) (by omega)) h

/-- p.buf.WriteRune of a constant below 128 -/
theorem s_wrc (x : UInt8) (hx : x.toNat < 128) (h0 : a.tmps.getD 0 undef = pt b) (_ht : 0 < t) (hsz : t + 3 < a.tmps.size) (hE : Enc B b R w0 l w) (hl : l.length + 1 ≤ 140737488355328) (hK : ∀ a' w', Up t a a' → Enc B b R w0 (l ++ [x]) w' → Q .normal a' w') :
    (Code.region id #[⟨some t, .move (.tmp 0), ty1, p1, af1, none⟩, ⟨some (t + 1), .nilCheck (.tmp t), ty2, p2, af2, none⟩, ⟨some (t + 2), .fieldAddr 70 (.tmp (t + 1)) 17, ty3, p3, af3, none⟩, ⟨some (t + 3), .call ⟨.value (.func 48), #[.tmp (t + 2), .const (.int .i32 x.toNat)], ats⟩, ty4, p4, af4, none⟩] false).wp Tryz.prog Q a w := by
  refine rg_plain 3 ?_
  refine st_addr faBuf h0 (by omega) fun a1 u1 h1 => ?_
  refine wl_c (ex_call cfWR) (R := fun _ w' => Enc B b R w0 (l ++ [x]) w') ?_ ?_
  · have e : (#[Operand.tmp (t + 2), Operand.const (.int .i32 x.toNat)] : Array Operand).map a1.eval = #[.pointer (some ⟨b, 17, none⟩), .int .i32 x.toNat] := by
      have e1 : a1.eval (.tmp (t + 2)) = .pointer (some ⟨b, 17, none⟩) := h1
      simp only [List.map_toArray, List.map_cons, List.map_nil, e1, ev_const]
    rw [e]
    exact (enc_wr x hE hx hl).mono fun _ _ h => ⟨_, h.1, h.2⟩
  · intro v w' h
    exact hK _ _ (u1.trans (Up.put _ _ (Nat.le_refl (t + 3))) (by omega)) h

/-- p.buf.WriteString of a text 1 fields deep -/
theorem s_wsp1 {x : ByteArray} (h0 : a.tmps.getD 0 undef = pt b) (hf : FA T f k) (hL : LD L) (hr : a.tmps.getD r undef = pt c) (hc : w.cell? ⟨c, k, none⟩ = some v) (hv : v = .string x) (hrt : r < t) (_ht : 0 < t) (hsz : t + 7 < a.tmps.size) (hE : Enc B b R w0 l w) (hl : l.length + x.size ≤ 140737488355328) (hK : ∀ a' w', Up t a a' → Enc B b R w0 (l ++ x.data.toList) w' → Q .normal a' w')
    (hB : Region.lexTailB .any [⟨some t, .move (.tmp 0), ty1, p1, af1, none⟩, ⟨some (t + 1), .nilCheck (.tmp t), ty2, p2, af2, none⟩, ⟨some (t + 2), .fieldAddr 70 (.tmp (t + 1)) 17, ty3, p3, af3, none⟩, ⟨some (t + 3), .move (.tmp r), ty4, p4, af4, none⟩, ⟨some (t + 4), .nilCheck (.tmp (t + 3)), ty5, p5, af5, none⟩, ⟨some (t + 5), .fieldAddr T (.tmp (t + 4)) f, ty6, p6, af6, none⟩, ⟨some (t + 6), .load L (.tmp (t + 5)), ty7, p7, af7, none⟩, ⟨some (t + 7), .call ⟨.value (.func 46), #[.tmp (t + 2), .tmp (t + 6)], ats⟩, ty8, p8, af8, none⟩].toArray 7 = true) :
    (Code.region id #[⟨some t, .move (.tmp 0), ty1, p1, af1, none⟩, ⟨some (t + 1), .nilCheck (.tmp t), ty2, p2, af2, none⟩, ⟨some (t + 2), .fieldAddr 70 (.tmp (t + 1)) 17, ty3, p3, af3, none⟩, ⟨some (t + 3), .move (.tmp r), ty4, p4, af4, none⟩, ⟨some (t + 4), .nilCheck (.tmp (t + 3)), ty5, p5, af5, none⟩, ⟨some (t + 5), .fieldAddr T (.tmp (t + 4)) f, ty6, p6, af6, none⟩, ⟨some (t + 6), .load L (.tmp (t + 5)), ty7, p7, af7, none⟩, ⟨some (t + 7), .call ⟨.value (.func 46), #[.tmp (t + 2), .tmp (t + 6)], ats⟩, ty8, p8, af8, none⟩] true).wp Tryz.prog Q a w := by
  subst hv
  refine wp_region_still_tail 7 hmix hB ?_
  refine st_addr faBuf h0 (by omega) fun a1 u1 h1 => ?_
  refine st_path1 hf hL ((u1.low r hrt).trans hr) hc (by rw [u1.size]; omega) fun a2 u2 h2 => ?_
  have h1' := (u2.low (t + 2) (by omega)).trans h1
  refine wl_c (ex_call cfWS) (R := fun _ w' => Enc B b R w0 (l ++ x.data.toList) w') ?_ ?_
  · have e : (#[Operand.tmp (t + 2), Operand.tmp (t + 6)] : Array Operand).map a2.eval = #[.pointer (some ⟨b, 17, none⟩), .string x] := by
      have e1 : a2.eval (.tmp (t + 2)) = .pointer (some ⟨b, 17, none⟩) := h1'
      have e2 : a2.eval (.tmp (t + 6)) = .string x := h2
      simp only [List.map_toArray, List.map_cons, List.map_nil, e1, e2]
    rw [e]
    exact (enc_ws x hE.drew hl).mono fun _ _ h => ⟨_, h.1, h.2⟩
  · intro v w' h
    exact hK _ _ ((u1.trans u2 (by omega)).trans (Up.put _ _ (Nat.le_refl (t + 7))) (by omega)) h

/-- p.buf.WriteString of a text 2 fields deep -/
theorem s_wsp2 {x : ByteArray} (h0 : a.tmps.getD 0 undef = pt b) (hf : FA T f k) (hL : LD L) (hf2 : FA T2 f2 k2) (hL2 : LD L2) (hr : a.tmps.getD r undef = pt c) (hc : w.cell? ⟨c, k, none⟩ = some (pt c2)) (hc2 : w.cell? ⟨c2, k2, none⟩ = some v) (hv : v = .string x) (hrt : r < t) (_ht : 0 < t) (hsz : t + 10 < a.tmps.size) (hE : Enc B b R w0 l w) (hl : l.length + x.size ≤ 140737488355328) (hK : ∀ a' w', Up t a a' → Enc B b R w0 (l ++ x.data.toList) w' → Q .normal a' w')
    (hB : Region.lexTailB .any [⟨some t, .move (.tmp 0), ty1, p1, af1, none⟩, ⟨some (t + 1), .nilCheck (.tmp t), ty2, p2, af2, none⟩, ⟨some (t + 2), .fieldAddr 70 (.tmp (t + 1)) 17, ty3, p3, af3, none⟩, ⟨some (t + 3), .move (.tmp r), ty4, p4, af4, none⟩, ⟨some (t + 4), .nilCheck (.tmp (t + 3)), ty5, p5, af5, none⟩, ⟨some (t + 5), .fieldAddr T (.tmp (t + 4)) f, ty6, p6, af6, none⟩, ⟨some (t + 6), .load L (.tmp (t + 5)), ty7, p7, af7, none⟩, ⟨some (t + 7), .nilCheck (.tmp (t + 6)), ty8, p8, af8, none⟩, ⟨some (t + 8), .fieldAddr T2 (.tmp (t + 7)) f2, ty9, p9, af9, none⟩, ⟨some (t + 9), .load L2 (.tmp (t + 8)), ty10, p10, af10, none⟩, ⟨some (t + 10), .call ⟨.value (.func 46), #[.tmp (t + 2), .tmp (t + 9)], ats⟩, ty11, p11, af11, none⟩].toArray 10 = true) :
    (Code.region id #[⟨some t, .move (.tmp 0), ty1, p1, af1, none⟩, ⟨some (t + 1), .nilCheck (.tmp t), ty2, p2, af2, none⟩, ⟨some (t + 2), .fieldAddr 70 (.tmp (t + 1)) 17, ty3, p3, af3, none⟩, ⟨some (t + 3), .move (.tmp r), ty4, p4, af4, none⟩, ⟨some (t + 4), .nilCheck (.tmp (t + 3)), ty5, p5, af5, none⟩, ⟨some (t + 5), .fieldAddr T (.tmp (t + 4)) f, ty6, p6, af6, none⟩, ⟨some (t + 6), .load L (.tmp (t + 5)), ty7, p7, af7, none⟩, ⟨some (t + 7), .nilCheck (.tmp (t + 6)), ty8, p8, af8, none⟩, ⟨some (t + 8), .fieldAddr T2 (.tmp (t + 7)) f2, ty9, p9, af9, none⟩, ⟨some (t + 9), .load L2 (.tmp (t + 8)), ty10, p10, af10, none⟩, ⟨some (t + 10), .call ⟨.value (.func 46), #[.tmp (t + 2), .tmp (t + 9)], ats⟩, ty11, p11, af11, none⟩] true).wp Tryz.prog Q a w := by
  subst hv
  refine wp_region_still_tail 10 hmix hB ?_
  refine st_addr faBuf h0 (by omega) fun a1 u1 h1 => ?_
  refine st_path2 hf hL hf2 hL2 ((u1.low r hrt).trans hr) hc hc2 (by rw [u1.size]; omega) fun a2 u2 h2 => ?_
  have h1' := (u2.low (t + 2) (by omega)).trans h1
  refine wl_c (ex_call cfWS) (R := fun _ w' => Enc B b R w0 (l ++ x.data.toList) w') ?_ ?_
  · have e : (#[Operand.tmp (t + 2), Operand.tmp (t + 9)] : Array Operand).map a2.eval = #[.pointer (some ⟨b, 17, none⟩), .string x] := by
      have e1 : a2.eval (.tmp (t + 2)) = .pointer (some ⟨b, 17, none⟩) := h1'
      have e2 : a2.eval (.tmp (t + 9)) = .string x := h2
      simp only [List.map_toArray, List.map_cons, List.map_nil, e1, e2]
    rw [e]
    exact (enc_ws x hE.drew hl).mono fun _ _ h => ⟨_, h.1, h.2⟩
  · intro v w' h
    exact hK _ _ ((u1.trans u2 (by omega)).trans (Up.put _ _ (Nat.le_refl (t + 10))) (by omega)) h

/-- p.buf.WriteString of what a function makes of a field 1 deep, 0 constants behind it -/
theorem s_wsf1_0 {x : ByteArray} {g : FuncId} (hg : CF g) (h0 : a.tmps.getD 0 undef = pt b) (hf : FA T f k) (hL : LD L) (hr : a.tmps.getD r undef = pt c) (hc : ∀ l w, Enc B b R w0 l w → w.cell? ⟨c, k, none⟩ = some v) (hC : ∀ w, Enc B b R w0 l w → Calls Tryz.prog g #[v] w fun e w' => e = .returned (.string x) ∧ Enc B b R w0 l w') (hrt : r < t) (_ht : 0 < t) (hsz : t + 8 < a.tmps.size) (hE : Enc B b R w0 l w) (hl : l.length + x.size ≤ 140737488355328) (hK : ∀ a' w', Up t a a' → Enc B b R w0 (l ++ x.data.toList) w' → Q .normal a' w')
    (hB : mixB [⟨some t, .move (.tmp 0), ty1, p1, af1, none⟩, ⟨some (t + 1), .nilCheck (.tmp t), ty2, p2, af2, none⟩, ⟨some (t + 2), .fieldAddr 70 (.tmp (t + 1)) 17, ty3, p3, af3, none⟩, ⟨some (t + 3), .move (.tmp r), ty4, p4, af4, none⟩, ⟨some (t + 4), .nilCheck (.tmp (t + 3)), ty5, p5, af5, none⟩, ⟨some (t + 5), .fieldAddr T (.tmp (t + 4)) f, ty6, p6, af6, none⟩, ⟨some (t + 6), .load L (.tmp (t + 5)), ty7, p7, af7, none⟩, ⟨some (t + 7), .call ⟨.value (.func g), #[.tmp (t + 6)], ats⟩, ty8, p8, af8, none⟩, ⟨some (t + 8), .call ⟨.value (.func 46), #[.tmp (t + 2), .tmp (t + 7)], ats'⟩, ty9, p9, af9, none⟩].toArray 7 = true) :
    (Code.region id #[⟨some t, .move (.tmp 0), ty1, p1, af1, none⟩, ⟨some (t + 1), .nilCheck (.tmp t), ty2, p2, af2, none⟩, ⟨some (t + 2), .fieldAddr 70 (.tmp (t + 1)) 17, ty3, p3, af3, none⟩, ⟨some (t + 3), .move (.tmp r), ty4, p4, af4, none⟩, ⟨some (t + 4), .nilCheck (.tmp (t + 3)), ty5, p5, af5, none⟩, ⟨some (t + 5), .fieldAddr T (.tmp (t + 4)) f, ty6, p6, af6, none⟩, ⟨some (t + 6), .load L (.tmp (t + 5)), ty7, p7, af7, none⟩, ⟨some (t + 7), .call ⟨.value (.func g), #[.tmp (t + 6)], ats⟩, ty8, p8, af8, none⟩, ⟨some (t + 8), .call ⟨.value (.func 46), #[.tmp (t + 2), .tmp (t + 7)], ats'⟩, ty9, p9, af9, none⟩] true).wp Tryz.prog Q a w := by
  refine rg_mix (S := fun w => w.cell? ⟨c, k, none⟩ = some v) 7 (by simp) hmix hB (hc _ _ hE.drew) ?_
  refine mh_addr faBuf h0 (by omega) fun a1 u1 h1 => ?_
  refine mh_path1 hf hL ((u1.low r hrt).trans hr) (fun _ h => h) (by rw [u1.size]; omega) fun a2 u2 h2 => ?_
  have h1' := (u2.low (t + 2) (by omega)).trans h1
  refine mt_c (ex_call hg) (R := fun v w' => v = .string x ∧ Enc B b R w0 l w') ?_ ?_
  · have e : (#[Operand.tmp (t + 6)] : Array Operand).map a2.eval = #[v] := by
      have e2 : a2.eval (.tmp (t + 6)) = v := h2
      simp only [List.map_toArray, List.map_cons, List.map_nil, e2]
    rw [e]
    exact (hC _ hE.drew).mono fun _ _ h => ⟨_, h.1, rfl, h.2⟩
  · rintro v' w1 ⟨rfl, hE1⟩
    refine ⟨(hc _ _ hE1), ?_⟩
    refine mt_c (ex_call cfWS) (R := fun _ w' => Enc B b R w0 (l ++ x.data.toList) w') ?_ ?_
    · have e : (#[Operand.tmp (t + 2), Operand.tmp (t + 7)] : Array Operand).map (a2.put (some (t + 7)) (.string x)).eval = #[.pointer (some ⟨b, 17, none⟩), .string x] := by
        have e1 : (a2.put (some (t + 7)) (.string x)).eval (.tmp (t + 2)) = .pointer (some ⟨b, 17, none⟩) := (put_other (by omega)).trans h1'
        have e2 : (a2.put (some (t + 7)) (.string x)).eval (.tmp (t + 7)) = .string x := put_get _ (by rw [u2.size, u1.size]; omega)
        simp only [List.map_toArray, List.map_cons, List.map_nil, e1, e2]
      rw [e]
      exact (enc_ws x hE1 hl).mono fun _ _ h => ⟨_, h.1, h.2⟩
    · intro v w' h
      exact ⟨(hc _ _ h), hK _ _ (((u1.trans u2 (by omega)).trans (Up.put _ _ (Nat.le_refl (t + 7))) (by omega)).trans (Up.put _ _ (Nat.le_refl (t + 8))) (by omega)) h⟩

/-- p.buf.WriteString of what a function makes of a field 1 deep, 1 constants behind it -/
theorem s_wsf1_1 {x : ByteArray} {g : FuncId} {ck1 : Value} (hg : CF g) (h0 : a.tmps.getD 0 undef = pt b) (hf : FA T f k) (hL : LD L) (hr : a.tmps.getD r undef = pt c) (hc : ∀ l w, Enc B b R w0 l w → w.cell? ⟨c, k, none⟩ = some v) (hC : ∀ w, Enc B b R w0 l w → Calls Tryz.prog g #[v, ck1] w fun e w' => e = .returned (.string x) ∧ Enc B b R w0 l w') (hrt : r < t) (_ht : 0 < t) (hsz : t + 8 < a.tmps.size) (hE : Enc B b R w0 l w) (hl : l.length + x.size ≤ 140737488355328) (hK : ∀ a' w', Up t a a' → Enc B b R w0 (l ++ x.data.toList) w' → Q .normal a' w')
    (hB : mixB [⟨some t, .move (.tmp 0), ty1, p1, af1, none⟩, ⟨some (t + 1), .nilCheck (.tmp t), ty2, p2, af2, none⟩, ⟨some (t + 2), .fieldAddr 70 (.tmp (t + 1)) 17, ty3, p3, af3, none⟩, ⟨some (t + 3), .move (.tmp r), ty4, p4, af4, none⟩, ⟨some (t + 4), .nilCheck (.tmp (t + 3)), ty5, p5, af5, none⟩, ⟨some (t + 5), .fieldAddr T (.tmp (t + 4)) f, ty6, p6, af6, none⟩, ⟨some (t + 6), .load L (.tmp (t + 5)), ty7, p7, af7, none⟩, ⟨some (t + 7), .call ⟨.value (.func g), #[.tmp (t + 6), .const ck1], ats⟩, ty8, p8, af8, none⟩, ⟨some (t + 8), .call ⟨.value (.func 46), #[.tmp (t + 2), .tmp (t + 7)], ats'⟩, ty9, p9, af9, none⟩].toArray 7 = true) :
    (Code.region id #[⟨some t, .move (.tmp 0), ty1, p1, af1, none⟩, ⟨some (t + 1), .nilCheck (.tmp t), ty2, p2, af2, none⟩, ⟨some (t + 2), .fieldAddr 70 (.tmp (t + 1)) 17, ty3, p3, af3, none⟩, ⟨some (t + 3), .move (.tmp r), ty4, p4, af4, none⟩, ⟨some (t + 4), .nilCheck (.tmp (t + 3)), ty5, p5, af5, none⟩, ⟨some (t + 5), .fieldAddr T (.tmp (t + 4)) f, ty6, p6, af6, none⟩, ⟨some (t + 6), .load L (.tmp (t + 5)), ty7, p7, af7, none⟩, ⟨some (t + 7), .call ⟨.value (.func g), #[.tmp (t + 6), .const ck1], ats⟩, ty8, p8, af8, none⟩, ⟨some (t + 8), .call ⟨.value (.func 46), #[.tmp (t + 2), .tmp (t + 7)], ats'⟩, ty9, p9, af9, none⟩] true).wp Tryz.prog Q a w := by
  refine rg_mix (S := fun w => w.cell? ⟨c, k, none⟩ = some v) 7 (by simp) hmix hB (hc _ _ hE.drew) ?_
  refine mh_addr faBuf h0 (by omega) fun a1 u1 h1 => ?_
  refine mh_path1 hf hL ((u1.low r hrt).trans hr) (fun _ h => h) (by rw [u1.size]; omega) fun a2 u2 h2 => ?_
  have h1' := (u2.low (t + 2) (by omega)).trans h1
  refine mt_c (ex_call hg) (R := fun v w' => v = .string x ∧ Enc B b R w0 l w') ?_ ?_
  · have e : (#[Operand.tmp (t + 6), Operand.const ck1] : Array Operand).map a2.eval = #[v, ck1] := by
      have e2 : a2.eval (.tmp (t + 6)) = v := h2
      simp only [List.map_toArray, List.map_cons, List.map_nil, e2, ev_const]
    rw [e]
    exact (hC _ hE.drew).mono fun _ _ h => ⟨_, h.1, rfl, h.2⟩
  · rintro v' w1 ⟨rfl, hE1⟩
    refine ⟨(hc _ _ hE1), ?_⟩
    refine mt_c (ex_call cfWS) (R := fun _ w' => Enc B b R w0 (l ++ x.data.toList) w') ?_ ?_
    · have e : (#[Operand.tmp (t + 2), Operand.tmp (t + 7)] : Array Operand).map (a2.put (some (t + 7)) (.string x)).eval = #[.pointer (some ⟨b, 17, none⟩), .string x] := by
        have e1 : (a2.put (some (t + 7)) (.string x)).eval (.tmp (t + 2)) = .pointer (some ⟨b, 17, none⟩) := (put_other (by omega)).trans h1'
        have e2 : (a2.put (some (t + 7)) (.string x)).eval (.tmp (t + 7)) = .string x := put_get _ (by rw [u2.size, u1.size]; omega)
        simp only [List.map_toArray, List.map_cons, List.map_nil, e1, e2]
      rw [e]
      exact (enc_ws x hE1 hl).mono fun _ _ h => ⟨_, h.1, h.2⟩
    · intro v w' h
      exact ⟨(hc _ _ h), hK _ _ (((u1.trans u2 (by omega)).trans (Up.put _ _ (Nat.le_refl (t + 7))) (by omega)).trans (Up.put _ _ (Nat.le_refl (t + 8))) (by omega)) h⟩

/-- p.buf.WriteString of what a function makes of a field 2 deep, 1 constants behind it -/
theorem s_wsf2_1 {x : ByteArray} {g : FuncId} {ck1 : Value} (hg : CF g) (h0 : a.tmps.getD 0 undef = pt b) (hf : FA T f k) (hL : LD L) (hf2 : FA T2 f2 k2) (hL2 : LD L2) (hr : a.tmps.getD r undef = pt c) (hc : ∀ l w, Enc B b R w0 l w → w.cell? ⟨c, k, none⟩ = some (pt c2)) (hc2 : ∀ l w, Enc B b R w0 l w → w.cell? ⟨c2, k2, none⟩ = some v) (hC : ∀ w, Enc B b R w0 l w → Calls Tryz.prog g #[v, ck1] w fun e w' => e = .returned (.string x) ∧ Enc B b R w0 l w') (hrt : r < t) (_ht : 0 < t) (hsz : t + 11 < a.tmps.size) (hE : Enc B b R w0 l w) (hl : l.length + x.size ≤ 140737488355328) (hK : ∀ a' w', Up t a a' → Enc B b R w0 (l ++ x.data.toList) w' → Q .normal a' w')
    (hB : mixB [⟨some t, .move (.tmp 0), ty1, p1, af1, none⟩, ⟨some (t + 1), .nilCheck (.tmp t), ty2, p2, af2, none⟩, ⟨some (t + 2), .fieldAddr 70 (.tmp (t + 1)) 17, ty3, p3, af3, none⟩, ⟨some (t + 3), .move (.tmp r), ty4, p4, af4, none⟩, ⟨some (t + 4), .nilCheck (.tmp (t + 3)), ty5, p5, af5, none⟩, ⟨some (t + 5), .fieldAddr T (.tmp (t + 4)) f, ty6, p6, af6, none⟩, ⟨some (t + 6), .load L (.tmp (t + 5)), ty7, p7, af7, none⟩, ⟨some (t + 7), .nilCheck (.tmp (t + 6)), ty8, p8, af8, none⟩, ⟨some (t + 8), .fieldAddr T2 (.tmp (t + 7)) f2, ty9, p9, af9, none⟩, ⟨some (t + 9), .load L2 (.tmp (t + 8)), ty10, p10, af10, none⟩, ⟨some (t + 10), .call ⟨.value (.func g), #[.tmp (t + 9), .const ck1], ats⟩, ty11, p11, af11, none⟩, ⟨some (t + 11), .call ⟨.value (.func 46), #[.tmp (t + 2), .tmp (t + 10)], ats'⟩, ty12, p12, af12, none⟩].toArray 10 = true) :
    (Code.region id #[⟨some t, .move (.tmp 0), ty1, p1, af1, none⟩, ⟨some (t + 1), .nilCheck (.tmp t), ty2, p2, af2, none⟩, ⟨some (t + 2), .fieldAddr 70 (.tmp (t + 1)) 17, ty3, p3, af3, none⟩, ⟨some (t + 3), .move (.tmp r), ty4, p4, af4, none⟩, ⟨some (t + 4), .nilCheck (.tmp (t + 3)), ty5, p5, af5, none⟩, ⟨some (t + 5), .fieldAddr T (.tmp (t + 4)) f, ty6, p6, af6, none⟩, ⟨some (t + 6), .load L (.tmp (t + 5)), ty7, p7, af7, none⟩, ⟨some (t + 7), .nilCheck (.tmp (t + 6)), ty8, p8, af8, none⟩, ⟨some (t + 8), .fieldAddr T2 (.tmp (t + 7)) f2, ty9, p9, af9, none⟩, ⟨some (t + 9), .load L2 (.tmp (t + 8)), ty10, p10, af10, none⟩, ⟨some (t + 10), .call ⟨.value (.func g), #[.tmp (t + 9), .const ck1], ats⟩, ty11, p11, af11, none⟩, ⟨some (t + 11), .call ⟨.value (.func 46), #[.tmp (t + 2), .tmp (t + 10)], ats'⟩, ty12, p12, af12, none⟩] true).wp Tryz.prog Q a w := by
  refine rg_mix (S := fun w => w.cell? ⟨c, k, none⟩ = some (pt c2) ∧ w.cell? ⟨c2, k2, none⟩ = some v) 10 (by simp) hmix hB ⟨hc _ _ hE.drew, hc2 _ _ hE.drew⟩ ?_
  refine mh_addr faBuf h0 (by omega) fun a1 u1 h1 => ?_
  refine mh_path2 hf hL hf2 hL2 ((u1.low r hrt).trans hr) (fun _ h => h.1) (fun _ h => h.2) (by rw [u1.size]; omega) fun a2 u2 h2 => ?_
  have h1' := (u2.low (t + 2) (by omega)).trans h1
  refine mt_c (ex_call hg) (R := fun v w' => v = .string x ∧ Enc B b R w0 l w') ?_ ?_
  · have e : (#[Operand.tmp (t + 9), Operand.const ck1] : Array Operand).map a2.eval = #[v, ck1] := by
      have e2 : a2.eval (.tmp (t + 9)) = v := h2
      simp only [List.map_toArray, List.map_cons, List.map_nil, e2, ev_const]
    rw [e]
    exact (hC _ hE.drew).mono fun _ _ h => ⟨_, h.1, rfl, h.2⟩
  · rintro v' w1 ⟨rfl, hE1⟩
    refine ⟨⟨hc _ _ hE1, hc2 _ _ hE1⟩, ?_⟩
    refine mt_c (ex_call cfWS) (R := fun _ w' => Enc B b R w0 (l ++ x.data.toList) w') ?_ ?_
    · have e : (#[Operand.tmp (t + 2), Operand.tmp (t + 10)] : Array Operand).map (a2.put (some (t + 10)) (.string x)).eval = #[.pointer (some ⟨b, 17, none⟩), .string x] := by
        have e1 : (a2.put (some (t + 10)) (.string x)).eval (.tmp (t + 2)) = .pointer (some ⟨b, 17, none⟩) := (put_other (by omega)).trans h1'
        have e2 : (a2.put (some (t + 10)) (.string x)).eval (.tmp (t + 10)) = .string x := put_get _ (by rw [u2.size, u1.size]; omega)
        simp only [List.map_toArray, List.map_cons, List.map_nil, e1, e2]
      rw [e]
      exact (enc_ws x hE1 hl).mono fun _ _ h => ⟨_, h.1, h.2⟩
    · intro v w' h
      exact ⟨⟨hc _ _ h, hc2 _ _ h⟩, hK _ _ (((u1.trans u2 (by omega)).trans (Up.put _ _ (Nat.le_refl (t + 10))) (by omega)).trans (Up.put _ _ (Nat.le_refl (t + 11))) (by omega)) h⟩

/-- p.buf.WriteString of what a function makes of a field 1 deep, 3 constants behind it -/
theorem s_wsf1_3 {x : ByteArray} {g : FuncId} {ck1 ck2 ck3 : Value} (hg : CF g) (h0 : a.tmps.getD 0 undef = pt b) (hf : FA T f k) (hL : LD L) (hr : a.tmps.getD r undef = pt c) (hc : ∀ l w, Enc B b R w0 l w → w.cell? ⟨c, k, none⟩ = some v) (hC : ∀ w, Enc B b R w0 l w → Calls Tryz.prog g #[v, ck1, ck2, ck3] w fun e w' => e = .returned (.string x) ∧ Enc B b R w0 l w') (hrt : r < t) (_ht : 0 < t) (hsz : t + 8 < a.tmps.size) (hE : Enc B b R w0 l w) (hl : l.length + x.size ≤ 140737488355328) (hK : ∀ a' w', Up t a a' → Enc B b R w0 (l ++ x.data.toList) w' → Q .normal a' w')
    (hB : mixB [⟨some t, .move (.tmp 0), ty1, p1, af1, none⟩, ⟨some (t + 1), .nilCheck (.tmp t), ty2, p2, af2, none⟩, ⟨some (t + 2), .fieldAddr 70 (.tmp (t + 1)) 17, ty3, p3, af3, none⟩, ⟨some (t + 3), .move (.tmp r), ty4, p4, af4, none⟩, ⟨some (t + 4), .nilCheck (.tmp (t + 3)), ty5, p5, af5, none⟩, ⟨some (t + 5), .fieldAddr T (.tmp (t + 4)) f, ty6, p6, af6, none⟩, ⟨some (t + 6), .load L (.tmp (t + 5)), ty7, p7, af7, none⟩, ⟨some (t + 7), .call ⟨.value (.func g), #[.tmp (t + 6), .const ck1, .const ck2, .const ck3], ats⟩, ty8, p8, af8, none⟩, ⟨some (t + 8), .call ⟨.value (.func 46), #[.tmp (t + 2), .tmp (t + 7)], ats'⟩, ty9, p9, af9, none⟩].toArray 7 = true) :
    (Code.region id #[⟨some t, .move (.tmp 0), ty1, p1, af1, none⟩, ⟨some (t + 1), .nilCheck (.tmp t), ty2, p2, af2, none⟩, ⟨some (t + 2), .fieldAddr 70 (.tmp (t + 1)) 17, ty3, p3, af3, none⟩, ⟨some (t + 3), .move (.tmp r), ty4, p4, af4, none⟩, ⟨some (t + 4), .nilCheck (.tmp (t + 3)), ty5, p5, af5, none⟩, ⟨some (t + 5), .fieldAddr T (.tmp (t + 4)) f, ty6, p6, af6, none⟩, ⟨some (t + 6), .load L (.tmp (t + 5)), ty7, p7, af7, none⟩, ⟨some (t + 7), .call ⟨.value (.func g), #[.tmp (t + 6), .const ck1, .const ck2, .const ck3], ats⟩, ty8, p8, af8, none⟩, ⟨some (t + 8), .call ⟨.value (.func 46), #[.tmp (t + 2), .tmp (t + 7)], ats'⟩, ty9, p9, af9, none⟩] true).wp Tryz.prog Q a w := by
  refine rg_mix (S := fun w => w.cell? ⟨c, k, none⟩ = some v) 7 (by simp) hmix hB (hc _ _ hE.drew) ?_
  refine mh_addr faBuf h0 (by omega) fun a1 u1 h1 => ?_
  refine mh_path1 hf hL ((u1.low r hrt).trans hr) (fun _ h => h) (by rw [u1.size]; omega) fun a2 u2 h2 => ?_
  have h1' := (u2.low (t + 2) (by omega)).trans h1
  refine mt_c (ex_call hg) (R := fun v w' => v = .string x ∧ Enc B b R w0 l w') ?_ ?_
  · have e : (#[Operand.tmp (t + 6), Operand.const ck1, Operand.const ck2, Operand.const ck3] : Array Operand).map a2.eval = #[v, ck1, ck2, ck3] := by
      have e2 : a2.eval (.tmp (t + 6)) = v := h2
      simp only [List.map_toArray, List.map_cons, List.map_nil, e2, ev_const]
    rw [e]
    exact (hC _ hE.drew).mono fun _ _ h => ⟨_, h.1, rfl, h.2⟩
  · rintro v' w1 ⟨rfl, hE1⟩
    refine ⟨(hc _ _ hE1), ?_⟩
    refine mt_c (ex_call cfWS) (R := fun _ w' => Enc B b R w0 (l ++ x.data.toList) w') ?_ ?_
    · have e : (#[Operand.tmp (t + 2), Operand.tmp (t + 7)] : Array Operand).map (a2.put (some (t + 7)) (.string x)).eval = #[.pointer (some ⟨b, 17, none⟩), .string x] := by
        have e1 : (a2.put (some (t + 7)) (.string x)).eval (.tmp (t + 2)) = .pointer (some ⟨b, 17, none⟩) := (put_other (by omega)).trans h1'
        have e2 : (a2.put (some (t + 7)) (.string x)).eval (.tmp (t + 7)) = .string x := put_get _ (by rw [u2.size, u1.size]; omega)
        simp only [List.map_toArray, List.map_cons, List.map_nil, e1, e2]
      rw [e]
      exact (enc_ws x hE1 hl).mono fun _ _ h => ⟨_, h.1, h.2⟩
    · intro v w' h
      exact ⟨(hc _ _ h), hK _ _ (((u1.trans u2 (by omega)).trans (Up.put _ _ (Nat.le_refl (t + 7))) (by omega)).trans (Up.put _ _ (Nat.le_refl (t + 8))) (by omega)) h⟩

/-- a test of a field 1 deep against a constant -/
theorem t_bin1 {bo : BinOp} {bt bt2 : TypeId} {cc : Value} {q : Bool} {X Y : Code} (hf : FA T f k) (hL : LD L) (hr : a.tmps.getD r undef = pt c) (hc : w.cell? ⟨c, k, none⟩ = some v) (hb : ∀ w, (do eqGuard bo bt (.tmp (t + 3)) (.const cc) v cc; binOp bo bt v cc : Sem Value).run Tryz.prog w = .ok (.bool q) w) (hsz : t + 4 < a.tmps.size) (hT : q = true → ∀ a', Up t a a' → X.wp Tryz.prog Q a' w) (hN : q = false → ∀ a', Up t a a' → Y.wp Tryz.prog Q a' w) :
    (Code.seq (Code.region id #[⟨some t, .move (.tmp r), ty1, p1, af1, none⟩, ⟨some (t + 1), .nilCheck (.tmp t), ty2, p2, af2, none⟩, ⟨some (t + 2), .fieldAddr T (.tmp (t + 1)) f, ty3, p3, af3, none⟩, ⟨some (t + 3), .load L (.tmp (t + 2)), ty4, p4, af4, none⟩, ⟨some (t + 4), .binOp bo bt (.tmp (t + 3)) (.const cc) bt2, ty5, p5, af5, none⟩] false) (Code.cond (.tmp (t + 4)) X Y)).wp Tryz.prog Q a w := by
  refine wp_seq (rg_plain 4 ?_)
  refine st_path1 hf hL hr hc (by omega) fun a2 u2 h2 => ?_
  have hx : (execOp a2.eval ⟨some (t + 4), .binOp bo bt (.tmp (t + 3)) (.const cc) bt2, ty5, p5, af5, none⟩).run Tryz.prog w = .ok (.value (.bool q)) w := by
    have e : a2.eval (.tmp (t + 3)) = v := h2
    have hb' := hb w
    simp only [Sem.run_bind] at hb'
    simp only [execOp, e, Sem.run_bind, ev_const, hb', Result.andThen_ok, Sem.run_pure]
  refine wl_v hx ?_
  have hq : (a2.put (some (t + 4)) (.bool q)).eval (.tmp (t + 4)) = .bool q := put_get _ (by rw [u2.size]; omega)
  have hu := u2.trans (Up.put a2 (.bool q) (Nat.le_refl (t + 4))) (by omega)
  exact wp_cond_split hq (fun h => hT h _ hu) (fun h => hN h _ hu)

/-- a test of a field 2 deep against a constant -/
theorem t_bin2 {bo : BinOp} {bt bt2 : TypeId} {cc : Value} {q : Bool} {X Y : Code} (hf : FA T f k) (hL : LD L) (hf2 : FA T2 f2 k2) (hL2 : LD L2) (hr : a.tmps.getD r undef = pt c) (hc : w.cell? ⟨c, k, none⟩ = some (pt c2)) (hc2 : w.cell? ⟨c2, k2, none⟩ = some v) (hb : ∀ w, (do eqGuard bo bt (.tmp (t + 6)) (.const cc) v cc; binOp bo bt v cc : Sem Value).run Tryz.prog w = .ok (.bool q) w) (hsz : t + 7 < a.tmps.size) (hT : q = true → ∀ a', Up t a a' → X.wp Tryz.prog Q a' w) (hN : q = false → ∀ a', Up t a a' → Y.wp Tryz.prog Q a' w) :
    (Code.seq (Code.region id #[⟨some t, .move (.tmp r), ty1, p1, af1, none⟩, ⟨some (t + 1), .nilCheck (.tmp t), ty2, p2, af2, none⟩, ⟨some (t + 2), .fieldAddr T (.tmp (t + 1)) f, ty3, p3, af3, none⟩, ⟨some (t + 3), .load L (.tmp (t + 2)), ty4, p4, af4, none⟩, ⟨some (t + 4), .nilCheck (.tmp (t + 3)), ty5, p5, af5, none⟩, ⟨some (t + 5), .fieldAddr T2 (.tmp (t + 4)) f2, ty6, p6, af6, none⟩, ⟨some (t + 6), .load L2 (.tmp (t + 5)), ty7, p7, af7, none⟩, ⟨some (t + 7), .binOp bo bt (.tmp (t + 6)) (.const cc) bt2, ty8, p8, af8, none⟩] false) (Code.cond (.tmp (t + 7)) X Y)).wp Tryz.prog Q a w := by
  refine wp_seq (rg_plain 7 ?_)
  refine st_path2 hf hL hf2 hL2 hr hc hc2 (by omega) fun a2 u2 h2 => ?_
  have hx : (execOp a2.eval ⟨some (t + 7), .binOp bo bt (.tmp (t + 6)) (.const cc) bt2, ty8, p8, af8, none⟩).run Tryz.prog w = .ok (.value (.bool q)) w := by
    have e : a2.eval (.tmp (t + 6)) = v := h2
    have hb' := hb w
    simp only [Sem.run_bind] at hb'
    simp only [execOp, e, Sem.run_bind, ev_const, hb', Result.andThen_ok, Sem.run_pure]
  refine wl_v hx ?_
  have hq : (a2.put (some (t + 7)) (.bool q)).eval (.tmp (t + 7)) = .bool q := put_get _ (by rw [u2.size]; omega)
  have hu := u2.trans (Up.put a2 (.bool q) (Nat.le_refl (t + 7))) (by omega)
  exact wp_cond_split hq (fun h => hT h _ hu) (fun h => hN h _ hu)

/-- a test of a field -/
theorem t_val {q : Bool} {X Y : Code} (hf : FA T f k) (hL : LD L) (hr : a.tmps.getD r undef = pt c) (hc : w.cell? ⟨c, k, none⟩ = some v) (hv : v = .bool q) (hsz : t + 3 < a.tmps.size) (hT : q = true → ∀ a', Up t a a' → X.wp Tryz.prog Q a' w) (hN : q = false → ∀ a', Up t a a' → Y.wp Tryz.prog Q a' w) :
    (Code.seq (Code.region id #[⟨some t, .move (.tmp r), ty1, p1, af1, none⟩, ⟨some (t + 1), .nilCheck (.tmp t), ty2, p2, af2, none⟩, ⟨some (t + 2), .fieldAddr T (.tmp (t + 1)) f, ty3, p3, af3, none⟩, ⟨some (t + 3), .load L (.tmp (t + 2)), ty4, p4, af4, none⟩] false) (Code.cond (.tmp (t + 3)) X Y)).wp Tryz.prog Q a w := by
  subst hv
  refine wp_seq (rg_plain 4 ?_)
  refine st_path1 hf hL hr hc (by omega) fun a2 u2 h2 => ?_
  exact wp_cond_split h2 (fun h => hT h _ u2) (fun h => hN h _ u2)
end
end Go.Proofs.YtlphcidpaidclaaGreatDoor
