/-
 What the walks of FnSteps rest on: general lemmas, the small functions that FnWindow walks too.
-/
import Derived.Test.YtdpebhlkgmopkaaDoorChecked
import Derived.Below
import Derived.BigQuiet
import Derived.Deep.QuietTactic
import Derived.Deep.RegionHeld3
import Derived.LaidEqlPtr
import Derived.Laws.Externs
import Derived.Laws.MakeOwn
import Derived.Lib.AppendIntMem
import Derived.Lib.Hide
import Derived.Lib.ItoaNum
import Derived.Lib.Strings
import Derived.OrdersHeld
import Derived.Outline
import Derived.StillTailTactics
import Derived.WalkKit
import Derived.WalkLawsBesides
import Derived.WalkSpells
import GoSem.Core.Float
namespace Go.Proofs.YtdpebhlkgmopkaaDoor
open Go.RowKit
section
theorem ret_str {a b : ByteArray} (h : a = b) : Ending.returned (.string a) = .returned (.string b) := by rw [h]
theorem ofL (t : ByteArray) : (⟨t.data.toList.toArray⟩ : ByteArray) = t := by cases t; simp
/-- a byte string of a list -/
abbrev bs (l : List UInt8) : ByteArray := ⟨l.toArray⟩
theorem bs_eq {s : ByteArray} {l : List UInt8} (h : s.data.toList = l) : s = bs l := by rw [← h, bs, ofL]
theorem data_app (a b : ByteArray) : (a ++ b).data.toList = a.data.toList ++ b.data.toList := by simp [ByteArray.data_append]
theorem size_bs (l : List UInt8) : (bs l).size = l.length := rfl
theorem encode_ascii (n : Nat) (h : n < 128) : Utf8.encode (n : Int) = bs [UInt8.ofNat n] := by
 have : ∀ m : Fin 128, Utf8.encode ((m.val : Nat) : Int) = bs [UInt8.ofNat m.val] := by decide +kernel
 exact this ⟨n, h⟩
theorem encode_digit {n : Int} (h0 : 0 ≤ n) (h : n < 10) : Utf8.encode (48 + n) = bs [UInt8.ofNat (48 + n.toNat)] := by
 have e := encode_ascii (48 + n.toNat) (by omega)
 rw [show ((48 + n.toNat : Nat) : Int) = 48 + n by omega] at e
 exact e
theorem decDigits_len (k : Nat) : ∀ n : Nat, n < 10 ^ k → 1 ≤ k → (Lib.decDigits n).length ≤ k := by
 induction k with
 | zero => intro n _ h; omega
 | succ k ih =>
   intro n hn _
   unfold Lib.decDigits
   split
   · simp
   · rename_i h
     have hk : 1 ≤ k := by
       rcases Nat.eq_zero_or_pos k with rfl | h'
       · simp at hn; omega
       · exact h'
     have := ih (n / 10) (by rw [Nat.pow_succ] at hn; omega) hk
     simp; omega
set_option maxHeartbeats 400000 in
theorem decimal_ind (k : Nat) : ∀ (n : Int) (w : World), 0 ≤ n → n < 10 ^ (k + 1) → k + 1 ≤ 20 → n ≤ 18446744073709551615 →
   Calls Tryd.prog 25 #[.int .u64 n] w fun e w' => e = .returned (.string (bs (Lib.decDigits n.toNat))) ∧ w = w' := by
 induction k with
 | zero =>
   intro n w h0 hn _ _
   have hn : n < 10 := by simpa using hn
   have HE := Lib.hid (encode_digit h0 hn)
   have HD : Hid (Lib.decDigits n.toNat = [UInt8.ofNat (48 + n.toNat)]) := Lib.hid (by unfold Lib.decDigits; rw [dif_pos (by omega)])
   go_enter Tryd.func25, Tryd.ntmps25
   go_wp2_with fail
   go_ret
   exact ⟨ret_str (by rw [HD.out, ← HE.out]), rfl⟩
 | succ k ih =>
   intro n w h0 hn hk hmax
   by_cases hlt : n < 10
   · have HE := Lib.hid (encode_digit h0 hlt)
     have HD : Hid (Lib.decDigits n.toNat = [UInt8.ofNat (48 + n.toNat)]) := Lib.hid (by unfold Lib.decDigits; rw [dif_pos (by omega)])
     clear hn
     go_enter Tryd.func25, Tryd.ntmps25
     go_wp2_with fail
     go_ret
     exact ⟨ret_str (by rw [HD.out, ← HE.out]), rfl⟩
   · have HE := Lib.hid (encode_digit (n := n % 10) (by omega) (by omega))
     have hq : n / 10 < 10 ^ (k + 1) := by rw [Int.pow_succ] at hn; omega
     have HD : Hid (Lib.decDigits n.toNat = Lib.decDigits (n / 10).toNat ++ [UInt8.ofNat (48 + (n % 10).toNat)]) := Lib.hid (by
       conv => lhs; unfold Lib.decDigits
       rw [dif_neg (by omega)]
       rw [show n.toNat / 10 = (n / 10).toNat by omega, show n.toNat % 10 = (n % 10).toNat by omega])
     have hl : (bs (Lib.decDigits (n / 10).toNat)).size ≤ 20 := Nat.le_trans (decDigits_len (k + 1) (n / 10).toNat (by
       have : ((n / 10).toNat : Int) < ((10 ^ (k + 1) : Nat) : Int) := by rw [Int.toNat_of_nonneg (by omega)]; push_cast; exact hq
       omega) (by omega)) (by omega)
     have hc := fun w => ih (n / 10) w (by omega) hq (by omega) (by omega)
     have HC := Lib.hid hc
     clear hc hn hq
     generalize hg : bs (Lib.decDigits (n / 10).toNat) = g at *
     have HG := Lib.hid hg
     clear hg
     have he1 : (Utf8.encode (48 + n % 10)).size ≤ 1 := by rw [HE.out]; exact Nat.le_refl 1
     go_enter Tryd.func25, Tryd.ntmps25
     go_wp2_with fail
     refine (HC.out _).mono ?_
     rintro e w' ⟨rfl, rfl⟩
     go_wp2_with fail
     go_ret
     exact ⟨ret_str (by rw [HD.out, HE.out, ← HG.out]; exact bs_eq (by rw [data_app])), rfl⟩
/-- spec.Decimal at every number. -/
theorem decimal_any (n : Int) (w : World) (h0 : 0 ≤ n) (hm : n ≤ 18446744073709551615) :
   Calls Tryd.prog 25 #[.int .u64 n] w fun e w' => e = .returned (.string (bs (Lib.decDigits n.toNat))) ∧ w = w' :=
 decimal_ind 19 n w h0 (by omega) (by omega) hm
theorem enc_tab (L : ByteArray) (hL : ∀ i : Fin L.size, L[i].toNat < 128) : ∀ (i : Nat) (h : i < L.size), Utf8.encode (wrap32 ((L[i]'h).toNat : Int)) = bs [L[i]'h] := by
 intro i h
 have := hL ⟨i, h⟩
 have this : (L[i]'h).toNat < 128 := this
 rw [show wrap32 ((L[i]'h).toNat : Int) = ((L[i]'h).toNat : Int) from by unfold wrap32; omega, encode_ascii _ this]
 simp
end
section
/-- the bits of n / 8 -/
def fb (n : Nat) : Nat := if n = 0 then 0 else (1019 + n.log2) * 4503599627370496 + n <<< (52 - n.log2)
/-- the bits of n -/
def fn (n : Nat) : Nat := if n = 0 then 0 else (1022 + n.log2) * 4503599627370496 + n <<< (52 - n.log2)
/-- the bits of what math.Ceil makes of bits -/
def fceil (b : Nat) : Nat := FloatKind.f64.encode ((FloatKind.f64.decode b).integral .up)
def isNaN (b : Nat) : Bool := match FloatKind.f64.decode b with | .nan _ _ => true | _ => false
set_option maxRecDepth 100000 in
theorem flo_near_all : ∀ n : Fin 4000, FloatKind.f64.nearest (n.val : Int) = fn n.val := by decide +kernel
set_option maxRecDepth 100000 in
theorem flo_div_all : ∀ n : Fin 4000, FloatKind.f64.format.div (fn n.val) 4620693217682128896 = some (fb n.val) := by decide +kernel
theorem flo_near {n : Nat} (h : n < 4000) : FloatKind.f64.nearest (n : Int) = fn n := flo_near_all ⟨n, h⟩
theorem flo_div {n : Nat} (h : n < 4000) : FloatKind.f64.format.div (fn n) 4620693217682128896 = some (fb n) := flo_div_all ⟨n, h⟩
end
section
set_option maxRecDepth 100000 in
theorem flo_low_all : ∀ n : Fin 4000, FloatKind.f64.format.order (fb n.val) 14054727237768577024 = some .gt := by decide +kernel
set_option maxRecDepth 100000 in
theorem flo_high_all : ∀ n : Fin 4000, FloatKind.f64.format.order (fb n.val) 4831355200913801216 = some .lt := by decide +kernel
theorem flo_low {n : Nat} (h : n < 4000) : FloatKind.f64.format.order (fb n) 14054727237768577024 = some .gt := flo_low_all ⟨n, h⟩
theorem flo_high {n : Nat} (h : n < 4000) : FloatKind.f64.format.order (fb n) 4831355200913801216 = some .lt := flo_high_all ⟨n, h⟩
end
section
theorem toInt_ceil (b : Nat) (hb : isNaN b = false) : Extern.MathFloor.toIntegral "math.archCeil" .up #[.float .f64 b] = pure (.float .f64 (fceil b)) := by
 refine Eq.trans (b := (match FloatKind.f64.decode b with | .nan s t => _ | d => pure (.float .f64 (FloatKind.f64.encode (d.integral .up))))) rfl ?_
 unfold fceil
 cases hd : FloatKind.f64.decode b with
 | nan s t => simp [isNaN, hd] at hb
 | number s m i => rfl
 | infinity s => rfl
theorem arch_ceil (b : Nat) (hb : isNaN b = false) (w : World) :
   (callFunc 67 #[.float .f64 b]).run Tryd.prog w = .ok (.value (.float .f64 (fceil b))) w := by
 rw [run_callFunc_extern Tryd.func67 (by kernel_rfl) (by kernel_rfl) (by kernel_rfl) (e := Extern.MathFloor.toIntegral "math.archCeil" .up) (by kernel_rfl) #[.float .f64 b] w, toInt_ceil b hb]
 rfl
set_option maxRecDepth 100000 in
theorem ceil_any (b : Nat) (hb : isNaN b = false) (w : World) :
   Calls Tryd.prog 58 #[.float .f64 b] w fun e w' => e = .returned (.float .f64 (fceil b)) ∧ w = w' := by
 have HA := arch_ceil b hb
 go_enter Tryd.func58, Tryd.ntmps58
 go_wp2
 go_ret
 exact ⟨rfl, rfl⟩
theorem plain_any (n : Nat) (hn : n < 4000) (w : World) :
   Calls Tryd.prog 33 #[.float .f64 (fb n)] w fun e w' => e = .returned (.bool true) ∧ w = w' := by
 have H1 := flo_low hn
 have H2 := flo_high hn
 go_enter Tryd.func33, Tryd.ntmps33
 go_wp2
 go_ret
 exact ⟨rfl, rfl⟩
end
section
/-- the slots below lo stand as they stood -/
structure Up (lo : Nat) (a a' : Act) : Prop where
 size : a'.tmps.size = a.tmps.size
 defers : a'.defers = a.defers
 low : ∀ t, t < lo → a'.tmps.getD t undef = a.tmps.getD t undef
theorem Up.refl (lo : Nat) (a : Act) : Up lo a a := ⟨rfl, rfl, fun _ _ => rfl⟩
theorem Up.trans {lo lo1 : Nat} {a a1 a2 : Act} (h : Up lo a a1) (h1 : Up lo1 a1 a2) (hl : lo ≤ lo1) : Up lo a a2 :=
 ⟨h1.size.trans h.size, h1.defers.trans h.defers, fun t ht => (h1.low t (by omega)).trans (h.low t ht)⟩
theorem Up.put {lo d : Nat} (a : Act) (v : Value) (hd : lo ≤ d) : Up lo a (a.put (some d) v) :=
 ⟨by simp [Act.put], rfl, fun t ht => by
   have : d ≠ t := by omega
   simp [Act.put, this]⟩
theorem put_get {d : Nat} {a : Act} (v : Value) (hd : d < a.tmps.size) : (a.put (some d) v).tmps.getD d undef = v := by
 simp [Act.put, hd]
theorem put_size {d : Nat} {a : Act} {v : Value} : (a.put (some d) v).tmps.size = a.tmps.size := by simp [Act.put]
theorem put_other {d t : Nat} {a : Act} {v : Value} (h : d ≠ t) : (a.put (some d) v).tmps.getD t undef = a.tmps.getD t undef := by
 simp [Act.put, h]
/-- the address of a field -/
def FA (T f o : Nat) : Prop := ∀ (b : Nat) (w : World), (Instr.fieldAt T (.pointer (some ⟨b, 0, none⟩)) f).run Tryd.prog w = .ok (.pointer (some ⟨b, o, none⟩)) w
/-- a function with a body -/
def CF (f : FuncId) : Prop := ∀ (args : Array Value) (w : World), (callFunc f args).run Tryd.prog w = .ok (.enter f args) w
/-- a type of one cell -/
def LD (L : Nat) : Prop := ∀ (w : World), (isAgg L : Sem Bool).run Tryd.prog w = .ok false w
theorem LD.run {L : Nat} {w : World} {p : Addr} {v : Value} (h : LD L) (hc : w.cell? p = some v) : (Instr.loadAt L (.pointer (some p))).run Tryd.prog w = .ok v w := by
 unfold Instr.loadAt Instr.sureAddr loadVar; simp [h w, hc]
section
variable {ops : Array Oper} {Q : Act → Prop} {QL : Exit → Act → World → Prop} {a : Act} {w w' : World} {rest l : List Oper} {o : Oper} {v : Value}
theorem st_val (hg : o.guard = none) (hrun : (execOp a.eval o).run Tryd.prog w = .ok (.value v) w) (hK : wpStill Tryd.prog ops w Q rest (a.put o.dst v)) : wpStill Tryd.prog ops w Q (o :: rest) a := by
 unfold wpStill
 rw [if_pos (by simp [Region.wanted, hg])]
 unfold Oper.still
 rw [hrun]
 exact ⟨rfl, hK⟩
theorem wl_val (hg : o.guard = none) (hrun : (execOp a.eval o).run Tryd.prog w = .ok (.value v) w') (hK : wpList Tryd.prog ops QL rest (a.put o.dst v) w') : wpList Tryd.prog ops QL (o :: rest) a w := by
 refine wpList_plain hg fun K hk => ?_
 unfold Oper.wp
 rw [hrun]
 exact hk _ _ hK
theorem wl_call {f : FuncId} {args : Array Value} {R : Value → World → Prop} (hg : o.guard = none) (hrun : (execOp a.eval o).run Tryd.prog w = .ok (.enter f args) w) (hC : Calls Tryd.prog f args w fun e w'' => ∃ v, e = .returned v ∧ R v w'')
   (hK : ∀ v w'', R v w'' → wpList Tryd.prog ops QL rest (a.put o.dst v) w'') : wpList Tryd.prog ops QL (o :: rest) a w := by
 refine wpList_plain hg fun K hk => ?_
 unfold Oper.wp
 rw [hrun]
 refine hC.mono ?_
 rintro e w'' ⟨v, rfl, hR⟩
 exact hk _ _ (hK v w'' hR)
theorem st_v {d : Tmp} {op : Op} {ty : TypeId} {p : String} {af : Array Edge} (hrun : (execOp a.eval ⟨some d, op, ty, p, af, none⟩).run Tryd.prog w = .ok (.value v) w) (hK : wpStill Tryd.prog ops w Q rest (a.put (some d) v)) :
   wpStill Tryd.prog ops w Q (⟨some d, op, ty, p, af, none⟩ :: rest) a := st_val rfl hrun hK
theorem wl_v {d : Tmp} {op : Op} {ty : TypeId} {p : String} {af : Array Edge} (hrun : (execOp a.eval ⟨some d, op, ty, p, af, none⟩).run Tryd.prog w = .ok (.value v) w') (hK : wpList Tryd.prog ops QL rest (a.put (some d) v) w') :
   wpList Tryd.prog ops QL (⟨some d, op, ty, p, af, none⟩ :: rest) a w := wl_val rfl hrun hK
theorem wl_c {d : Tmp} {op : Op} {ty : TypeId} {p : String} {af : Array Edge} {f : FuncId} {args : Array Value} {R : Value → World → Prop} (hrun : (execOp a.eval ⟨some d, op, ty, p, af, none⟩).run Tryd.prog w = .ok (.enter f args) w) (hC : Calls Tryd.prog f args w fun e w'' => ∃ v, e = .returned v ∧ R v w'')
   (hK : ∀ v w'', R v w'' → wpList Tryd.prog ops QL rest (a.put (some d) v) w'') : wpList Tryd.prog ops QL (⟨some d, op, ty, p, af, none⟩ :: rest) a w := wl_call rfl hrun hC hK
theorem ex_nil {d : Option Tmp} {x : Operand} {ty : TypeId} {p : String} {af : Array Edge} {g : Option (Nat × Bool)} {ad : Addr} (h : a.eval x = .pointer (some ad)) : (execOp a.eval ⟨d, .nilCheck x, ty, p, af, g⟩).run Tryd.prog w = .ok (.value (.pointer (some ad))) w := by
 simp only [execOp, h]; rfl
theorem ex_fa {d : Option Tmp} {x : Operand} {ty : TypeId} {p : String} {af : Array Edge} {g : Option (Nat × Bool)} {T f k b : Nat} (hf : FA T f k) (h : a.eval x = .pointer (some ⟨b, 0, none⟩)) : (execOp a.eval ⟨d, .fieldAddr T x f, ty, p, af, g⟩).run Tryd.prog w = .ok (.value (.pointer (some ⟨b, k, none⟩))) w := by
 simp only [execOp, h, Sem.run_bind, hf b w, Result.andThen_ok, Sem.run_pure]
theorem ex_ld {d : Option Tmp} {x : Operand} {ty : TypeId} {p : String} {af : Array Edge} {g : Option (Nat × Bool)} {L : Nat} {ad : Addr} (hl : LD L) (h : a.eval x = .pointer (some ad)) (hc : w.cell? ad = some v) : (execOp a.eval ⟨d, .load L x, ty, p, af, g⟩).run Tryd.prog w = .ok (.value v) w := by
 simp only [execOp, h, Sem.run_bind, hl.run hc, Result.andThen_ok, Sem.run_pure]
theorem ex_call {d : Option Tmp} {f : FuncId} {xs : Array Operand} {ats : Array TypeId} {ty : TypeId} {p : String} {af : Array Edge} {g : Option (Nat × Bool)} (hf : CF f) : (execOp a.eval ⟨d, .call ⟨.value (.func f), xs, ats⟩, ty, p, af, g⟩).run Tryd.prog w = .ok (.enter f (xs.map a.eval)) w := by
 simp [go_sem]
 exact hf _ _
end
end
section
/-- the order of the text serves: the first n may be taken first, each of the others comes up alone -/
def mixFrom (ops : Array Oper) (n : Nat) : Nat → Nat → Array Bool → Bool
 | 0, _, listed => (Region.ready .any ops listed).isEmpty
 | fuel + 1, k, listed => (if k < n then (Region.ready .any ops listed).contains k && Region.free .any ops listed k else Region.ready .any ops listed == [k]) && mixFrom ops n fuel (k + 1) (listed.setIfInBounds k true)
def mixB (ops : Array Oper) (n : Nat) : Bool := Region.noSelect ops && mixFrom ops n ops.size 0 (Array.replicate ops.size false)
section
variable {ops : Array Oper} {S : World → Prop} {K : Act → World → Prop}
/-- the operations taken first -/
def wpHead (ops : Array Oper) (S : World → Prop) (K : Act → Prop) : List Oper → Act → Prop
 | [], a => K a
 | o :: rest, a => ∃ v, YieldsIf Tryd.prog ops S o v a ∧ wpHead ops S K rest (a.put o.dst v)
/-- what holds where the region ends as it should -/
def normalOnly (K : Act → World → Prop) : Exit → Act → World → Prop
 | .normal, a, w => K a w
 | _, _, _ => False
/-- the operations that come up one at a time -/
def wpTail (ops : Array Oper) (S : World → Prop) (K : Act → World → Prop) : List Oper → Act → World → Prop
 | [], a, w => K a w
 | o :: rest, a, w => Region.wanted o (yielded ops a.tmps) = true ∧ o.wp Tryd.prog a w (fun a' w' => S w' ∧ wpTail ops S K rest a' w') (normalOnly K)
variable {a : Act} {w : World} {rest : List Oper} {KH : Act → Prop} {d : Tmp} {op : Op} {ty : TypeId} {p : String} {af : Array Edge} {v : Value}
theorem mh_v (hrun : ∀ w, S w → (execOp a.eval ⟨some d, op, ty, p, af, none⟩).run Tryd.prog w = .ok (.value v) w) (hK : wpHead ops S KH rest (a.put (some d) v)) : wpHead ops S KH (⟨some d, op, ty, p, af, none⟩ :: rest) a :=
 ⟨v, .inl ⟨by simp [Region.wanted], hrun⟩, hK⟩
theorem mt_c {f : FuncId} {args : Array Value} {R : Value → World → Prop} (hrun : (execOp a.eval ⟨some d, op, ty, p, af, none⟩).run Tryd.prog w = .ok (.enter f args) w) (hC : Calls Tryd.prog f args w fun e w'' => ∃ v, e = .returned v ∧ R v w'')
   (hK : ∀ v w'', R v w'' → S w'' ∧ wpTail ops S K rest (a.put (some d) v) w'') : wpTail ops S K (⟨some d, op, ty, p, af, none⟩ :: rest) a w := by
 refine ⟨by simp [Region.wanted], ?_⟩
 unfold Oper.wp
 rw [hrun]
 refine hC.mono ?_
 rintro e w'' ⟨v, rfl, hR⟩
 exact hK v w'' hR
theorem mt_v {w' : World} (hrun : (execOp a.eval ⟨some d, op, ty, p, af, none⟩).run Tryd.prog w = .ok (.value v) w') (hK : S w' ∧ wpTail ops S K rest (a.put (some d) v) w') : wpTail ops S K (⟨some d, op, ty, p, af, none⟩ :: rest) a w := by
 refine ⟨by simp [Region.wanted], ?_⟩
 unfold Oper.wp
 rw [hrun]
 exact hK
end
end
section
/-- the pointer to the head of block b -/
abbrev pt (b : Nat) : Value := .pointer (some ⟨b, 0, none⟩)
theorem hmix : Tryd.prog.follows .mixedOrders = true := by kernel_rfl
end
section
/-- block g is just the cells cs of type t, none frozen -/
def Blk (w : World) (g t : Nat) (cs : Array Value) : Prop := w.heap[g]? = some (.cells cs t (0, 0))
section
variable {w w' : World} {g t : Nat} {cs : Array Value}
theorem Blk.lt (h : Blk w g t cs) : g < w.heap.size := by
 rcases Nat.lt_or_ge g w.heap.size with hlt | hge
 · exact hlt
 · unfold Blk at h; rw [Array.getElem?_eq_none hge] at h; cases h
theorem Blk.cell (h : Blk w g t cs) (i : Nat) : w.cell? ⟨g, i, none⟩ = cs[i]? := Lib.cell_of_heap h i
theorem Blk.frozen (h : Blk w g t cs) (i : Nat) : w.frozen? ⟨g, i, none⟩ = false := Lib.frozen_of_heap h i
theorem Blk.new (h : g = w.heap.size) : Blk (w.alloc (.cells cs t)) g t cs := by subst h; exact heap_alloc_new w _
theorem Blk.drew (h : Blk w g t cs) : Blk w.drew g t cs := h
theorem Blk.alloc (h : Blk w g t cs) (o : Obj) : Blk (w.alloc o) g t cs := (Below.heap_alloc w o g h.lt).trans h
theorem Blk.set_ (h : Blk w g t cs) (i : Nat) (u : Value) : Blk (w.setCell ⟨g, i, none⟩ u) g t (cs.setIfInBounds i u) := by
 unfold Blk at h ⊢
 simp [World.setCell, Array.getElem?_modify, h]
theorem Blk.below {B : Nat} (h : Blk w g t cs) (hb : Below B w w') (hg : g < B) : Blk w' g t cs := (hb.block g hg).trans h
theorem Blk.grown {row : Option Nat} (h : Blk w g t cs) (hb : w.grownBy w' row) (hg : some g ≠ row) : Blk w' g t cs := (hb.block g h.lt hg).trans h
theorem Blk.to {cs' : Array Value} (h : Blk w g t cs) (e : cs = cs') : Blk w g t cs' := e ▸ h
theorem Blk.ne_ {g' : Nat} {t' : Nat} {cs' : Array Value} (h : Blk w g t cs) (h' : Blk w g' t' cs') (hne : t ≠ t') : g ≠ g' := by
 rintro rfl
 unfold Blk at h h'
 rw [h] at h'
 injection h' with h'
 injection h' with _ ht
 exact hne ht
end
end
section
section
variable {x y : Operand}
/-- the pointer to a block, or nil -/
def pto (k : Option Nat) : Value := .pointer (k.map fun k => ⟨k, 0, none⟩)
end
end
section
structure KeyD where
 me : ByteArray
 uri : ByteArray
 iv : ByteArray
 fo : ByteArray
 ve : ByteArray
structure KeyD.Ok (k : KeyD) : Prop where
 me : k.me.size ≤ 40
 uri : k.uri.size ≤ 40
 iv : k.iv.size ≤ 40
 fo : k.fo.size ≤ 40
 ve : k.ve.size ≤ 40
def keyC (k : KeyD) : Array Value := #[.string k.me, .string k.uri, .string k.iv, .string k.fo, .string k.ve]
structure MapD where
 uri : ByteArray
 li : Nat
 off : Nat
structure MapD.Ok (m : MapD) : Prop where
 uri : m.uri.size ≤ 40
 li : m.li < 9223372036854775808
 off : m.off < 9223372036854775808
def mapC (m : MapD) : Array Value := #[.string m.uri, .int .i64 m.li, .int .i64 m.off]
structure SegD where
 title : ByteArray
 uri : ByteArray
 e : Nat
 li : Nat
 off : Nat
 key : Option KeyD
 map : Option MapD
 disc : Bool
 date : ByteArray
structure SegD.Ok (s : SegD) : Prop where
 title : s.title.size ≤ 40
 uri : s.uri.size ≤ 40
 date : s.date.size ≤ 40
 li : s.li < 9223372036854775808
 off : s.off < 9223372036854775808
 key : ∀ k, s.key = some k → k.Ok
 map : ∀ m, s.map = some m → m.Ok
/-- the library's segment -/
def segC (num : Nat) (s : SegD) (kp mp : Option Nat) : Array Value :=
 #[.int .u64 num, .string s.title, .string s.uri, .float .f64 (fb s.e), .int .i64 s.li, .int .i64 s.off, pto kp, pto mp, .bool s.disc, .pointer none, .string s.date]
/-- a key behind a pointer, or none -/
inductive KeyIn (w : World) (b : Nat) : Option Nat → Option KeyD → Prop
 | nil : KeyIn w b none none
 | mk {p : Nat} {k : KeyD} (h : Blk w p 113 (keyC k)) (hb : p ≠ b) (ok : k.Ok) : KeyIn w b (some p) (some k)
/-- a head behind a pointer, or none -/
inductive MapIn (w : World) (b : Nat) : Option Nat → Option MapD → Prop
 | nil : MapIn w b none none
 | mk {p : Nat} {m : MapD} (h : Blk w p 115 (mapC m)) (hb : p ≠ b) (ok : m.Ok) : MapIn w b (some p) (some m)
/-- the frame of Encode -/
structure Fr (b : Nat) (a : Act) : Prop where
 size : a.tmps.size = 1029
 defers : a.defers = []
 p : a.tmps.getD 0 undef = pt b
theorem Fr.up {b t : Nat} {a a' : Act} (h : Fr b a) (u : Up t a a') (ht : 0 < t) : Fr b a' := ⟨u.size.trans h.size, u.defers.trans h.defers, (u.low 0 ht).trans h.p⟩
theorem Up.var {t : Nat} {a a' : Act} (u : Up t a a') (s : Nat) (ht : s < t) {v : Value} (h : a.tmps.getD s undef = v) : a'.tmps.getD s undef = v := (u.low s ht).trans h
/-- the part of a piece of code at a path -/
def cat : List Nat → Code → Code
 | [], c => c
 | 0 :: p, .seq a _ => cat p a
 | _ :: p, .seq _ b => cat p b
 | 0 :: p, .cond _ a _ => cat p a
 | _ :: p, .cond _ _ b => cat p b
 | _ :: p, .block _ c => cat p c
 | _ :: p, .loop c => cat p c
 | _ :: p, .scope c => cat p c
 | _, c => c
theorem dd_size {n k : Nat} (h : n < 10 ^ k) (hk : 1 ≤ k) : (bs (Lib.decDigits n)).size ≤ k := decDigits_len k n h hk
end
section
section
set_option maxRecDepth 100000
variable {ops : Array Oper} {QS : Act → Prop} {QL : Exit → Act → World → Prop} {S : World → Prop} {KT : Act → World → Prop} {KH : Act → Prop} {a : Act} {w w' : World} {rest : List Oper} {v vx vy vz : Value} {d : Tmp} {op : Op} {ty : TypeId} {p : String} {af : Array Edge} {g : Option (Nat × Bool)} {j : Nat} {q q' : Bool} {dd : Option Tmp} {x y z : Operand}
theorem yl {e : Nat} (hd : (ops[j]?).bind (·.dst) = some e) (hv : a.tmps.getD e undef = .bool q) : yielded ops a.tmps j = some q := by
 unfold yielded
 rw [hd]
 simp only [Option.bind_some]
 rcases Nat.lt_or_ge e a.tmps.size with h | h
 · simp [h] at hv ⊢
   rw [hv]
 · simp [Array.getElem?_eq_none h] at hv
   cases hv
theorem ex_mv (h : a.eval x = v) : (execOp a.eval ⟨dd, .move x, ty, p, af, g⟩).run Tryd.prog w = .ok (.value v) w := by subst h; rfl
theorem ex_as (h : a.eval x = v) : (execOp a.eval ⟨dd, .assign x, ty, p, af, g⟩).run Tryd.prog w = .ok (.value v) w := by subst h; rfl
theorem ex_bin {bo : BinOp} {bt bt2 : TypeId} (hx : a.eval x = vx) (hy : a.eval y = vy) (hb : (do eqGuard bo bt x y vx vy; binOp bo bt vx vy : Sem Value).run Tryd.prog w = .ok v w) : (execOp a.eval ⟨dd, .binOp bo bt x y bt2, ty, p, af, g⟩).run Tryd.prog w = .ok (.value v) w := by
 simp only [Sem.run_bind] at hb
 simp only [execOp, hx, hy, Sem.run_bind, hb, Result.andThen_ok, Sem.run_pure]
theorem ex_pick (hx : a.eval x = .bool q) (hv : (if q then a.eval y else a.eval z) = v) : (execOp a.eval ⟨dd, .pick x y z, ty, p, af, g⟩).run Tryd.prog w = .ok (.value v) w := by
 subst hv
 simp only [execOp, hx, Sem.run_bind]
 cases q <;> rfl
theorem ex_conv {s t : TypeId} (hx : a.eval x = vx) (hc : (convert s t vx).run Tryd.prog w = .ok v w) : (execOp a.eval ⟨dd, .convert s t x, ty, p, af, g⟩).run Tryd.prog w = .ok (.value v) w := by
 simp only [execOp, hx, Sem.run_bind, hc, Result.andThen_ok, Sem.run_pure]
end
section
variable {x y : Operand}
theorem bo_gtru (m n : Int) (w : World) : (do eqGuard .gtr 42 x y (.int .u64 m) (.int .u64 n); binOp .gtr 42 (.int .u64 m) (.int .u64 n) : Sem Value).run Tryd.prog w = .ok (.bool (decide (n < m))) w := by
 simp [go_sem]
theorem bo_remu (m n : Int) (w : World) (h0 : 0 ≤ m) (hn : 0 < n) (h1 : m < 18446744073709551616) : (do eqGuard .rem 42 x y (.int .u64 m) (.int .u64 n); binOp .rem 42 (.int .u64 m) (.int .u64 n) : Sem Value).run Tryd.prog w = .ok (.int .u64 (m % n)) w := by
 simp [go_sem]
 rw [if_neg (by omega), Int.tmod_eq_emod_of_nonneg h0]
end
end
section
section
variable {B b q kb mb num n r j c i : Nat} {kp mp : Option Nat} {k : KeyD} {m : MapD} {s : SegD} {w w0 : World} {a0 : Act} {l : List UInt8} {Q : Exit → Act → World → Prop}
/-- the frame in a round -/
structure FrR (b r j c i : Nat) (a : Act) : Prop extends Fr b a where
 s4 : a.tmps.getD 4 undef = .map (some r)
 s5 : a.tmps.getD 5 undef = .int .u64 j
 s6 : a.tmps.getD 6 undef = .int .u64 c
 s7 : a.tmps.getD 7 undef = .int .u64 i
theorem FrR.up {t : Nat} {a a' : Act} (h : FrR b r j c i a) (u : Up t a a') (ht : 9 < t) : FrR b r j c i a' :=
 ⟨h.toFr.up u (by omega), u.var 4 (by omega) h.s4, u.var 5 (by omega) h.s5, u.var 6 (by omega) h.s6, u.var 7 (by omega) h.s7⟩
end
end
section
section
set_option maxRecDepth 100000
variable {B b q kb mb num n r j c i : Nat} {kp mp : Option Nat} {k : KeyD} {m : MapD} {s : SegD} {w w0 : World} {a a0 : Act} {l : List UInt8} {Q : Exit → Act → World → Prop}
/-- rows of other kinds than bytes, but for block b, are as they were -/
def Cells (b : Nat) (w w' : World) : Prop := ∀ (k T : Nat) (c : Array Value), k ≠ b → T ≠ 5 → Blk w k T c → Blk w' k T c
theorem Cells.refl (b : Nat) (w : World) : Cells b w w := fun _ _ _ _ _ h => h
theorem Cells.trans {b : Nat} {w w1 w2 : World} (h : Cells b w w1) (h1 : Cells b w1 w2) : Cells b w w2 := fun k T c hk hT h0 => h1 k T c hk hT (h k T c hk hT h0)
variable {cs : List Nat}
end
end
section
section
set_option maxRecDepth 100000
variable {B b q kb mb num n r j c i : Nat} {kp mp : Option Nat} {k : KeyD} {m : MapD} {s : SegD} {w w0 : World} {a a0 : Act} {l : List UInt8} {Q : Exit → Act → World → Prop}
theorem KeyIn.cells {w w' : World} {kp : Option Nat} {k : Option KeyD} (h : KeyIn w b kp k) (hc : Cells b w w') : KeyIn w' b kp k := by
 cases h with
 | nil => exact .nil
 | mk h hb ok => exact .mk (hc _ _ _ hb (by decide) h) hb ok
theorem MapIn.cells {w w' : World} {kp : Option Nat} {k : Option MapD} (h : MapIn w b kp k) (hc : Cells b w w') : MapIn w' b kp k := by
 cases h with
 | nil => exact .nil
 | mk h hb ok => exact .mk (hc _ _ _ hb (by decide) h) hb ok
variable {cs : List Nat}
theorem Below.new {B : Nat} {w : World} (h : B ≤ w.heap.size) (o : Obj) : Below B w (w.alloc o) := (Below.refl B w).alloc h o
end
end
section
/-- all slots but d stand as they stood -/
structure Pt (d : Nat) (a a' : Act) : Prop where
 size : a'.tmps.size = a.tmps.size
 defers : a'.defers = a.defers
 oth : ∀ t, t ≠ d → a'.tmps.getD t undef = a.tmps.getD t undef
theorem Pt.put (d : Nat) (a : Act) (v : Value) : Pt d a (a.put (some d) v) := ⟨put_size, rfl, fun _ h => put_other (Ne.symm h)⟩
theorem Pt.v {d : Nat} {a a' : Act} (u : Pt d a a') (t : Nat) {v : Value} (h : a.tmps.getD t undef = v) (ht : t ≠ d) : a'.tmps.getD t undef = v := (u.oth t ht).trans h
/-- a frame of so many slots -/
structure Fz (N : Nat) (a : Act) : Prop where
 size : a.tmps.size = N
 defers : a.defers = []
theorem Fz.pt {N d : Nat} {a a' : Act} (h : Fz N a) (u : Pt d a a') : Fz N a' := ⟨u.size.trans h.size, u.defers.trans h.defers⟩
section
set_option maxRecDepth 100000
variable {ops : Array Oper} {QS : Act → Prop} {QL : Exit → Act → World → Prop} {S : World → Prop} {KT : Act → World → Prop} {KH : Act → Prop} {a : Act} {w w' : World} {rest : List Oper} {v : Value} {d : Tmp} {op : Op} {ty : TypeId} {p : String} {af : Array Edge} {j : Nat} {q q' : Bool} {f : FuncId} {args : Array Value} {R : Value → World → Prop}
theorem wl_p (hrun : (execOp a.eval ⟨some d, op, ty, p, af, none⟩).run Tryd.prog w = .ok (.value v) w') (hsz : d < a.tmps.size) (hK : ∀ a', Pt d a a' → a'.tmps.getD d undef = v → wpList Tryd.prog ops QL rest a' w') :
   wpList Tryd.prog ops QL (⟨some d, op, ty, p, af, none⟩ :: rest) a w := wl_v hrun (hK _ (Pt.put _ _ _) (put_get _ hsz))
theorem wl_n (hrun : (execOp a.eval ⟨none, op, ty, p, af, none⟩).run Tryd.prog w = .ok .skip w') (hK : wpList Tryd.prog ops QL rest a w') :
   wpList Tryd.prog ops QL (⟨none, op, ty, p, af, none⟩ :: rest) a w := by
 refine wpList_plain rfl fun K hk => ?_
 unfold Oper.wp
 rw [hrun]
 exact hk _ _ hK
theorem wl_cl (hrun : (execOp a.eval ⟨some d, op, ty, p, af, none⟩).run Tryd.prog w = .ok (.enter f args) w) (hC : Calls Tryd.prog f args w fun e w'' => ∃ v, e = .returned v ∧ R v w'') (hsz : d < a.tmps.size)
   (hK : ∀ v w'', R v w'' → ∀ a', Pt d a a' → a'.tmps.getD d undef = v → wpList Tryd.prog ops QL rest a' w'') : wpList Tryd.prog ops QL (⟨some d, op, ty, p, af, none⟩ :: rest) a w :=
 wl_c hrun hC fun v w'' h => hK v w'' h _ (Pt.put _ _ _) (put_get _ hsz)
theorem wl_g (hg : yielded ops a.tmps j = some q) (hrun : (execOp a.eval ⟨some d, op, ty, p, af, some (j, q)⟩).run Tryd.prog w = .ok (.value v) w') (hsz : d < a.tmps.size) (hK : ∀ a', Pt d a a' → a'.tmps.getD d undef = v → wpList Tryd.prog ops QL rest a' w') :
   wpList Tryd.prog ops QL (⟨some d, op, ty, p, af, some (j, q)⟩ :: rest) a w := by
 refine wpList_step fun K hk => ?_
 rw [if_pos (by simp [Region.wanted, hg])]
 unfold Oper.wp
 rw [hrun]
 exact hk _ _ (hK _ (Pt.put _ _ _) (put_get _ hsz))
theorem wl_gc (hg : yielded ops a.tmps j = some q) (hrun : (execOp a.eval ⟨some d, op, ty, p, af, some (j, q)⟩).run Tryd.prog w = .ok (.enter f args) w) (hC : Calls Tryd.prog f args w fun e w'' => ∃ v, e = .returned v ∧ R v w'') (hsz : d < a.tmps.size)
   (hK : ∀ v w'', R v w'' → ∀ a', Pt d a a' → a'.tmps.getD d undef = v → wpList Tryd.prog ops QL rest a' w'') : wpList Tryd.prog ops QL (⟨some d, op, ty, p, af, some (j, q)⟩ :: rest) a w := by
 refine wpList_step fun K hk => ?_
 rw [if_pos (by simp [Region.wanted, hg])]
 unfold Oper.wp
 rw [hrun]
 refine hC.mono ?_
 rintro e w'' ⟨v, rfl, hR⟩
 exact hk _ _ (hK v w'' hR _ (Pt.put _ _ _) (put_get _ hsz))
theorem wl_k (hg : yielded ops a.tmps j = some q') (hne : q' ≠ q) (hsz : d < a.tmps.size) (hK : ∀ a', Pt d a a' → a'.tmps.getD d undef = undef → wpList Tryd.prog ops QL rest a' w) :
   wpList Tryd.prog ops QL (⟨some d, op, ty, p, af, some (j, q)⟩ :: rest) a w := by
 refine wpList_step fun K hk => ?_
 rw [if_neg (by simp [Region.wanted, hg, hne])]
 exact hk _ _ (hK _ (Pt.put _ _ _) (put_get _ hsz))
theorem st_p (hrun : (execOp a.eval ⟨some d, op, ty, p, af, none⟩).run Tryd.prog w = .ok (.value v) w) (hsz : d < a.tmps.size) (hK : ∀ a', Pt d a a' → a'.tmps.getD d undef = v → wpStill Tryd.prog ops w QS rest a') :
   wpStill Tryd.prog ops w QS (⟨some d, op, ty, p, af, none⟩ :: rest) a := st_v hrun (hK _ (Pt.put _ _ _) (put_get _ hsz))
theorem st_g (hg : yielded ops a.tmps j = some q) (hrun : (execOp a.eval ⟨some d, op, ty, p, af, some (j, q)⟩).run Tryd.prog w = .ok (.value v) w) (hsz : d < a.tmps.size) (hK : ∀ a', Pt d a a' → a'.tmps.getD d undef = v → wpStill Tryd.prog ops w QS rest a') :
   wpStill Tryd.prog ops w QS (⟨some d, op, ty, p, af, some (j, q)⟩ :: rest) a := by
 unfold wpStill
 rw [if_pos (by simp [Region.wanted, hg])]
 unfold Oper.still
 rw [hrun]
 exact ⟨rfl, hK _ (Pt.put _ _ _) (put_get _ hsz)⟩
theorem st_k (hg : yielded ops a.tmps j = some q') (hne : q' ≠ q) (hsz : d < a.tmps.size) (hK : ∀ a', Pt d a a' → a'.tmps.getD d undef = undef → wpStill Tryd.prog ops w QS rest a') :
   wpStill Tryd.prog ops w QS (⟨some d, op, ty, p, af, some (j, q)⟩ :: rest) a := by
 unfold wpStill
 rw [if_neg (by simp [Region.wanted, hg, hne])]
 exact hK _ (Pt.put _ _ _) (put_get _ hsz)
theorem mh_p (hrun : ∀ w, S w → (execOp a.eval ⟨some d, op, ty, p, af, none⟩).run Tryd.prog w = .ok (.value v) w) (hsz : d < a.tmps.size) (hK : ∀ a', Pt d a a' → a'.tmps.getD d undef = v → wpHead ops S KH rest a') : wpHead ops S KH (⟨some d, op, ty, p, af, none⟩ :: rest) a :=
 mh_v hrun (hK _ (Pt.put _ _ _) (put_get _ hsz))
theorem mt_p (hrun : (execOp a.eval ⟨some d, op, ty, p, af, none⟩).run Tryd.prog w = .ok (.value v) w') (hS : S w') (hsz : d < a.tmps.size) (hK : ∀ a', Pt d a a' → a'.tmps.getD d undef = v → wpTail ops S KT rest a' w') : wpTail ops S KT (⟨some d, op, ty, p, af, none⟩ :: rest) a w :=
 mt_v hrun ⟨hS, hK _ (Pt.put _ _ _) (put_get _ hsz)⟩
theorem mt_cl (hrun : (execOp a.eval ⟨some d, op, ty, p, af, none⟩).run Tryd.prog w = .ok (.enter f args) w) (hC : Calls Tryd.prog f args w fun e w'' => ∃ v, e = .returned v ∧ R v w'') (hsz : d < a.tmps.size)
   (hK : ∀ v w'', R v w'' → S w'' ∧ ∀ a', Pt d a a' → a'.tmps.getD d undef = v → wpTail ops S KT rest a' w'') : wpTail ops S KT (⟨some d, op, ty, p, af, none⟩ :: rest) a w :=
 mt_c hrun hC fun v w'' h => ⟨(hK v w'' h).1, (hK v w'' h).2 _ (Pt.put _ _ _) (put_get _ hsz)⟩
variable {dd : Option Tmp} {g : Option (Nat × Bool)} {x y : Operand} {vx vy : Value}
/-- a store of one cell -/
theorem ex_st {T : TypeId} {ad : Addr} (hx : a.eval x = .pointer (some ad)) (hy : a.eval y = v) (h : (Instr.storeAt T (.pointer (some ad)) v).run Tryd.prog w = .ok () w') : (execOp a.eval ⟨dd, .store T x y, ty, p, af, g⟩).run Tryd.prog w = .ok .skip w' := by
 simp only [execOp, hx, hy, Sem.run_bind, h, Result.andThen_ok, Sem.run_pure]
/-- a type of one cell, for stores -/
def SZ (T : Nat) : Prop := ∀ w, (sizeOf T : Sem Nat).run Tryd.prog w = .ok 1 w
theorem store1 {T : Nat} {ad : Addr} {old : Value} (hT : SZ T) (hv : v.oneCell' = true) (hc : w.cell? ad = some old) (hf : w.frozen? ad = false) : (Instr.storeAt T (.pointer (some ad)) v).run Tryd.prog w = .ok () (w.setCell ad v) := by
 unfold Instr.storeAt Instr.sureAddr storeVar
 have hcs : v.cells = #[v] := by cases v <;> first | rfl | (simp [Value.oneCell'] at hv)
 have ha : ad.add 0 = ad := by simp [Addr.add]
 simp [hT w, hcs, storeCells, ha, run_store _ _ _ _ _ hv, hc, hf]
theorem ex_al {T : TypeId} (h : (Instr.alloc T true (.tuple #[])).run Tryd.prog w = .ok v w') : (execOp a.eval ⟨dd, .alloc T, ty, p, af, g⟩).run Tryd.prog w = .ok (.value v) w' := by
 simp only [execOp, Sem.run_bind, h, Result.andThen_ok, Sem.run_pure]
theorem ex_bx {T : TypeId} (hx : a.eval x = vx) (h : (Instr.box T vx).run Tryd.prog w = .ok v w') : (execOp a.eval ⟨dd, .box T x, ty, p, af, g⟩).run Tryd.prog w = .ok (.value v) w' := by
 simp only [execOp, hx, Sem.run_bind, h, Result.andThen_ok, Sem.run_pure]
theorem ex_bd {T : TypeId} {ps : Array (Nat × Operand)} {vs : Array (Nat × Value)} (hx : ps.map (fun (i, x) => (i, a.eval x)) = vs) (h : (Instr.build T vs).run Tryd.prog w = .ok v w') : (execOp a.eval ⟨dd, .build T ps, ty, p, af, g⟩).run Tryd.prog w = .ok (.value v) w' := by
 simp only [execOp, hx, Sem.run_bind, h, Result.andThen_ok, Sem.run_pure]
theorem ex_ms {T : TypeId} (hx : a.eval x = vx) (hy : a.eval y = vy) (h : (Instr.makeSlice T vx vy).run Tryd.prog w = .ok v w') : (execOp a.eval ⟨dd, .makeSlice T x y, ty, p, af, g⟩).run Tryd.prog w = .ok (.value v) w' := by
 simp only [execOp, hx, hy, Sem.run_bind, h, Result.andThen_ok, Sem.run_pure]
theorem ex_un {uo : UnOp} {T : TypeId} (hx : a.eval x = vx) (h : (Op.unary uo vx).run Tryd.prog w = .ok v w) : (execOp a.eval ⟨dd, .unOp uo T x, ty, p, af, g⟩).run Tryd.prog w = .ok (.value v) w := by
 simp only [execOp, hx, Sem.run_bind, h, Result.andThen_ok, Sem.run_pure]
theorem ex_bi {b : Builtin} {xs : Array Operand} {ats : Array TypeId} {args : Array Value} (hx : xs.map a.eval = args) (h : (builtin b ats ty (xs.map fun | .const _ => true | _ => false) args).run Tryd.prog w = .ok (.value v) w') : (execOp a.eval ⟨dd, .call ⟨.builtin b, xs, ats⟩, ty, p, af, g⟩).run Tryd.prog w = .ok (.value v) w' := by
 have e : execOp a.eval ⟨dd, .call ⟨.builtin b, xs, ats⟩, ty, p, af, g⟩ = builtin b ats ty (xs.map fun | .const _ => true | _ => false) (xs.map a.eval) := rfl
 rw [e, hx]; exact h
theorem ex_cl {xs : Array Operand} {ats : Array TypeId} {args : Array Value} (hf : CF f) (hx : xs.map a.eval = args) : (execOp a.eval ⟨dd, .call ⟨.value (.func f), xs, ats⟩, ty, p, af, g⟩).run Tryd.prog w = .ok (.enter f args) w := by
 rw [ex_call hf, hx]
theorem rg_list {id : Nat} {l : List Oper} {Q : Exit → Act → World → Prop} (h : wpList Tryd.prog l.toArray Q l a w) : (Code.region id l.toArray false).wp Tryd.prog Q a w := wp_region_lit h
theorem Blk.gk {k T g : Nat} {cs : Array Value} {w w' : World} (h : Blk w k T cs) (hb : w.grownBy w' (some g)) (hne : k ≠ g) : Blk w' k T cs := h.grown hb (fun e => hne (Option.some.inj e))
theorem Blk.gn {k T : Nat} {cs : Array Value} {w w' : World} (h : Blk w k T cs) (hb : w.grownBy w' none) : Blk w' k T cs := h.grown hb (fun e => by cases e)
theorem grown_set (w : World) (g o : Nat) (v : Value) : w.grownBy (w.setCell ⟨g, o, none⟩ v) (some g) := ⟨rfl, rfl, rfl, by simp [World.setCell], fun k _ hne => Below.heap_setCell _ _ _ _ (fun e => hne (by rw [e]))⟩
theorem grown_alloc (w : World) (o : Obj) : w.grownBy (w.alloc o) none := ⟨rfl, rfl, rfl, by simp, fun k hk _ => Below.heap_alloc _ _ _ hk⟩
theorem grown_refl (w : World) (r : Option Nat) : w.grownBy w r := ⟨rfl, rfl, rfl, Nat.le_refl _, fun _ _ _ => rfl⟩
theorem grown_trans {w w1 w2 : World} {r : Option Nat} (h : w.grownBy w1 r) (h1 : w1.grownBy w2 r) : w.grownBy w2 r := ⟨h1.os.trans h.os, h1.tape.trans h.tape, h1.output.trans h.output, Nat.le_trans h.size h1.size, fun k hk hne => (h1.block k (Nat.lt_of_lt_of_le hk h.size) hne).trans (h.block k hk hne)⟩
theorem grown_any {w w1 : World} {r : Option Nat} (h : w.grownBy w1 none) : w.grownBy w1 r := ⟨h.os, h.tape, h.output, h.size, fun k hk _ => h.block k hk (fun e => by cases e)⟩
/-- a store of one cell into a block that is known whole -/
theorem st_run {T g U o : Nat} {cs cs' : Array Value} {w : World} {v : Value} (hT : SZ T) (h : Blk w g U cs) (hv : v.oneCell' = true) (ho : o < cs.size) (e : cs.setIfInBounds o v = cs') :
   ∃ w', (Instr.storeAt T (.pointer (some ⟨g, o, none⟩)) v).run Tryd.prog w = .ok () w' ∧ Blk w' g U cs' ∧ w.grownBy w' (some g) := by
 subst e
 exact ⟨_, store1 hT hv (old := cs[o]) ((h.cell o).trans (Array.getElem?_eq_getElem ho)) (h.frozen o), h.set_ o v, grown_set _ _ _ _⟩
/-- a new block -/
theorem al_run {w : World} {g : Nat} {op : Sem Value} {T : Nat} {cs : Array Value} (hg : w.heap.size = g) (h : ∀ w, op.run Tryd.prog w = .ok (.pointer (some ⟨w.heap.size, 0, none⟩)) (w.alloc (.cells cs T))) :
   ∃ w', op.run Tryd.prog w = .ok (.pointer (some ⟨g, 0, none⟩)) w' ∧ Blk w' g T cs ∧ w.grownBy w' none ∧ w'.heap.size = g + 1 := by
 subst hg
 exact ⟨_, h w, Blk.new rfl, grown_alloc _ _, by simp⟩
/-- a whole struct (or a row's element) is read -/
theorem ld_agg {T n g U o : Nat} {cs xs : Array Value} {w : World} (hA : ∀ w, (isAgg T : Sem Bool).run Tryd.prog w = .ok true w) (hS : ∀ w, (sizeOf T : Sem Nat).run Tryd.prog w = .ok n w) (h : Blk w g U cs) (hn : xs.size = n) (hx : ∀ j, j < n → cs[o + j]? = xs[j]?) :
   (Instr.loadAt T (.pointer (some ⟨g, o, none⟩))).run Tryd.prog w = .ok (.agg xs) w := by
 unfold Instr.loadAt Instr.sureAddr loadVar
 have hl := run_loadCells_list (P := Tryd.prog) (w := w) ⟨g, o, none⟩ xs.toList (fun j v hj => by
   rw [Lib.add_plain, h.cell]
   have hjn : j < n := by
     have := (List.getElem?_eq_some_iff.1 hj).1
     rw [Array.length_toList] at this; omega
   rw [hx j hjn]
   simpa using hj)
 have hl2 : (loadCells ⟨g, o, none⟩ n).run Tryd.prog w = .ok xs w := by
   rw [← hn, ← Array.length_toList]
   simpa using hl
 simp [hA w, hS w, hl2]
theorem ex_lda {a : Act} {w : World} {dd : Option Tmp} {x : Operand} {ty : TypeId} {p : String} {af : Array Edge} {g : Option (Nat × Bool)} {T : TypeId} {vx v : Value} (hx : a.eval x = vx) (h : (Instr.loadAt T vx).run Tryd.prog w = .ok v w) : (execOp a.eval ⟨dd, .load T x, ty, p, af, g⟩).run Tryd.prog w = .ok (.value v) w := by
 simp only [execOp, hx, Sem.run_bind, h, Result.andThen_ok, Sem.run_pure]
end
theorem sta_cells {g U : Nat} : ∀ (vs : List Value) (i : Nat) (cs0 : Array Value) (w : World), Blk w g U cs0 → i + vs.length ≤ cs0.size → (∀ v ∈ vs, v.oneCell' = true) →
   ∃ w' r, (storeCells ⟨g, 0, none⟩ vs i).run Tryd.prog w = .ok () w' ∧ Blk w' g U r ∧ w.grownBy w' (some g) ∧ r.size = cs0.size ∧ (∀ j, (j < i ∨ i + vs.length ≤ j) → r[j]? = cs0[j]?) ∧ ∀ j, j < vs.length → r[i + j]? = vs[j]?
 | [], i, cs0, w, h, _, _ => ⟨w, cs0, rfl, h, grown_refl _ _, rfl, fun _ _ => rfl, fun _ h => by simp at h⟩
 | v :: vs, i, cs0, w, h, hl, hv => by
   have hl' : i + (vs.length + 1) ≤ cs0.size := by simpa using hl
   have hi : i < cs0.size := by omega
   obtain ⟨w', r, h1, h2, h3, h4, h5, h6⟩ := sta_cells vs (i + 1) (cs0.setIfInBounds i v) (w.setCell ⟨g, i, none⟩ v) (h.set_ i v) (by simp; omega) (fun x hx => hv x (List.mem_cons_of_mem _ hx))
   refine ⟨w', r, ?_, h2, grown_trans (grown_set _ _ _ _) h3, by simpa using h4, fun j hj => ?_, fun j hj => ?_⟩
   · have hc : w.cell? ⟨g, i, none⟩ = some cs0[i] := (h.cell i).trans (Array.getElem?_eq_getElem hi)
     have ha : (⟨g, 0, none⟩ : Addr).add i = ⟨g, i, none⟩ := by rw [Lib.add_plain, Nat.zero_add]
     unfold storeCells
     simp only [Sem.run_bind, ha, run_store _ _ _ _ _ (hv v List.mem_cons_self), hc, h.frozen i, Bool.false_eq_true, if_false, Result.andThen_ok]
     exact h1
   · simp only [List.length_cons] at hj
     rw [h5 j (by omega), Array.getElem?_setIfInBounds_ne (by omega)]
   · cases j with
     | zero => rw [Nat.add_zero, h5 i (by omega)]; simp [hi]
     | succ j =>
       simp only [List.length_cons] at hj
       rw [show i + (j + 1) = i + 1 + j by omega, h6 j (by omega)]
       rfl
/-- a store of a whole struct -/
theorem sta_run {T n g U : Nat} {cs0 cs : Array Value} {w : World} (hS : ∀ w, (sizeOf T : Sem Nat).run Tryd.prog w = .ok n w) (h : Blk w g U cs0) (h0 : cs0.size = n) (hn : cs.size = n) (hv : ∀ v ∈ cs.toList, v.oneCell' = true) :
   ∃ w', (Instr.storeAt T (.pointer (some ⟨g, 0, none⟩)) (.agg cs)).run Tryd.prog w = .ok () w' ∧ Blk w' g U cs ∧ w.grownBy w' (some g) := by
 obtain ⟨w', r, h1, h2, h3, h4, h5, h6⟩ := sta_cells cs.toList 0 cs0 w h (by rw [Array.length_toList]; omega) hv
 have e : r = cs := by
   apply Array.ext_getElem?
   intro j
   by_cases hj : j < cs.toList.length
   · have := h6 j hj
     rw [Nat.zero_add] at this
     rw [this]; simp
   · rw [h5 j (Or.inr (by omega))]
     rw [Array.length_toList] at hj
     rw [Array.getElem?_eq_none (by omega), Array.getElem?_eq_none (by omega)]
 subst e
 refine ⟨w', ?_, h2, h3⟩
 unfold Instr.storeAt Instr.sureAddr storeVar
 have e2 : (Value.agg r).cells = r := rfl
 simp only [Sem.run_bind, Sem.run_pure, Result.andThen_ok, e2, hS w, hn, ne_eq, not_true_eq_false, if_false]
 exact h1
/-- an order of the indices serves: those of 'is' may be taken first, those of 'js' come up one at a time -/
def ordTail (ops : Array Oper) : List Nat → Array Bool → Bool
 | [], l => (Region.ready .any ops l).isEmpty
 | j :: js, l => Region.ready .any ops l == [j] && ordTail ops js (l.setIfInBounds j true)
def ordFrom (ops : Array Oper) (js : List Nat) : List Nat → Array Bool → Bool
 | [], l => ordTail ops js l
 | i :: is, l => (Region.ready .any ops l).contains i && Region.free .any ops l i && ordFrom ops js is (l.setIfInBounds i true)
def ordB (ops : Array Oper) (is js : List Nat) : Bool := Region.noSelect ops && ordFrom ops js is (Array.replicate ops.size false)
section
variable {ops : Array Oper} {S : World → Prop} {K : Act → World → Prop}
theorem ord_tail : ∀ (js : List Nat) (listed : Array Bool) (a : Act) (w : World), (∀ j ∈ js, j < ops.size) → ordTail ops js listed = true → wpTail ops S K (js.filterMap (ops[·]?)) a w →
   wpAnyH Tryd.prog .any ops (normalOnly K) S js.length listed a w
 | [], _, _, _, _, hB, h => ⟨by simpa [ordTail] using hB, h⟩
 | j :: js, listed, a, w, hjs, hB, h => by
   have hj := hjs j List.mem_cons_self
   have h0 : ops[j]? = some ops[j] := Array.getElem?_eq_getElem hj
   simp only [ordTail, Bool.and_eq_true] at hB
   obtain ⟨hr, hB'⟩ := hB
   rw [List.filterMap_cons_some h0] at h
   refine wpAnyH_all (rs := [j]) (by simpa using hr) (by simp) fun i hi => ?_
   obtain rfl : i = j := by simpa using hi
   unfold wpOp
   simp only [h0]
   rw [if_pos h.1]
   refine .inl (Oper.wp_mono (fun a' w' h' => ⟨h'.1, ?_⟩) h.2)
   exact ord_tail js _ _ _ (fun x hx => hjs x (List.mem_cons_of_mem _ hx)) hB' h'.2
theorem ord_head (hs : Region.noSelect ops = true) (js : List Nat) : ∀ (is : List Nat) (listed : Array Bool) (a : Act) (w : World), (∀ i ∈ is ++ js, i < ops.size) → ordFrom ops js is listed = true → S w →
   wpHead ops S (fun a' => wpTail ops S K (js.filterMap (ops[·]?)) a' w) (is.filterMap (ops[·]?)) a → wpAnyH Tryd.prog .any ops (normalOnly K) S (is ++ js).length listed a w
 | [], listed, a, w, hi, hB, _, h => ord_tail js listed a w hi hB h
 | i :: is, listed, a, w, hi, hB, hS, h => by
   have hii := hi i List.mem_cons_self
   have h0 : ops[i]? = some ops[i] := Array.getElem?_eq_getElem hii
   simp only [ordFrom, Bool.and_eq_true] at hB
   obtain ⟨⟨hr, hf⟩, hB'⟩ := hB
   rw [List.filterMap_cons_some h0] at h
   obtain ⟨v, hy, h⟩ := h
   refine wpAnyH_take h0 hs hf hr (fun _ _ _ h => h) hy hS ?_
   exact ord_head hs js is _ _ _ (fun x hx => hi x (List.mem_cons_of_mem _ hx)) hB' hS h
theorem rg_ord {id : Nat} {l : List Oper} {Q : Exit → Act → World → Prop} {a : Act} {w : World} (is js : List Nat) (hn : (is ++ js).length = l.length ∧ ∀ i ∈ is ++ js, i < l.length) (hm : Tryd.prog.follows .mixedOrders = true) (hB : ordB l.toArray is js = true) (hS : S w.drew)
   (h : wpHead l.toArray S (fun a' => wpTail l.toArray S (fun a' w' => Q .normal a' w') (js.filterMap (l.toArray[·]?)) a' w.drew) (is.filterMap (l.toArray[·]?)) a) : (Code.region id l.toArray true).wp Tryd.prog Q a w := by
 simp only [ordB, Bool.and_eq_true] at hB
 have := ord_head (ops := l.toArray) (S := S) (K := fun a' w' => Q .normal a' w') hB.1 js is (Array.replicate l.toArray.size false) a w.drew (by simpa using hn.2) hB.2 hS h
 rw [hn.1] at this
 refine Code.wp_mono ?_ (wp_region_held hm (S := S) (Q := normalOnly fun a' w' => Q .normal a' w') (by simpa using this))
 intro e a w h
 cases e <;> first | exact h | exact h.elim
end
theorem rg_still {id : Nat} {Q : Exit → Act → World → Prop} {a : Act} {w w1 : World} {l : List Oper} (hw : w1 = w.drew) (hm : Tryd.prog.follows .mixedOrders = true) (hB : Region.lexB .any l.toArray = true)
   (h : wpStill Tryd.prog l.toArray w1 (fun a' => Q .normal a' w1) l a) : (Code.region id l.toArray true).wp Tryd.prog Q a w := by
 subst hw; exact wp_region_still_lit hm hB h
theorem rg_stillt {id : Nat} {Q : Exit → Act → World → Prop} {a : Act} {w w1 : World} {l : List Oper} (n : Nat) (hw : w1 = w.drew) (hm : Tryd.prog.follows .mixedOrders = true) (hB : Region.lexTailB .any l.toArray n = true)
   (h : wpStill Tryd.prog l.toArray w1 (fun a' => wpList Tryd.prog l.toArray Q (l.drop n) a' w1) (l.take n) a) : (Code.region id l.toArray true).wp Tryd.prog Q a w := by
 subst hw; exact wp_region_still_tail n hm hB h
/-- all blocks but those of D are as they were -/
structure Kp (D : List Nat) (w w' : World) : Prop where
 os : w'.os = w.os
 tape : w'.tape = w.tape
 output : w'.output = w.output
 size : w.heap.size ≤ w'.heap.size
 block : ∀ k, k < w.heap.size → k ∉ D → w'.heap[k]? = w.heap[k]?
theorem Kp.refl (D : List Nat) (w : World) : Kp D w w := ⟨rfl, rfl, rfl, Nat.le_refl _, fun _ _ _ => rfl⟩
theorem Kp.new {D : List Nat} {w w1 w2 : World} (h : Kp D w w1) (hb : w1.grownBy w2 none) : Kp D w w2 :=
 ⟨hb.os.trans h.os, hb.tape.trans h.tape, hb.output.trans h.output, Nat.le_trans h.size hb.size, fun k hk hD => (hb.block k (Nat.lt_of_lt_of_le hk h.size) (fun e => by cases e)).trans (h.block k hk hD)⟩
theorem Kp.set {D : List Nat} {w w1 w2 : World} {g : Nat} (h : Kp D w w1) (hb : w1.grownBy w2 (some g)) (hg : g ∈ D ∨ w.heap.size ≤ g) : Kp D w w2 :=
 ⟨hb.os.trans h.os, hb.tape.trans h.tape, hb.output.trans h.output, Nat.le_trans h.size hb.size, fun k hk hD => (hb.block k (Nat.lt_of_lt_of_le hk h.size) (fun e => by
   obtain rfl := Option.some.inj e
   rcases hg with hg | hg
   · exact hD hg
   · omega)).trans (h.block k hk hD)⟩
theorem Kp.drew {D : List Nat} {w w1 : World} (h : Kp D w w1) : Kp D w w1.drew := ⟨h.os, h.tape, h.output, h.size, h.block⟩
theorem Kp.trans {D : List Nat} {w w1 w2 : World} (h : Kp D w w1) (h1 : Kp D w1 w2) : Kp D w w2 :=
 ⟨h1.os.trans h.os, h1.tape.trans h.tape, h1.output.trans h.output, Nat.le_trans h.size h1.size, fun k hk hD => (h1.block k (Nat.lt_of_lt_of_le hk h.size) hD).trans (h.block k hk hD)⟩
theorem Kp.below {w w1 : World} (h : Kp [] w w1) : Below w.heap.size w w1 := ⟨h.os, h.tape, h.output, h.size, fun k hk => h.block k hk (by simp)⟩
theorem Kp.grown {w w1 : World} (h : Kp [] w w1) : w.grownBy w1 none := ⟨h.os, h.tape, h.output, h.size, fun k hk _ => h.block k hk (by simp)⟩
theorem grown_drew (w : World) : w.grownBy w.drew none := ⟨rfl, rfl, rfl, Nat.le_refl _, fun _ _ _ => rfl⟩
theorem Blk.kp {D : List Nat} {k T : Nat} {cs : Array Value} {w w' : World} (h : Blk w k T cs) (hb : Kp D w w') (hk : k ∉ D) : Blk w' k T cs := (hb.block k h.lt hk).trans h
theorem arg1 {a : Act} {x1 : Operand} {v1 : Value} (h1 : a.eval x1 = v1) : (#[x1] : Array Operand).map a.eval = #[v1] := by simp only [List.map_toArray, List.map_cons, List.map_nil, h1]
theorem arg2 {a : Act} {x1 x2 : Operand} {v1 v2 : Value} (h1 : a.eval x1 = v1) (h2 : a.eval x2 = v2) : (#[x1, x2] : Array Operand).map a.eval = #[v1, v2] := by simp only [List.map_toArray, List.map_cons, List.map_nil, h1, h2]
theorem arg3 {a : Act} {x1 x2 x3 : Operand} {v1 v2 v3 : Value} (h1 : a.eval x1 = v1) (h2 : a.eval x2 = v2) (h3 : a.eval x3 = v3) : (#[x1, x2, x3] : Array Operand).map a.eval = #[v1, v2, v3] := by simp only [List.map_toArray, List.map_cons, List.map_nil, h1, h2, h3]
theorem arg4 {a : Act} {x1 x2 x3 x4 : Operand} {v1 v2 v3 v4 : Value} (h1 : a.eval x1 = v1) (h2 : a.eval x2 = v2) (h3 : a.eval x3 = v3) (h4 : a.eval x4 = v4) : (#[x1, x2, x3, x4] : Array Operand).map a.eval = #[v1, v2, v3, v4] := by simp only [List.map_toArray, List.map_cons, List.map_nil, h1, h2, h3, h4]
theorem fr_arg {args : Array Value} {n i : Nat} {v : Value} (h : args[i]? = some v) : (Act.mk (args ++ Array.replicate n undef) []).tmps.getD i undef = v := by
 have hi := (Array.getElem?_eq_some_iff.1 h).1
 show (args ++ Array.replicate n undef).getD i undef = v
 rw [Array.getD_eq_getD_getElem?, Array.getElem?_append_left hi, h]
 rfl
section
variable {a : Act} {w w' : World} {dd : Option Tmp} {ty : TypeId} {p : String} {af : Array Edge} {g : Option (Nat × Bool)} {x y : Operand} {vx vy v : Value}
theorem ex_fag {T f : Nat} (hx : a.eval x = vx) (h : (Instr.fieldAt T vx f).run Tryd.prog w = .ok v w) : (execOp a.eval ⟨dd, .fieldAddr T x f, ty, p, af, g⟩).run Tryd.prog w = .ok (.value v) w := by
 simp only [execOp, hx, Sem.run_bind, h, Result.andThen_ok, Sem.run_pure]
theorem ex_sl {T : TypeId} {lo hi mx : Option Operand} {vlo vhi vmx : Option Value} (hx : a.eval x = vx) (hlo : lo.map a.eval = vlo) (hhi : hi.map a.eval = vhi) (hmx : mx.map a.eval = vmx) (h : (Instr.sliceAt T vx vlo vhi vmx).run Tryd.prog w = .ok v w) : (execOp a.eval ⟨dd, .slice T x lo hi mx, ty, p, af, g⟩).run Tryd.prog w = .ok (.value v) w := by
 simp only [execOp, hx, hlo, hhi, hmx, Sem.run_bind, h, Result.andThen_ok, Sem.run_pure]
theorem ex_ixg {T : Nat} (hx : a.eval x = vx) (hy : a.eval y = vy) (h : (Instr.indexAt T vx vy).run Tryd.prog w = .ok v w) : (execOp a.eval ⟨dd, .indexAddr T x y, ty, p, af, g⟩).run Tryd.prog w = .ok (.value v) w := by
 simp only [execOp, hx, hy, Sem.run_bind, h, Result.andThen_ok, Sem.run_pure]
/-- short forms, for the packed walks -/
theorem ex_fb {T f b : Nat} (k : Nat) (h : a.eval x = .pointer (some ⟨b, 0, none⟩)) (hf : FA T f k := by intro _ _; kernel_rfl) : (execOp a.eval ⟨dd, .fieldAddr T x f, ty, p, af, g⟩).run Tryd.prog w = .ok (.value (.pointer (some ⟨b, k, none⟩))) w := ex_fa hf h
theorem ex_le {L : Nat} {ad : Addr} (h : a.eval x = .pointer (some ad)) (hc : w.cell? ad = some v) (hl : LD L := by intro _; kernel_rfl) : (execOp a.eval ⟨dd, .load L x, ty, p, af, g⟩).run Tryd.prog w = .ok (.value v) w := ex_ld hl h hc
end
theorem Pt.w {d t : Nat} {a a' : Act} {v : Value} (u : Pt d a a') (h : a.tmps.getD t undef = v) (ht : t ≠ d := by decide) : a'.tmps.getD t undef = v := u.v t h ht
theorem Fz.l {N d : Nat} {a : Act} (F : Fz N a) (h : d < N := by decide) : d < a.tmps.size := by rw [F.size]; exact h
end
section
set_option maxRecDepth 100000
theorem setwin {b win cap : Nat} {c0 c1 c2 c3 c4 c5 c6 c7 c8 c9 c10 c11 c12 c14 c15 c16 c17 c18 c19 c20 c21 c22 : Value} {w0 : World} (hb : Blk w0 b 104 #[c0, c1, c2, c3, c4, c5, c6, c7, c8, c9, c10, c11, c12, (.int .u64 cap), c14, c15, c16, c17, c18, c19, c20, c21, c22]) (hw : win ≤ cap) :
   Calls Tryd.prog 31 #[pt b, .int .u64 win] w0 fun e w' => e = .returned .nilIface ∧ Blk w' b 104 #[c0, c1, c2, c3, c4, c5, c6, c7, c8, c9, c10, c11, .int .u64 win, (.int .u64 cap), c14, c15, c16, c17, c18, c19, c20, c21, c22] ∧ w0.grownBy w' (some b) := by
 refine calls_of_wp Tryd.func31 rfl ?_
 generalize hA : Act.mk _ _ = a0
 have F0 : Fz 16 a0 := by subst hA; exact ⟨by simp [Tryd.ntmps31], rfl⟩
 have h0_0 : a0.tmps.getD 0 undef = (.pointer (some ⟨b, 0, none⟩)) := by subst hA; exact fr_arg rfl
 have h1_0 : a0.tmps.getD 1 undef = (.int .u64 win) := by subst hA; exact fr_arg rfl
 clear hA
 refine wp_seq ?_
 refine rg_list ?_
 refine wl_p (ex_as (v := .nilIface) rfl) F0.l fun a1 u1 h4_1 => ?_
 have F1 := F0.pt u1
 change Code.wp _ _ _ _ _
 refine wp_seq ?_
 refine wp_seq ?_
 refine rg_list ?_
 refine wl_p (ex_mv (u1.w h1_0)) F1.l fun a2 u2 h5_2 => ?_
 have F2 := F1.pt u2
 refine wl_p (ex_mv (u2.w (u1.w h0_0))) F2.l fun a3 u3 h6_3 => ?_
 have F3 := F2.pt u3
 refine wl_p (ex_nil h6_3) F3.l fun a4 u4 h7_4 => ?_
 have F4 := F3.pt u4
 refine wl_p (ex_fb 13 h7_4) F4.l fun a5 u5 h8_5 => ?_
 have F5 := F4.pt u5
 refine wl_p (ex_le (v := (.int .u64 cap)) h8_5 (hb.cell 13)) F5.l fun a6 u6 h9_6 => ?_
 have F6 := F5.pt u6
 have h5_6 := u6.w (u5.w (u4.w (u3.w h5_2)))
 refine wl_p (ex_bin (v := (.bool false)) h5_6 h9_6 ((bo_gtru _ _ _).trans (by rw [decide_eq_false (by omega)]))) F6.l fun a7 u7 h10_7 => ?_
 have F7 := F6.pt u7
 change Code.wp _ _ _ _ _
 refine wp_cond_false h10_7 ?_
 refine wp_skip ?_
 change Code.wp _ _ _ _ _
 refine wp_seq ?_
 refine rg_list ?_
 have h0_7 := u7.w (u6.w (u5.w (u4.w (u3.w (u2.w (u1.w h0_0))))))
 refine wl_p (ex_mv h0_7) F7.l fun a8 u8 h12_8 => ?_
 have F8 := F7.pt u8
 have h1_8 := u8.w (u7.w (u6.w (u5.w (u4.w (u3.w (u2.w (u1.w h1_0)))))))
 refine wl_p (ex_mv h1_8) F8.l fun a9 u9 h13_9 => ?_
 have F9 := F8.pt u9
 refine wl_p (ex_nil (u9.w h12_8)) F9.l fun a10 u10 h14_10 => ?_
 have F10 := F9.pt u10
 refine wl_p (ex_fb 12 h14_10) F10.l fun a11 u11 h15_11 => ?_
 have F11 := F10.pt u11
 obtain ⟨w1, hr1, Bb_1, G1⟩ := st_run (T := 42) (o := 12) (v := (.int .u64 win)) (cs' := #[c0, c1, c2, c3, c4, c5, c6, c7, c8, c9, c10, c11, (.int .u64 win), (.int .u64 cap), c14, c15, c16, c17, c18, c19, c20, c21, c22]) (fun _ => by kernel_rfl) hb rfl (by simp) rfl
 have Gf := G1
 refine wl_n (ex_st h15_11 (u11.w (u10.w h13_9)) hr1) ?_
 clear hb
 change Code.wp _ _ _ _ _
 refine wp_seq ?_
 refine rg_list ?_
 refine wl_p (ex_as (v := .nilIface) rfl) F11.l fun a12 u12 h4_12 => ?_
 have F12 := F11.pt u12
 change Code.wp _ _ _ _ _
 refine wp_ret ?_
 try simp only [Exit.then, Exit.inBlock]
 exact bodyPost_ret (v := .nilIface) ((results_tmp rfl _ _ _).trans (by rw [h4_12])) F12.defers ⟨rfl, Bb_1, Gf⟩
/-- make([]*MediaSegment, n, n) -/
theorem mkptr_run {w : World} {g : Nat} (hg : w.heap.size = g) (cap : Nat) (hc : cap ≤ 1024) :
   ∃ w', (Instr.makeSlice 88 (.int .u64 cap) (.int .u64 cap)).run Tryd.prog w = .ok (.slice (some ⟨g, 0, none⟩) cap cap) w' ∧ Blk w' g 90 (Array.replicate cap (.pointer none)) ∧ w.grownBy w' none ∧ w'.heap.size = g + 1 := by
 subst hg
 obtain ⟨i, hi, hz, hs, hb⟩ : ∃ i, Tryd.prog.info? 90 = some i ∧ i.zero = some (.pointer none) ∧ i.size = 1 ∧ i.bytes = 8 := by
   have h : (Tryd.prog.info? 90).map (fun i => (i.zero, i.size, i.bytes)) = some (some (.pointer none), 1, 8) := by kernel_rfl
   obtain ⟨i, hi, he⟩ := Option.map_eq_some_iff.1 h
   simp only [Prod.mk.injEq] at he
   exact ⟨i, hi, he.1, he.2.1, he.2.2⟩
 have hr := run_make (P := Tryd.prog) w 88 90 i (.pointer none) Tryd.underlying88 hi hz .u64 .u64 cap cap (by omega) (Int.le_refl _) (by rw [hb]; omega) (by omega)
 have hm : madeCells (Value.pointer none).cells (((cap : Int).toNat) * i.size) = Array.replicate cap (.pointer none) := by
   rw [hs, Nat.mul_one, Int.toNat_natCast]
   unfold madeCells
   apply Array.ext
   · simp
   · intro j h1 h2
     have : (Value.pointer none).cells = #[.pointer none] := rfl
     simp [this, Nat.mod_one j]
 rw [hm, Int.toNat_natCast] at hr
 exact ⟨_, hr, Blk.new rfl, grown_alloc _ _, by simp⟩
theorem newpl {win cap : Nat} {w0 : World} (hw : win ≤ cap) (hcap : cap ≤ 1024) :
   Calls Tryd.prog 27 #[.int .u64 win, .int .u64 cap] w0 fun e w' => ∃ b g, e = .returned (.tuple #[pt b, .nilIface]) ∧ Blk w' b 104 #[(.float .f64 0), (.int .u64 0), (.slice (some ⟨g, 0, none⟩) cap cap), (.string { data := #[] }), (.bool false), (.bool false), (.int .u64 0), (.int .u64 0), (.float .f64 0), (.bool false), (.bool false), (.int .i64 0), (.int .u64 win), (.int .u64 cap), (.int .u64 0), (.int .u64 0), (.int .u64 0), (.slice none 0 0), (.int .i64 0), (.int .i8 0), (.int .u8 3), (.pointer none), (.pointer none)] ∧ Blk w' g 90 (Array.replicate cap (.pointer none)) ∧ g ≠ b ∧ w0.grownBy w' none ∧ w0.heap.size ≤ b ∧ w0.heap.size ≤ g := by
 refine calls_of_wp Tryd.func27 rfl ?_
 generalize hA : Act.mk _ _ = a0
 have F0 : Fz 28 a0 := by subst hA; exact ⟨by simp [Tryd.ntmps27], rfl⟩
 have h0_0 : a0.tmps.getD 0 undef = (.int .u64 win) := by subst hA; exact fr_arg rfl
 have h1_0 : a0.tmps.getD 1 undef = (.int .u64 cap) := by subst hA; exact fr_arg rfl
 clear hA
 have Kp0 := Kp.refl [] w0
 refine wp_seq ?_
 refine rg_list ?_
 refine wl_p (ex_as (v := (.pointer none)) rfl) F0.l fun a1 u1 h4_1 => ?_
 have F1 := F0.pt u1
 refine wl_p (ex_as (v := .nilIface) rfl) F1.l fun a2 u2 h5_2 => ?_
 have F2 := F1.pt u2
 change Code.wp _ _ _ _ _
 refine wp_seq ?_
 refine rg_list ?_
 obtain ⟨gp, hgp⟩ : ∃ g, w0.heap.size = g := ⟨_, rfl⟩
 have ge_p : w0.heap.size ≤ gp := by have := Kp0.size; omega
 obtain ⟨w1, hr1, Bp_1, G1, hs1⟩ := al_run (op := Instr.alloc 104 true (.tuple #[])) (T := 104) (cs := #[(.float .f64 0), (.int .u64 0), (.slice none 0 0), (.string { data := #[] }), (.bool false), (.bool false), (.int .u64 0), (.int .u64 0), (.float .f64 0), (.bool false), (.bool false), (.int .i64 0), (.int .u64 0), (.int .u64 0), (.int .u64 0), (.int .u64 0), (.int .u64 0), (.slice none 0 0), (.int .i64 0), (.int .i8 0), (.int .u8 0), (.pointer none), (.pointer none)]) hgp (fun _ => by kernel_rfl)
 have Kp1 := Kp0.new G1
 refine wl_p (ex_al hr1) F2.l fun a3 u3 (h8_3 : a3.tmps.getD 8 undef = (.pointer (some ⟨gp, 0, none⟩))) => ?_
 have F3 := F2.pt u3
 clear hgp
 refine wl_p (ex_as h8_3) F3.l fun a4 u4 h6_4 => ?_
 have F4 := F3.pt u4
 change Code.wp _ _ _ _ _
 refine wp_seq ?_
 refine rg_list ?_
 refine wl_p (ex_mv h6_4) F4.l fun a5 u5 h9_5 => ?_
 have F5 := F4.pt u5
 refine wl_p (ex_nil h9_5) F5.l fun a6 u6 h10_6 => ?_
 have F6 := F5.pt u6
 refine wl_p (ex_fb 20 h10_6) F6.l fun a7 u7 h11_7 => ?_
 have F7 := F6.pt u7
 obtain ⟨w2, hr2, Bp_2, G2⟩ := st_run (T := 5) (o := 20) (v := (.int .u8 3)) (cs' := #[(.float .f64 0), (.int .u64 0), (.slice none 0 0), (.string { data := #[] }), (.bool false), (.bool false), (.int .u64 0), (.int .u64 0), (.float .f64 0), (.bool false), (.bool false), (.int .i64 0), (.int .u64 0), (.int .u64 0), (.int .u64 0), (.int .u64 0), (.int .u64 0), (.slice none 0 0), (.int .i64 0), (.int .i8 0), (.int .u8 3), (.pointer none), (.pointer none)]) (fun _ => by kernel_rfl) Bp_1 rfl (by simp) rfl
 have Kp2 := Kp1.set G2 (Or.inr ge_p)
 refine wl_n (ex_st h11_7 rfl hr2) ?_
 change Code.wp _ _ _ _ _
 refine wp_seq ?_
 refine rg_list ?_
 have h6_7 := u7.w (u6.w (u5.w h6_4))
 refine wl_p (ex_mv h6_7) F7.l fun a8 u8 h12_8 => ?_
 have F8 := F7.pt u8
 have h1_8 := u8.w (u7.w (u6.w (u5.w (u4.w (u3.w (u2.w (u1.w h1_0)))))))
 refine wl_p (ex_mv h1_8) F8.l fun a9 u9 h13_9 => ?_
 have F9 := F8.pt u9
 refine wl_p (ex_nil (u9.w h12_8)) F9.l fun a10 u10 h14_10 => ?_
 have F10 := F9.pt u10
 refine wl_p (ex_fb 13 h14_10) F10.l fun a11 u11 h15_11 => ?_
 have F11 := F10.pt u11
 obtain ⟨w3, hr3, Bp_3, G3⟩ := st_run (T := 42) (o := 13) (v := (.int .u64 cap)) (cs' := #[(.float .f64 0), (.int .u64 0), (.slice none 0 0), (.string { data := #[] }), (.bool false), (.bool false), (.int .u64 0), (.int .u64 0), (.float .f64 0), (.bool false), (.bool false), (.int .i64 0), (.int .u64 0), (.int .u64 cap), (.int .u64 0), (.int .u64 0), (.int .u64 0), (.slice none 0 0), (.int .i64 0), (.int .i8 0), (.int .u8 3), (.pointer none), (.pointer none)]) (fun _ => by kernel_rfl) Bp_2 rfl (by simp) rfl
 have Kp3 := Kp2.set G3 (Or.inr ge_p)
 refine wl_n (ex_st h15_11 (u11.w (u10.w h13_9)) hr3) ?_
 change Code.wp _ _ _ _ _
 refine wp_seq ?_
 refine wp_seq ?_
 refine rg_list ?_
 have h6_11 := u11.w (u10.w (u9.w (u8.w h6_7)))
 refine wl_p (ex_mv h6_11) F11.l fun a12 u12 h16_12 => ?_
 have F12 := F11.pt u12
 have h0_12 := u12.w (u11.w (u10.w (u9.w (u8.w (u7.w (u6.w (u5.w (u4.w (u3.w (u2.w (u1.w h0_0)))))))))))
 refine wl_p (ex_mv h0_12) F12.l fun a13 u13 h17_13 => ?_
 have F13 := F12.pt u13
 refine wl_cl (args := #[(.pointer (some ⟨gp, 0, none⟩)), (.int .u64 win)]) (R := fun v w' => v = .nilIface ∧ (Blk w' gp 104 #[(.float .f64 0), (.int .u64 0), (.slice none 0 0), (.string { data := #[] }), (.bool false), (.bool false), (.int .u64 0), (.int .u64 0), (.float .f64 0), (.bool false), (.bool false), (.int .i64 0), (.int .u64 win), (.int .u64 cap), (.int .u64 0), (.int .u64 0), (.int .u64 0), (.slice none 0 0), (.int .i64 0), (.int .i8 0), (.int .u8 3), (.pointer none), (.pointer none)] ∧ w3.grownBy w' (some gp))) (ex_cl (fun _ _ => by kernel_rfl) (arg2 (u13.w h16_12) h17_13)) ((setwin Bp_3 hw).mono fun _ _ h => ⟨_, h.1, rfl, h.2⟩) F13.l ?_
 rintro v w4 ⟨rfl, Bp_4, G4⟩
 have Kp4 := Kp3.set G4 (Or.inr ge_p)
 intro a14 u14 h18_14
 have F14 := F13.pt u14
 refine wl_p (ex_as h18_14) F14.l fun a15 u15 h7_15 => ?_
 have F15 := F14.pt u15
 change Code.wp _ _ _ _ _
 refine wp_seq ?_
 refine rg_list ?_
 refine wl_p (ex_mv h7_15) F15.l fun a16 u16 h19_16 => ?_
 have F16 := F15.pt u16
 refine wl_p (ex_bin (vy := .nilIface) (v := (.bool false)) h19_16 rfl (by kernel_rfl)) F16.l fun a17 u17 h20_17 => ?_
 have F17 := F16.pt u17
 change Code.wp _ _ _ _ _
 refine wp_cond_false h20_17 ?_
 refine wp_skip ?_
 change Code.wp _ _ _ _ _
 refine wp_seq ?_
 refine rg_list ?_
 have h6_17 := u17.w (u16.w (u15.w (u14.w (u13.w (u12.w h6_11)))))
 refine wl_p (ex_mv h6_17) F17.l fun a18 u18 h22_18 => ?_
 have F18 := F17.pt u18
 have h1_18 := u18.w (u17.w (u16.w (u15.w (u14.w (u13.w (u12.w (u11.w (u10.w (u9.w h1_8)))))))))
 refine wl_p (ex_mv h1_18) F18.l fun a19 u19 h23_19 => ?_
 have F19 := F18.pt u19
 obtain ⟨gg, hgg⟩ : ∃ g, w4.heap.size = g := ⟨_, rfl⟩
 have ne_p_g : gp ≠ gg := by have := Bp_4.lt; omega
 have ge_g : w0.heap.size ≤ gg := by have := Kp4.size; omega
 obtain ⟨w5, hr5, Bg_5, G5, hs5⟩ := mkptr_run hgg cap (w := w4) (by omega)
 have Bp_5 := Bp_4.gn G5
 have Kp5 := Kp4.new G5
 refine wl_p (ex_ms h23_19 h23_19 hr5) F19.l fun a20 u20 (h24_20 : a20.tmps.getD 24 undef = (.slice (some ⟨gg, 0, none⟩) cap cap)) => ?_
 have F20 := F19.pt u20
 clear hgg
 refine wl_p (ex_nil (u20.w (u19.w h22_18))) F20.l fun a21 u21 h25_21 => ?_
 have F21 := F20.pt u21
 refine wl_p (ex_fb 2 h25_21) F21.l fun a22 u22 h26_22 => ?_
 have F22 := F21.pt u22
 obtain ⟨w6, hr6, Bp_6, G6⟩ := st_run (T := 88) (o := 2) (v := (.slice (some ⟨gg, 0, none⟩) cap cap)) (cs' := #[(.float .f64 0), (.int .u64 0), (.slice (some ⟨gg, 0, none⟩) cap cap), (.string { data := #[] }), (.bool false), (.bool false), (.int .u64 0), (.int .u64 0), (.float .f64 0), (.bool false), (.bool false), (.int .i64 0), (.int .u64 win), (.int .u64 cap), (.int .u64 0), (.int .u64 0), (.int .u64 0), (.slice none 0 0), (.int .i64 0), (.int .i8 0), (.int .u8 3), (.pointer none), (.pointer none)]) (fun _ => by kernel_rfl) Bp_5 rfl (by simp) rfl
 have Bg_6 := Bg_5.gk G6 (Ne.symm ne_p_g)
 have Kp6 := Kp5.set G6 (Or.inr ge_p)
 refine wl_n (ex_st h26_22 (u22.w (u21.w h24_20)) hr6) ?_
 change Code.wp _ _ _ _ _
 refine wp_seq ?_
 refine rg_list ?_
 have h6_22 := u22.w (u21.w (u20.w (u19.w (u18.w h6_17))))
 refine wl_p (ex_mv h6_22) F22.l fun a23 u23 h27_23 => ?_
 have F23 := F22.pt u23
 refine wl_p (ex_as h27_23) F23.l fun a24 u24 h4_24 => ?_
 have F24 := F23.pt u24
 refine wl_p (ex_as (v := .nilIface) rfl) F24.l fun a25 u25 h5_25 => ?_
 have F25 := F24.pt u25
 change Code.wp _ _ _ _ _
 refine wp_ret ?_
 try simp only [Exit.then, Exit.inBlock]
 exact bodyPost_ret (v := .tuple #[(.pointer (some ⟨gp, 0, none⟩)), .nilIface]) ((results_tmp2 rfl _ _ _).trans (by rw [(u25.w h4_24), h5_25])) F25.defers ⟨gp, gg, rfl, Bp_6, Bg_6, Ne.symm ne_p_g, Kp6.grown, ge_p, ge_g⟩
/-- keys as data: none, or one -/
inductive KeySl (w : World) : Value → Option KeyD → Prop
 | nil : KeySl w (.slice none 0 0) none
 | mk {p : Nat} {k : KeyD} (h : Blk w p 78 (keyC k)) (ok : k.Ok) : KeySl w (.slice (some ⟨p, 0, none⟩) 1 1) (some k)
inductive MapSl (w : World) : Value → Option MapD → Prop
 | nil : MapSl w (.slice none 0 0) none
 | mk {p : Nat} {m : MapD} (h : Blk w p 80 (mapC m)) (ok : m.Ok) : MapSl w (.slice (some ⟨p, 0, none⟩) 1 1) (some m)
/-- a key of its own block, from lo on -/
inductive KeyP (w : World) (lo : Nat) : Option Nat → Option KeyD → Prop
 | nil : KeyP w lo none none
 | mk {p : Nat} {k : KeyD} (h : Blk w p 113 (keyC k)) (hp : lo ≤ p) (ok : k.Ok) : KeyP w lo (some p) (some k)
inductive MapP (w : World) (lo : Nat) : Option Nat → Option MapD → Prop
 | nil : MapP w lo none none
 | mk {p : Nat} {m : MapD} (h : Blk w p 115 (mapC m)) (hp : lo ≤ p) (ok : m.Ok) : MapP w lo (some p) (some m)
section
variable {w w' : World} {v : Value} {k : Option KeyD} {m : Option MapD} {lo : Nat} {kp : Option Nat}
theorem KeySl.gn (h : KeySl w v k) (hb : w.grownBy w' none) : KeySl w' v k := by
 cases h with
 | nil => exact .nil
 | mk h ok => exact .mk (h.gn hb) ok
theorem MapSl.gn (h : MapSl w v m) (hb : w.grownBy w' none) : MapSl w' v m := by
 cases h with
 | nil => exact .nil
 | mk h ok => exact .mk (h.gn hb) ok
theorem KeyP.gn (h : KeyP w lo kp k) (hb : w.grownBy w' none) : KeyP w' lo kp k := by
 cases h with
 | nil => exact .nil
 | mk h hp ok => exact .mk (h.gn hb) hp ok
theorem MapP.gn (h : MapP w lo kp m) (hb : w.grownBy w' none) : MapP w' lo kp m := by
 cases h with
 | nil => exact .nil
 | mk h hp ok => exact .mk (h.gn hb) hp ok
theorem KeyP.lo' {lo' : Nat} (h : KeyP w lo kp k) (hl : lo' ≤ lo) : KeyP w lo' kp k := by
 cases h with
 | nil => exact .nil
 | mk h hp ok => exact .mk h (by omega) ok
theorem MapP.lo' {lo' : Nat} (h : MapP w lo kp m) (hl : lo' ≤ lo) : MapP w lo' kp m := by
 cases h with
 | nil => exact .nil
 | mk h hp ok => exact .mk h (by omega) ok
end
theorem keyTo_no {w0 : World} : Calls Tryd.prog 55 #[.slice none 0 0] w0 fun e w' => ∃ kp, e = .returned (pto kp) ∧ KeyP w' w0.heap.size kp none ∧ w0.grownBy w' none := by
 refine calls_of_wp Tryd.func55 rfl ?_
 generalize hA : Act.mk _ _ = a0
 have F0 : Fz 28 a0 := by subst hA; exact ⟨by simp [Tryd.ntmps55], rfl⟩
 have h0_0 : a0.tmps.getD 0 undef = (.slice none 0 0) := by subst hA; exact fr_arg rfl
 clear hA
 refine wp_seq ?_
 refine rg_list ?_
 refine wl_p (ex_as (v := (.pointer none)) rfl) F0.l fun a1 u1 h2_1 => ?_
 have F1 := F0.pt u1
 change Code.wp _ _ _ _ _
 refine wp_seq ?_
 refine wp_seq ?_
 refine rg_list ?_
 refine wl_p (ex_mv (u1.w h0_0)) F1.l fun a2 u2 h3_2 => ?_
 have F2 := F1.pt u2
 refine wl_p (ex_bi (w' := w0) (args := #[(.slice none 0 0)]) (v := (.int .i64 0)) (arg1 h3_2) (by kernel_rfl)) F2.l fun a3 u3 h4_3 => ?_
 have F3 := F2.pt u3
 refine wl_p (ex_bin (vy := (.int .i64 0)) (v := (.bool true)) h4_3 rfl (by kernel_rfl)) F3.l fun a4 u4 h5_4 => ?_
 have F4 := F3.pt u4
 change Code.wp _ _ _ _ _
 refine wp_cond_true h5_4 ?_
 refine wp_seq ?_
 refine rg_list ?_
 refine wl_p (ex_as (v := (.pointer none)) rfl) F4.l fun a5 u5 h2_5 => ?_
 have F5 := F4.pt u5
 change Code.wp _ _ _ _ _
 refine wp_ret ?_
 try simp only [Exit.then, Exit.inBlock]
 exact bodyPost_ret (v := (.pointer none)) ((results_tmp rfl _ _ _).trans (by rw [h2_5])) F5.defers ⟨none, rfl, .nil, grown_refl _ _⟩
theorem keyTo_yes {gk : Nat} {k : KeyD} {w0 : World} (hk : Blk w0 gk 78 (keyC k)) (hok : k.Ok) : Calls Tryd.prog 55 #[.slice (some ⟨gk, 0, none⟩) 1 1] w0 fun e w' => ∃ kp, e = .returned (pto kp) ∧ KeyP w' w0.heap.size kp (some k) ∧ w0.grownBy w' none := by
 refine calls_of_wp Tryd.func55 rfl ?_
 generalize hA : Act.mk _ _ = a0
 have F0 : Fz 28 a0 := by subst hA; exact ⟨by simp [Tryd.ntmps55], rfl⟩
 have h0_0 : a0.tmps.getD 0 undef = (.slice (some ⟨gk, 0, none⟩) 1 1) := by subst hA; exact fr_arg rfl
 clear hA
 have Kp0 := Kp.refl [] w0
 refine wp_seq ?_
 refine rg_list ?_
 refine wl_p (ex_as (v := (.pointer none)) rfl) F0.l fun a1 u1 h2_1 => ?_
 have F1 := F0.pt u1
 change Code.wp _ _ _ _ _
 refine wp_seq ?_
 refine wp_seq ?_
 refine rg_list ?_
 refine wl_p (ex_mv (u1.w h0_0)) F1.l fun a2 u2 h3_2 => ?_
 have F2 := F1.pt u2
 refine wl_p (ex_bi (w' := w0) (args := #[(.slice (some ⟨gk, 0, none⟩) 1 1)]) (v := (.int .i64 1)) (arg1 h3_2) (by kernel_rfl)) F2.l fun a3 u3 h4_3 => ?_
 have F3 := F2.pt u3
 refine wl_p (ex_bin (vy := (.int .i64 0)) (v := (.bool false)) h4_3 rfl (by kernel_rfl)) F3.l fun a4 u4 h5_4 => ?_
 have F4 := F3.pt u4
 change Code.wp _ _ _ _ _
 refine wp_cond_false h5_4 ?_
 refine wp_skip ?_
 change Code.wp _ _ _ _ _
 refine wp_seq ?_
 obtain ⟨w1, hw1⟩ : ∃ w, w = w0.drew := ⟨_, rfl⟩
 have G1 : w0.grownBy w1 none := hw1 ▸ grown_drew _
 have Bk_1 := hk.gn G1
 have Kp1 := Kp0.new G1
 refine rg_stillt 20 hw1 hmix (by kernel_rfl) ?_
 clear hk
 have h0_4 := u4.w (u3.w (u2.w (u1.w h0_0)))
 refine st_p (ex_mv h0_4) F4.l fun a5 u5 h6_5 => ?_
 have F5 := F4.pt u5
 refine st_p (ex_ixg (vx := (.slice (some ⟨gk, 0, none⟩) 1 1)) (vy := (.int .i64 0)) (v := (.pointer (some ⟨gk, 0, none⟩))) h6_5 rfl (by kernel_rfl)) F5.l fun a6 u6 h7_6 => ?_
 have F6 := F5.pt u6
 refine st_p (ex_fb 0 h7_6) F6.l fun a7 u7 h8_7 => ?_
 have F7 := F6.pt u7
 refine st_p (ex_le (v := (.string k.me)) h8_7 (Bk_1.cell 0)) F7.l fun a8 u8 h9_8 => ?_
 have F8 := F7.pt u8
 have h0_8 := u8.w (u7.w (u6.w (u5.w h0_4)))
 refine st_p (ex_mv h0_8) F8.l fun a9 u9 h10_9 => ?_
 have F9 := F8.pt u9
 refine st_p (ex_ixg (vx := (.slice (some ⟨gk, 0, none⟩) 1 1)) (vy := (.int .i64 0)) (v := (.pointer (some ⟨gk, 0, none⟩))) h10_9 rfl (by kernel_rfl)) F9.l fun a10 u10 h11_10 => ?_
 have F10 := F9.pt u10
 refine st_p (ex_fb 1 h11_10) F10.l fun a11 u11 h12_11 => ?_
 have F11 := F10.pt u11
 refine st_p (ex_le (v := (.string k.uri)) h12_11 (Bk_1.cell 1)) F11.l fun a12 u12 h13_12 => ?_
 have F12 := F11.pt u12
 have h0_12 := u12.w (u11.w (u10.w (u9.w h0_8)))
 refine st_p (ex_mv h0_12) F12.l fun a13 u13 h14_13 => ?_
 have F13 := F12.pt u13
 refine st_p (ex_ixg (vx := (.slice (some ⟨gk, 0, none⟩) 1 1)) (vy := (.int .i64 0)) (v := (.pointer (some ⟨gk, 0, none⟩))) h14_13 rfl (by kernel_rfl)) F13.l fun a14 u14 h15_14 => ?_
 have F14 := F13.pt u14
 refine st_p (ex_fb 2 h15_14) F14.l fun a15 u15 h16_15 => ?_
 have F15 := F14.pt u15
 refine st_p (ex_le (v := (.string k.iv)) h16_15 (Bk_1.cell 2)) F15.l fun a16 u16 h17_16 => ?_
 have F16 := F15.pt u16
 have h0_16 := u16.w (u15.w (u14.w (u13.w h0_12)))
 refine st_p (ex_mv h0_16) F16.l fun a17 u17 h18_17 => ?_
 have F17 := F16.pt u17
 refine st_p (ex_ixg (vx := (.slice (some ⟨gk, 0, none⟩) 1 1)) (vy := (.int .i64 0)) (v := (.pointer (some ⟨gk, 0, none⟩))) h18_17 rfl (by kernel_rfl)) F17.l fun a18 u18 h19_18 => ?_
 have F18 := F17.pt u18
 refine st_p (ex_fb 3 h19_18) F18.l fun a19 u19 h20_19 => ?_
 have F19 := F18.pt u19
 refine st_p (ex_le (v := (.string k.fo)) h20_19 (Bk_1.cell 3)) F19.l fun a20 u20 h21_20 => ?_
 have F20 := F19.pt u20
 have h0_20 := u20.w (u19.w (u18.w (u17.w h0_16)))
 refine st_p (ex_mv h0_20) F20.l fun a21 u21 h22_21 => ?_
 have F21 := F20.pt u21
 refine st_p (ex_ixg (vx := (.slice (some ⟨gk, 0, none⟩) 1 1)) (vy := (.int .i64 0)) (v := (.pointer (some ⟨gk, 0, none⟩))) h22_21 rfl (by kernel_rfl)) F21.l fun a22 u22 h23_22 => ?_
 have F22 := F21.pt u22
 refine st_p (ex_fb 4 h23_22) F22.l fun a23 u23 h24_23 => ?_
 have F23 := F22.pt u23
 refine st_p (ex_le (v := (.string k.ve)) h24_23 (Bk_1.cell 4)) F23.l fun a24 u24 h25_24 => ?_
 have F24 := F23.pt u24
 have h9_24 := u24.w (u23.w (u22.w (u21.w (u20.w (u19.w (u18.w (u17.w (u16.w (u15.w (u14.w (u13.w (u12.w (u11.w (u10.w (u9.w h9_8)))))))))))))))
 have h13_24 := u24.w (u23.w (u22.w (u21.w (u20.w (u19.w (u18.w (u17.w (u16.w (u15.w (u14.w (u13.w h13_12)))))))))))
 have h17_24 := u24.w (u23.w (u22.w (u21.w (u20.w (u19.w (u18.w (u17.w h17_16)))))))
 have h21_24 := u24.w (u23.w (u22.w (u21.w h21_20)))
 refine wl_p (ex_bd (w' := w1) (vs :=  #[(0, (.string k.me)), (1, (.string k.uri)), (2, (.string k.iv)), (3, (.string k.fo)), (4, (.string k.ve))]) (v := (.agg #[(.string k.me), (.string k.uri), (.string k.iv), (.string k.fo), (.string k.ve)])) (by have e0 : a24.eval (.tmp 9) = (.string k.me) := h9_24; have e1 : a24.eval (.tmp 13) = (.string k.uri) := h13_24; have e2 : a24.eval (.tmp 17) = (.string k.iv) := h17_24; have e3 : a24.eval (.tmp 21) = (.string k.fo) := h21_24; have e4 : a24.eval (.tmp 25) = (.string k.ve) := h25_24; simp only [List.map_toArray, List.map_cons, List.map_nil, e0, e1, e2, e3, e4]) (by kernel_rfl)) F24.l fun a25 u25 h26_25 => ?_
 have F25 := F24.pt u25
 obtain ⟨gb27, hgb27⟩ : ∃ g, w1.heap.size = g := ⟨_, rfl⟩
 have ne_k_b27 : gk ≠ gb27 := by have := Bk_1.lt; omega
 have ge_b27 : w0.heap.size ≤ gb27 := by have := Kp1.size; omega
 obtain ⟨w2, hr2, Bb27_2, G2, hs2⟩ := al_run (op := Instr.box 113 (.agg #[(.string k.me), (.string k.uri), (.string k.iv), (.string k.fo), (.string k.ve)])) (T := 113) (cs := #[(.string k.me), (.string k.uri), (.string k.iv), (.string k.fo), (.string k.ve)]) hgb27 (fun _ => by kernel_rfl)
 have Bk_2 := Bk_1.gn G2
 have Kp2 := Kp1.new G2
 refine wl_p (ex_bx h26_25 hr2) F25.l fun a26 u26 (h27_26 : a26.tmps.getD 27 undef = (.pointer (some ⟨gb27, 0, none⟩))) => ?_
 have F26 := F25.pt u26
 clear hgb27
 refine wl_p (ex_as h27_26) F26.l fun a27 u27 h2_27 => ?_
 have F27 := F26.pt u27
 change Code.wp _ _ _ _ _
 refine wp_ret ?_
 try simp only [Exit.then, Exit.inBlock]
 exact bodyPost_ret (v := (.pointer (some ⟨gb27, 0, none⟩))) ((results_tmp rfl _ _ _).trans (by rw [h2_27])) F27.defers ⟨some gb27, rfl, .mk Bb27_2 ge_b27 hok, Kp2.grown⟩
theorem keyTo_any {v : Value} {k : Option KeyD} {w0 : World} (h : KeySl w0 v k) : Calls Tryd.prog 55 #[v] w0 fun e w' => ∃ kp, e = .returned (pto kp) ∧ KeyP w' w0.heap.size kp k ∧ w0.grownBy w' none := by
 cases h with
 | nil => exact keyTo_no
 | mk h ok => exact keyTo_yes h ok
theorem mapTo_no {w0 : World} : Calls Tryd.prog 56 #[.slice none 0 0] w0 fun e w' => ∃ kp, e = .returned (pto kp) ∧ MapP w' w0.heap.size kp none ∧ w0.grownBy w' none := by
 refine calls_of_wp Tryd.func56 rfl ?_
 generalize hA : Act.mk _ _ = a0
 have F0 : Fz 20 a0 := by subst hA; exact ⟨by simp [Tryd.ntmps56], rfl⟩
 have h0_0 : a0.tmps.getD 0 undef = (.slice none 0 0) := by subst hA; exact fr_arg rfl
 clear hA
 refine wp_seq ?_
 refine rg_list ?_
 refine wl_p (ex_as (v := (.pointer none)) rfl) F0.l fun a1 u1 h2_1 => ?_
 have F1 := F0.pt u1
 change Code.wp _ _ _ _ _
 refine wp_seq ?_
 refine wp_seq ?_
 refine rg_list ?_
 refine wl_p (ex_mv (u1.w h0_0)) F1.l fun a2 u2 h3_2 => ?_
 have F2 := F1.pt u2
 refine wl_p (ex_bi (w' := w0) (args := #[(.slice none 0 0)]) (v := (.int .i64 0)) (arg1 h3_2) (by kernel_rfl)) F2.l fun a3 u3 h4_3 => ?_
 have F3 := F2.pt u3
 refine wl_p (ex_bin (vy := (.int .i64 0)) (v := (.bool true)) h4_3 rfl (by kernel_rfl)) F3.l fun a4 u4 h5_4 => ?_
 have F4 := F3.pt u4
 change Code.wp _ _ _ _ _
 refine wp_cond_true h5_4 ?_
 refine wp_seq ?_
 refine rg_list ?_
 refine wl_p (ex_as (v := (.pointer none)) rfl) F4.l fun a5 u5 h2_5 => ?_
 have F5 := F4.pt u5
 change Code.wp _ _ _ _ _
 refine wp_ret ?_
 try simp only [Exit.then, Exit.inBlock]
 exact bodyPost_ret (v := (.pointer none)) ((results_tmp rfl _ _ _).trans (by rw [h2_5])) F5.defers ⟨none, rfl, .nil, grown_refl _ _⟩
theorem mapTo_yes {gk : Nat} {k : MapD} {w0 : World} (hk : Blk w0 gk 80 (mapC k)) (hok : k.Ok) : Calls Tryd.prog 56 #[.slice (some ⟨gk, 0, none⟩) 1 1] w0 fun e w' => ∃ kp, e = .returned (pto kp) ∧ MapP w' w0.heap.size kp (some k) ∧ w0.grownBy w' none := by
 refine calls_of_wp Tryd.func56 rfl ?_
 generalize hA : Act.mk _ _ = a0
 have F0 : Fz 20 a0 := by subst hA; exact ⟨by simp [Tryd.ntmps56], rfl⟩
 have h0_0 : a0.tmps.getD 0 undef = (.slice (some ⟨gk, 0, none⟩) 1 1) := by subst hA; exact fr_arg rfl
 clear hA
 have Kp0 := Kp.refl [] w0
 refine wp_seq ?_
 refine rg_list ?_
 refine wl_p (ex_as (v := (.pointer none)) rfl) F0.l fun a1 u1 h2_1 => ?_
 have F1 := F0.pt u1
 change Code.wp _ _ _ _ _
 refine wp_seq ?_
 refine wp_seq ?_
 refine rg_list ?_
 refine wl_p (ex_mv (u1.w h0_0)) F1.l fun a2 u2 h3_2 => ?_
 have F2 := F1.pt u2
 refine wl_p (ex_bi (w' := w0) (args := #[(.slice (some ⟨gk, 0, none⟩) 1 1)]) (v := (.int .i64 1)) (arg1 h3_2) (by kernel_rfl)) F2.l fun a3 u3 h4_3 => ?_
 have F3 := F2.pt u3
 refine wl_p (ex_bin (vy := (.int .i64 0)) (v := (.bool false)) h4_3 rfl (by kernel_rfl)) F3.l fun a4 u4 h5_4 => ?_
 have F4 := F3.pt u4
 change Code.wp _ _ _ _ _
 refine wp_cond_false h5_4 ?_
 refine wp_skip ?_
 change Code.wp _ _ _ _ _
 refine wp_seq ?_
 obtain ⟨w1, hw1⟩ : ∃ w, w = w0.drew := ⟨_, rfl⟩
 have G1 : w0.grownBy w1 none := hw1 ▸ grown_drew _
 have Bk_1 := hk.gn G1
 have Kp1 := Kp0.new G1
 refine rg_stillt 12 hw1 hmix (by kernel_rfl) ?_
 clear hk
 have h0_4 := u4.w (u3.w (u2.w (u1.w h0_0)))
 refine st_p (ex_mv h0_4) F4.l fun a5 u5 h6_5 => ?_
 have F5 := F4.pt u5
 refine st_p (ex_ixg (vx := (.slice (some ⟨gk, 0, none⟩) 1 1)) (vy := (.int .i64 0)) (v := (.pointer (some ⟨gk, 0, none⟩))) h6_5 rfl (by kernel_rfl)) F5.l fun a6 u6 h7_6 => ?_
 have F6 := F5.pt u6
 refine st_p (ex_fb 0 h7_6) F6.l fun a7 u7 h8_7 => ?_
 have F7 := F6.pt u7
 refine st_p (ex_le (v := (.string k.uri)) h8_7 (Bk_1.cell 0)) F7.l fun a8 u8 h9_8 => ?_
 have F8 := F7.pt u8
 have h0_8 := u8.w (u7.w (u6.w (u5.w h0_4)))
 refine st_p (ex_mv h0_8) F8.l fun a9 u9 h10_9 => ?_
 have F9 := F8.pt u9
 refine st_p (ex_ixg (vx := (.slice (some ⟨gk, 0, none⟩) 1 1)) (vy := (.int .i64 0)) (v := (.pointer (some ⟨gk, 0, none⟩))) h10_9 rfl (by kernel_rfl)) F9.l fun a10 u10 h11_10 => ?_
 have F10 := F9.pt u10
 refine st_p (ex_fb 1 h11_10) F10.l fun a11 u11 h12_11 => ?_
 have F11 := F10.pt u11
 refine st_p (ex_le (v := (.int .i64 k.li)) h12_11 (Bk_1.cell 1)) F11.l fun a12 u12 h13_12 => ?_
 have F12 := F11.pt u12
 have h0_12 := u12.w (u11.w (u10.w (u9.w h0_8)))
 refine st_p (ex_mv h0_12) F12.l fun a13 u13 h14_13 => ?_
 have F13 := F12.pt u13
 refine st_p (ex_ixg (vx := (.slice (some ⟨gk, 0, none⟩) 1 1)) (vy := (.int .i64 0)) (v := (.pointer (some ⟨gk, 0, none⟩))) h14_13 rfl (by kernel_rfl)) F13.l fun a14 u14 h15_14 => ?_
 have F14 := F13.pt u14
 refine st_p (ex_fb 2 h15_14) F14.l fun a15 u15 h16_15 => ?_
 have F15 := F14.pt u15
 refine st_p (ex_le (v := (.int .i64 k.off)) h16_15 (Bk_1.cell 2)) F15.l fun a16 u16 h17_16 => ?_
 have F16 := F15.pt u16
 have h9_16 := u16.w (u15.w (u14.w (u13.w (u12.w (u11.w (u10.w (u9.w h9_8)))))))
 have h13_16 := u16.w (u15.w (u14.w (u13.w h13_12)))
 refine wl_p (ex_bd (w' := w1) (vs :=  #[(0, (.string k.uri)), (1, (.int .i64 k.li)), (2, (.int .i64 k.off))]) (v := (.agg #[(.string k.uri), (.int .i64 k.li), (.int .i64 k.off)])) (by have e0 : a16.eval (.tmp 9) = (.string k.uri) := h9_16; have e1 : a16.eval (.tmp 13) = (.int .i64 k.li) := h13_16; have e2 : a16.eval (.tmp 17) = (.int .i64 k.off) := h17_16; simp only [List.map_toArray, List.map_cons, List.map_nil, e0, e1, e2]) (by kernel_rfl)) F16.l fun a17 u17 h18_17 => ?_
 have F17 := F16.pt u17
 obtain ⟨gb19, hgb19⟩ : ∃ g, w1.heap.size = g := ⟨_, rfl⟩
 have ne_k_b19 : gk ≠ gb19 := by have := Bk_1.lt; omega
 have ge_b19 : w0.heap.size ≤ gb19 := by have := Kp1.size; omega
 obtain ⟨w2, hr2, Bb19_2, G2, hs2⟩ := al_run (op := Instr.box 115 (.agg #[(.string k.uri), (.int .i64 k.li), (.int .i64 k.off)])) (T := 115) (cs := #[(.string k.uri), (.int .i64 k.li), (.int .i64 k.off)]) hgb19 (fun _ => by kernel_rfl)
 have Bk_2 := Bk_1.gn G2
 have Kp2 := Kp1.new G2
 refine wl_p (ex_bx h18_17 hr2) F17.l fun a18 u18 (h19_18 : a18.tmps.getD 19 undef = (.pointer (some ⟨gb19, 0, none⟩))) => ?_
 have F18 := F17.pt u18
 clear hgb19
 refine wl_p (ex_as h19_18) F18.l fun a19 u19 h2_19 => ?_
 have F19 := F18.pt u19
 change Code.wp _ _ _ _ _
 refine wp_ret ?_
 try simp only [Exit.then, Exit.inBlock]
 exact bodyPost_ret (v := (.pointer (some ⟨gb19, 0, none⟩))) ((results_tmp rfl _ _ _).trans (by rw [h2_19])) F19.defers ⟨some gb19, rfl, .mk Bb19_2 ge_b19 hok, Kp2.grown⟩
theorem mapTo_any {v : Value} {k : Option MapD} {w0 : World} (h : MapSl w0 v k) : Calls Tryd.prog 56 #[v] w0 fun e w' => ∃ kp, e = .returned (pto kp) ∧ MapP w' w0.heap.size kp k ∧ w0.grownBy w' none := by
 cases h with
 | nil => exact mapTo_no
 | mk h ok => exact mapTo_yes h ok
theorem cueTo_no {w0 : World} : Calls Tryd.prog 57 #[.slice none 0 0] w0 fun e w' => e = .returned (.pointer none) ∧ w0 = w' := by
 refine calls_of_wp Tryd.func57 rfl ?_
 generalize hA : Act.mk _ _ = a0
 have F0 : Fz 26 a0 := by subst hA; exact ⟨by simp [Tryd.ntmps57], rfl⟩
 have h0_0 : a0.tmps.getD 0 undef = (.slice none 0 0) := by subst hA; exact fr_arg rfl
 clear hA
 refine wp_seq ?_
 refine rg_list ?_
 refine wl_p (ex_as (v := (.pointer none)) rfl) F0.l fun a1 u1 h2_1 => ?_
 have F1 := F0.pt u1
 change Code.wp _ _ _ _ _
 refine wp_seq ?_
 refine wp_seq ?_
 refine rg_list ?_
 refine wl_p (ex_mv (u1.w h0_0)) F1.l fun a2 u2 h4_2 => ?_
 have F2 := F1.pt u2
 refine wl_p (ex_bi (w' := w0) (args := #[(.slice none 0 0)]) (v := (.int .i64 0)) (arg1 h4_2) (by kernel_rfl)) F2.l fun a3 u3 h5_3 => ?_
 have F3 := F2.pt u3
 refine wl_p (ex_bin (vy := (.int .i64 0)) (v := (.bool true)) h5_3 rfl (by kernel_rfl)) F3.l fun a4 u4 h6_4 => ?_
 have F4 := F3.pt u4
 change Code.wp _ _ _ _ _
 refine wp_cond_true h6_4 ?_
 refine wp_seq ?_
 refine rg_list ?_
 refine wl_p (ex_as (v := (.pointer none)) rfl) F4.l fun a5 u5 h2_5 => ?_
 have F5 := F4.pt u5
 change Code.wp _ _ _ _ _
 refine wp_ret ?_
 try simp only [Exit.then, Exit.inBlock]
 exact bodyPost_ret (v := (.pointer none)) ((results_tmp rfl _ _ _).trans (by rw [h2_5])) F5.defers ⟨rfl, rfl⟩
/-- a segment as data -/
def segD (num : Nat) (s : SegD) (kv mv : Value) : Array Value := #[(.int .u64 num), (.string s.title), (.string s.uri), (.float .f64 (fb s.e)), (.int .i64 s.li), (.int .i64 s.off), kv, mv, (.slice none 0 0), (.bool s.disc), (.string s.date)]
theorem segmentTo_any {num : Nat} {s : SegD} {kv mv : Value} {w0 : World} (hks : KeySl w0 kv s.key) (hms : MapSl w0 mv s.map) :
   Calls Tryd.prog 32 #[.agg (segD num s kv mv)] w0 fun e w' => ∃ q kp mp, e = .returned (pt q) ∧ Blk w' q 95 (segC 0 s kp mp) ∧ KeyP w' w0.heap.size kp s.key ∧ MapP w' w0.heap.size mp s.map ∧ w0.heap.size ≤ q ∧ w0.grownBy w' none := by
 refine calls_of_wp Tryd.func32 rfl ?_
 generalize hA : Act.mk _ _ = a0
 have F0 : Fz 28 a0 := by subst hA; exact ⟨by simp [Tryd.ntmps32], rfl⟩
 have h0_0 : a0.tmps.getD 0 undef = (.agg #[(.int .u64 num), (.string s.title), (.string s.uri), (.float .f64 (fb s.e)), (.int .i64 s.li), (.int .i64 s.off), kv, mv, (.slice none 0 0), (.bool s.disc), (.string s.date)]) := by subst hA; exact fr_arg rfl
 clear hA
 have Kp0 := Kp.refl [] w0
 have ks_0 := hks
 have ms_0 := hms
 refine wp_seq ?_
 refine rg_list ?_
 obtain ⟨gx, hgx⟩ : ∃ g, w0.heap.size = g := ⟨_, rfl⟩
 have ge_x : w0.heap.size ≤ gx := by have := Kp0.size; omega
 obtain ⟨w1, hr1, Bx_1, G1, hs1⟩ := al_run (op := Instr.box 40 (.agg #[(.int .u64 num), (.string s.title), (.string s.uri), (.float .f64 (fb s.e)), (.int .i64 s.li), (.int .i64 s.off), kv, mv, (.slice none 0 0), (.bool s.disc), (.string s.date)])) (T := 40) (cs := #[(.int .u64 num), (.string s.title), (.string s.uri), (.float .f64 (fb s.e)), (.int .i64 s.li), (.int .i64 s.off), kv, mv, (.slice none 0 0), (.bool s.disc), (.string s.date)]) hgx (fun _ => by kernel_rfl)
 have Kp1 := Kp0.new G1
 have ks_1 := ks_0.gn G1
 have ms_1 := ms_0.gn G1
 refine wl_p (ex_bx h0_0 hr1) F0.l fun a1 u1 (h1_1 : a1.tmps.getD 1 undef = (.pointer (some ⟨gx, 0, none⟩))) => ?_
 have F1 := F0.pt u1
 clear hgx
 refine wl_p (ex_as (v := (.pointer none)) rfl) F1.l fun a2 u2 h2_2 => ?_
 have F2 := F1.pt u2
 change Code.wp _ _ _ _ _
 refine wp_seq ?_
 obtain ⟨w2, hw2⟩ : ∃ w, w = w1.drew := ⟨_, rfl⟩
 have G2 : w1.grownBy w2 none := hw2 ▸ grown_drew _
 have Bx_2 := Bx_1.gn G2
 have Kp2 := Kp1.new G2
 have ks_2 := ks_1.gn G2
 have ms_2 := ms_1.gn G2
 refine rg_ord (S := fun w' => Blk w' gx 40 #[(.int .u64 num), (.string s.title), (.string s.uri), (.float .f64 (fb s.e)), (.int .i64 s.li), (.int .i64 s.off), kv, mv, (.slice none 0 0), (.bool s.disc), (.string s.date)]) [0, 1, 2, 3, 4, 5, 6, 7, 8, 9, 10, 11, 13, 14, 16, 17, 19, 20, 21, 22] [12, 15, 18, 23, 24, 25] ⟨rfl, by decide⟩ hmix (by kernel_rfl) (by rw [show w1.drew = w2 from hw2.symm]; exact Bx_2) ?_
 rw [show w1.drew = w2 from hw2.symm]
 refine mh_p (fun w hw => ex_fb 1 (u2.w h1_1)) F2.l fun a3 u3 h3_3 => ?_
 have F3 := F2.pt u3
 refine mh_p (fun w hw => ex_le (v := (.string s.title)) h3_3 (hw.cell 1)) F3.l fun a4 u4 h4_4 => ?_
 have F4 := F3.pt u4
 have h1_4 := u4.w (u3.w (u2.w h1_1))
 refine mh_p (fun w hw => ex_fb 2 h1_4) F4.l fun a5 u5 h5_5 => ?_
 have F5 := F4.pt u5
 refine mh_p (fun w hw => ex_le (v := (.string s.uri)) h5_5 (hw.cell 2)) F5.l fun a6 u6 h6_6 => ?_
 have F6 := F5.pt u6
 refine mh_p (fun w hw => ex_fb 3 (u6.w (u5.w h1_4))) F6.l fun a7 u7 h7_7 => ?_
 have F7 := F6.pt u7
 refine mh_p (fun w hw => ex_le (v := (.float .f64 (fb s.e))) h7_7 (hw.cell 3)) F7.l fun a8 u8 h8_8 => ?_
 have F8 := F7.pt u8
 have h1_8 := u8.w (u7.w (u6.w (u5.w h1_4)))
 refine mh_p (fun w hw => ex_fb 4 h1_8) F8.l fun a9 u9 h9_9 => ?_
 have F9 := F8.pt u9
 refine mh_p (fun w hw => ex_le (v := (.int .i64 s.li)) h9_9 (hw.cell 4)) F9.l fun a10 u10 h10_10 => ?_
 have F10 := F9.pt u10
 refine mh_p (fun w hw => ex_fb 5 (u10.w (u9.w h1_8))) F10.l fun a11 u11 h11_11 => ?_
 have F11 := F10.pt u11
 refine mh_p (fun w hw => ex_le (v := (.int .i64 s.off)) h11_11 (hw.cell 5)) F11.l fun a12 u12 h12_12 => ?_
 have F12 := F11.pt u12
 have h1_12 := u12.w (u11.w (u10.w (u9.w h1_8)))
 refine mh_p (fun w hw => ex_fb 6 h1_12) F12.l fun a13 u13 h13_13 => ?_
 have F13 := F12.pt u13
 refine mh_p (fun w hw => ex_le (v := kv) h13_13 (hw.cell 6)) F13.l fun a14 u14 h14_14 => ?_
 have F14 := F13.pt u14
 refine mh_p (fun w hw => ex_fb 7 (u14.w (u13.w h1_12))) F14.l fun a15 u15 h16_15 => ?_
 have F15 := F14.pt u15
 refine mh_p (fun w hw => ex_le (v := mv) h16_15 (hw.cell 7)) F15.l fun a16 u16 h17_16 => ?_
 have F16 := F15.pt u16
 have h1_16 := u16.w (u15.w (u14.w (u13.w h1_12)))
 refine mh_p (fun w hw => ex_fb 8 h1_16) F16.l fun a17 u17 h19_17 => ?_
 have F17 := F16.pt u17
 refine mh_p (fun w hw => ex_le (v := (.slice none 0 0)) h19_17 (hw.cell 8)) F17.l fun a18 u18 h20_18 => ?_
 have F18 := F17.pt u18
 refine mh_p (fun w hw => ex_fb 9 (u18.w (u17.w h1_16))) F18.l fun a19 u19 h22_19 => ?_
 have F19 := F18.pt u19
 refine mh_p (fun w hw => ex_le (v := (.bool s.disc)) h22_19 (hw.cell 9)) F19.l fun a20 u20 h23_20 => ?_
 have F20 := F19.pt u20
 have h1_20 := u20.w (u19.w (u18.w (u17.w h1_16)))
 refine mh_p (fun w hw => ex_fb 10 h1_20) F20.l fun a21 u21 h24_21 => ?_
 have F21 := F20.pt u21
 refine mh_p (fun w hw => ex_le (v := (.string s.date)) h24_21 (hw.cell 10)) F21.l fun a22 u22 h25_22 => ?_
 have F22 := F21.pt u22
 have h14_22 := u22.w (u21.w (u20.w (u19.w (u18.w (u17.w (u16.w (u15.w h14_14)))))))
 refine mt_cl (args := #[kv]) (R := fun v w' => ∃ kp, v = pto kp ∧ KeyP w' w2.heap.size kp s.key ∧ w2.grownBy w' none) (ex_cl (fun _ _ => by kernel_rfl) (arg1 h14_22)) ((keyTo_any ks_2).mono fun _ _ ⟨kp, h⟩ => ⟨_, h.1, kp, rfl, h.2⟩) F22.l ?_
 rintro v w3 ⟨kp, rfl, kk_3, G3⟩
 replace kk_3 := kk_3.lo' Kp2.size
 have Bx_3 := Bx_2.gn G3
 have Kp3 := Kp2.new G3
 have ks_3 := ks_2.gn G3
 have ms_3 := ms_2.gn G3
 refine ⟨Bx_3, ?_⟩
 intro a23 u23 h15_23
 have F23 := F22.pt u23
 have h17_23 := u23.w (u22.w (u21.w (u20.w (u19.w (u18.w (u17.w h17_16))))))
 refine mt_cl (args := #[mv]) (R := fun v w' => ∃ kp, v = pto kp ∧ MapP w' w3.heap.size kp s.map ∧ w3.grownBy w' none) (ex_cl (fun _ _ => by kernel_rfl) (arg1 h17_23)) ((mapTo_any ms_3).mono fun _ _ ⟨kp, h⟩ => ⟨_, h.1, kp, rfl, h.2⟩) F23.l ?_
 rintro v w4 ⟨mp, rfl, mm_4, G4⟩
 replace mm_4 := mm_4.lo' Kp3.size
 have Bx_4 := Bx_3.gn G4
 have Kp4 := Kp3.new G4
 have ks_4 := ks_3.gn G4
 have ms_4 := ms_3.gn G4
 have kk_4 := kk_3.gn G4
 refine ⟨Bx_4, ?_⟩
 intro a24 u24 h18_24
 have F24 := F23.pt u24
 clear kk_3
 have h20_24 := u24.w (u23.w (u22.w (u21.w (u20.w (u19.w h20_18)))))
 refine mt_cl (args := #[(.slice none 0 0)]) (R := fun v w' => v = (.pointer none) ∧ (w4 = w')) (ex_cl (fun _ _ => by kernel_rfl) (arg1 h20_24)) ((cueTo_no).mono fun _ _ h => ⟨_, h.1, rfl, h.2⟩) F24.l ?_
 rintro v w' ⟨rfl, rfl⟩
 refine ⟨Bx_4, ?_⟩
 intro a25 u25 h21_25
 have F25 := F24.pt u25
 have h4_25 := u25.w (u24.w (u23.w (u22.w (u21.w (u20.w (u19.w (u18.w (u17.w (u16.w (u15.w (u14.w (u13.w (u12.w (u11.w (u10.w (u9.w (u8.w (u7.w (u6.w (u5.w h4_4))))))))))))))))))))
 have h6_25 := u25.w (u24.w (u23.w (u22.w (u21.w (u20.w (u19.w (u18.w (u17.w (u16.w (u15.w (u14.w (u13.w (u12.w (u11.w (u10.w (u9.w (u8.w (u7.w h6_6))))))))))))))))))
 have h8_25 := u25.w (u24.w (u23.w (u22.w (u21.w (u20.w (u19.w (u18.w (u17.w (u16.w (u15.w (u14.w (u13.w (u12.w (u11.w (u10.w (u9.w h8_8))))))))))))))))
 have h10_25 := u25.w (u24.w (u23.w (u22.w (u21.w (u20.w (u19.w (u18.w (u17.w (u16.w (u15.w (u14.w (u13.w (u12.w (u11.w h10_10))))))))))))))
 have h12_25 := u25.w (u24.w (u23.w (u22.w (u21.w (u20.w (u19.w (u18.w (u17.w (u16.w (u15.w (u14.w (u13.w h12_12))))))))))))
 have h23_25 := u25.w (u24.w (u23.w (u22.w (u21.w h23_20))))
 have h25_25 := u25.w (u24.w (u23.w h25_22))
 refine mt_p (ex_bd (w' := w4) (vs :=  #[(1, (.string s.title)), (2, (.string s.uri)), (3, (.float .f64 (fb s.e))), (4, (.int .i64 s.li)), (5, (.int .i64 s.off)), (6, (pto kp)), (7, (pto mp)), (9, (.pointer none)), (8, (.bool s.disc)), (10, (.string s.date))]) (v := (.agg #[(.int .u64 0), (.string s.title), (.string s.uri), (.float .f64 (fb s.e)), (.int .i64 s.li), (.int .i64 s.off), (pto kp), (pto mp), (.bool s.disc), (.pointer none), (.string s.date)])) (by have e1 : a25.eval (.tmp 4) = (.string s.title) := h4_25; have e2 : a25.eval (.tmp 6) = (.string s.uri) := h6_25; have e3 : a25.eval (.tmp 8) = (.float .f64 (fb s.e)) := h8_25; have e4 : a25.eval (.tmp 10) = (.int .i64 s.li) := h10_25; have e5 : a25.eval (.tmp 12) = (.int .i64 s.off) := h12_25; have e6 : a25.eval (.tmp 15) = (pto kp) := (u25.w (u24.w h15_23)); have e7 : a25.eval (.tmp 18) = (pto mp) := (u25.w h18_24); have e9 : a25.eval (.tmp 21) = (.pointer none) := h21_25; have e8 : a25.eval (.tmp 23) = (.bool s.disc) := h23_25; have e10 : a25.eval (.tmp 25) = (.string s.date) := h25_25; simp only [List.map_toArray, List.map_cons, List.map_nil, e1, e2, e3, e4, e5, e6, e7, e9, e8, e10]) (by kernel_rfl)) (Bx_4) F25.l fun a26 u26 h26_26 => ?_
 have F26 := F25.pt u26
 obtain ⟨gq, hgq⟩ : ∃ g, w4.heap.size = g := ⟨_, rfl⟩
 have ne_x_q : gx ≠ gq := by have := Bx_4.lt; omega
 have ge_q : w0.heap.size ≤ gq := by have := Kp4.size; omega
 obtain ⟨w5, hr5, Bq_5, G5, hs5⟩ := al_run (op := Instr.box 95 (.agg #[(.int .u64 0), (.string s.title), (.string s.uri), (.float .f64 (fb s.e)), (.int .i64 s.li), (.int .i64 s.off), (pto kp), (pto mp), (.bool s.disc), (.pointer none), (.string s.date)])) (T := 95) (cs := #[(.int .u64 0), (.string s.title), (.string s.uri), (.float .f64 (fb s.e)), (.int .i64 s.li), (.int .i64 s.off), (pto kp), (pto mp), (.bool s.disc), (.pointer none), (.string s.date)]) hgq (fun _ => by kernel_rfl)
 have Bx_5 := Bx_4.gn G5
 have Kp5 := Kp4.new G5
 have ks_5 := ks_4.gn G5
 have ms_5 := ms_4.gn G5
 have kk_5 := kk_4.gn G5
 have mm_5 := mm_4.gn G5
 refine mt_p (ex_bx h26_26 hr5) (Bx_5) F26.l fun a27 u27 (h27_27 : a27.tmps.getD 27 undef = (.pointer (some ⟨gq, 0, none⟩))) => ?_
 have F27 := F26.pt u27
 clear kk_4 mm_4 hgq
 refine mt_p (ex_as h27_27) (Bx_5) F27.l fun a28 u28 h2_28 => ?_
 have F28 := F27.pt u28
 change Code.wp _ _ _ _ _
 refine wp_ret ?_
 try simp only [Exit.then, Exit.inBlock]
 exact bodyPost_ret (v := (.pointer (some ⟨gq, 0, none⟩))) ((results_tmp rfl _ _ _).trans (by rw [h2_28])) F28.defers ⟨gq, kp, mp, rfl, Bq_5, kk_5, mm_5, ge_q, Kp5.grown⟩
end
section
set_option maxRecDepth 100000
theorem fn_fb_all : ∀ n : Fin 501, fn n.val = fb (8 * n.val) := by decide +kernel
theorem fn_fb {n : Nat} (h : n < 501) : fn n = fb (8 * n) := fn_fb_all ⟨n, h⟩
theorem KeySl.one {w : World} {v : Value} {k : Option KeyD} (h : KeySl w v k) : v.oneCell' = true := by cases h <;> rfl
theorem MapSl.one {w : World} {v : Value} {k : Option MapD} (h : MapSl w v k) : v.oneCell' = true := by cases h <;> rfl
/-- segments in a slice -/
inductive SegSl (w : World) : Value → List SegD → Prop
 | nil : SegSl w (.slice none 0 0) []
 | mk {g c : Nat} {cells : Array Value} {segs : List SegD} (h : Blk w g 40 cells) (hn : segs.length ≤ c) (he : ∀ i s, segs[i]? = some s → ∃ kv mv, (∀ k, k < 11 → cells[11 * i + k]? = (segD 0 s kv mv)[k]?) ∧ KeySl w kv s.key ∧ MapSl w mv s.map) :
   SegSl w (.slice (some ⟨g, 0, none⟩) segs.length c) segs
theorem SegSl.len {w : World} {v : Value} {segs : List SegD} {ty : TypeId} {cs : Array Bool} (h : SegSl w v segs) (w' : World) : (builtin .len #[65] ty cs #[v]).run Tryd.prog w' = .ok (.value (.int .i64 segs.length)) w' := by
 cases h with
 | nil => kernel_rfl
 | mk h hn he => kernel_rfl
theorem ixs_run (g n c j : Nat) (hj : j < n) (w : World) : (Instr.indexAt 65 (.slice (some ⟨g, 0, none⟩) n c) (.int .i64 j)).run Tryd.prog w = .ok (.pointer (some ⟨g, 11 * j, none⟩)) w := by
 have h1 : (j : Int) < (n : Int) := by omega
 have h2 : (0 : Int) ≤ (j : Int) := by omega
 simp [go_sem, h1, h2]
/-- one element: its address, its fields -/
theorem SegSl.elem {w : World} {v : Value} {segs : List SegD} {j : Nat} (h : SegSl w v segs) (hj : j < segs.length) :
   ∃ ad kv mv, (∀ w', (Instr.indexAt 65 v (.int .i64 j)).run Tryd.prog w' = .ok (.pointer (some ad)) w') ∧ (∀ w', Kp [] w w' → (Instr.loadAt 40 (.pointer (some ad))).run Tryd.prog w' = .ok (.agg (segD 0 segs[j] kv mv)) w') ∧ KeySl w kv segs[j].key ∧ MapSl w mv segs[j].map := by
 cases h with
 | nil => cases hj
 | mk h hn he =>
   rename_i g c cells
   obtain ⟨kv, mv, hc, hk, hm⟩ := he j segs[j] (List.getElem?_eq_getElem hj)
   refine ⟨⟨g, 11 * j, none⟩, kv, mv, fun w' => ixs_run g _ c j hj w', fun w' K => ?_, hk, hm⟩
   exact ld_agg (n := 11) (fun _ => by kernel_rfl) (fun _ => by kernel_rfl) (h.kp K (by simp)) rfl hc
section
variable {w w' : World} {k : Option KeyD} {m : Option MapD} {lo b : Nat} {kp : Option Nat} {cs cg : Array Value} {g : Nat}
theorem KeyP.kp2 (h : KeyP w lo kp k) (hb : Blk w b 104 cs) (hg : Blk w g 90 cg) (K : Kp [b, g] w w') : KeyP w' lo kp k := by
 cases h with
 | nil => exact .nil
 | mk h hp ok => exact .mk (h.kp K (by simp [h.ne_ hb (by decide), h.ne_ hg (by decide)])) hp ok
theorem MapP.kp2 (h : MapP w lo kp m) (hb : Blk w b 104 cs) (hg : Blk w g 90 cg) (K : Kp [b, g] w w') : MapP w' lo kp m := by
 cases h with
 | nil => exact .nil
 | mk h hp ok => exact .mk (h.kp K (by simp [h.ne_ hb (by decide), h.ne_ hg (by decide)])) hp ok
theorem KeyP.lt (h : KeyP w lo kp k) : ∀ x, kp = some x → x < w.heap.size := by
 cases h with
 | nil => exact fun _ e => by cases e
 | mk h hp ok => exact fun x e => by cases e; exact h.lt
theorem KeyP.ok_ (h : KeyP w lo kp k) : ∀ x, k = some x → x.Ok := by
 cases h with
 | nil => exact fun _ e => by cases e
 | mk h hp ok => exact fun x e => by cases e; exact ok
theorem MapP.ok_ (h : MapP w lo kp m) : ∀ x, m = some x → x.Ok := by
 cases h with
 | nil => exact fun _ e => by cases e
 | mk h hp ok => exact fun x e => by cases e; exact ok
end
/-- the first n segments behind their pointers, their own keys below hi -/
def SegsAt (w : World) (lo hi seq : Nat) (segs : List SegD) (n : Nat) (arr : Array Value) : Prop :=
 ∀ i s, i < n → segs[i]? = some s → ∃ q kp mp, arr[i]? = some (pt q) ∧ lo ≤ q ∧ Blk w q 95 (segC (seq + i) s kp mp) ∧ KeyP w lo kp s.key ∧ MapP w lo mp s.map ∧ ∀ x, kp = some x → x < hi
section
variable {w w' : World} {lo hi hi' seq n b g : Nat} {segs : List SegD} {arr cs cg : Array Value}
theorem SegsAt.zero : SegsAt w lo hi seq segs 0 arr := fun _ _ h => by omega
theorem SegsAt.gn (h : SegsAt w lo hi seq segs n arr) (G : w.grownBy w' none) : SegsAt w' lo hi seq segs n arr := fun i s hi hs => by
 obtain ⟨q, kp, mp, h1, h2, h3, h4, h5, h6⟩ := h i s hi hs
 exact ⟨q, kp, mp, h1, h2, h3.gn G, h4.gn G, h5.gn G, h6⟩
theorem SegsAt.kp2 (h : SegsAt w lo hi seq segs n arr) (hb : Blk w b 104 cs) (hg : Blk w g 90 cg) (K : Kp [b, g] w w') : SegsAt w' lo hi seq segs n arr := fun i s hi hs => by
 obtain ⟨q, kp, mp, h1, h2, h3, h4, h5, h6⟩ := h i s hi hs
 exact ⟨q, kp, mp, h1, h2, h3.kp K (by simp [h3.ne_ hb (by decide), h3.ne_ hg (by decide)]), h4.kp2 hb hg K, h5.kp2 hb hg K, h6⟩
theorem SegsAt.snoc {s : SegD} {q : Nat} {kp mp : Option Nat} (h : SegsAt w lo hi seq segs n arr) (hn : n < arr.size) (hs : segs[n]? = some s) (h1 : hi ≤ hi') (hq : lo ≤ q) (hb : Blk w q 95 (segC (seq + n) s kp mp)) (hk : KeyP w lo kp s.key) (hm : MapP w lo mp s.map)
   (hx : ∀ x, kp = some x → x < hi') : SegsAt w lo hi' seq segs (n + 1) (arr.setIfInBounds n (pt q)) := fun i s' hi hs' => by
 rcases Nat.lt_or_ge i n with hlt | hge
 · obtain ⟨q, kp, mp, h3, h4, h5, h6, h7, h8⟩ := h i s' hlt hs'
   exact ⟨q, kp, mp, by rw [Array.getElem?_setIfInBounds_ne (by omega)]; exact h3, h4, h5, h6, h7, fun x e => Nat.lt_of_lt_of_le (h8 x e) h1⟩
 · obtain rfl : i = n := by omega
   rw [hs] at hs'
   obtain rfl := Option.some.inj hs'
   exact ⟨q, kp, mp, by simp [hn], hq, hb, hk, hm, hx⟩
end
end
section
set_option maxRecDepth 100000
/-- the specification's segment -/
def ssegC (s : SegD) (kp mp : Option Nat) : Array Value := #[.string s.title, .string s.uri, .int .i64 s.e, .int .i64 s.li, .int .i64 s.off, pto kp, pto mp, .bool s.disc, .string s.date]
/-- a key behind a pointer, or none -/
inductive SKey (w : World) : Option Nat → Option KeyD → Prop
 | nil : SKey w none none
 | mk {p : Nat} {k : KeyD} (h : Blk w p 56 (keyC k)) (ok : k.Ok) : SKey w (some p) (some k)
/-- a head behind a pointer, or none -/
inductive SMap (w : World) : Option Nat → Option MapD → Prop
 | nil : SMap w none none
 | mk {p : Nat} {m : MapD} (h : Blk w p 61 (mapC m)) (ok : m.Ok) : SMap w (some p) (some m)
section
variable {w w' : World} {k : Option KeyD} {m : Option MapD} {kp mp : Option Nat} {base n : Nat} {v : Value} {xs : List Value} {T e size : Nat} {cs : Array Value} {g : Nat}
theorem SKey.gn (h : SKey w kp k) (G : w.grownBy w' none) : SKey w' kp k := by
 cases h with
 | nil => exact .nil
 | mk h ok => exact .mk (h.gn G) ok
theorem SMap.gn (h : SMap w mp m) (G : w.grownBy w' none) : SMap w' mp m := by
 cases h with
 | nil => exact .nil
 | mk h ok => exact .mk (h.gn G) ok
theorem SKey.gk (h : SKey w kp k) {U : Nat} (hb : Blk w g U cs) (hU : 56 ≠ U) (G : w.grownBy w' (some g)) : SKey w' kp k := by
 cases h with
 | nil => exact .nil
 | mk h ok => exact .mk (h.gk G (h.ne_ hb hU)) ok
theorem SMap.gk (h : SMap w mp m) {U : Nat} (hb : Blk w g U cs) (hU : 61 ≠ U) (G : w.grownBy w' (some g)) : SMap w' mp m := by
 cases h with
 | nil => exact .nil
 | mk h ok => exact .mk (h.gk G (h.ne_ hb hU)) ok
/-- a block stands where a row of another type grows -/
theorem Blk.row (h : Blk w g T cs) (HO : w.ownsRow base e size v n xs) (hne : T ≠ e) (G : w.grownBy w' v.ownBlock) : Blk w' g T cs := by
 rcases HO.2 with ⟨rfl, _⟩ | ⟨r, cap, cur, rfl, _, hr, _⟩
 · exact h.gn G
 · exact h.gk G (h.ne_ (show Blk w r e cur from hr) hne)
theorem SKey.row (h : SKey w kp k) (HO : w.ownsRow base e size v n xs) (hne : 56 ≠ e) (G : w.grownBy w' v.ownBlock) : SKey w' kp k := by
 cases h with
 | nil => exact .nil
 | mk h ok => exact .mk (h.row HO hne G) ok
theorem SMap.row (h : SMap w mp m) (HO : w.ownsRow base e size v n xs) (hne : 61 ≠ e) (G : w.grownBy w' v.ownBlock) : SMap w' mp m := by
 cases h with
 | nil => exact .nil
 | mk h ok => exact .mk (h.row HO hne G) ok
theorem KeySl.row {kv : Value} (h : KeySl w kv k) (HO : w.ownsRow base e size v n xs) (hne : 78 ≠ e) (G : w.grownBy w' v.ownBlock) : KeySl w' kv k := by
 cases h with
 | nil => exact .nil
 | mk h ok => exact .mk (h.row HO hne G) ok
theorem MapSl.row {mv : Value} (h : MapSl w mv m) (HO : w.ownsRow base e size v n xs) (hne : 80 ≠ e) (G : w.grownBy w' v.ownBlock) : MapSl w' mv m := by
 cases h with
 | nil => exact .nil
 | mk h ok => exact .mk (h.row HO hne G) ok
theorem own_gn (HO : w.ownsRow base e size v n xs) (G : w.grownBy w' none) : w'.ownsRow base e size v n xs := by
 obtain ⟨h1, h2⟩ := HO
 refine ⟨h1, ?_⟩
 rcases h2 with h2 | ⟨r, cap, cur, rfl, hg, hh, rr⟩
 · exact .inl h2
 · exact .inr ⟨r, cap, cur, rfl, hg, Blk.gn (show Blk w r e cur from hh) G, rr⟩
theorem own_gk (HO : w.ownsRow base e size v n xs) {U : Nat} (hb : Blk w g U cs) (hU : e ≠ U) (G : w.grownBy w' (some g)) : w'.ownsRow base e size v n xs := by
 obtain ⟨h1, h2⟩ := HO
 refine ⟨h1, ?_⟩
 rcases h2 with h2 | ⟨r, cap, cur, rfl, hg, hh, rr⟩
 · exact .inl h2
 · exact .inr ⟨r, cap, cur, rfl, hg, Blk.gk (show Blk w r e cur from hh) G ((show Blk w r e cur from hh).ne_ hb hU), rr⟩
end
/-- the specification's segments in a row -/
def SRow (w : World) (base : Nat) (v : Value) (segs : List SegD) : Prop :=
 ∃ xs, w.ownsRow base 32 9 v segs.length xs ∧ ∀ i s, segs[i]? = some s → ∃ kp mp, (∀ k, k < 9 → xs[9 * i + k]? = (ssegC s kp mp)[k]?) ∧ SKey w kp s.key ∧ SMap w mp s.map
/-- segments of the thin package in a row -/
def IRow (w : World) (base : Nat) (v : Value) (segs : List SegD) : Prop :=
 ∃ xs, w.ownsRow base 40 11 v segs.length xs ∧ ∀ i s, segs[i]? = some s → ∃ kv mv, (∀ k, k < 11 → xs[11 * i + k]? = (segD 0 s kv mv)[k]?) ∧ KeySl w kv s.key ∧ MapSl w mv s.map
section
variable {w w' : World} {base g U : Nat} {v v' : Value} {segs : List SegD} {s : SegD} {kp mp : Option Nat} {kv mv : Value} {cs : Array Value} {xs : List Value}
theorem SRow.nil : SRow w base (.slice none 0 0) [] := ⟨[], ⟨rfl, .inl ⟨rfl, rfl⟩⟩, fun i s h => by simp at h⟩
theorem IRow.nil : IRow w base (.slice none 0 0) [] := ⟨[], ⟨rfl, .inl ⟨rfl, rfl⟩⟩, fun i s h => by simp at h⟩
theorem SRow.gn (h : SRow w base v segs) (G : w.grownBy w' none) : SRow w' base v segs := by
 obtain ⟨xs, h1, h2⟩ := h
 refine ⟨xs, own_gn h1 G, fun i s hs => ?_⟩
 obtain ⟨kp, mp, h3, h4, h5⟩ := h2 i s hs
 exact ⟨kp, mp, h3, h4.gn G, h5.gn G⟩
theorem IRow.gn (h : IRow w base v segs) (G : w.grownBy w' none) : IRow w' base v segs := by
 obtain ⟨xs, h1, h2⟩ := h
 refine ⟨xs, own_gn h1 G, fun i s hs => ?_⟩
 obtain ⟨kp, mp, h3, h4, h5⟩ := h2 i s hs
 exact ⟨kp, mp, h3, h4.gn G, h5.gn G⟩
theorem SRow.gk (h : SRow w base v segs) (hb : Blk w g U cs) (h1 : 32 ≠ U) (h2 : 56 ≠ U) (h3 : 61 ≠ U) (G : w.grownBy w' (some g)) : SRow w' base v segs := by
 obtain ⟨xs, h4, h5⟩ := h
 refine ⟨xs, own_gk h4 hb h1 G, fun i s hs => ?_⟩
 obtain ⟨kp, mp, h6, h7, h8⟩ := h5 i s hs
 exact ⟨kp, mp, h6, h7.gk hb h2 G, h8.gk hb h3 G⟩
/-- rows of another type grow -/
theorem SRow.row {b2 e size n : Nat} {v2 : Value} {ys : List Value} (h : SRow w base v segs) (HO : w.ownsRow b2 e size v2 n ys) (h1 : 32 ≠ e) (h2 : 56 ≠ e) (h3 : 61 ≠ e) (G : w.grownBy w' v2.ownBlock) : SRow w' base v segs := by
 rcases HO.2 with ⟨rfl, _⟩ | ⟨r, cap, cur, rfl, _, hr, _⟩
 · exact h.gn G
 · exact h.gk (show Blk w r e cur from hr) h1 h2 h3 G
theorem getElem_snoc {xs ys : List Value} {n i k m : Nat} (hx : xs.length = m * n) (hi : i = n) : (xs ++ ys)[m * i + k]? = ys[k]? := by
 subst hi
 rw [List.getElem?_append_right (by omega)]
 congr 1; omega
/-- one more -/
theorem SRow.snoc (hx : w.ownsRow base 32 9 v segs.length xs) (he : ∀ i s, segs[i]? = some s → ∃ kp mp, (∀ k, k < 9 → xs[9 * i + k]? = (ssegC s kp mp)[k]?) ∧ SKey w kp s.key ∧ SMap w mp s.map)
   (G : w.grownBy w' v.ownBlock) (hw : w'.ownsRow base 32 9 v' (segs.length + 1) (xs ++ (ssegC s kp mp).toList)) (hk : SKey w kp s.key) (hm : SMap w mp s.map) : SRow w' base v' (segs ++ [s]) := by
 refine ⟨_, by simpa using hw, fun i s' hs => ?_⟩
 rcases Nat.lt_or_ge i segs.length with hlt | hge
 · rw [List.getElem?_append_left hlt] at hs
   obtain ⟨kp', mp', h3, h4, h5⟩ := he i s' hs
   refine ⟨kp', mp', fun k hk => ?_, h4.row hx (by decide) G, h5.row hx (by decide) G⟩
   rw [List.getElem?_append_left (by rw [hx.1]; omega)]
   exact h3 k hk
 · have hi : i = segs.length := by
     have := (List.getElem?_eq_some_iff.1 hs).1
     simp at this; omega
   subst hi
   obtain rfl : s = s' := by simpa using hs
   refine ⟨kp, mp, fun k hk => ?_, hk.row hx (by decide) G, hm.row hx (by decide) G⟩
   rw [getElem_snoc (by rw [hx.1]; omega) rfl]
   simp
theorem IRow.snoc (hx : w.ownsRow base 40 11 v segs.length xs) (he : ∀ i s, segs[i]? = some s → ∃ kv mv, (∀ k, k < 11 → xs[11 * i + k]? = (segD 0 s kv mv)[k]?) ∧ KeySl w kv s.key ∧ MapSl w mv s.map)
   (G : w.grownBy w' v.ownBlock) (hw : w'.ownsRow base 40 11 v' (segs.length + 1) (xs ++ (segD 0 s kv mv).toList)) (hk : KeySl w kv s.key) (hm : MapSl w mv s.map) : IRow w' base v' (segs ++ [s]) := by
 refine ⟨_, by simpa using hw, fun i s' hs => ?_⟩
 rcases Nat.lt_or_ge i segs.length with hlt | hge
 · rw [List.getElem?_append_left hlt] at hs
   obtain ⟨kp', mp', h3, h4, h5⟩ := he i s' hs
   refine ⟨kp', mp', fun k hk => ?_, h4.row hx (by decide) G, h5.row hx (by decide) G⟩
   rw [List.getElem?_append_left (by rw [hx.1]; omega)]
   exact h3 k hk
 · have hi : i = segs.length := by
     have := (List.getElem?_eq_some_iff.1 hs).1
     simp at this; omega
   subst hi
   obtain rfl : s = s' := by simpa using hs
   refine ⟨kv, mv, fun k hk => ?_, hk.row hx (by decide) G, hm.row hx (by decide) G⟩
   rw [getElem_snoc (by rw [hx.1]; omega) rfl]
   simp
theorem SRow.len {ty : TypeId} {cb : Array Bool} (h : SRow w base v segs) (w' : World) : (builtin .len #[48] ty cb #[v]).run Tryd.prog w' = .ok (.value (.int .i64 segs.length)) w' := by
 obtain ⟨xs, ⟨h1, h2⟩, h3⟩ := h
 rcases h2 with ⟨rfl, h2⟩ | ⟨r, cap, cur, rfl, _⟩
 · rw [h2]; kernel_rfl
 · kernel_rfl
theorem ixsp_run (g n c j : Nat) (hj : j < n) (w : World) : (Instr.indexAt 48 (.slice (some ⟨g, 0, none⟩) n c) (.int .i64 j)).run Tryd.prog w = .ok (.pointer (some ⟨g, 9 * j, none⟩)) w := by
 have h1 : (j : Int) < (n : Int) := by omega
 have h2 : (0 : Int) ≤ (j : Int) := by omega
 simp [go_sem, h1, h2]
/-- one element: its address, its fields -/
theorem SRow.elem {j : Nat} (h : SRow w base v segs) (hj : j < segs.length) :
   ∃ ad kp mp, (∀ w', (Instr.indexAt 48 v (.int .i64 j)).run Tryd.prog w' = .ok (.pointer (some ad)) w') ∧ (∀ w', Kp [] w w' → (Instr.loadAt 32 (.pointer (some ad))).run Tryd.prog w' = .ok (.agg (ssegC segs[j] kp mp)) w') ∧ SKey w kp segs[j].key ∧ SMap w mp segs[j].map := by
 obtain ⟨xs, ⟨h1, h2⟩, h3⟩ := h
 obtain ⟨kp, mp, h4, h5, h6⟩ := h3 j segs[j] (List.getElem?_eq_getElem hj)
 rcases h2 with ⟨rfl, h2⟩ | ⟨r, cap, cur, rfl, _, hr, hn, _, hc, ht⟩
 · omega
 · refine ⟨⟨r, 9 * j, none⟩, kp, mp, fun w' => ixsp_run r _ cap j hj w', fun w' K => ?_, h5, h6⟩
   refine ld_agg (n := 9) (fun _ => by kernel_rfl) (fun _ => by kernel_rfl) ((show Blk w r 32 cur from hr).kp K (by simp)) rfl fun k hk => ?_
   rw [← h4 k hk, ← ht, List.getElem?_take, if_pos (by omega)]
   simp
/-- the first so many -/
theorem SRow.take {n : Nat} {v' : Value} (h : SRow w base v segs) (hn : n ≤ segs.length) (hv : v.ownBlock = none → n = 0 ∧ v' = .slice none 0 0) (hv' : ∀ g c, v = .slice (some ⟨g, 0, none⟩) segs.length c → v' = .slice (some ⟨g, 0, none⟩) n c) : SRow w base v' (segs.take n) := by
 obtain ⟨xs, ⟨h1, h2⟩, h3⟩ := h
 have hl : (segs.take n).length = n := by rw [List.length_take]; omega
 refine ⟨xs.take (n * 9), ⟨by rw [hl, List.length_take, h1]; omega, ?_⟩, fun i s hs => ?_⟩
 · rw [hl]
   rcases h2 with ⟨rfl, h2⟩ | ⟨r, cap, cur, rfl, hb, hr, hc, hm, hs, ht⟩
   · obtain ⟨e1, e2⟩ := hv rfl
     exact .inl ⟨e2, e1⟩
   · refine .inr ⟨r, cap, cur, hv' r cap rfl, hb, hr, by omega, hm, hs, ?_⟩
     rw [← ht, List.take_take]
     congr 1; omega
 · have hi := (List.getElem?_eq_some_iff.1 hs).1
   rw [hl] at hi
   rw [List.getElem?_take, if_pos hi] at hs
   obtain ⟨kp, mp, h4, h5, h6⟩ := h3 i s hs
   refine ⟨kp, mp, fun k hk => ?_, h5, h6⟩
   rw [List.getElem?_take, if_pos (by omega)]
   exact h4 k hk
end
/-- the specification's playlist, all but its keys, heads and segments -/
structure MedD where
 ver : Nat
 td : Nat
 seq : Nat
 dsq : Nat
 ty : Nat
 st : Nat
 pre : Bool
 ifr : Bool
 clo : Bool
structure MedD.Ok (m : MedD) : Prop where
 ver : m.ver < 8
 td : 20 ≤ m.td ∧ m.td < 70
 seq : m.seq < 4294967296
 dsq : m.dsq < 1000
 ty : m.ty < 3
 st : m.st < 301
/-- what is known of a segment -/
def SegOk (s : SegD) : Prop := s.Ok ∧ s.e < 160
end
section
set_option maxRecDepth 100000
section
variable {a : Act} {w w' w2 : World} {dd : Option Tmp} {ty : TypeId} {p : String} {af : Array Edge} {gd : Option (Nat × Bool)} {x y : Operand} {vx vy v : Value} {t : TypeId}
theorem ex_bs {len : Nat} {ps : Array (Nat × Operand)} {vs : Array (Nat × Value)} (hx : ps.map (fun (i, x) => (i, a.eval x)) = vs) (h : (Instr.buildSlice t len vs).run Tryd.prog w = .ok v w') : (execOp a.eval ⟨dd, .buildSlice t len ps, ty, p, af, gd⟩).run Tryd.prog w = .ok (.value v) w' := by
 simp only [execOp, hx, Sem.run_bind, h, Result.andThen_ok, Sem.run_pure]
theorem ex_app {ts : Array TypeId} (hx : a.eval x = vx) (hy : a.eval y = vy) (h : (Builtin.append_ ts ty #[vx, vy]).run Tryd.prog w = .ok v w') : (execOp a.eval ⟨dd, .call ⟨.builtin .append, #[x, y], ts⟩, ty, p, af, gd⟩).run Tryd.prog w = .ok (.value v) w' := by
 simp only [execOp, resolve, invoke, builtin, Sem.run_bind, Sem.run_pure, Result.andThen_ok, List.map_toArray, List.map_cons, List.map_nil, hx, hy, h]
end
/-- a new row -/
theorem bs_run {w : World} {g n : Nat} {op : Sem Value} {T : Nat} {cs : Array Value} (hg : w.heap.size = g) (h : ∀ w, op.run Tryd.prog w = .ok (.slice (some ⟨w.heap.size, 0, none⟩) n n) (w.alloc (.cells cs T))) :
   ∃ w', op.run Tryd.prog w = .ok (.slice (some ⟨g, 0, none⟩) n n) w' ∧ Blk w' g T cs ∧ w.grownBy w' none ∧ w'.heap.size = g + 1 := by
 subst hg
 exact ⟨_, h w, Blk.new rfl, grown_alloc _ _, by simp⟩
/-- append of new elements -/
theorem push_run {w : World} {base e sz by_ : Nat} {t ty : TypeId} {z v : Value} {n m c g : Nat} {xs : List Value} {cs : Array Value} (ht : Tryd.prog.underlying t = some (.slice e)) (hinfo : (Tryd.prog.info? e).map (fun i => (i.zero, i.size, i.bytes)) = some (some z, sz, by_)) (hz : z.cells.size = sz) (hs : 0 < sz) (hb : 0 < by_)
   (HO : w.ownsRow base e sz v n xs) (hB : Blk w g e cs) (hl : cs.size = m * sz) (h1 : ∀ u ∈ cs.toList, u.oneCell' = true) (hbase : base ≤ w.heap.size) (hn : (n + m) * by_ ≤ 140737488355328) :
   ∃ v' w', (Builtin.append_ #[t, t] ty #[v, .slice (some ⟨g, 0, none⟩) m c]).run Tryd.prog w = .ok v' w' ∧ w'.ownsRow base e sz v' (n + m) (xs ++ cs.toList) ∧ w.grownBy w' v.ownBlock := by
 obtain ⟨i0, hi, hzz⟩ := Option.map_eq_some_iff.1 hinfo
 simp only [Prod.mk.injEq] at hzz
 obtain ⟨hz0, hz1, hz2⟩ := hzz
 obtain ⟨v', w', h2, h3, h4, _⟩ := run_append_own (P := Tryd.prog) w base t ty e i0 z sz by_ ht hi hz0 hz1 hz2 hz hs v n xs HO ⟨g, 0, none⟩ m c cs.toList (by simpa using hl)
   (fun j u hj => by rw [Lib.add_plain, Nat.zero_add, hB.cell]; simpa using hj) h1 (Nat.le_trans (Nat.le_mul_of_pos_right _ hb) (Nat.le_trans hn (by decide))) hn hbase
 exact ⟨v', w', h2, h3, h4⟩
theorem Kp.row {D : List Nat} {w w1 w2 : World} {base e size n : Nat} {v : Value} {xs : List Value} (h : Kp D w w1) (HO : w1.ownsRow base e size v n xs) (hb : w.heap.size ≤ base) (G : w1.grownBy w2 v.ownBlock) : Kp D w w2 := by
 rcases HO.2 with ⟨rfl, _⟩ | ⟨r, cap, cur, rfl, hr, _⟩
 · exact h.new G
 · exact h.set (g := r) G (Or.inr (Nat.le_trans hb hr))
/-- texts in a row -/
def TRow (w : World) (base : Nat) (v : Value) (ls : List (List UInt8)) : Prop := w.ownsRow base 9 1 v ls.length (ls.map fun l => .string (bs l))
/-- bytes in a row -/
def BRow (w : World) (base : Nat) (v : Value) (l : List UInt8) : Prop := w.ownsRow base 5 1 v l.length (l.map fun b => .int .u8 b.toNat)
section
variable {w w' : World} {base g U n c : Nat} {v : Value} {ls : List (List UInt8)} {l : List UInt8} {cs : Array Value}
theorem TRow.nil : TRow w base (.slice none 0 0) [] := ⟨rfl, .inl ⟨rfl, rfl⟩⟩
theorem TRow.zero (h : Blk w g 9 #[]) (hb : base ≤ g) : TRow w base (.slice (some ⟨g, 0, none⟩) 0 0) [] := ⟨rfl, .inr ⟨g, 0, #[], rfl, hb, h, Nat.le_refl _, by decide, rfl, rfl⟩⟩
theorem TRow.gn (h : TRow w base v ls) (G : w.grownBy w' none) : TRow w' base v ls := own_gn h G
theorem TRow.gk (h : TRow w base v ls) (hb : Blk w g U cs) (hU : 9 ≠ U) (G : w.grownBy w' (some g)) : TRow w' base v ls := own_gk h hb hU G
theorem BRow.gn (h : BRow w base v l) (G : w.grownBy w' none) : BRow w' base v l := own_gn h G
theorem BRow.gk (h : BRow w base v l) (hb : Blk w g U cs) (hU : 5 ≠ U) (G : w.grownBy w' (some g)) : BRow w' base v l := own_gk h hb hU G
theorem TRow.push {ty : TypeId} (h : TRow w base v ls) (ns : List (List UInt8)) (hB : Blk w g 9 (ns.map fun l => Value.string (bs l)).toArray) (hm : ns.length = n) (hbase : base ≤ w.heap.size) (hn : ls.length + n ≤ 1000000) :
   ∃ v' w', (Builtin.append_ #[68, 68] ty #[v, .slice (some ⟨g, 0, none⟩) n c]).run Tryd.prog w = .ok v' w' ∧ TRow w' base v' (ls ++ ns) ∧ w.grownBy w' v.ownBlock := by
 obtain ⟨v', w', h1, h2, h3⟩ := push_run (t := 68) (ty := ty) (z := .string ⟨#[]⟩) (sz := 1) (by_ := 16) (m := n) (c := c) Tryd.underlying68 (by kernel_rfl) rfl (by decide) (by decide) h hB (by simp [hm]) (by
   intro u hu
   obtain ⟨l, _, rfl⟩ := List.mem_map.1 (by simpa using hu)
   rfl) hbase (by omega)
 refine ⟨v', w', h1, ?_, h3⟩
 unfold TRow
 rw [List.length_append, hm, List.map_append]
 exact h2
theorem BRow.push {ty : TypeId} (h : BRow w base v l) (ns : List UInt8) (hB : Blk w g 5 (ns.map fun (b : UInt8) => Value.int .u8 b.toNat).toArray) (hm : ns.length = n) (hbase : base ≤ w.heap.size) (hn : l.length + n ≤ 1000000) :
   ∃ v' w', (Builtin.append_ #[98, 98] ty #[v, .slice (some ⟨g, 0, none⟩) n c]).run Tryd.prog w = .ok v' w' ∧ BRow w' base v' (l ++ ns) ∧ w.grownBy w' v.ownBlock := by
 obtain ⟨v', w', h1, h2, h3⟩ := push_run (t := 98) (ty := ty) (z := .int .u8 0) (sz := 1) (by_ := 1) (m := n) (c := c) Tryd.underlying98 (by kernel_rfl) rfl (by decide) (by decide) h hB (by simp [hm]) (by
   intro u hu
   obtain ⟨l, _, rfl⟩ := List.mem_map.1 (by simpa using hu)
   rfl) hbase (by omega)
 refine ⟨v', w', h1, ?_, h3⟩
 unfold BRow
 rw [List.length_append, hm, List.map_append]
 exact h2
theorem TRow.len {ty : TypeId} {cb : Array Bool} (h : TRow w base v ls) (w' : World) : (builtin .len #[68] ty cb #[v]).run Tryd.prog w' = .ok (.value (.int .i64 ls.length)) w' := by
 obtain ⟨h1, h2⟩ := h
 rcases h2 with ⟨rfl, h2⟩ | ⟨r, cap, cur, rfl, _⟩
 · rw [h2]; kernel_rfl
 · kernel_rfl
theorem ixt_run (g n c j : Nat) (hj : j < n) (w : World) : (Instr.indexAt 68 (.slice (some ⟨g, 0, none⟩) n c) (.int .i64 j)).run Tryd.prog w = .ok (.pointer (some ⟨g, j, none⟩)) w := by
 have h1 : (j : Int) < (n : Int) := by omega
 have h2 : (0 : Int) ≤ (j : Int) := by omega
 simp [go_sem, h1, h2]
/-- one text: its address, what stands there -/
theorem TRow.elem {j : Nat} (h : TRow w base v ls) (hj : j < ls.length) :
   ∃ ad, (∀ w', (Instr.indexAt 68 v (.int .i64 j)).run Tryd.prog w' = .ok (.pointer (some ad)) w') ∧ w.cell? ad = some (.string (bs ls[j])) := by
 obtain ⟨h1, h2⟩ := h
 rcases h2 with ⟨rfl, h2⟩ | ⟨r, cap, cur, rfl, _, hr, hn, _, hc, ht⟩
 · omega
 · refine ⟨⟨r, j, none⟩, fun w' => ixt_run r _ cap j hj w', ?_⟩
   rw [(show Blk w r 9 cur from hr).cell]
   have : (cur.toList.take (ls.length * 1))[j]? = some (.string (bs ls[j])) := by rw [ht]; simp [hj]
   rw [List.getElem?_take, if_pos (by omega)] at this
   simpa using this
theorem SRow.push {ty : TypeId} {segs : List SegD} {s : SegD} {kp mp : Option Nat} (h : SRow w base v segs) (hB : Blk w g 32 (ssegC s kp mp)) (hk : SKey w kp s.key) (hm : SMap w mp s.map) (hbase : base ≤ w.heap.size) (hn : segs.length ≤ 1000) :
   ∃ v' w', (Builtin.append_ #[48, 48] ty #[v, .slice (some ⟨g, 0, none⟩) 1 c]).run Tryd.prog w = .ok v' w' ∧ SRow w' base v' (segs ++ [s]) ∧ w.grownBy w' v.ownBlock ∧ ∃ xs, w.ownsRow base 32 9 v segs.length xs := by
 obtain ⟨xs, h1, h2⟩ := id h
 obtain ⟨by_, hby, hb1, hb2⟩ : ∃ by_, (Tryd.prog.info? 32).map (fun i => (i.zero, i.size, i.bytes)) = some (some (.agg #[.string ⟨#[]⟩, .string ⟨#[]⟩, .int .i64 0, .int .i64 0, .int .i64 0, .pointer none, .pointer none, .bool false, .string ⟨#[]⟩]), 9, by_) ∧ 0 < by_ ∧ by_ ≤ 200 := ⟨96, by kernel_rfl, by decide, by decide⟩
 obtain ⟨v', w', h3, h4, h5⟩ := push_run (t := 48) (ty := ty) (m := 1) (c := c) Tryd.underlying48 hby rfl (by decide) hb1 h1 hB rfl (by
   intro u hu
   simp only [ssegC, List.mem_cons, List.not_mem_nil, or_false] at hu
   rcases hu with rfl | rfl | rfl | rfl | rfl | rfl | rfl | rfl | rfl <;> rfl) hbase (by
   calc (segs.length + 1) * by_ ≤ 1001 * 200 := Nat.mul_le_mul (by omega) hb2
     _ ≤ 140737488355328 := by decide)
 exact ⟨v', w', h3, SRow.snoc h1 h2 h5 h4 hk hm, h5, xs, h1⟩
theorem IRow.push {ty : TypeId} {segs : List SegD} {s : SegD} {kv mv : Value} (h : IRow w base v segs) (hB : Blk w g 40 (segD 0 s kv mv)) (hk : KeySl w kv s.key) (hm : MapSl w mv s.map) (hbase : base ≤ w.heap.size) (hn : segs.length ≤ 1000) :
   ∃ v' w', (Builtin.append_ #[65, 65] ty #[v, .slice (some ⟨g, 0, none⟩) 1 c]).run Tryd.prog w = .ok v' w' ∧ IRow w' base v' (segs ++ [s]) ∧ w.grownBy w' v.ownBlock ∧ ∃ xs, w.ownsRow base 40 11 v segs.length xs := by
 obtain ⟨xs, h1, h2⟩ := id h
 obtain ⟨by_, hby, hb1, hb2⟩ : ∃ by_, (Tryd.prog.info? 40).map (fun i => (i.zero, i.size, i.bytes)) = some (some (.agg #[.int .u64 0, .string ⟨#[]⟩, .string ⟨#[]⟩, .float .f64 0, .int .i64 0, .int .i64 0, .slice none 0 0, .slice none 0 0, .slice none 0 0, .bool false, .string ⟨#[]⟩]), 11, by_) ∧ 0 < by_ ∧ by_ ≤ 300 := ⟨160, by kernel_rfl, by decide, by decide⟩
 have ok := hk.one
 have om := hm.one
 obtain ⟨v', w', h3, h4, h5⟩ := push_run (t := 65) (ty := ty) (m := 1) (c := c) Tryd.underlying65 hby rfl (by decide) hb1 h1 hB rfl (by
   intro u hu
   simp only [segD, List.mem_cons, List.not_mem_nil, or_false] at hu
   rcases hu with rfl | rfl | rfl | rfl | rfl | rfl | rfl | rfl | rfl | rfl | rfl <;> first | rfl | exact ok | exact om) hbase (by
   calc (segs.length + 1) * by_ ≤ 1001 * 300 := Nat.mul_le_mul (by omega) hb2
     _ ≤ 140737488355328 := by decide)
 exact ⟨v', w', h3, IRow.snoc h1 h2 h5 h4 hk hm, h5, xs, h1⟩
end
end
section
set_option maxRecDepth 100000
theorem app1_size {t : ByteArray} {j : Nat} {x : UInt8} (h : t.size ≤ j) : (t ++ bs [x]).size ≤ j + 1 := by
 rw [ByteArray.size_append]
 show t.size + 1 ≤ j + 1
 omega
theorem sz_w {t : ByteArray} {j : Nat} (h : t.size ≤ j) (hj : j ≤ 12) : (({ data := #[119] } : ByteArray) ++ t ++ { data := #[119] }).size ≤ 14 := by
 rw [ByteArray.size_append, ByteArray.size_append]
 show 1 + t.size + 1 ≤ 14
 omega
theorem toList_nil_of {t : ByteArray} (h : ¬ 0 < t.size) : t.toList = [] := by
 obtain ⟨⟨l⟩⟩ := t
 have : l = [] := List.eq_nil_of_length_eq_zero (by have : (⟨⟨l⟩⟩ : ByteArray).size = l.length := rfl; omega)
 subst this
 decide +kernel
theorem wordOf_any (n : Int) (h0 : 0 ≤ n) (h1 : n ≤ 4294967295) (k : Nat) (hk : k ≤ 1) (w : World) :
   Calls Tryd.prog 24 #[.int .u32 n, .int .i64 k] w fun e w' => (∃ s : ByteArray, e = .returned (.string s) ∧ s.size ≤ 14) ∧ w = w' := by
 obtain ⟨c, hc⟩ : ∃ c : Nat, (c : Int) = n % 12 := ⟨(n % 12).toNat, by omega⟩
 have hc8 : c ≤ 11 := by omega
 go_enter Tryd.func24, Tryd.ntmps24
 go_wp2
 rw [← hc]
 clear hc
 go_loop [5, 12] (fun v i => ∃ (j : Nat) (t : ByteArray), j ≤ k + c ∧ i = .int .i64 j ∧ v = .string t ∧ t.size ≤ j) (fun _ i => k + c - (intOf i).toNat)
 case atStart => exact ⟨0, _, by omega, rfl, rfl, Nat.le_refl _⟩
 case round =>
   obtain ⟨j, t, hj, rfl, rfl, ht⟩ := hrel
   by_cases hj2 : j < k + c
   · have hE := enc_tab ({ data := #[97, 98, 99, 100, 101, 102, 103, 88, 89, 90, 48, 49, 56, 57, 46, 95, 45, 47, 32, 58] } : ByteArray) (by decide)
     have hp : 0 ≤ n / 2048 * (j : Int) ∧ n / 2048 * (j : Int) ≤ 25165824 := by
       constructor
       · exact Int.mul_nonneg (by omega) (by omega)
       · calc n / 2048 * (j : Int) ≤ 2097152 * (j : Int) := Int.mul_le_mul_of_nonneg_right (by omega) (by omega)
           _ ≤ 25165824 := by omega
     go_wp2
     go_round
     case rel => exact ⟨j + 1, _, by omega, by go_num, rfl, app1_size ht⟩
     case measure => simp [intOf]; omega
   · go_wp2
     all_goals
       first | (go_ret; refine ⟨⟨_, rfl, ?_⟩, rfl⟩; first | exact sz_w ht (by omega) | exact Nat.le_trans ht (by omega)) | exact absurd (toList_nil_of (by assumption)) (by assumption)
theorem uriOf_any (n : Int) (h0 : 0 ≤ n) (h1 : n ≤ 4294967295) (w : World) :
   Calls Tryd.prog 23 #[.int .u32 n] w fun e w' => (∃ s : ByteArray, e = .returned (.string s) ∧ s.size ≤ 18) ∧ w = w' := by
 have HW := Lib.hid (wordOf_any n h0 h1 1 (Nat.le_refl 1))
 go_enter Tryd.func23, Tryd.ntmps23
 go_wp2_with fail
 refine (HW.out _).mono ?_
 rintro e w' ⟨⟨s, rfl, hs⟩, rfl⟩
 go_wp2_with fail
 go_ret
 exact ⟨⟨_, rfl, by simp only [ByteArray.size_append]; show 1 + s.size + 3 ≤ 18; omega⟩, rfl⟩
end
section
set_option maxRecDepth 100000
theorem app_sz (a b : ByteArray) (n m k : Nat) (ha : a.size ≤ n) (hb : b.size ≤ m) (h : n + m ≤ k) : (a ++ b).size ≤ k := by rw [ByteArray.size_append]; omega
set_option maxHeartbeats 1600000 in
theorem keyOf_any (n : Int) (h0 : 0 ≤ n) (h1 : n ≤ 4294967295) (w : World) :
   Calls Tryd.prog 10 #[.int .u32 n] w fun e w' => ∃ kp k, e = .returned (pto kp) ∧ SKey w' kp k ∧ w.grownBy w' none ∧ (n % 4 < 3 → kp ≠ none) := by
 have HU := Lib.hid fun (m : Int) h0 h1 w => uriOf_any m h0 h1 w
 have HD := Lib.hid fun (m : Int) w h0 h1 => decimal_any m w h0 h1
 have hm : n % 4 = 0 ∨ n % 4 = 1 ∨ n % 4 = 2 ∨ n % 4 = 3 := by omega
 rcases hm with hm | hm | hm | hm
 · go_enter Tryd.func10, Tryd.ntmps10
   go_wp2
   go_ret
   exact ⟨some w.heap.size, some ⟨⟨#[78, 79, 78, 69]⟩, ⟨#[]⟩, ⟨#[]⟩, ⟨#[]⟩, ⟨#[]⟩⟩, rfl, .mk (Blk.new rfl) ⟨by decide, by decide, by decide, by decide, by decide⟩, grown_alloc _ _, fun _ h => by cases h⟩
 · go_enter Tryd.func10, Tryd.ntmps10
   go_wp2_with fail
   refine (HU.out _ (by omega) (by omega) _).mono ?_
   rintro e w' ⟨⟨s, rfl, hs⟩, rfl⟩
   go_wp2_with fail
   go_ret
   exact ⟨some w.heap.size, some ⟨⟨#[65, 69, 83, 45, 49, 50, 56]⟩, s, ⟨#[]⟩, ⟨#[]⟩, ⟨#[]⟩⟩, rfl, .mk (Blk.new rfl) ⟨Nat.le_of_ble_eq_true rfl, Nat.le_trans hs (by decide), Nat.le_of_ble_eq_true rfl, Nat.le_of_ble_eq_true rfl, Nat.le_of_ble_eq_true rfl⟩, grown_alloc _ _, fun _ h => by cases h⟩
 · have hd9 : ∀ x : Int, 0 ≤ x → x < 10 ^ 10 → (bs (Lib.decDigits x.toNat)).size ≤ 10 := fun x hx hy => dd_size (by omega) (by omega)
   have HD9 := Lib.hid hd9
   clear hd9
   go_enter Tryd.func10, Tryd.ntmps10
   go_wp2_with fail
   refine (HU.out _ (by omega) (by omega) _).mono ?_
   rintro e w' ⟨⟨s, rfl, hs⟩, rfl⟩
   go_wp2_with fail
   refine (HD.out _ _ (by omega) (by omega)).mono ?_
   rintro e w' ⟨rfl, rfl⟩
   have z1 := HD9.out (n / 32) (by omega) (by omega)
   generalize bs (Lib.decDigits (n / 32).toNat) = U1 at *
   go_wp2_with fail
   refine (HD.out _ _ (by omega) (by omega)).mono ?_
   rintro e w' ⟨rfl, rfl⟩
   have z2 := HD9.out (n / 128 % 9) (by omega) (by omega)
   generalize bs (Lib.decDigits (n / 128 % 9).toNat) = U2 at *
   go_wp2_with fail
   refine (HD.out _ _ (by omega) (by omega)).mono ?_
   rintro e w' ⟨rfl, rfl⟩
   have z3 := HD9.out (n / 512 % 9) (by omega) (by omega)
   generalize bs (Lib.decDigits (n / 512 % 9).toNat) = U3 at *
   go_wp2_with fail
   go_ret
   exact ⟨some w.heap.size, some ⟨⟨#[83, 65, 77, 80, 76, 69, 45, 65, 69, 83]⟩, s, ⟨#[48, 120]⟩ ++ U1, ⟨#[99, 111, 109, 46, 102]⟩ ++ U2, ⟨#[49, 47]⟩ ++ U3⟩, rfl,
     .mk (Blk.new rfl) ⟨Nat.le_of_ble_eq_true rfl, Nat.le_trans hs (by decide), app_sz _ _ 2 10 _ (by decide) z1 (by decide), app_sz _ _ 5 10 _ (by decide) z2 (by decide), app_sz _ _ 2 10 _ (by decide) z3 (by decide)⟩, grown_alloc _ _, fun _ h => by cases h⟩
 · go_enter Tryd.func10, Tryd.ntmps10
   go_wp2
   go_ret
   exact ⟨none, none, rfl, .nil, grown_refl _ _, fun h => by omega⟩
theorem mapOf_any (n : Int) (h0 : 0 ≤ n) (h1 : n ≤ 4294967295) (w : World) :
   Calls Tryd.prog 13 #[.int .u32 n] w fun e w' => ∃ mp m, e = .returned (pto mp) ∧ SMap w' mp m ∧ w.grownBy w' none ∧ (n % 3 < 2 → mp ≠ none) := by
 have HU := Lib.hid fun (m : Int) h0 h1 w => uriOf_any m h0 h1 w
 have hm : n % 3 = 0 ∨ n % 3 = 1 ∨ n % 3 = 2 := by omega
 rcases hm with hm | hm | hm
 · go_enter Tryd.func13, Tryd.ntmps13
   go_wp2_with fail
   refine (HU.out _ (by omega) (by omega) _).mono ?_
   rintro e w' ⟨⟨s, rfl, hs⟩, rfl⟩
   go_wp2_with fail
   go_ret
   exact ⟨some w.heap.size, some ⟨s, 0, 0⟩, rfl, .mk (Blk.new rfl) ⟨Nat.le_trans hs (by decide), Nat.le_of_ble_eq_true rfl, Nat.le_of_ble_eq_true rfl⟩, grown_alloc _ _, fun _ h => by cases h⟩
 · obtain ⟨l, hl⟩ : ∃ l : Nat, (l : Int) = 1 + n / 8 := ⟨(1 + n / 8).toNat, by omega⟩
   obtain ⟨o, ho⟩ : ∃ l : Nat, (l : Int) = n / 128 := ⟨(n / 128).toNat, by omega⟩
   have HL := Lib.hid hl
   have HO := Lib.hid ho
   clear hl ho
   go_enter Tryd.func13, Tryd.ntmps13
   go_wp2_with fail
   refine (HU.out _ (by omega) (by omega) _).mono ?_
   rintro e w' ⟨⟨s, rfl, hs⟩, rfl⟩
   go_wp2_with fail
   rw [← HL.out, ← HO.out]
   go_ret
   have b1 := HL.out
   have b2 := HO.out
   exact ⟨some w.heap.size, some ⟨s, l, o⟩, rfl, .mk (Blk.new rfl) ⟨Nat.le_trans hs (by decide), by show l < _; omega, by show o < _; omega⟩, grown_alloc _ _, fun _ h => by cases h⟩
 · go_enter Tryd.func13, Tryd.ntmps13
   go_wp2
   go_ret
   exact ⟨none, none, rfl, .nil, grown_refl _ _, fun h => by omega⟩
end
section
set_option maxRecDepth 100000
theorem bs_cat (a b : List UInt8) : bs (a ++ b) = bs a ++ bs b := by
 apply ByteArray.ext
 rw [ByteArray.data_append]
 simp
theorem u_shr (n k : Nat) (hn : n < 4294967296) : ∃ r : Nat, r < 4294967296 ∧ ∀ (x y : Operand) (w : World), (do eqGuard .shr 27 x y (.int .u32 n) (.int .u64 k); binOp .shr 27 (.int .u32 n) (.int .u64 k) : Sem Value).run Tryd.prog w = .ok (.int .u32 r) w := by
 refine ⟨n / 2 ^ min k 32, Nat.lt_of_le_of_lt (Nat.div_le_self _ _) hn, fun x y w => ?_⟩
 simp [go_sem]
theorem u_rem (n k : Nat) (hk : 0 < k) (hk2 : k < 4294967296) : ∃ r : Nat, r < k ∧ ∀ (x y : Operand) (w : World), (do eqGuard .rem 27 x y (.int .u32 n) (.int .u32 k); binOp .rem 27 (.int .u32 n) (.int .u32 k) : Sem Value).run Tryd.prog w = .ok (.int .u32 r) w := by
 refine ⟨n % k, Nat.mod_lt _ hk, fun x y w => ?_⟩
 simp [go_sem]
 rw [if_neg (by omega), Int.tmod_eq_emod_of_nonneg (by omega)]
theorem u_and (n k : Nat) : ∃ r : Int, ∀ (x y : Operand) (w : World), (do eqGuard .and 27 x y (.int .u32 n) (.int .u32 k); binOp .and 27 (.int .u32 n) (.int .u32 k) : Sem Value).run Tryd.prog w = .ok (.int .u32 r) w := by
 refine ⟨bits .and .u32 n k, fun x y w => ?_⟩
 simp [go_sem]
theorem u_add (n k : Nat) (h : n + k < 4294967296) : ∃ r : Nat, r = n + k ∧ ∀ (x y : Operand) (w : World), (do eqGuard .add 27 x y (.int .u32 n) (.int .u32 k); binOp .add 27 (.int .u32 n) (.int .u32 k) : Sem Value).run Tryd.prog w = .ok (.int .u32 r) w := by
 refine ⟨n + k, rfl, fun x y w => ?_⟩
 simp [go_sem]
 rw [IntKind.wrap_u32]; omega
theorem u_eql (n : Int) (k : Nat) : ∃ q : Bool, ∀ (x y : Operand) (w : World), (do eqGuard .eql 27 x y (.int .u32 n) (.int .u32 k); binOp .eql 27 (.int .u32 n) (.int .u32 k) : Sem Value).run Tryd.prog w = .ok (.bool q) w := by
 refine ⟨n == k, fun x y w => ?_⟩
 simp [go_sem]
theorem cv_27_3 (n : Nat) (hn : n < 4294967296) (w : World) : (convert 27 3 (.int .u32 n)).run Tryd.prog w = .ok (.int .i64 n) w := by
 simp [go_sem]
 rw [IntKind.wrap_i64]; omega
theorem cv_27_34 (n : Nat) (hn : n < 4294967296) (w : World) : (convert 27 34 (.int .u32 n)).run Tryd.prog w = .ok (.int .u64 n) w := by
 simp [go_sem]
 rw [IntKind.wrap_u64]; omega
theorem cv_27_2 (n : Nat) (hn : n < 4294967296) (w : World) : (convert 27 2 (.int .u32 n)).run Tryd.prog w = .ok (.int .i64 n) w := by
 simp [go_sem]
 rw [IntKind.wrap_i64]; omega
theorem cv_3_34 (n : Nat) (hn : n < 9223372036854775808) (w : World) : (convert 3 34 (.int .i64 n)).run Tryd.prog w = .ok (.int .u64 n) w := by
 simp [go_sem]
 rw [IntKind.wrap_u64]; omega
theorem cv_2_34 (n : Nat) (hn : n < 9223372036854775808) (w : World) : (convert 2 34 (.int .i64 n)).run Tryd.prog w = .ok (.int .u64 n) w := by
 simp [go_sem]
 rw [IntKind.wrap_u64]; omega
theorem cv_5_3 (n : Nat) (hn : n < 256) (w : World) : (convert 5 3 (.int .u8 n)).run Tryd.prog w = .ok (.int .i64 n) w := by
 simp [go_sem]
 rw [IntKind.wrap_i64]; omega
section
variable {x y : Operand}
theorem bo_addi3 (m n : Nat) (w : World) (h1 : m + n < 9223372036854775808) : (do eqGuard .add 3 x y (.int .i64 m) (.int .i64 n); binOp .add 3 (.int .i64 m) (.int .i64 n) : Sem Value).run Tryd.prog w = .ok (.int .i64 (m + n : Nat)) w := by
 simp [go_sem]
 rw [IntKind.wrap_i64]; omega
theorem bo_addi2 (m n : Nat) (w : World) (h1 : m + n < 9223372036854775808) : (do eqGuard .add 2 x y (.int .i64 m) (.int .i64 n); binOp .add 2 (.int .i64 m) (.int .i64 n) : Sem Value).run Tryd.prog w = .ok (.int .i64 (m + n : Nat)) w := by
 simp [go_sem]
 rw [IntKind.wrap_i64]; omega
/-- two texts one behind the other -/
theorem bo_adds (a b : List UInt8) (w : World) (h : a.length + b.length ≤ 4294967295) : (do eqGuard .add 9 x y (.string (bs a)) (.string (bs b)); binOp .add 9 (.string (bs a)) (.string (bs b)) : Sem Value).run Tryd.prog w = .ok (.string (bs (a ++ b))) w := by
 rw [bs_cat]
 have ha : (bs a).size = a.length := rfl
 have hb : (bs b).size = b.length := rfl
 generalize bs a = A at *
 generalize bs b = B at *
 simp [go_sem]
 omega
end
end
section
set_option maxRecDepth 100000
noncomputable def sgB : Code := Tryd.f5.body.getD .skip
structure JSeg (w0 : World) (n g2 g3 : Nat) (a : Act) (w : World) : Prop where
 fz : Fz 66 a
 t0 : a.tmps.getD 0 undef = .int .u32 n
 t2 : a.tmps.getD 2 undef = .pointer (some ⟨g2, 0, none⟩)
 t3 : a.tmps.getD 3 undef = .pointer (some ⟨g3, 0, none⟩)
 b2 : Blk w g2 32 #[.string ⟨#[]⟩, .string ⟨#[]⟩, .int .i64 0, .int .i64 0, .int .i64 0, .pointer none, .pointer none, .bool false, .string ⟨#[]⟩]
 b3 : ∃ s kp mp, Blk w g3 32 (ssegC s kp mp) ∧ SKey w kp s.key ∧ SMap w mp s.map ∧ SegOk s
 kp : Kp [] w0 w
 h2 : w0.heap.size ≤ g2
 h3 : w0.heap.size ≤ g3
 ne : g2 ≠ g3
section
variable {w00 w0 w : World} {n g2 g3 : Nat} {a0 : Act} {Q : Exit → Act → World → Prop}
theorem SegOk.title {s : SegD} (h : SegOk s) {x : ByteArray} (hx : x.size ≤ 40) : SegOk { s with title := x } := ⟨⟨hx, h.1.uri, h.1.date, h.1.li, h.1.off, h.1.key, h.1.map⟩, h.2⟩
theorem SegOk.date {s : SegD} (h : SegOk s) {x : ByteArray} (hx : x.size ≤ 40) : SegOk { s with date := x } := ⟨⟨h.1.title, h.1.uri, hx, h.1.li, h.1.off, h.1.key, h.1.map⟩, h.2⟩
theorem SegOk.part {s : SegD} (h : SegOk s) {x y : Nat} (hx : x < 9223372036854775808) (hy : y < 9223372036854775808) : SegOk { s with li := x, off := y } := ⟨⟨h.1.title, h.1.uri, h.1.date, hx, hy, h.1.key, h.1.map⟩, h.2⟩
theorem SegOk.key {s : SegD} (h : SegOk s) {x : Option KeyD} (hx : ∀ k, x = some k → k.Ok) : SegOk { s with key := x } := ⟨⟨h.1.title, h.1.uri, h.1.date, h.1.li, h.1.off, hx, h.1.map⟩, h.2⟩
theorem SegOk.map {s : SegD} (h : SegOk s) {x : Option MapD} (hx : ∀ k, x = some k → k.Ok) : SegOk { s with map := x } := ⟨⟨h.1.title, h.1.uri, h.1.date, h.1.li, h.1.off, h.1.key, hx⟩, h.2⟩
theorem SKey.ok_ {w : World} {kp : Option Nat} {k : Option KeyD} (h : SKey w kp k) : ∀ x, k = some x → x.Ok := by
 cases h with
 | nil => exact fun _ e => by cases e
 | mk h ok => exact fun x e => by cases e; exact ok
theorem SMap.ok_ {w : World} {kp : Option Nat} {k : Option MapD} (h : SMap w kp k) : ∀ x, k = some x → x.Ok := by
 cases h with
 | nil => exact fun _ e => by cases e
 | mk h ok => exact fun x e => by cases e; exact ok
theorem pto_one (kp : Option Nat) : (pto kp).oneCell' = true := by cases kp <;> rfl
theorem one_ssegC (s : SegD) (kp mp : Option Nat) : ∀ v ∈ (ssegC s kp mp).toList, v.oneCell' = true := by
 intro v hv
 simp only [ssegC, List.mem_cons, List.not_mem_nil, or_false] at hv
 rcases hv with rfl | rfl | rfl | rfl | rfl | rfl | rfl | rfl | rfl <;> first | rfl | exact pto_one _
theorem sg_title (hn : n < 4294967296) (hJ : JSeg w00 n g2 g3 a0 w0) (hK : ∀ a' w', JSeg w00 n g2 g3 a' w' → Q .normal a' w') : (cat [1, 1, 0] sgB).wp Tryd.prog Q a0 w0 := by
 obtain ⟨F0, h0_0, h2_0, h3_0, B2_0, ⟨s, kp, mp, B3_0, sk_0, sm_0, ok⟩, Kp0, hg2, hg3, hne⟩ := hJ
 change Code.wp _ (Code.seq (Code.region _ _ _) (Code.cond _ _ _)) _ _ _
 refine wp_seq ?_
 refine rg_list ?_
 refine wl_p (ex_mv h0_0) F0.l fun a1 u1 h15_1 => ?_
 have F1 := F0.pt u1
 obtain ⟨r16_1, b16_1, e16_1⟩ := u_shr n 13 hn
 refine wl_p (ex_bin (vy := (.int .u64 13)) (v := (.int .u32 r16_1)) h15_1 rfl (e16_1 _ _ _)) F1.l fun a2 u2 h16_2 => ?_
 have F2 := F1.pt u2
 obtain ⟨r17_2, e17_2⟩ := u_and r16_1 1
 refine wl_p (ex_bin (vy := (.int .u32 1)) (v := (.int .u32 r17_2)) h16_2 rfl (e17_2 _ _ _)) F2.l fun a3 u3 h17_3 => ?_
 have F3 := F2.pt u3
 obtain ⟨q18_3, e18_3⟩ := u_eql r17_2 1
 refine wl_p (ex_bin (vy := (.int .u32 1)) (v := (.bool q18_3)) h17_3 rfl (e18_3 _ _ _)) F3.l fun a4 u4 h18_4 => ?_
 have F4 := F3.pt u4
 change Code.wp _ _ _ _ _
 cases q18_3
 · refine wp_cond_false h18_4 ?_
   refine wp_skip ?_
   have h0_4 := u4.w (u3.w (u2.w (u1.w h0_0)))
   have h2_4 := u4.w (u3.w (u2.w (u1.w h2_0)))
   have h3_4 := u4.w (u3.w (u2.w (u1.w h3_0)))
   exact hK _ _ ⟨F4, h0_4, h2_4, h3_4, B2_0, ⟨s, kp, mp, B3_0, sk_0, sm_0, ok⟩, Kp0, hg2, hg3, hne⟩
 · refine wp_cond_true h18_4 ?_
   refine rg_list ?_
   have h0_4 := u4.w (u3.w (u2.w (u1.w h0_0)))
   refine wl_p (ex_mv h0_4) F4.l fun a5 u5 h19_5 => ?_
   have F5 := F4.pt u5
   obtain ⟨r20_5, b20_5, e20_5⟩ := u_shr n 15 hn
   refine wl_p (ex_bin (vy := (.int .u64 15)) (v := (.int .u32 r20_5)) h19_5 rfl (e20_5 _ _ _)) F5.l fun a6 u6 h20_6 => ?_
   have F6 := F5.pt u6
   refine wl_cl (args := #[(.int .u32 r20_5), (.int .i64 0)]) (R := fun v w' => (∃ x : ByteArray, v = .string x ∧ x.size ≤ 14) ∧ w0 = w') (ex_cl (fun _ _ => by kernel_rfl) (arg2 h20_6 rfl)) ((wordOf_any (r20_5 : Int) (by omega) (by have := b20_5; omega) 0 (by decide) w0).mono fun _ _ ⟨⟨x, h1, h2⟩, h3⟩ => ⟨_, h1, ⟨x, rfl, h2⟩, h3⟩) F6.l ?_
   rintro v w' ⟨⟨x21_6, rfl, z21_6⟩, rfl⟩
   intro a7 u7 h21_7
   have F7 := F6.pt u7
   have h3_7 := u7.w (u6.w (u5.w (u4.w (u3.w (u2.w (u1.w h3_0))))))
   refine wl_p (ex_fb 0 h3_7) F7.l fun a8 u8 h22_8 => ?_
   have F8 := F7.pt u8
   obtain ⟨w1, hr1, B3_1, G1⟩ := st_run (T := 9) (o := 0) (v := (.string x21_6)) (cs' := #[(.string x21_6), (.string s.uri), (.int .i64 s.e), (.int .i64 s.li), (.int .i64 s.off), (pto kp), (pto mp), (.bool s.disc), (.string s.date)]) (fun _ => by kernel_rfl) B3_0 rfl (Nat.le_of_ble_eq_true rfl) rfl
   have B2_1 := B2_0.gk G1 hne
   have Kp1 := Kp0.set G1 (Or.inr hg3)
   have sk_1 := sk_0.gk B3_0 (by decide) G1
   have sm_1 := sm_0.gk B3_0 (by decide) G1
   refine wl_n (ex_st h22_8 (u8.w h21_7) hr1) ?_
   have h0_8 := u8.w (u7.w (u6.w (u5.w h0_4)))
   have h2_8 := u8.w (u7.w (u6.w (u5.w (u4.w (u3.w (u2.w (u1.w h2_0)))))))
   exact hK _ _ ⟨F8, h0_8, h2_8, (u8.w h3_7), B2_1, ⟨{ s with title := x21_6 }, kp, mp, B3_1, sk_1, sm_1, ok.title (Nat.le_trans z21_6 (by decide))⟩, Kp1, hg2, hg3, hne⟩
theorem sg_part (hn : n < 4294967296) (hJ : JSeg w00 n g2 g3 a0 w0) (hK : ∀ a' w', JSeg w00 n g2 g3 a' w' → Q .normal a' w') : (cat [1, 1, 1, 0] sgB).wp Tryd.prog Q a0 w0 := by
 obtain ⟨F0, h0_0, h2_0, h3_0, B2_0, ⟨s, kp, mp, B3_0, sk_0, sm_0, ok⟩, Kp0, hg2, hg3, hne⟩ := hJ
 change Code.wp _ (Code.seq (Code.region _ _ _) (Code.cond _ _ _)) _ _ _
 refine wp_seq ?_
 refine rg_list ?_
 refine wl_p (ex_mv h0_0) F0.l fun a1 u1 h23_1 => ?_
 have F1 := F0.pt u1
 obtain ⟨r24_1, b24_1, e24_1⟩ := u_shr n 14 hn
 refine wl_p (ex_bin (vy := (.int .u64 14)) (v := (.int .u32 r24_1)) h23_1 rfl (e24_1 _ _ _)) F1.l fun a2 u2 h24_2 => ?_
 have F2 := F1.pt u2
 obtain ⟨r25_2, e25_2⟩ := u_and r24_1 3
 refine wl_p (ex_bin (vy := (.int .u32 3)) (v := (.int .u32 r25_2)) h24_2 rfl (e25_2 _ _ _)) F2.l fun a3 u3 h25_3 => ?_
 have F3 := F2.pt u3
 obtain ⟨q26_3, e26_3⟩ := u_eql r25_2 1
 refine wl_p (ex_bin (vy := (.int .u32 1)) (v := (.bool q26_3)) h25_3 rfl (e26_3 _ _ _)) F3.l fun a4 u4 h26_4 => ?_
 have F4 := F3.pt u4
 change Code.wp _ _ _ _ _
 cases q26_3
 · refine wp_cond_false h26_4 ?_
   refine wp_skip ?_
   have h0_4 := u4.w (u3.w (u2.w (u1.w h0_0)))
   have h2_4 := u4.w (u3.w (u2.w (u1.w h2_0)))
   have h3_4 := u4.w (u3.w (u2.w (u1.w h3_0)))
   exact hK _ _ ⟨F4, h0_4, h2_4, h3_4, B2_0, ⟨s, kp, mp, B3_0, sk_0, sm_0, ok⟩, Kp0, hg2, hg3, hne⟩
 · refine wp_cond_true h26_4 ?_
   refine rg_list ?_
   have h0_4 := u4.w (u3.w (u2.w (u1.w h0_0)))
   refine wl_p (ex_mv h0_4) F4.l fun a5 u5 h27_5 => ?_
   have F5 := F4.pt u5
   obtain ⟨r28_5, b28_5, e28_5⟩ := u_shr n 5 hn
   refine wl_p (ex_bin (vy := (.int .u64 5)) (v := (.int .u32 r28_5)) h27_5 rfl (e28_5 _ _ _)) F5.l fun a6 u6 h28_6 => ?_
   have F6 := F5.pt u6
   refine wl_p (ex_conv (vx := (.int .u32 r28_5)) (v := (.int .i64 r28_5)) h28_6 (cv_27_2 r28_5 b28_5 _)) F6.l fun a7 u7 h29_7 => ?_
   have F7 := F6.pt u7
   refine wl_p (ex_bin (vx := (.int .i64 1)) (v := (.int .i64 (1 + r28_5 : Nat))) rfl h29_7 (bo_addi2 1 r28_5 _ (by omega))) F7.l fun a8 u8 h30_8 => ?_
   have F8 := F7.pt u8
   have h0_8 := u8.w (u7.w (u6.w (u5.w h0_4)))
   refine wl_p (ex_mv h0_8) F8.l fun a9 u9 h31_9 => ?_
   have F9 := F8.pt u9
   obtain ⟨r32_9, b32_9, e32_9⟩ := u_shr n 9 hn
   refine wl_p (ex_bin (vy := (.int .u64 9)) (v := (.int .u32 r32_9)) h31_9 rfl (e32_9 _ _ _)) F9.l fun a10 u10 h32_10 => ?_
   have F10 := F9.pt u10
   refine wl_p (ex_conv (vx := (.int .u32 r32_9)) (v := (.int .i64 r32_9)) h32_10 (cv_27_2 r32_9 b32_9 _)) F10.l fun a11 u11 h33_11 => ?_
   have F11 := F10.pt u11
   have h3_11 := u11.w (u10.w (u9.w (u8.w (u7.w (u6.w (u5.w (u4.w (u3.w (u2.w (u1.w h3_0))))))))))
   refine wl_p (ex_fb 3 h3_11) F11.l fun a12 u12 h34_12 => ?_
   have F12 := F11.pt u12
   obtain ⟨w1, hr1, B3_1, G1⟩ := st_run (T := 2) (o := 3) (v := (.int .i64 (1 + r28_5 : Nat))) (cs' := #[(.string s.title), (.string s.uri), (.int .i64 s.e), (.int .i64 (1 + r28_5 : Nat)), (.int .i64 s.off), (pto kp), (pto mp), (.bool s.disc), (.string s.date)]) (fun _ => by kernel_rfl) B3_0 rfl (Nat.le_of_ble_eq_true rfl) rfl
   have B2_1 := B2_0.gk G1 hne
   have Kp1 := Kp0.set G1 (Or.inr hg3)
   have sk_1 := sk_0.gk B3_0 (by decide) G1
   have sm_1 := sm_0.gk B3_0 (by decide) G1
   have h30_12 := u12.w (u11.w (u10.w (u9.w h30_8)))
   refine wl_n (ex_st h34_12 h30_12 hr1) ?_
   refine wl_p (ex_fb 4 (u12.w h3_11)) F12.l fun a13 u13 h35_13 => ?_
   have F13 := F12.pt u13
   obtain ⟨w2, hr2, B3_2, G2⟩ := st_run (T := 2) (o := 4) (v := (.int .i64 r32_9)) (cs' := #[(.string s.title), (.string s.uri), (.int .i64 s.e), (.int .i64 (1 + r28_5 : Nat)), (.int .i64 r32_9), (pto kp), (pto mp), (.bool s.disc), (.string s.date)]) (fun _ => by kernel_rfl) B3_1 rfl (Nat.le_of_ble_eq_true rfl) rfl
   have B2_2 := B2_1.gk G2 hne
   have Kp2 := Kp1.set G2 (Or.inr hg3)
   have sk_2 := sk_1.gk B3_1 (by decide) G2
   have sm_2 := sm_1.gk B3_1 (by decide) G2
   refine wl_n (ex_st h35_13 (u13.w (u12.w h33_11)) hr2) ?_
   have h0_13 := u13.w (u12.w (u11.w (u10.w (u9.w h0_8))))
   have h2_13 := u13.w (u12.w (u11.w (u10.w (u9.w (u8.w (u7.w (u6.w (u5.w (u4.w (u3.w (u2.w (u1.w h2_0))))))))))))
   exact hK _ _ ⟨F13, h0_13, h2_13, (u13.w (u12.w h3_11)), B2_2, ⟨{ s with li := (1 + r28_5 : Nat), off := r32_9 }, kp, mp, B3_2, sk_2, sm_2, ok.part (by omega) (by omega)⟩, Kp2, hg2, hg3, hne⟩
theorem sg_key (hn : n < 4294967296) (hJ : JSeg w00 n g2 g3 a0 w0) (hK : ∀ a' w', JSeg w00 n g2 g3 a' w' → Q .normal a' w') : (cat [1, 1, 1, 1, 0] sgB).wp Tryd.prog Q a0 w0 := by
 obtain ⟨F0, h0_0, h2_0, h3_0, B2_0, ⟨s, kp, mp, B3_0, sk_0, sm_0, ok⟩, Kp0, hg2, hg3, hne⟩ := hJ
 change Code.wp _ (Code.seq (Code.region _ _ _) (Code.cond _ _ _)) _ _ _
 refine wp_seq ?_
 refine rg_list ?_
 refine wl_p (ex_mv h0_0) F0.l fun a1 u1 h36_1 => ?_
 have F1 := F0.pt u1
 obtain ⟨r37_1, b37_1, e37_1⟩ := u_shr n 16 hn
 refine wl_p (ex_bin (vy := (.int .u64 16)) (v := (.int .u32 r37_1)) h36_1 rfl (e37_1 _ _ _)) F1.l fun a2 u2 h37_2 => ?_
 have F2 := F1.pt u2
 obtain ⟨r38_2, e38_2⟩ := u_and r37_1 3
 refine wl_p (ex_bin (vy := (.int .u32 3)) (v := (.int .u32 r38_2)) h37_2 rfl (e38_2 _ _ _)) F2.l fun a3 u3 h38_3 => ?_
 have F3 := F2.pt u3
 obtain ⟨q39_3, e39_3⟩ := u_eql r38_2 1
 refine wl_p (ex_bin (vy := (.int .u32 1)) (v := (.bool q39_3)) h38_3 rfl (e39_3 _ _ _)) F3.l fun a4 u4 h39_4 => ?_
 have F4 := F3.pt u4
 change Code.wp _ _ _ _ _
 cases q39_3
 · refine wp_cond_false h39_4 ?_
   refine wp_skip ?_
   have h0_4 := u4.w (u3.w (u2.w (u1.w h0_0)))
   have h2_4 := u4.w (u3.w (u2.w (u1.w h2_0)))
   have h3_4 := u4.w (u3.w (u2.w (u1.w h3_0)))
   exact hK _ _ ⟨F4, h0_4, h2_4, h3_4, B2_0, ⟨s, kp, mp, B3_0, sk_0, sm_0, ok⟩, Kp0, hg2, hg3, hne⟩
 · refine wp_cond_true h39_4 ?_
   refine rg_list ?_
   have h0_4 := u4.w (u3.w (u2.w (u1.w h0_0)))
   refine wl_p (ex_mv h0_4) F4.l fun a5 u5 h40_5 => ?_
   have F5 := F4.pt u5
   obtain ⟨r41_5, b41_5, e41_5⟩ := u_shr n 18 hn
   refine wl_p (ex_bin (vy := (.int .u64 18)) (v := (.int .u32 r41_5)) h40_5 rfl (e41_5 _ _ _)) F5.l fun a6 u6 h41_6 => ?_
   have F6 := F5.pt u6
   refine wl_cl (args := #[(.int .u32 r41_5)]) (R := fun v w' => ∃ kp k, v = pto kp ∧ SKey w' kp k ∧ w0.grownBy w' none) (ex_cl (fun _ _ => by kernel_rfl) (arg1 h41_6)) ((keyOf_any (r41_5 : Int) (by omega) (by have := b41_5; omega) w0).mono fun _ _ ⟨kp, k, h1, h2, h3, _⟩ => ⟨_, h1, kp, k, rfl, h2, h3⟩) F6.l ?_
   rintro v w1 ⟨kp2, k2, rfl, nk_1, G1⟩
   have B2_1 := B2_0.gn G1
   have B3_1 := B3_0.gn G1
   have Kp1 := Kp0.new G1
   have sk_1 := sk_0.gn G1
   have sm_1 := sm_0.gn G1
   intro a7 u7 h42_7
   have F7 := F6.pt u7
   have h3_7 := u7.w (u6.w (u5.w (u4.w (u3.w (u2.w (u1.w h3_0))))))
   refine wl_p (ex_fb 5 h3_7) F7.l fun a8 u8 h43_8 => ?_
   have F8 := F7.pt u8
   obtain ⟨w2, hr2, B3_2, G2⟩ := st_run (T := 29) (o := 5) (v := (pto kp2)) (cs' := #[(.string s.title), (.string s.uri), (.int .i64 s.e), (.int .i64 s.li), (.int .i64 s.off), (pto kp2), (pto mp), (.bool s.disc), (.string s.date)]) (fun _ => by kernel_rfl) B3_1 rfl (Nat.le_of_ble_eq_true rfl) rfl
   have B2_2 := B2_1.gk G2 hne
   have Kp2 := Kp1.set G2 (Or.inr hg3)
   have sk_2 := sk_1.gk B3_1 (by decide) G2
   have sm_2 := sm_1.gk B3_1 (by decide) G2
   have nk_2 := nk_1.gk B3_1 (by decide) G2
   refine wl_n (ex_st h43_8 (u8.w h42_7) hr2) ?_
   clear nk_1
   have h0_8 := u8.w (u7.w (u6.w (u5.w h0_4)))
   have h2_8 := u8.w (u7.w (u6.w (u5.w (u4.w (u3.w (u2.w (u1.w h2_0)))))))
   exact hK _ _ ⟨F8, h0_8, h2_8, (u8.w h3_7), B2_2, ⟨{ s with key := k2 }, kp2, mp, B3_2, nk_2, sm_2, ok.key nk_2.ok_⟩, Kp2, hg2, hg3, hne⟩
theorem sg_map (hn : n < 4294967296) (hJ : JSeg w00 n g2 g3 a0 w0) (hK : ∀ a' w', JSeg w00 n g2 g3 a' w' → Q .normal a' w') : (cat [1, 1, 1, 1, 1, 0] sgB).wp Tryd.prog Q a0 w0 := by
 obtain ⟨F0, h0_0, h2_0, h3_0, B2_0, ⟨s, kp, mp, B3_0, sk_0, sm_0, ok⟩, Kp0, hg2, hg3, hne⟩ := hJ
 change Code.wp _ (Code.seq (Code.region _ _ _) (Code.cond _ _ _)) _ _ _
 refine wp_seq ?_
 refine rg_list ?_
 refine wl_p (ex_mv h0_0) F0.l fun a1 u1 h44_1 => ?_
 have F1 := F0.pt u1
 obtain ⟨r45_1, b45_1, e45_1⟩ := u_shr n 17 hn
 refine wl_p (ex_bin (vy := (.int .u64 17)) (v := (.int .u32 r45_1)) h44_1 rfl (e45_1 _ _ _)) F1.l fun a2 u2 h45_2 => ?_
 have F2 := F1.pt u2
 obtain ⟨r46_2, e46_2⟩ := u_and r45_1 3
 refine wl_p (ex_bin (vy := (.int .u32 3)) (v := (.int .u32 r46_2)) h45_2 rfl (e46_2 _ _ _)) F2.l fun a3 u3 h46_3 => ?_
 have F3 := F2.pt u3
 obtain ⟨q47_3, e47_3⟩ := u_eql r46_2 1
 refine wl_p (ex_bin (vy := (.int .u32 1)) (v := (.bool q47_3)) h46_3 rfl (e47_3 _ _ _)) F3.l fun a4 u4 h47_4 => ?_
 have F4 := F3.pt u4
 change Code.wp _ _ _ _ _
 cases q47_3
 · refine wp_cond_false h47_4 ?_
   refine wp_skip ?_
   have h0_4 := u4.w (u3.w (u2.w (u1.w h0_0)))
   have h2_4 := u4.w (u3.w (u2.w (u1.w h2_0)))
   have h3_4 := u4.w (u3.w (u2.w (u1.w h3_0)))
   exact hK _ _ ⟨F4, h0_4, h2_4, h3_4, B2_0, ⟨s, kp, mp, B3_0, sk_0, sm_0, ok⟩, Kp0, hg2, hg3, hne⟩
 · refine wp_cond_true h47_4 ?_
   refine rg_list ?_
   have h0_4 := u4.w (u3.w (u2.w (u1.w h0_0)))
   refine wl_p (ex_mv h0_4) F4.l fun a5 u5 h48_5 => ?_
   have F5 := F4.pt u5
   obtain ⟨r49_5, b49_5, e49_5⟩ := u_shr n 19 hn
   refine wl_p (ex_bin (vy := (.int .u64 19)) (v := (.int .u32 r49_5)) h48_5 rfl (e49_5 _ _ _)) F5.l fun a6 u6 h49_6 => ?_
   have F6 := F5.pt u6
   refine wl_cl (args := #[(.int .u32 r49_5)]) (R := fun v w' => ∃ kp k, v = pto kp ∧ SMap w' kp k ∧ w0.grownBy w' none) (ex_cl (fun _ _ => by kernel_rfl) (arg1 h49_6)) ((mapOf_any (r49_5 : Int) (by omega) (by have := b49_5; omega) w0).mono fun _ _ ⟨kp, k, h1, h2, h3, _⟩ => ⟨_, h1, kp, k, rfl, h2, h3⟩) F6.l ?_
   rintro v w1 ⟨mp2, k2, rfl, nm_1, G1⟩
   have B2_1 := B2_0.gn G1
   have B3_1 := B3_0.gn G1
   have Kp1 := Kp0.new G1
   have sk_1 := sk_0.gn G1
   have sm_1 := sm_0.gn G1
   intro a7 u7 h50_7
   have F7 := F6.pt u7
   have h3_7 := u7.w (u6.w (u5.w (u4.w (u3.w (u2.w (u1.w h3_0))))))
   refine wl_p (ex_fb 6 h3_7) F7.l fun a8 u8 h51_8 => ?_
   have F8 := F7.pt u8
   obtain ⟨w2, hr2, B3_2, G2⟩ := st_run (T := 30) (o := 6) (v := (pto mp2)) (cs' := #[(.string s.title), (.string s.uri), (.int .i64 s.e), (.int .i64 s.li), (.int .i64 s.off), (pto kp), (pto mp2), (.bool s.disc), (.string s.date)]) (fun _ => by kernel_rfl) B3_1 rfl (Nat.le_of_ble_eq_true rfl) rfl
   have B2_2 := B2_1.gk G2 hne
   have Kp2 := Kp1.set G2 (Or.inr hg3)
   have sk_2 := sk_1.gk B3_1 (by decide) G2
   have sm_2 := sm_1.gk B3_1 (by decide) G2
   have nm_2 := nm_1.gk B3_1 (by decide) G2
   refine wl_n (ex_st h51_8 (u8.w h50_7) hr2) ?_
   clear nm_1
   have h0_8 := u8.w (u7.w (u6.w (u5.w h0_4)))
   have h2_8 := u8.w (u7.w (u6.w (u5.w (u4.w (u3.w (u2.w (u1.w h2_0)))))))
   exact hK _ _ ⟨F8, h0_8, h2_8, (u8.w h3_7), B2_2, ⟨{ s with map := k2 }, kp, mp2, B3_2, sk_2, nm_2, ok.map nm_2.ok_⟩, Kp2, hg2, hg3, hne⟩
theorem sg_date (hn : n < 4294967296) (hJ : JSeg w00 n g2 g3 a0 w0) (hK : ∀ a' w', JSeg w00 n g2 g3 a' w' → Q .normal a' w') : (cat [1, 1, 1, 1, 1, 1, 0] sgB).wp Tryd.prog Q a0 w0 := by
 obtain ⟨F0, h0_0, h2_0, h3_0, B2_0, ⟨s, kp, mp, B3_0, sk_0, sm_0, ok⟩, Kp0, hg2, hg3, hne⟩ := hJ
 change Code.wp _ (Code.seq (Code.region _ _ _) (Code.cond _ _ _)) _ _ _
 refine wp_seq ?_
 refine rg_list ?_
 refine wl_p (ex_mv h0_0) F0.l fun a1 u1 h52_1 => ?_
 have F1 := F0.pt u1
 obtain ⟨r53_1, b53_1, e53_1⟩ := u_shr n 18 hn
 refine wl_p (ex_bin (vy := (.int .u64 18)) (v := (.int .u32 r53_1)) h52_1 rfl (e53_1 _ _ _)) F1.l fun a2 u2 h53_2 => ?_
 have F2 := F1.pt u2
 obtain ⟨r54_2, e54_2⟩ := u_and r53_1 3
 refine wl_p (ex_bin (vy := (.int .u32 3)) (v := (.int .u32 r54_2)) h53_2 rfl (e54_2 _ _ _)) F2.l fun a3 u3 h54_3 => ?_
 have F3 := F2.pt u3
 obtain ⟨q55_3, e55_3⟩ := u_eql r54_2 1
 refine wl_p (ex_bin (vy := (.int .u32 1)) (v := (.bool q55_3)) h54_3 rfl (e55_3 _ _ _)) F3.l fun a4 u4 h55_4 => ?_
 have F4 := F3.pt u4
 change Code.wp _ _ _ _ _
 cases q55_3
 · refine wp_cond_false h55_4 ?_
   refine wp_skip ?_
   have h0_4 := u4.w (u3.w (u2.w (u1.w h0_0)))
   have h2_4 := u4.w (u3.w (u2.w (u1.w h2_0)))
   have h3_4 := u4.w (u3.w (u2.w (u1.w h3_0)))
   exact hK _ _ ⟨F4, h0_4, h2_4, h3_4, B2_0, ⟨s, kp, mp, B3_0, sk_0, sm_0, ok⟩, Kp0, hg2, hg3, hne⟩
 · refine wp_cond_true h55_4 ?_
   refine rg_list ?_
   have h0_4 := u4.w (u3.w (u2.w (u1.w h0_0)))
   refine wl_p (ex_mv h0_4) F4.l fun a5 u5 h56_5 => ?_
   have F5 := F4.pt u5
   obtain ⟨r57_5, b57_5, e57_5⟩ := u_shr n 20 hn
   refine wl_p (ex_bin (vy := (.int .u64 20)) (v := (.int .u32 r57_5)) h56_5 rfl (e57_5 _ _ _)) F5.l fun a6 u6 h57_6 => ?_
   have F6 := F5.pt u6
   obtain ⟨r58_6, b58_6, e58_6⟩ := u_rem r57_5 80 (by decide) (by decide)
   refine wl_p (ex_bin (vy := (.int .u32 80)) (v := (.int .u32 r58_6)) h57_6 rfl (e58_6 _ _ _)) F6.l fun a7 u7 h58_7 => ?_
   have F7 := F6.pt u7
   obtain ⟨r59_7, b59_7, e59_7⟩ := u_add 10 r58_6 (by omega)
   refine wl_p (ex_bin (vx := (.int .u32 10)) (v := (.int .u32 r59_7)) rfl h58_7 (e59_7 _ _ _)) F7.l fun a8 u8 h59_8 => ?_
   have F8 := F7.pt u8
   refine wl_p (ex_conv (vx := (.int .u32 r59_7)) (v := (.int .u64 r59_7)) h59_8 (cv_27_34 r59_7 (by omega) _)) F8.l fun a9 u9 h60_9 => ?_
   have F9 := F8.pt u9
   refine wl_cl (args := #[(.int .u64 r59_7)]) (R := fun v w' => v = .string (bs (Lib.decDigits (r59_7 : Int).toNat)) ∧ w0 = w') (ex_cl (fun _ _ => by kernel_rfl) (arg1 h60_9)) ((decimal_any (r59_7 : Int) w0 (by omega) (by have := (by omega); omega)).mono fun _ _ h => ⟨_, h.1, rfl, h.2⟩) F9.l ?_
   rintro v w' ⟨rfl, rfl⟩
   intro a10 u10 h61_10
   have F10 := F9.pt u10
   have hdd : (Lib.decDigits (r59_7 : Int).toNat).length ≤ 10 := decDigits_len 10 _ (by have := (by omega); omega) (by decide)
   refine wl_p (ex_bin (vx := (.string { data := #[50, 48] })) (v := (.string (bs (([50, 48] : List UInt8) ++ (Lib.decDigits (r59_7 : Int).toNat))))) rfl h61_10 (bo_adds ([50, 48] : List UInt8) (Lib.decDigits (r59_7 : Int).toNat) _ (by simp only [List.length_append, List.length_cons, List.length_nil]; omega))) F10.l fun a11 u11 h62_11 => ?_
   have F11 := F10.pt u11
   refine wl_p (ex_bin (vy := (.string { data := #[45, 48, 49, 45, 48, 50, 84, 48, 51, 58, 48, 52, 58, 48, 53, 46, 54, 55, 56, 43, 48, 49, 58, 48, 48] })) (v := (.string (bs ((([50, 48] : List UInt8) ++ (Lib.decDigits (r59_7 : Int).toNat)) ++ ([45, 48, 49, 45, 48, 50, 84, 48, 51, 58, 48, 52, 58, 48, 53, 46, 54, 55, 56, 43, 48, 49, 58, 48, 48] : List UInt8))))) h62_11 rfl (bo_adds (([50, 48] : List UInt8) ++ (Lib.decDigits (r59_7 : Int).toNat)) ([45, 48, 49, 45, 48, 50, 84, 48, 51, 58, 48, 52, 58, 48, 53, 46, 54, 55, 56, 43, 48, 49, 58, 48, 48] : List UInt8) _ (by simp only [List.length_append, List.length_cons, List.length_nil]; omega))) F11.l fun a12 u12 h63_12 => ?_
   have F12 := F11.pt u12
   have h3_12 := u12.w (u11.w (u10.w (u9.w (u8.w (u7.w (u6.w (u5.w (u4.w (u3.w (u2.w (u1.w h3_0)))))))))))
   refine wl_p (ex_fb 8 h3_12) F12.l fun a13 u13 h64_13 => ?_
   have F13 := F12.pt u13
   obtain ⟨w1, hr1, B3_1, G1⟩ := st_run (T := 9) (o := 8) (v := (.string (bs ((([50, 48] : List UInt8) ++ (Lib.decDigits (r59_7 : Int).toNat)) ++ ([45, 48, 49, 45, 48, 50, 84, 48, 51, 58, 48, 52, 58, 48, 53, 46, 54, 55, 56, 43, 48, 49, 58, 48, 48] : List UInt8))))) (cs' := #[(.string s.title), (.string s.uri), (.int .i64 s.e), (.int .i64 s.li), (.int .i64 s.off), (pto kp), (pto mp), (.bool s.disc), (.string (bs ((([50, 48] : List UInt8) ++ (Lib.decDigits (r59_7 : Int).toNat)) ++ ([45, 48, 49, 45, 48, 50, 84, 48, 51, 58, 48, 52, 58, 48, 53, 46, 54, 55, 56, 43, 48, 49, 58, 48, 48] : List UInt8))))]) (fun _ => by kernel_rfl) B3_0 rfl (Nat.le_of_ble_eq_true rfl) rfl
   have B2_1 := B2_0.gk G1 hne
   have Kp1 := Kp0.set G1 (Or.inr hg3)
   have sk_1 := sk_0.gk B3_0 (by decide) G1
   have sm_1 := sm_0.gk B3_0 (by decide) G1
   refine wl_n (ex_st h64_13 (u13.w h63_12) hr1) ?_
   have h0_13 := u13.w (u12.w (u11.w (u10.w (u9.w (u8.w (u7.w (u6.w (u5.w h0_4))))))))
   have h2_13 := u13.w (u12.w (u11.w (u10.w (u9.w (u8.w (u7.w (u6.w (u5.w (u4.w (u3.w (u2.w (u1.w h2_0))))))))))))
   exact hK _ _ ⟨F13, h0_13, h2_13, (u13.w h3_12), B2_1, ⟨{ s with date := bs ((([50, 48] : List UInt8) ++ (Lib.decDigits (r59_7 : Int).toNat)) ++ ([45, 48, 49, 45, 48, 50, 84, 48, 51, 58, 48, 52, 58, 48, 53, 46, 54, 55, 56, 43, 48, 49, 58, 48, 48] : List UInt8)) }, kp, mp, B3_1, sk_1, sm_1, ok.date (by have := hdd; rw [size_bs]; simp only [List.length_append, List.length_cons, List.length_nil]; omega)⟩, Kp1, hg2, hg3, hne⟩
end
theorem sg_end {w00 w0 : World} {n g2 g3 : Nat} {a0 : Act} (hn : n < 4294967296) (hJ : JSeg w00 n g2 g3 a0 w0) : (cat [1, 1, 1, 1, 1, 1, 1] sgB).wp Tryd.prog (fun e a w => bodyPost Tryd.prog Tryd.f5 (fun e w' => ∃ s kp mp, e = .returned (.agg (ssegC s kp mp)) ∧ SKey w' kp s.key ∧ SMap w' mp s.map ∧ SegOk s ∧ w00.grownBy w' none) e a w) a0 w0 := by
 change Code.wp _ (Code.seq _ _) _ _ _
 obtain ⟨F0, h0_0, h2_0, h3_0, B2_0, ⟨s, kp, mp, B3_0, sk_0, sm_0, ok⟩, Kp0, hg2, hg3, hne⟩ := hJ
 refine wp_seq ?_
 refine rg_list ?_
 refine wl_p (ex_lda h3_0 (ld_agg (n := 9) (xs := #[(.string s.title), (.string s.uri), (.int .i64 s.e), (.int .i64 s.li), (.int .i64 s.off), (pto kp), (pto mp), (.bool s.disc), (.string s.date)]) (fun _ => by kernel_rfl) (fun _ => by kernel_rfl) B3_0 rfl (fun _ _ => by rw [Nat.zero_add]; rfl))) F0.l fun a1 u1 (h65_1 : a1.tmps.getD 65 undef = (.agg #[(.string s.title), (.string s.uri), (.int .i64 s.e), (.int .i64 s.li), (.int .i64 s.off), (pto kp), (pto mp), (.bool s.disc), (.string s.date)])) => ?_
 have F1 := F0.pt u1
 obtain ⟨w1, hr1, B2_1, G1⟩ := sta_run (T := 32) (cs := #[(.string s.title), (.string s.uri), (.int .i64 s.e), (.int .i64 s.li), (.int .i64 s.off), (pto kp), (pto mp), (.bool s.disc), (.string s.date)]) (fun _ => by kernel_rfl) B2_0 rfl rfl (by first | exact one_ssegC _ _ _ | simp [Value.oneCell'])
 have B3_1 := B3_0.gk G1 (Ne.symm hne)
 have Kp1 := Kp0.set G1 (Or.inr hg2)
 have sk_1 := sk_0.gk B2_0 (by decide) G1
 have sm_1 := sm_0.gk B2_0 (by decide) G1
 refine wl_n (ex_st (u1.w h2_0) h65_1 hr1) ?_
 refine wp_ret ?_
 try simp only [Exit.then, Exit.inBlock]
 exact bodyPost_ret (v := .agg #[(.string s.title), (.string s.uri), (.int .i64 s.e), (.int .i64 s.li), (.int .i64 s.off), (pto kp), (pto mp), (.bool s.disc), (.string s.date)]) (results_cell_row rfl _ _ _ _ _ _ _ (u1.w h2_0) B2_1 Tryd.underlying32 rfl (by kernel_rfl)) F1.defers ⟨s, kp, mp, rfl, sk_1, sm_1, ok, Kp1.grown⟩
theorem segmentOf_any (n : Nat) (hn : n < 4294967296) (w0 : World) : Calls Tryd.prog 5 #[.int .u32 n] w0 fun e w' => ∃ s kp mp, e = .returned (.agg (ssegC s kp mp)) ∧ SKey w' kp s.key ∧ SMap w' mp s.map ∧ SegOk s ∧ w0.grownBy w' none := by
 refine calls_of_wp Tryd.func5 rfl ?_
 generalize hA : Act.mk _ _ = a0
 have F0 : Fz 66 a0 := by subst hA; exact ⟨by simp [Tryd.ntmps5], rfl⟩
 have h0_0 : a0.tmps.getD 0 undef = (.int .u32 n) := by subst hA; exact fr_arg rfl
 clear hA
 have Kp0 := Kp.refl [] w0
 change Code.wp _ (Code.seq _ _) _ _ _
 refine wp_seq ?_
 refine rg_list ?_
 obtain ⟨g2, hg2⟩ : ∃ g, w0.heap.size = g := ⟨_, rfl⟩
 have ge_2 : w0.heap.size ≤ g2 := by have := Kp0.size; omega
 obtain ⟨w1, hr1, B2_1, G1, hs1⟩ := al_run (op := Instr.alloc 32 true (.tuple #[])) (T := 32) (cs := #[(.string ⟨#[]⟩), (.string ⟨#[]⟩), (.int .i64 0), (.int .i64 0), (.int .i64 0), (.pointer none), (.pointer none), (.bool false), (.string ⟨#[]⟩)]) hg2 (fun _ => by kernel_rfl)
 have Kp1 := Kp0.new G1
 refine wl_p (ex_al hr1) F0.l fun a1 u1 (h2_1 : a1.tmps.getD 2 undef = (.pointer (some ⟨g2, 0, none⟩))) => ?_
 have F1 := F0.pt u1
 change Code.wp _ (Code.seq _ _) _ _ _
 refine wp_seq ?_
 refine rg_list ?_
 refine wl_p (ex_mv (u1.w h0_0)) F1.l fun a2 u2 h4_2 => ?_
 have F2 := F1.pt u2
 refine wl_cl (args := #[(.int .u32 n)]) (R := fun v w' => (∃ x : ByteArray, v = .string x ∧ x.size ≤ 18) ∧ w1 = w') (ex_cl (fun _ _ => by kernel_rfl) (arg1 h4_2)) ((uriOf_any (n : Int) (by omega) (by have := hn; omega) w1).mono fun _ _ ⟨⟨x, h1, h2⟩, h3⟩ => ⟨_, h1, ⟨x, rfl, h2⟩, h3⟩) F2.l ?_
 rintro v w' ⟨⟨x5_2, rfl, z5_2⟩, rfl⟩
 intro a3 u3 h5_3
 have F3 := F2.pt u3
 have h0_3 := u3.w (u2.w (u1.w h0_0))
 refine wl_p (ex_mv h0_3) F3.l fun a4 u4 h6_4 => ?_
 have F4 := F3.pt u4
 obtain ⟨r7_4, b7_4, e7_4⟩ := u_shr n 4 hn
 refine wl_p (ex_bin (vy := (.int .u64 4)) (v := (.int .u32 r7_4)) h6_4 rfl (e7_4 _ _ _)) F4.l fun a5 u5 h7_5 => ?_
 have F5 := F4.pt u5
 obtain ⟨r8_5, b8_5, e8_5⟩ := u_rem r7_4 160 (by decide) (by decide)
 refine wl_p (ex_bin (vy := (.int .u32 160)) (v := (.int .u32 r8_5)) h7_5 rfl (e8_5 _ _ _)) F5.l fun a6 u6 h8_6 => ?_
 have F6 := F5.pt u6
 refine wl_p (ex_conv (vx := (.int .u32 r8_5)) (v := (.int .i64 r8_5)) h8_6 (cv_27_3 r8_5 (Nat.lt_trans b8_5 (by decide)) _)) F6.l fun a7 u7 h9_7 => ?_
 have F7 := F6.pt u7
 have h0_7 := u7.w (u6.w (u5.w (u4.w h0_3)))
 refine wl_p (ex_mv h0_7) F7.l fun a8 u8 h10_8 => ?_
 have F8 := F7.pt u8
 obtain ⟨r11_8, b11_8, e11_8⟩ := u_shr n 11 hn
 refine wl_p (ex_bin (vy := (.int .u64 11)) (v := (.int .u32 r11_8)) h10_8 rfl (e11_8 _ _ _)) F8.l fun a9 u9 h11_9 => ?_
 have F9 := F8.pt u9
 obtain ⟨r12_9, e12_9⟩ := u_and r11_8 3
 refine wl_p (ex_bin (vy := (.int .u32 3)) (v := (.int .u32 r12_9)) h11_9 rfl (e12_9 _ _ _)) F9.l fun a10 u10 h12_10 => ?_
 have F10 := F9.pt u10
 obtain ⟨q13_10, e13_10⟩ := u_eql r12_9 1
 refine wl_p (ex_bin (vy := (.int .u32 1)) (v := (.bool q13_10)) h12_10 rfl (e13_10 _ _ _)) F10.l fun a11 u11 h13_11 => ?_
 have F11 := F10.pt u11
 have h5_11 := u11.w (u10.w (u9.w (u8.w (u7.w (u6.w (u5.w (u4.w h5_3)))))))
 have h9_11 := u11.w (u10.w (u9.w (u8.w h9_7)))
 refine wl_p (ex_bd (w' := w1) (vs :=  #[(1, (.string x5_2)), (2, (.int .i64 r8_5)), (7, (.bool q13_10))]) (v := (.agg #[(.string ⟨#[]⟩), (.string x5_2), (.int .i64 r8_5), (.int .i64 0), (.int .i64 0), (.pointer none), (.pointer none), (.bool q13_10), (.string ⟨#[]⟩)])) (by have e1 : a11.eval (.tmp 5) = (.string x5_2) := h5_11; have e2 : a11.eval (.tmp 9) = (.int .i64 r8_5) := h9_11; have e7 : a11.eval (.tmp 13) = (.bool q13_10) := h13_11; simp only [List.map_toArray, List.map_cons, List.map_nil, e1, e2, e7]) (by kernel_rfl)) F11.l fun a12 u12 h14_12 => ?_
 have F12 := F11.pt u12
 obtain ⟨g3, hg3⟩ : ∃ g, w1.heap.size = g := ⟨_, rfl⟩
 have ne_2_3 : g2 ≠ g3 := by have := B2_1.lt; omega
 have ge_3 : w0.heap.size ≤ g3 := by have := Kp1.size; omega
 obtain ⟨w2, hr2, B3_2, G2, hs2⟩ := al_run (op := Instr.alloc 32 true (.tuple #[])) (T := 32) (cs := #[(.string ⟨#[]⟩), (.string ⟨#[]⟩), (.int .i64 0), (.int .i64 0), (.int .i64 0), (.pointer none), (.pointer none), (.bool false), (.string ⟨#[]⟩)]) hg3 (fun _ => by kernel_rfl)
 have B2_2 := B2_1.gn G2
 have Kp2 := Kp1.new G2
 refine wl_p (ex_al hr2) F12.l fun a13 u13 (h3_13 : a13.tmps.getD 3 undef = (.pointer (some ⟨g3, 0, none⟩))) => ?_
 have F13 := F12.pt u13
 obtain ⟨w3, hr3, B3_3, G3⟩ := sta_run (T := 32) (cs := #[(.string ⟨#[]⟩), (.string x5_2), (.int .i64 r8_5), (.int .i64 0), (.int .i64 0), (.pointer none), (.pointer none), (.bool q13_10), (.string ⟨#[]⟩)]) (fun _ => by kernel_rfl) B3_2 rfl rfl (by first | exact one_ssegC _ _ _ | simp [Value.oneCell'])
 have B2_3 := B2_2.gk G3 ne_2_3
 have Kp3 := Kp2.set G3 (Or.inr ge_3)
 refine wl_n (ex_st h3_13 (u13.w h14_12) hr3) ?_
 change Code.wp _ _ _ _ _
 have h0_13 := u13.w (u12.w (u11.w (u10.w (u9.w (u8.w h0_7)))))
 have h2_13 := u13.w (u12.w (u11.w (u10.w (u9.w (u8.w (u7.w (u6.w (u5.w (u4.w (u3.w (u2.w h2_1)))))))))))
 have hJ : JSeg w0 n g2 g3 a13 w3 := ⟨F13, h0_13, h2_13, h3_13, B2_3, ⟨⟨⟨#[]⟩, x5_2, r8_5, 0, 0, none, none, q13_10, ⟨#[]⟩⟩, none, none, B3_3, .nil, .nil, ⟨⟨Nat.le_of_ble_eq_true rfl, Nat.le_trans z5_2 (by decide), Nat.le_of_ble_eq_true rfl, Nat.le_of_ble_eq_true rfl, Nat.le_of_ble_eq_true rfl, fun _ h => (by cases h), fun _ h => (by cases h)⟩, b8_5⟩⟩, Kp3, ge_2, ge_3, ne_2_3⟩
 refine wp_seq (sg_title hn hJ fun a w hJ => (?_ : Code.wp _ _ _ _ _))
 refine wp_seq (sg_part hn hJ fun a w hJ => (?_ : Code.wp _ _ _ _ _))
 refine wp_seq (sg_key hn hJ fun a w hJ => (?_ : Code.wp _ _ _ _ _))
 refine wp_seq (sg_map hn hJ fun a w hJ => (?_ : Code.wp _ _ _ _ _))
 refine wp_seq (sg_date hn hJ fun a w hJ => (?_ : Code.wp _ _ _ _ _))
 exact sg_end hn hJ
end
section
set_option maxRecDepth 100000
theorem ix32_run (b off n c j : Nat) (hj : j < n) (w : World) : (Instr.indexAt 22 (.slice (some ⟨b, off, none⟩) n c) (.int .i64 j)).run Tryd.prog w = .ok (.pointer (some ⟨b, off + j, none⟩)) w := by
 have h1 : (j : Int) < (n : Int) := by omega
 have h2 : (0 : Int) ≤ (j : Int) := by omega
 simp [go_sem, h1, h2]
/-- numbers of 32 bits in a slice -/
structure U32s (w : World) (ao : Option Addr) (b off len cap : Nat) (zs : Nat → Nat) : Prop where
 at_ : 0 < len → ao = some ⟨b, off, none⟩ ∧ b < w.heap.size
 hlen : len ≤ 100
 hcap : len ≤ cap
 cell : ∀ j, j < len → w.cell? ⟨b, off + j, none⟩ = some (.int .u32 (zs j))
 lt : ∀ j, zs j < 4294967296
theorem U32s.kp {w w' : World} {ao : Option Addr} {b off len cap : Nat} {zs : Nat → Nat} (h : U32s w ao b off len cap zs) (K : Kp [] w w') {j : Nat} (hj : j < len) : w'.cell? ⟨b, off + j, none⟩ = some (.int .u32 (zs j)) := by
 rw [← h.cell j hj]
 have hb := (h.at_ (by omega)).2
 exact K.below.cell (p := ⟨b, off + j, none⟩) hb
end
section
set_option maxRecDepth 100000
def headB (ops : Array Oper) : List Nat → Array Bool → Bool
 | [], _ => true
 | i :: is, l => (Region.ready .any ops l).contains i && Region.free .any ops l i && headB ops is (l.setIfInBounds i true)
/-- what holds while the rest comes up -/
def Tree (ops : Array Oper) (S : World → Prop) (K : Act → World → Prop) (n : Nat) (l : Array Bool) (a : Act) (w : World) : Prop := wpAnyH Tryd.prog .any ops (normalOnly K) S n l a w
section
variable {ops : Array Oper} {S : World → Prop} {K : Act → World → Prop} {a : Act} {w w' : World} {n j : Nat} {l : Array Bool}
theorem tree_head (hs : Region.noSelect ops = true) : ∀ (is : List Nat) (l : Array Bool) (a : Act) (w : World), (∀ i ∈ is, i < ops.size) → headB ops is l = true → S w →
   wpHead ops S (fun a' => Tree ops S K n (is.foldl (fun l i => l.setIfInBounds i true) l) a' w) (is.filterMap (ops[·]?)) a → Tree ops S K (is.length + n) l a w
 | [], l, a, w, _, _, _, h => by
   rw [List.length_nil, Nat.zero_add]; exact h
 | i :: is, l, a, w, hi, hB, hS, h => by
   have hii := hi i List.mem_cons_self
   have h0 : ops[i]? = some ops[i] := Array.getElem?_eq_getElem hii
   simp only [headB, Bool.and_eq_true] at hB
   obtain ⟨⟨hr, hf⟩, hB'⟩ := hB
   rw [List.filterMap_cons_some h0] at h
   obtain ⟨v, hy, h⟩ := h
   rw [List.length_cons, Nat.add_right_comm]
   refine wpAnyH_take h0 hs hf hr (fun _ _ _ h => h) hy hS ?_
   exact tree_head hs is _ _ _ (fun x hx => hi x (List.mem_cons_of_mem _ hx)) hB' hS h
theorem rg_tree {id : Nat} {ol : List Oper} {Q : Exit → Act → World → Prop} {a : Act} {w w1 : World} (is : List Nat) (n : Nat) (hw : w1 = w.drew) (hn : is.length + n = ol.length ∧ ∀ i ∈ is, i < ol.length) (hm : Tryd.prog.follows .mixedOrders = true) (hs : Region.noSelect ol.toArray = true) (hB : headB ol.toArray is (Array.replicate ol.toArray.size false) = true)
   (hS : S w1) (h : wpHead ol.toArray S (fun a' => Tree ol.toArray S (fun a' w' => Q .normal a' w') n (is.foldl (fun l i => l.setIfInBounds i true) (Array.replicate ol.toArray.size false)) a' w1) (is.filterMap (ol.toArray[·]?)) a) : (Code.region id ol.toArray true).wp Tryd.prog Q a w := by
 subst hw
 have := tree_head (ops := ol.toArray) (K := fun a' w' => Q .normal a' w') (n := n) hs is (Array.replicate ol.toArray.size false) a w.drew (by simpa using hn.2) hB hS h
 rw [hn.1] at this
 refine Code.wp_mono ?_ (wp_region_held hm (S := S) (Q := normalOnly fun a' w' => Q .normal a' w') (by simpa [Tree] using this))
 intro e a w h
 cases e <;> first | exact h | exact h.elim
/-- behind one operation -/
def TK (ops : Array Oper) (S : World → Prop) (K : Act → World → Prop) (n j : Nat) (l : Array Bool) (a : Act) (w : World) : Prop :=
 wpOp Tryd.prog ops (normalOnly K) j (fun a' w' => S w' ∧ wpAnyH Tryd.prog .any ops (normalOnly K) S n (l.setIfInBounds j true) a' w') a w
theorem tree1 (hr : Region.ready .any ops l = [j]) (h : TK ops S K n j l a w) : Tree ops S K (n + 1) l a w :=
 wpAnyH_all hr (by simp) fun i hi => by obtain rfl : i = j := by simpa using hi
                                        exact h
theorem tree2 {k : Nat} (hr : Region.ready .any ops l = [j, k]) (h : TK ops S K n j l a w) (h2 : TK ops S K n k l a w) : Tree ops S K (n + 1) l a w :=
 wpAnyH_all hr (by simp) fun i hi => by
   rcases List.mem_cons.1 hi with rfl | hi
   · exact h
   · obtain rfl : i = k := by simpa using hi
     exact h2
theorem tree0 (hr : Region.ready .any ops l = []) (h : K a w) : Tree ops S K n l a w := wpAnyH_done hr h n
variable {v : Value} {d : Tmp} {op : Op} {ty : TypeId} {p : String} {af : Array Edge} {f : FuncId} {args : Array Value} {R : Value → World → Prop}
theorem tree_take (h0 : ops[j]? = some ⟨some d, op, ty, p, af, none⟩) (hs : Region.noSelect ops = true) (hf : Region.free .any ops l j = true) (hr : (Region.ready .any ops l).contains j = true) (hrun : ∀ w, S w → (execOp a.eval ⟨some d, op, ty, p, af, none⟩).run Tryd.prog w = .ok (.value v) w) (hS : S w) (hsz : d < a.tmps.size)
   (hK : ∀ a', Pt d a a' → a'.tmps.getD d undef = v → Tree ops S K n (l.setIfInBounds j true) a' w) : Tree ops S K (n + 1) l a w :=
 wpAnyH_take h0 hs hf hr (fun _ _ _ h => h) (.inl ⟨by simp [Region.wanted], hrun⟩) hS (hK _ (Pt.put _ _ _) (put_get _ hsz))
theorem tk_p (h0 : ops[j]? = some ⟨some d, op, ty, p, af, none⟩) (hrun : (execOp a.eval ⟨some d, op, ty, p, af, none⟩).run Tryd.prog w = .ok (.value v) w') (hS : S w') (hsz : d < a.tmps.size) (hK : ∀ a', Pt d a a' → a'.tmps.getD d undef = v → Tree ops S K n (l.setIfInBounds j true) a' w') : TK ops S K n j l a w := by
 unfold TK wpOp
 simp only [h0]
 rw [if_pos (by simp [Region.wanted])]
 refine .inl ?_
 unfold Oper.wp
 rw [hrun]
 exact ⟨hS, hK _ (Pt.put _ _ _) (put_get _ hsz)⟩
theorem tk_n (h0 : ops[j]? = some ⟨none, op, ty, p, af, none⟩) (hrun : (execOp a.eval ⟨none, op, ty, p, af, none⟩).run Tryd.prog w = .ok .skip w') (hS : S w') (hK : Tree ops S K n (l.setIfInBounds j true) a w') : TK ops S K n j l a w := by
 unfold TK wpOp
 simp only [h0]
 rw [if_pos (by simp [Region.wanted])]
 refine .inl ?_
 unfold Oper.wp
 rw [hrun]
 exact ⟨hS, hK⟩
theorem tk_cl (h0 : ops[j]? = some ⟨some d, op, ty, p, af, none⟩) (hrun : (execOp a.eval ⟨some d, op, ty, p, af, none⟩).run Tryd.prog w = .ok (.enter f args) w) (hC : Calls Tryd.prog f args w fun e w'' => ∃ v, e = .returned v ∧ R v w'') (hsz : d < a.tmps.size)
   (hK : ∀ v w'', R v w'' → S w'' ∧ ∀ a', Pt d a a' → a'.tmps.getD d undef = v → Tree ops S K n (l.setIfInBounds j true) a' w'') : TK ops S K n j l a w := by
 unfold TK wpOp
 simp only [h0]
 rw [if_pos (by simp [Region.wanted])]
 refine .inl ?_
 unfold Oper.wp
 rw [hrun]
 refine hC.mono ?_
 rintro e w'' ⟨v, rfl, hR⟩
 exact ⟨(hK v w'' hR).1, (hK v w'' hR).2 _ (Pt.put _ _ _) (put_get _ hsz)⟩
end
end
section
set_option maxRecDepth 100000
section
variable {x y : Operand}
theorem cv_f64 (n : Nat) (hn : n < 4000) (w : World) : (convert 3 35 (.int .i64 n)).run Tryd.prog w = .ok (.float .f64 (fn n)) w := by
 simp [go_sem]
 exact flo_near hn
theorem bo_quo8 (n : Nat) (hn : n < 4000) (w : World) : (do eqGuard .quo 35 x y (.float .f64 (fn n)) (.float .f64 4620693217682128896); binOp .quo 35 (.float .f64 (fn n)) (.float .f64 4620693217682128896) : Sem Value).run Tryd.prog w = .ok (.float .f64 (fb n)) w := by
 have h := run_float_arith (P := Tryd.prog) w .quo 35 .f64 (fn n) 4620693217682128896 (fb n) (flo_div hn)
 simp [go_sem] at h ⊢
 exact h
end
theorem toKeys_no {w0 : World} : Calls Tryd.prog 11 #[.pointer none] w0 fun e w' => ∃ kv, e = .returned kv ∧ KeySl w' kv none ∧ w0.grownBy w' none := by
 refine calls_of_wp Tryd.func11 rfl ?_
 generalize hA : Act.mk _ _ = a0
 have F0 : Fz 27 a0 := by subst hA; exact ⟨by simp [Tryd.ntmps11], rfl⟩
 have h0_0 : a0.tmps.getD 0 undef = (.pointer none) := by subst hA; exact fr_arg rfl
 clear hA
 refine wp_seq ?_
 refine rg_list ?_
 refine wl_p (ex_as (v := (.slice none 0 0)) rfl) F0.l fun a1 u1 h2_1 => ?_
 have F1 := F0.pt u1
 change Code.wp _ _ _ _ _
 refine wp_seq ?_
 refine wp_seq ?_
 refine rg_list ?_
 refine wl_p (ex_mv (u1.w h0_0)) F1.l fun a2 u2 h3_2 => ?_
 have F2 := F1.pt u2
 refine wl_p (ex_bin (vy := (.pointer none)) (v := (.bool true)) h3_2 rfl (by kernel_rfl)) F2.l fun a3 u3 h4_3 => ?_
 have F3 := F2.pt u3
 change Code.wp _ _ _ _ _
 refine wp_cond_true h4_3 ?_
 refine wp_seq ?_
 refine rg_list ?_
 refine wl_p (ex_as (v := (.slice none 0 0)) rfl) F3.l fun a4 u4 h2_4 => ?_
 have F4 := F3.pt u4
 change Code.wp _ _ _ _ _
 refine wp_ret ?_
 try simp only [Exit.then, Exit.inBlock]
 exact bodyPost_ret (v := (.slice none 0 0)) ((results_tmp rfl _ _ _).trans (by rw [h2_4])) F4.defers ⟨_, rfl, .nil, grown_refl _ _⟩
theorem toKeys_yes {gk : Nat} {k : KeyD} {w0 : World} (hk : Blk w0 gk 56 (keyC k)) (hok : k.Ok) : Calls Tryd.prog 11 #[.pointer (some ⟨gk, 0, none⟩)] w0 fun e w' => ∃ kv, e = .returned kv ∧ KeySl w' kv (some k) ∧ w0.grownBy w' none := by
 refine calls_of_wp Tryd.func11 rfl ?_
 generalize hA : Act.mk _ _ = a0
 have F0 : Fz 27 a0 := by subst hA; exact ⟨by simp [Tryd.ntmps11], rfl⟩
 have h0_0 : a0.tmps.getD 0 undef = (.pointer (some ⟨gk, 0, none⟩)) := by subst hA; exact fr_arg rfl
 clear hA
 have Kp0 := Kp.refl [] w0
 refine wp_seq ?_
 refine rg_list ?_
 refine wl_p (ex_as (v := (.slice none 0 0)) rfl) F0.l fun a1 u1 h2_1 => ?_
 have F1 := F0.pt u1
 change Code.wp _ _ _ _ _
 refine wp_seq ?_
 refine wp_seq ?_
 refine rg_list ?_
 refine wl_p (ex_mv (u1.w h0_0)) F1.l fun a2 u2 h3_2 => ?_
 have F2 := F1.pt u2
 refine wl_p (ex_bin (vy := (.pointer none)) (v := (.bool false)) h3_2 rfl (by kernel_rfl)) F2.l fun a3 u3 h4_3 => ?_
 have F3 := F2.pt u3
 change Code.wp _ _ _ _ _
 refine wp_cond_false h4_3 ?_
 refine wp_skip ?_
 change Code.wp _ _ _ _ _
 refine wp_seq ?_
 obtain ⟨w1, hw1⟩ : ∃ w, w = w0.drew := ⟨_, rfl⟩
 have G1 : w0.grownBy w1 none := hw1 ▸ grown_drew _
 have Bk_1 := hk.gn G1
 have Kp1 := Kp0.new G1
 refine rg_ord (S := fun w' => Blk w' gk 56 #[(.string k.me), (.string k.uri), (.string k.iv), (.string k.fo), (.string k.ve)]) [0, 1, 2, 3, 4, 5, 6, 7, 8, 9, 10, 11, 12, 13, 14, 15, 16, 17, 18, 19, 20] [21, 22] ⟨rfl, by decide⟩ hmix (by kernel_rfl) (by rw [show w0.drew = w1 from hw1.symm]; exact Bk_1) ?_
 rw [show w0.drew = w1 from hw1.symm]
 clear hk
 have h0_3 := u3.w (u2.w (u1.w h0_0))
 refine mh_p (fun w hw => ex_mv h0_3) F3.l fun a4 u4 h5_4 => ?_
 have F4 := F3.pt u4
 refine mh_p (fun w hw => ex_nil h5_4) F4.l fun a5 u5 h6_5 => ?_
 have F5 := F4.pt u5
 refine mh_p (fun w hw => ex_fb 0 h6_5) F5.l fun a6 u6 h7_6 => ?_
 have F6 := F5.pt u6
 refine mh_p (fun w hw => ex_le (v := (.string k.me)) h7_6 (hw.cell 0)) F6.l fun a7 u7 h8_7 => ?_
 have F7 := F6.pt u7
 have h0_7 := u7.w (u6.w (u5.w (u4.w h0_3)))
 refine mh_p (fun w hw => ex_mv h0_7) F7.l fun a8 u8 h9_8 => ?_
 have F8 := F7.pt u8
 refine mh_p (fun w hw => ex_nil h9_8) F8.l fun a9 u9 h10_9 => ?_
 have F9 := F8.pt u9
 refine mh_p (fun w hw => ex_fb 1 h10_9) F9.l fun a10 u10 h11_10 => ?_
 have F10 := F9.pt u10
 refine mh_p (fun w hw => ex_le (v := (.string k.uri)) h11_10 (hw.cell 1)) F10.l fun a11 u11 h12_11 => ?_
 have F11 := F10.pt u11
 have h0_11 := u11.w (u10.w (u9.w (u8.w h0_7)))
 refine mh_p (fun w hw => ex_mv h0_11) F11.l fun a12 u12 h13_12 => ?_
 have F12 := F11.pt u12
 refine mh_p (fun w hw => ex_nil h13_12) F12.l fun a13 u13 h14_13 => ?_
 have F13 := F12.pt u13
 refine mh_p (fun w hw => ex_fb 2 h14_13) F13.l fun a14 u14 h15_14 => ?_
 have F14 := F13.pt u14
 refine mh_p (fun w hw => ex_le (v := (.string k.iv)) h15_14 (hw.cell 2)) F14.l fun a15 u15 h16_15 => ?_
 have F15 := F14.pt u15
 have h0_15 := u15.w (u14.w (u13.w (u12.w h0_11)))
 refine mh_p (fun w hw => ex_mv h0_15) F15.l fun a16 u16 h17_16 => ?_
 have F16 := F15.pt u16
 refine mh_p (fun w hw => ex_nil h17_16) F16.l fun a17 u17 h18_17 => ?_
 have F17 := F16.pt u17
 refine mh_p (fun w hw => ex_fb 3 h18_17) F17.l fun a18 u18 h19_18 => ?_
 have F18 := F17.pt u18
 refine mh_p (fun w hw => ex_le (v := (.string k.fo)) h19_18 (hw.cell 3)) F18.l fun a19 u19 h20_19 => ?_
 have F19 := F18.pt u19
 have h0_19 := u19.w (u18.w (u17.w (u16.w h0_15)))
 refine mh_p (fun w hw => ex_mv h0_19) F19.l fun a20 u20 h21_20 => ?_
 have F20 := F19.pt u20
 refine mh_p (fun w hw => ex_nil h21_20) F20.l fun a21 u21 h22_21 => ?_
 have F21 := F20.pt u21
 refine mh_p (fun w hw => ex_fb 4 h22_21) F21.l fun a22 u22 h23_22 => ?_
 have F22 := F21.pt u22
 refine mh_p (fun w hw => ex_le (v := (.string k.ve)) h23_22 (hw.cell 4)) F22.l fun a23 u23 h24_23 => ?_
 have F23 := F22.pt u23
 have h8_23 := u23.w (u22.w (u21.w (u20.w (u19.w (u18.w (u17.w (u16.w (u15.w (u14.w (u13.w (u12.w (u11.w (u10.w (u9.w (u8.w h8_7)))))))))))))))
 have h12_23 := u23.w (u22.w (u21.w (u20.w (u19.w (u18.w (u17.w (u16.w (u15.w (u14.w (u13.w (u12.w h12_11)))))))))))
 have h16_23 := u23.w (u22.w (u21.w (u20.w (u19.w (u18.w (u17.w (u16.w h16_15)))))))
 have h20_23 := u23.w (u22.w (u21.w (u20.w h20_19)))
 refine mh_p (fun w hw => ex_bd (w' := w) (vs :=  #[(0, (.string k.me)), (1, (.string k.uri)), (2, (.string k.iv)), (3, (.string k.fo)), (4, (.string k.ve))]) (v := (.agg #[(.string k.me), (.string k.uri), (.string k.iv), (.string k.fo), (.string k.ve)])) (by have e0 : a23.eval (.tmp 8) = (.string k.me) := h8_23; have e1 : a23.eval (.tmp 12) = (.string k.uri) := h12_23; have e2 : a23.eval (.tmp 16) = (.string k.iv) := h16_23; have e3 : a23.eval (.tmp 20) = (.string k.fo) := h20_23; have e4 : a23.eval (.tmp 24) = (.string k.ve) := h24_23; simp only [List.map_toArray, List.map_cons, List.map_nil, e0, e1, e2, e3, e4]) (by kernel_rfl)) F23.l fun a24 u24 h25_24 => ?_
 have F24 := F23.pt u24
 obtain ⟨gs26_24, hgs26_24⟩ : ∃ g, w1.heap.size = g := ⟨_, rfl⟩
 have ne_k_s26_24 : gk ≠ gs26_24 := by have := Bk_1.lt; omega
 have ge_s26_24 : w0.heap.size ≤ gs26_24 := by have := Kp1.size; omega
 obtain ⟨w2, hr2, Bs26_24_2, G2, hs2⟩ := bs_run (op := Instr.buildSlice 36 1 #[(0, (.agg #[(.string k.me), (.string k.uri), (.string k.iv), (.string k.fo), (.string k.ve)]))]) (n := 1) (T := 78) (cs := #[(.string k.me), (.string k.uri), (.string k.iv), (.string k.fo), (.string k.ve)]) hgs26_24 (fun _ => by kernel_rfl)
 have Bk_2 := Bk_1.gn G2
 have Kp2 := Kp1.new G2
 refine mt_p (ex_bs (vs := #[(0, (.agg #[(.string k.me), (.string k.uri), (.string k.iv), (.string k.fo), (.string k.ve)]))]) (by have e0 : a24.eval (.tmp 25) = (.agg #[(.string k.me), (.string k.uri), (.string k.iv), (.string k.fo), (.string k.ve)]) := h25_24; simp only [List.map_toArray, List.map_cons, List.map_nil, e0]) hr2) (Bk_2) F24.l fun a25 u25 (h26_25 : a25.tmps.getD 26 undef = (.slice (some ⟨gs26_24, 0, none⟩) 1 1)) => ?_
 have F25 := F24.pt u25
 refine mt_p (ex_as h26_25) (Bk_2) F25.l fun a26 u26 h2_26 => ?_
 have F26 := F25.pt u26
 change Code.wp _ _ _ _ _
 refine wp_ret ?_
 try simp only [Exit.then, Exit.inBlock]
 exact bodyPost_ret (v := (.slice (some ⟨gs26_24, 0, none⟩) 1 1)) ((results_tmp rfl _ _ _).trans (by rw [h2_26])) F26.defers ⟨_, rfl, .mk Bs26_24_2 hok, Kp2.grown⟩
theorem toKeys_any {kp : Option Nat} {k : Option KeyD} {w0 : World} (h : SKey w0 kp k) : Calls Tryd.prog 11 #[pto kp] w0 fun e w' => ∃ kv, e = .returned kv ∧ KeySl w' kv k ∧ w0.grownBy w' none := by
 cases h with
 | nil => exact toKeys_no
 | mk h ok => exact toKeys_yes h ok
theorem toMaps_no {w0 : World} : Calls Tryd.prog 14 #[.pointer none] w0 fun e w' => ∃ kv, e = .returned kv ∧ MapSl w' kv none ∧ w0.grownBy w' none := by
 refine calls_of_wp Tryd.func14 rfl ?_
 generalize hA : Act.mk _ _ = a0
 have F0 : Fz 19 a0 := by subst hA; exact ⟨by simp [Tryd.ntmps14], rfl⟩
 have h0_0 : a0.tmps.getD 0 undef = (.pointer none) := by subst hA; exact fr_arg rfl
 clear hA
 refine wp_seq ?_
 refine rg_list ?_
 refine wl_p (ex_as (v := (.slice none 0 0)) rfl) F0.l fun a1 u1 h2_1 => ?_
 have F1 := F0.pt u1
 change Code.wp _ _ _ _ _
 refine wp_seq ?_
 refine wp_seq ?_
 refine rg_list ?_
 refine wl_p (ex_mv (u1.w h0_0)) F1.l fun a2 u2 h3_2 => ?_
 have F2 := F1.pt u2
 refine wl_p (ex_bin (vy := (.pointer none)) (v := (.bool true)) h3_2 rfl (by kernel_rfl)) F2.l fun a3 u3 h4_3 => ?_
 have F3 := F2.pt u3
 change Code.wp _ _ _ _ _
 refine wp_cond_true h4_3 ?_
 refine wp_seq ?_
 refine rg_list ?_
 refine wl_p (ex_as (v := (.slice none 0 0)) rfl) F3.l fun a4 u4 h2_4 => ?_
 have F4 := F3.pt u4
 change Code.wp _ _ _ _ _
 refine wp_ret ?_
 try simp only [Exit.then, Exit.inBlock]
 exact bodyPost_ret (v := (.slice none 0 0)) ((results_tmp rfl _ _ _).trans (by rw [h2_4])) F4.defers ⟨_, rfl, .nil, grown_refl _ _⟩
theorem toMaps_yes {gk : Nat} {k : MapD} {w0 : World} (hk : Blk w0 gk 61 (mapC k)) (hok : k.Ok) : Calls Tryd.prog 14 #[.pointer (some ⟨gk, 0, none⟩)] w0 fun e w' => ∃ kv, e = .returned kv ∧ MapSl w' kv (some k) ∧ w0.grownBy w' none := by
 refine calls_of_wp Tryd.func14 rfl ?_
 generalize hA : Act.mk _ _ = a0
 have F0 : Fz 19 a0 := by subst hA; exact ⟨by simp [Tryd.ntmps14], rfl⟩
 have h0_0 : a0.tmps.getD 0 undef = (.pointer (some ⟨gk, 0, none⟩)) := by subst hA; exact fr_arg rfl
 clear hA
 have Kp0 := Kp.refl [] w0
 refine wp_seq ?_
 refine rg_list ?_
 refine wl_p (ex_as (v := (.slice none 0 0)) rfl) F0.l fun a1 u1 h2_1 => ?_
 have F1 := F0.pt u1
 change Code.wp _ _ _ _ _
 refine wp_seq ?_
 refine wp_seq ?_
 refine rg_list ?_
 refine wl_p (ex_mv (u1.w h0_0)) F1.l fun a2 u2 h3_2 => ?_
 have F2 := F1.pt u2
 refine wl_p (ex_bin (vy := (.pointer none)) (v := (.bool false)) h3_2 rfl (by kernel_rfl)) F2.l fun a3 u3 h4_3 => ?_
 have F3 := F2.pt u3
 change Code.wp _ _ _ _ _
 refine wp_cond_false h4_3 ?_
 refine wp_skip ?_
 change Code.wp _ _ _ _ _
 refine wp_seq ?_
 obtain ⟨w1, hw1⟩ : ∃ w, w = w0.drew := ⟨_, rfl⟩
 have G1 : w0.grownBy w1 none := hw1 ▸ grown_drew _
 have Bk_1 := hk.gn G1
 have Kp1 := Kp0.new G1
 refine rg_ord (S := fun w' => Blk w' gk 61 #[(.string k.uri), (.int .i64 k.li), (.int .i64 k.off)]) [0, 1, 2, 3, 4, 5, 6, 7, 8, 9, 10, 11, 12] [13, 14] ⟨rfl, by decide⟩ hmix (by kernel_rfl) (by rw [show w0.drew = w1 from hw1.symm]; exact Bk_1) ?_
 rw [show w0.drew = w1 from hw1.symm]
 clear hk
 have h0_3 := u3.w (u2.w (u1.w h0_0))
 refine mh_p (fun w hw => ex_mv h0_3) F3.l fun a4 u4 h5_4 => ?_
 have F4 := F3.pt u4
 refine mh_p (fun w hw => ex_nil h5_4) F4.l fun a5 u5 h6_5 => ?_
 have F5 := F4.pt u5
 refine mh_p (fun w hw => ex_fb 0 h6_5) F5.l fun a6 u6 h7_6 => ?_
 have F6 := F5.pt u6
 refine mh_p (fun w hw => ex_le (v := (.string k.uri)) h7_6 (hw.cell 0)) F6.l fun a7 u7 h8_7 => ?_
 have F7 := F6.pt u7
 have h0_7 := u7.w (u6.w (u5.w (u4.w h0_3)))
 refine mh_p (fun w hw => ex_mv h0_7) F7.l fun a8 u8 h9_8 => ?_
 have F8 := F7.pt u8
 refine mh_p (fun w hw => ex_nil h9_8) F8.l fun a9 u9 h10_9 => ?_
 have F9 := F8.pt u9
 refine mh_p (fun w hw => ex_fb 1 h10_9) F9.l fun a10 u10 h11_10 => ?_
 have F10 := F9.pt u10
 refine mh_p (fun w hw => ex_le (v := (.int .i64 k.li)) h11_10 (hw.cell 1)) F10.l fun a11 u11 h12_11 => ?_
 have F11 := F10.pt u11
 have h0_11 := u11.w (u10.w (u9.w (u8.w h0_7)))
 refine mh_p (fun w hw => ex_mv h0_11) F11.l fun a12 u12 h13_12 => ?_
 have F12 := F11.pt u12
 refine mh_p (fun w hw => ex_nil h13_12) F12.l fun a13 u13 h14_13 => ?_
 have F13 := F12.pt u13
 refine mh_p (fun w hw => ex_fb 2 h14_13) F13.l fun a14 u14 h15_14 => ?_
 have F14 := F13.pt u14
 refine mh_p (fun w hw => ex_le (v := (.int .i64 k.off)) h15_14 (hw.cell 2)) F14.l fun a15 u15 h16_15 => ?_
 have F15 := F14.pt u15
 have h8_15 := u15.w (u14.w (u13.w (u12.w (u11.w (u10.w (u9.w (u8.w h8_7)))))))
 have h12_15 := u15.w (u14.w (u13.w (u12.w h12_11)))
 refine mh_p (fun w hw => ex_bd (w' := w) (vs :=  #[(0, (.string k.uri)), (1, (.int .i64 k.li)), (2, (.int .i64 k.off))]) (v := (.agg #[(.string k.uri), (.int .i64 k.li), (.int .i64 k.off)])) (by have e0 : a15.eval (.tmp 8) = (.string k.uri) := h8_15; have e1 : a15.eval (.tmp 12) = (.int .i64 k.li) := h12_15; have e2 : a15.eval (.tmp 16) = (.int .i64 k.off) := h16_15; simp only [List.map_toArray, List.map_cons, List.map_nil, e0, e1, e2]) (by kernel_rfl)) F15.l fun a16 u16 h17_16 => ?_
 have F16 := F15.pt u16
 obtain ⟨gs18_16, hgs18_16⟩ : ∃ g, w1.heap.size = g := ⟨_, rfl⟩
 have ne_k_s18_16 : gk ≠ gs18_16 := by have := Bk_1.lt; omega
 have ge_s18_16 : w0.heap.size ≤ gs18_16 := by have := Kp1.size; omega
 obtain ⟨w2, hr2, Bs18_16_2, G2, hs2⟩ := bs_run (op := Instr.buildSlice 37 1 #[(0, (.agg #[(.string k.uri), (.int .i64 k.li), (.int .i64 k.off)]))]) (n := 1) (T := 80) (cs := #[(.string k.uri), (.int .i64 k.li), (.int .i64 k.off)]) hgs18_16 (fun _ => by kernel_rfl)
 have Bk_2 := Bk_1.gn G2
 have Kp2 := Kp1.new G2
 refine mt_p (ex_bs (vs := #[(0, (.agg #[(.string k.uri), (.int .i64 k.li), (.int .i64 k.off)]))]) (by have e0 : a16.eval (.tmp 17) = (.agg #[(.string k.uri), (.int .i64 k.li), (.int .i64 k.off)]) := h17_16; simp only [List.map_toArray, List.map_cons, List.map_nil, e0]) hr2) (Bk_2) F16.l fun a17 u17 (h18_17 : a17.tmps.getD 18 undef = (.slice (some ⟨gs18_16, 0, none⟩) 1 1)) => ?_
 have F17 := F16.pt u17
 refine mt_p (ex_as h18_17) (Bk_2) F17.l fun a18 u18 h2_18 => ?_
 have F18 := F17.pt u18
 change Code.wp _ _ _ _ _
 refine wp_ret ?_
 try simp only [Exit.then, Exit.inBlock]
 exact bodyPost_ret (v := (.slice (some ⟨gs18_16, 0, none⟩) 1 1)) ((results_tmp rfl _ _ _).trans (by rw [h2_18])) F18.defers ⟨_, rfl, .mk Bs18_16_2 hok, Kp2.grown⟩
theorem toMaps_any {kp : Option Nat} {k : Option MapD} {w0 : World} (h : SMap w0 kp k) : Calls Tryd.prog 14 #[pto kp] w0 fun e w' => ∃ kv, e = .returned kv ∧ MapSl w' kv k ∧ w0.grownBy w' none := by
 cases h with
 | nil => exact toMaps_no
 | mk h ok => exact toMaps_yes h ok
theorem KeySl.shape {w : World} {kv : Value} {k : Option KeyD} (h : KeySl w kv k) : ∃ a n c, kv = .slice a n c := by cases h <;> exact ⟨_, _, _, rfl⟩
theorem MapSl.shape {w : World} {kv : Value} {k : Option MapD} (h : MapSl w kv k) : ∃ a n c, kv = .slice a n c := by cases h <;> exact ⟨_, _, _, rfl⟩
theorem KeySl.gk2 {w w' : World} {kv : Value} {k : Option KeyD} {g U : Nat} {cs : Array Value} (h : KeySl w kv k) (hb : Blk w g U cs) (hU : 78 ≠ U) (G : w.grownBy w' (some g)) : KeySl w' kv k := by
 cases h with
 | nil => exact .nil
 | mk h ok => exact .mk (h.gk G (h.ne_ hb hU)) ok
theorem MapSl.gk2 {w w' : World} {kv : Value} {k : Option MapD} {g U : Nat} {cs : Array Value} (h : MapSl w kv k) (hb : Blk w g U cs) (hU : 80 ≠ U) (G : w.grownBy w' (some g)) : MapSl w' kv k := by
 cases h with
 | nil => exact .nil
 | mk h ok => exact .mk (h.gk G (h.ne_ hb hU)) ok
theorem toSegment_any {s : SegD} {kp mp : Option Nat} {w0 : World} (he : s.e < 4000) (hks : SKey w0 kp s.key) (hms : SMap w0 mp s.map) : Calls Tryd.prog 6 #[.agg (ssegC s kp mp)] w0 fun e w' => ∃ kv mv, e = .returned (.agg (segD 0 s kv mv)) ∧ KeySl w' kv s.key ∧ MapSl w' mv s.map ∧ w0.grownBy w' none := by
 refine calls_of_wp Tryd.func6 rfl ?_
 generalize hA : Act.mk _ _ = a0
 have F0 : Fz 28 a0 := by subst hA; exact ⟨by simp [Tryd.ntmps6], rfl⟩
 have h0_0 : a0.tmps.getD 0 undef = (.agg #[(.string s.title), (.string s.uri), (.int .i64 s.e), (.int .i64 s.li), (.int .i64 s.off), (pto kp), (pto mp), (.bool s.disc), (.string s.date)]) := by subst hA; exact fr_arg rfl
 clear hA
 have Kp0 := Kp.refl [] w0
 have sk_0 := hks
 have sm_0 := hms
 refine wp_seq ?_
 refine rg_list ?_
 obtain ⟨g1, hg1⟩ : ∃ g, w0.heap.size = g := ⟨_, rfl⟩
 have ge_1 : w0.heap.size ≤ g1 := by have := Kp0.size; omega
 obtain ⟨w1, hr1, B1_1, G1, hs1⟩ := al_run (op := Instr.box 32 (.agg #[(.string s.title), (.string s.uri), (.int .i64 s.e), (.int .i64 s.li), (.int .i64 s.off), (pto kp), (pto mp), (.bool s.disc), (.string s.date)])) (T := 32) (cs := #[(.string s.title), (.string s.uri), (.int .i64 s.e), (.int .i64 s.li), (.int .i64 s.off), (pto kp), (pto mp), (.bool s.disc), (.string s.date)]) hg1 (fun _ => by kernel_rfl)
 have Kp1 := Kp0.new G1
 have sk_1 := sk_0.gn G1
 have sm_1 := sm_0.gn G1
 refine wl_p (ex_bx h0_0 hr1) F0.l fun a1 u1 (h1_1 : a1.tmps.getD 1 undef = (.pointer (some ⟨g1, 0, none⟩))) => ?_
 have F1 := F0.pt u1
 obtain ⟨g2, hg2⟩ : ∃ g, w1.heap.size = g := ⟨_, rfl⟩
 have ne_1_2 : g1 ≠ g2 := by have := B1_1.lt; omega
 have ge_2 : w0.heap.size ≤ g2 := by have := Kp1.size; omega
 obtain ⟨w2, hr2, B2_2, G2, hs2⟩ := al_run (op := Instr.alloc 40 true (.tuple #[])) (T := 40) (cs := #[(.int .u64 0), (.string ⟨#[]⟩), (.string ⟨#[]⟩), (.float .f64 0), (.int .i64 0), (.int .i64 0), (.slice none 0 0), (.slice none 0 0), (.slice none 0 0), (.bool false), (.string ⟨#[]⟩)]) hg2 (fun _ => by kernel_rfl)
 have B1_2 := B1_1.gn G2
 have Kp2 := Kp1.new G2
 have sk_2 := sk_1.gn G2
 have sm_2 := sm_1.gn G2
 refine wl_p (ex_al hr2) F1.l fun a2 u2 (h2_2 : a2.tmps.getD 2 undef = (.pointer (some ⟨g2, 0, none⟩))) => ?_
 have F2 := F1.pt u2
 change Code.wp _ (Code.seq _ _) _ _ _
 refine wp_seq ?_
 obtain ⟨w3, hw3⟩ : ∃ w, w = w2.drew := ⟨_, rfl⟩
 have G3 : w2.grownBy w3 none := hw3 ▸ grown_drew _
 have B1_3 := B1_2.gn G3
 have B2_3 := B2_2.gn G3
 have Kp3 := Kp2.new G3
 have sk_3 := sk_2.gn G3
 have sm_3 := sm_2.gn G3
 refine rg_tree (S := fun w' => Blk w' g1 32 #[(.string s.title), (.string s.uri), (.int .i64 s.e), (.int .i64 s.li), (.int .i64 s.off), (pto kp), (pto mp), (.bool s.disc), (.string s.date)]) [0, 1, 2, 3, 4, 5, 6, 7, 8, 9, 10, 11, 12, 13, 14, 15, 16, 17, 19, 20] 5 hw3 ⟨rfl, by decide⟩ hmix (by kernel_rfl) (by kernel_rfl) (B1_3) ?_
 refine mh_p (fun w hw => ex_fb 0 (u2.w h1_1)) F2.l fun a3 u3 h4_3 => ?_
 have F3 := F2.pt u3
 refine mh_p (fun w hw => ex_le (v := (.string s.title)) h4_3 (hw.cell 0)) F3.l fun a4 u4 h5_4 => ?_
 have F4 := F3.pt u4
 have h1_4 := u4.w (u3.w (u2.w h1_1))
 refine mh_p (fun w hw => ex_fb 1 h1_4) F4.l fun a5 u5 h6_5 => ?_
 have F5 := F4.pt u5
 refine mh_p (fun w hw => ex_le (v := (.string s.uri)) h6_5 (hw.cell 1)) F5.l fun a6 u6 h7_6 => ?_
 have F6 := F5.pt u6
 refine mh_p (fun w hw => ex_fb 2 (u6.w (u5.w h1_4))) F6.l fun a7 u7 h8_7 => ?_
 have F7 := F6.pt u7
 refine mh_p (fun w hw => ex_le (v := (.int .i64 s.e)) h8_7 (hw.cell 2)) F7.l fun a8 u8 h9_8 => ?_
 have F8 := F7.pt u8
 refine mh_p (fun w hw => ex_conv (vx := (.int .i64 s.e)) (v := (.float .f64 (fn s.e))) h9_8 (cv_f64 s.e (by omega) _)) F8.l fun a9 u9 h10_9 => ?_
 have F9 := F8.pt u9
 refine mh_p (fun w hw => ex_bin (vy := (.float .f64 4620693217682128896)) (v := (.float .f64 (fb s.e))) h10_9 rfl (bo_quo8 s.e (by omega) _)) F9.l fun a10 u10 h11_10 => ?_
 have F10 := F9.pt u10
 have h1_10 := u10.w (u9.w (u8.w (u7.w (u6.w (u5.w h1_4)))))
 refine mh_p (fun w hw => ex_fb 3 h1_10) F10.l fun a11 u11 h12_11 => ?_
 have F11 := F10.pt u11
 refine mh_p (fun w hw => ex_le (v := (.int .i64 s.li)) h12_11 (hw.cell 3)) F11.l fun a12 u12 h13_12 => ?_
 have F12 := F11.pt u12
 refine mh_p (fun w hw => ex_fb 4 (u12.w (u11.w h1_10))) F12.l fun a13 u13 h14_13 => ?_
 have F13 := F12.pt u13
 refine mh_p (fun w hw => ex_le (v := (.int .i64 s.off)) h14_13 (hw.cell 4)) F13.l fun a14 u14 h15_14 => ?_
 have F14 := F13.pt u14
 have h1_14 := u14.w (u13.w (u12.w (u11.w h1_10)))
 refine mh_p (fun w hw => ex_fb 7 h1_14) F14.l fun a15 u15 h16_15 => ?_
 have F15 := F14.pt u15
 refine mh_p (fun w hw => ex_le (v := (.bool s.disc)) h16_15 (hw.cell 7)) F15.l fun a16 u16 h17_16 => ?_
 have F16 := F15.pt u16
 refine mh_p (fun w hw => ex_fb 8 (u16.w (u15.w h1_14))) F16.l fun a17 u17 h18_17 => ?_
 have F17 := F16.pt u17
 refine mh_p (fun w hw => ex_le (v := (.string s.date)) h18_17 (hw.cell 8)) F17.l fun a18 u18 h19_18 => ?_
 have F18 := F17.pt u18
 have h1_18 := u18.w (u17.w (u16.w (u15.w h1_14)))
 refine mh_p (fun w hw => ex_fb 5 h1_18) F18.l fun a19 u19 h20_19 => ?_
 have F19 := F18.pt u19
 refine mh_p (fun w hw => ex_le (v := (pto kp)) h20_19 (hw.cell 5)) F19.l fun a20 u20 h21_20 => ?_
 have F20 := F19.pt u20
 refine mh_p (fun w hw => ex_fb 6 (u20.w (u19.w h1_18))) F20.l fun a21 u21 h23_21 => ?_
 have F21 := F20.pt u21
 refine mh_p (fun w hw => ex_le (v := (pto mp)) h23_21 (hw.cell 6)) F21.l fun a22 u22 h24_22 => ?_
 have F22 := F21.pt u22
 refine tree2 (j := 18) (k := 23) (by kernel_rfl) ?_ ?_
 · refine tk_cl (args := #[(pto kp)]) (R := fun v w' => KeySl w' v s.key ∧ w3.grownBy w' none) rfl (ex_cl (fun _ _ => by kernel_rfl) (arg1 (u22.w (u21.w h21_20)))) ((toKeys_any sk_3).mono fun _ _ ⟨kv, h⟩ => ⟨_, h.1, h.2⟩) F22.l ?_
   rintro kv w4 ⟨ks_4, G4⟩
   obtain ⟨kva, kvn, kvc, rfl⟩ := KeySl.shape ks_4
   have B1_4 := B1_3.gn G4
   have B2_4 := B2_3.gn G4
   have Kp4 := Kp3.new G4
   have sm_4 := sm_3.gn G4
   refine ⟨B1_4, ?_⟩
   intro a23 u23 h22_23
   have F23 := F22.pt u23
   refine tree2 (j := 21) (k := 23) (by kernel_rfl) ?_ ?_
   · refine tk_cl (args := #[(pto mp)]) (R := fun v w' => MapSl w' v s.map ∧ w4.grownBy w' none) rfl (ex_cl (fun _ _ => by kernel_rfl) (arg1 (u23.w h24_22))) ((toMaps_any sm_4).mono fun _ _ ⟨kv, h⟩ => ⟨_, h.1, h.2⟩) F23.l ?_
     rintro mv w5 ⟨ms_5, G5⟩
     obtain ⟨mva, mvn, mvc, rfl⟩ := MapSl.shape ms_5
     have B1_5 := B1_4.gn G5
     have B2_5 := B2_4.gn G5
     have Kp5 := Kp4.new G5
     have ks_5 := ks_4.gn G5
     refine ⟨B1_5, ?_⟩
     intro a24 u24 h25_24
     have F24 := F23.pt u24
     refine tree2 (j := 22) (k := 23) (by kernel_rfl) ?_ ?_
     · have h5_24 := u24.w (u23.w (u22.w (u21.w (u20.w (u19.w (u18.w (u17.w (u16.w (u15.w (u14.w (u13.w (u12.w (u11.w (u10.w (u9.w (u8.w (u7.w (u6.w (u5.w h5_4)))))))))))))))))))
       have h7_24 := u24.w (u23.w (u22.w (u21.w (u20.w (u19.w (u18.w (u17.w (u16.w (u15.w (u14.w (u13.w (u12.w (u11.w (u10.w (u9.w (u8.w (u7.w h7_6)))))))))))))))))
       have h11_24 := u24.w (u23.w (u22.w (u21.w (u20.w (u19.w (u18.w (u17.w (u16.w (u15.w (u14.w (u13.w (u12.w (u11.w h11_10)))))))))))))
       have h13_24 := u24.w (u23.w (u22.w (u21.w (u20.w (u19.w (u18.w (u17.w (u16.w (u15.w (u14.w (u13.w h13_12)))))))))))
       have h15_24 := u24.w (u23.w (u22.w (u21.w (u20.w (u19.w (u18.w (u17.w (u16.w (u15.w h15_14)))))))))
       have h17_24 := u24.w (u23.w (u22.w (u21.w (u20.w (u19.w (u18.w (u17.w h17_16)))))))
       have h19_24 := u24.w (u23.w (u22.w (u21.w (u20.w (u19.w h19_18)))))
       refine tk_p rfl (ex_bd (w' := w5) (vs :=  #[(1, (.string s.title)), (2, (.string s.uri)), (3, (.float .f64 (fb s.e))), (4, (.int .i64 s.li)), (5, (.int .i64 s.off)), (9, (.bool s.disc)), (10, (.string s.date)), (6, (.slice kva kvn kvc)), (7, (.slice mva mvn mvc))]) (v := (.agg #[(.int .u64 0), (.string s.title), (.string s.uri), (.float .f64 (fb s.e)), (.int .i64 s.li), (.int .i64 s.off), (.slice kva kvn kvc), (.slice mva mvn mvc), (.slice none 0 0), (.bool s.disc), (.string s.date)])) (by have e1 : a24.eval (.tmp 5) = (.string s.title) := h5_24; have e2 : a24.eval (.tmp 7) = (.string s.uri) := h7_24; have e3 : a24.eval (.tmp 11) = (.float .f64 (fb s.e)) := h11_24; have e4 : a24.eval (.tmp 13) = (.int .i64 s.li) := h13_24; have e5 : a24.eval (.tmp 15) = (.int .i64 s.off) := h15_24; have e9 : a24.eval (.tmp 17) = (.bool s.disc) := h17_24; have e10 : a24.eval (.tmp 19) = (.string s.date) := h19_24; have e6 : a24.eval (.tmp 22) = (.slice kva kvn kvc) := (u24.w h22_23); have e7 : a24.eval (.tmp 25) = (.slice mva mvn mvc) := h25_24; simp only [List.map_toArray, List.map_cons, List.map_nil, e1, e2, e3, e4, e5, e9, e10, e6, e7]) (by kernel_rfl)) (B1_5) F24.l fun a25 u25 h26_25 => ?_
       have F25 := F24.pt u25
       refine tree1 (j := 23) (by kernel_rfl) ?_
       obtain ⟨g3, hg3⟩ : ∃ g, w5.heap.size = g := ⟨_, rfl⟩
       have ne_1_3 : g1 ≠ g3 := by have := B1_5.lt; omega
       have ne_2_3 : g2 ≠ g3 := by have := B2_5.lt; omega
       have ge_3 : w0.heap.size ≤ g3 := by have := Kp5.size; omega
       obtain ⟨w6, hr6, B3_6, G6, hs6⟩ := al_run (op := Instr.alloc 40 true (.tuple #[])) (T := 40) (cs := #[(.int .u64 0), (.string ⟨#[]⟩), (.string ⟨#[]⟩), (.float .f64 0), (.int .i64 0), (.int .i64 0), (.slice none 0 0), (.slice none 0 0), (.slice none 0 0), (.bool false), (.string ⟨#[]⟩)]) hg3 (fun _ => by kernel_rfl)
       have B1_6 := B1_5.gn G6
       have B2_6 := B2_5.gn G6
       have Kp6 := Kp5.new G6
       have ks_6 := ks_5.gn G6
       have ms_6 := ms_5.gn G6
       refine tk_p rfl (ex_al hr6) (B1_6) F25.l fun a26 u26 (h3_26 : a26.tmps.getD 3 undef = (.pointer (some ⟨g3, 0, none⟩))) => ?_
       have F26 := F25.pt u26
       refine tree1 (j := 24) (by kernel_rfl) ?_
       obtain ⟨w7, hr7, B3_7, G7⟩ := sta_run (T := 40) (cs := #[(.int .u64 0), (.string s.title), (.string s.uri), (.float .f64 (fb s.e)), (.int .i64 s.li), (.int .i64 s.off), (.slice kva kvn kvc), (.slice mva mvn mvc), (.slice none 0 0), (.bool s.disc), (.string s.date)]) (fun _ => by kernel_rfl) B3_6 rfl rfl (by simp [Value.oneCell'])
       have B1_7 := B1_6.gk G7 ne_1_3
       have B2_7 := B2_6.gk G7 ne_2_3
       have Kp7 := Kp6.set G7 (Or.inr ge_3)
       have ks_7 := ks_6.gk2 B3_6 (by decide) G7
       have ms_7 := ms_6.gk2 B3_6 (by decide) G7
       refine tk_n rfl (ex_st h3_26 (u26.w h26_25) hr7) (B1_7) ?_
       refine tree0 (by kernel_rfl) ?_
       change Code.wp _ (Code.seq _ _) _ _ _
       refine wp_seq ?_
       refine rg_list ?_
       refine wl_p (ex_lda h3_26 (ld_agg (n := 11) (xs := #[(.int .u64 0), (.string s.title), (.string s.uri), (.float .f64 (fb s.e)), (.int .i64 s.li), (.int .i64 s.off), (.slice kva kvn kvc), (.slice mva mvn mvc), (.slice none 0 0), (.bool s.disc), (.string s.date)]) (fun _ => by kernel_rfl) (fun _ => by kernel_rfl) B3_7 rfl (fun _ _ => by rw [Nat.zero_add] <;> rfl))) F26.l fun a27 u27 (h27_27 : a27.tmps.getD 27 undef = (.agg #[(.int .u64 0), (.string s.title), (.string s.uri), (.float .f64 (fb s.e)), (.int .i64 s.li), (.int .i64 s.off), (.slice kva kvn kvc), (.slice mva mvn mvc), (.slice none 0 0), (.bool s.disc), (.string s.date)])) => ?_
       have F27 := F26.pt u27
       obtain ⟨w8, hr8, B2_8, G8⟩ := sta_run (T := 40) (cs := #[(.int .u64 0), (.string s.title), (.string s.uri), (.float .f64 (fb s.e)), (.int .i64 s.li), (.int .i64 s.off), (.slice kva kvn kvc), (.slice mva mvn mvc), (.slice none 0 0), (.bool s.disc), (.string s.date)]) (fun _ => by kernel_rfl) B2_7 rfl rfl (by simp [Value.oneCell'])
       have B1_8 := B1_7.gk G8 ne_1_2
       have B3_8 := B3_7.gk G8 (Ne.symm ne_2_3)
       have Kp8 := Kp7.set G8 (Or.inr ge_2)
       have ks_8 := ks_7.gk2 B2_7 (by decide) G8
       have ms_8 := ms_7.gk2 B2_7 (by decide) G8
       have h2_27 := u27.w (u26.w (u25.w (u24.w (u23.w (u22.w (u21.w (u20.w (u19.w (u18.w (u17.w (u16.w (u15.w (u14.w (u13.w (u12.w (u11.w (u10.w (u9.w (u8.w (u7.w (u6.w (u5.w (u4.w (u3.w h2_2))))))))))))))))))))))))
       refine wl_n (ex_st h2_27 h27_27 hr8) ?_
       change Code.wp _ _ _ _ _
       refine wp_ret ?_
       try simp only [Exit.then, Exit.inBlock]
       exact bodyPost_ret (v := .agg #[(.int .u64 0), (.string s.title), (.string s.uri), (.float .f64 (fb s.e)), (.int .i64 s.li), (.int .i64 s.off), (.slice kva kvn kvc), (.slice mva mvn mvc), (.slice none 0 0), (.bool s.disc), (.string s.date)]) (results_cell_row rfl _ _ _ _ _ _ _ h2_27 B2_8 Tryd.underlying40 rfl (by kernel_rfl)) F27.defers ⟨_, _, rfl, ks_8, ms_8, Kp8.grown⟩
     · obtain ⟨g3, hg3⟩ : ∃ g, w5.heap.size = g := ⟨_, rfl⟩
       have ne_1_3 : g1 ≠ g3 := by have := B1_5.lt; omega
       have ne_2_3 : g2 ≠ g3 := by have := B2_5.lt; omega
       have ge_3 : w0.heap.size ≤ g3 := by have := Kp5.size; omega
       obtain ⟨w6, hr6, B3_6, G6, hs6⟩ := al_run (op := Instr.alloc 40 true (.tuple #[])) (T := 40) (cs := #[(.int .u64 0), (.string ⟨#[]⟩), (.string ⟨#[]⟩), (.float .f64 0), (.int .i64 0), (.int .i64 0), (.slice none 0 0), (.slice none 0 0), (.slice none 0 0), (.bool false), (.string ⟨#[]⟩)]) hg3 (fun _ => by kernel_rfl)
       have B1_6 := B1_5.gn G6
       have B2_6 := B2_5.gn G6
       have Kp6 := Kp5.new G6
       have ks_6 := ks_5.gn G6
       have ms_6 := ms_5.gn G6
       refine tk_p rfl (ex_al hr6) (B1_6) F24.l fun a25 u25 (h3_25 : a25.tmps.getD 3 undef = (.pointer (some ⟨g3, 0, none⟩))) => ?_
       have F25 := F24.pt u25
       refine tree1 (j := 22) (by kernel_rfl) ?_
       have h5_25 := u25.w (u24.w (u23.w (u22.w (u21.w (u20.w (u19.w (u18.w (u17.w (u16.w (u15.w (u14.w (u13.w (u12.w (u11.w (u10.w (u9.w (u8.w (u7.w (u6.w (u5.w h5_4))))))))))))))))))))
       have h7_25 := u25.w (u24.w (u23.w (u22.w (u21.w (u20.w (u19.w (u18.w (u17.w (u16.w (u15.w (u14.w (u13.w (u12.w (u11.w (u10.w (u9.w (u8.w (u7.w h7_6))))))))))))))))))
       have h11_25 := u25.w (u24.w (u23.w (u22.w (u21.w (u20.w (u19.w (u18.w (u17.w (u16.w (u15.w (u14.w (u13.w (u12.w (u11.w h11_10))))))))))))))
       have h13_25 := u25.w (u24.w (u23.w (u22.w (u21.w (u20.w (u19.w (u18.w (u17.w (u16.w (u15.w (u14.w (u13.w h13_12))))))))))))
       have h15_25 := u25.w (u24.w (u23.w (u22.w (u21.w (u20.w (u19.w (u18.w (u17.w (u16.w (u15.w h15_14))))))))))
       have h17_25 := u25.w (u24.w (u23.w (u22.w (u21.w (u20.w (u19.w (u18.w (u17.w h17_16))))))))
       have h19_25 := u25.w (u24.w (u23.w (u22.w (u21.w (u20.w (u19.w h19_18))))))
       refine tk_p rfl (ex_bd (w' := w6) (vs :=  #[(1, (.string s.title)), (2, (.string s.uri)), (3, (.float .f64 (fb s.e))), (4, (.int .i64 s.li)), (5, (.int .i64 s.off)), (9, (.bool s.disc)), (10, (.string s.date)), (6, (.slice kva kvn kvc)), (7, (.slice mva mvn mvc))]) (v := (.agg #[(.int .u64 0), (.string s.title), (.string s.uri), (.float .f64 (fb s.e)), (.int .i64 s.li), (.int .i64 s.off), (.slice kva kvn kvc), (.slice mva mvn mvc), (.slice none 0 0), (.bool s.disc), (.string s.date)])) (by have e1 : a25.eval (.tmp 5) = (.string s.title) := h5_25; have e2 : a25.eval (.tmp 7) = (.string s.uri) := h7_25; have e3 : a25.eval (.tmp 11) = (.float .f64 (fb s.e)) := h11_25; have e4 : a25.eval (.tmp 13) = (.int .i64 s.li) := h13_25; have e5 : a25.eval (.tmp 15) = (.int .i64 s.off) := h15_25; have e9 : a25.eval (.tmp 17) = (.bool s.disc) := h17_25; have e10 : a25.eval (.tmp 19) = (.string s.date) := h19_25; have e6 : a25.eval (.tmp 22) = (.slice kva kvn kvc) := (u25.w (u24.w h22_23)); have e7 : a25.eval (.tmp 25) = (.slice mva mvn mvc) := (u25.w h25_24); simp only [List.map_toArray, List.map_cons, List.map_nil, e1, e2, e3, e4, e5, e9, e10, e6, e7]) (by kernel_rfl)) (B1_6) F25.l fun a26 u26 h26_26 => ?_
       have F26 := F25.pt u26
       refine tree1 (j := 24) (by kernel_rfl) ?_
       obtain ⟨w7, hr7, B3_7, G7⟩ := sta_run (T := 40) (cs := #[(.int .u64 0), (.string s.title), (.string s.uri), (.float .f64 (fb s.e)), (.int .i64 s.li), (.int .i64 s.off), (.slice kva kvn kvc), (.slice mva mvn mvc), (.slice none 0 0), (.bool s.disc), (.string s.date)]) (fun _ => by kernel_rfl) B3_6 rfl rfl (by simp [Value.oneCell'])
       have B1_7 := B1_6.gk G7 ne_1_3
       have B2_7 := B2_6.gk G7 ne_2_3
       have Kp7 := Kp6.set G7 (Or.inr ge_3)
       have ks_7 := ks_6.gk2 B3_6 (by decide) G7
       have ms_7 := ms_6.gk2 B3_6 (by decide) G7
       refine tk_n rfl (ex_st (u26.w h3_25) h26_26 hr7) (B1_7) ?_
       refine tree0 (by kernel_rfl) ?_
       change Code.wp _ (Code.seq _ _) _ _ _
       refine wp_seq ?_
       refine rg_list ?_
       refine wl_p (ex_lda (u26.w h3_25) (ld_agg (n := 11) (xs := #[(.int .u64 0), (.string s.title), (.string s.uri), (.float .f64 (fb s.e)), (.int .i64 s.li), (.int .i64 s.off), (.slice kva kvn kvc), (.slice mva mvn mvc), (.slice none 0 0), (.bool s.disc), (.string s.date)]) (fun _ => by kernel_rfl) (fun _ => by kernel_rfl) B3_7 rfl (fun _ _ => by rw [Nat.zero_add] <;> rfl))) F26.l fun a27 u27 (h27_27 : a27.tmps.getD 27 undef = (.agg #[(.int .u64 0), (.string s.title), (.string s.uri), (.float .f64 (fb s.e)), (.int .i64 s.li), (.int .i64 s.off), (.slice kva kvn kvc), (.slice mva mvn mvc), (.slice none 0 0), (.bool s.disc), (.string s.date)])) => ?_
       have F27 := F26.pt u27
       obtain ⟨w8, hr8, B2_8, G8⟩ := sta_run (T := 40) (cs := #[(.int .u64 0), (.string s.title), (.string s.uri), (.float .f64 (fb s.e)), (.int .i64 s.li), (.int .i64 s.off), (.slice kva kvn kvc), (.slice mva mvn mvc), (.slice none 0 0), (.bool s.disc), (.string s.date)]) (fun _ => by kernel_rfl) B2_7 rfl rfl (by simp [Value.oneCell'])
       have B1_8 := B1_7.gk G8 ne_1_2
       have B3_8 := B3_7.gk G8 (Ne.symm ne_2_3)
       have Kp8 := Kp7.set G8 (Or.inr ge_2)
       have ks_8 := ks_7.gk2 B2_7 (by decide) G8
       have ms_8 := ms_7.gk2 B2_7 (by decide) G8
       have h2_27 := u27.w (u26.w (u25.w (u24.w (u23.w (u22.w (u21.w (u20.w (u19.w (u18.w (u17.w (u16.w (u15.w (u14.w (u13.w (u12.w (u11.w (u10.w (u9.w (u8.w (u7.w (u6.w (u5.w (u4.w (u3.w h2_2))))))))))))))))))))))))
       refine wl_n (ex_st h2_27 h27_27 hr8) ?_
       change Code.wp _ _ _ _ _
       refine wp_ret ?_
       try simp only [Exit.then, Exit.inBlock]
       exact bodyPost_ret (v := .agg #[(.int .u64 0), (.string s.title), (.string s.uri), (.float .f64 (fb s.e)), (.int .i64 s.li), (.int .i64 s.off), (.slice kva kvn kvc), (.slice mva mvn mvc), (.slice none 0 0), (.bool s.disc), (.string s.date)]) (results_cell_row rfl _ _ _ _ _ _ _ h2_27 B2_8 Tryd.underlying40 rfl (by kernel_rfl)) F27.defers ⟨_, _, rfl, ks_8, ms_8, Kp8.grown⟩
   · obtain ⟨g3, hg3⟩ : ∃ g, w4.heap.size = g := ⟨_, rfl⟩
     have ne_1_3 : g1 ≠ g3 := by have := B1_4.lt; omega
     have ne_2_3 : g2 ≠ g3 := by have := B2_4.lt; omega
     have ge_3 : w0.heap.size ≤ g3 := by have := Kp4.size; omega
     obtain ⟨w5, hr5, B3_5, G5, hs5⟩ := al_run (op := Instr.alloc 40 true (.tuple #[])) (T := 40) (cs := #[(.int .u64 0), (.string ⟨#[]⟩), (.string ⟨#[]⟩), (.float .f64 0), (.int .i64 0), (.int .i64 0), (.slice none 0 0), (.slice none 0 0), (.slice none 0 0), (.bool false), (.string ⟨#[]⟩)]) hg3 (fun _ => by kernel_rfl)
     have B1_5 := B1_4.gn G5
     have B2_5 := B2_4.gn G5
     have Kp5 := Kp4.new G5
     have sm_5 := sm_4.gn G5
     have ks_5 := ks_4.gn G5
     refine tk_p rfl (ex_al hr5) (B1_5) F23.l fun a24 u24 (h3_24 : a24.tmps.getD 3 undef = (.pointer (some ⟨g3, 0, none⟩))) => ?_
     have F24 := F23.pt u24
     refine tree1 (j := 21) (by kernel_rfl) ?_
     refine tk_cl (args := #[(pto mp)]) (R := fun v w' => MapSl w' v s.map ∧ w5.grownBy w' none) rfl (ex_cl (fun _ _ => by kernel_rfl) (arg1 (u24.w (u23.w h24_22)))) ((toMaps_any sm_5).mono fun _ _ ⟨kv, h⟩ => ⟨_, h.1, h.2⟩) F24.l ?_
     rintro mv w6 ⟨ms_6, G6⟩
     obtain ⟨mva, mvn, mvc, rfl⟩ := MapSl.shape ms_6
     have B1_6 := B1_5.gn G6
     have B2_6 := B2_5.gn G6
     have B3_6 := B3_5.gn G6
     have Kp6 := Kp5.new G6
     have ks_6 := ks_5.gn G6
     refine ⟨B1_6, ?_⟩
     intro a25 u25 h25_25
     have F25 := F24.pt u25
     refine tree1 (j := 22) (by kernel_rfl) ?_
     have h5_25 := u25.w (u24.w (u23.w (u22.w (u21.w (u20.w (u19.w (u18.w (u17.w (u16.w (u15.w (u14.w (u13.w (u12.w (u11.w (u10.w (u9.w (u8.w (u7.w (u6.w (u5.w h5_4))))))))))))))))))))
     have h7_25 := u25.w (u24.w (u23.w (u22.w (u21.w (u20.w (u19.w (u18.w (u17.w (u16.w (u15.w (u14.w (u13.w (u12.w (u11.w (u10.w (u9.w (u8.w (u7.w h7_6))))))))))))))))))
     have h11_25 := u25.w (u24.w (u23.w (u22.w (u21.w (u20.w (u19.w (u18.w (u17.w (u16.w (u15.w (u14.w (u13.w (u12.w (u11.w h11_10))))))))))))))
     have h13_25 := u25.w (u24.w (u23.w (u22.w (u21.w (u20.w (u19.w (u18.w (u17.w (u16.w (u15.w (u14.w (u13.w h13_12))))))))))))
     have h15_25 := u25.w (u24.w (u23.w (u22.w (u21.w (u20.w (u19.w (u18.w (u17.w (u16.w (u15.w h15_14))))))))))
     have h17_25 := u25.w (u24.w (u23.w (u22.w (u21.w (u20.w (u19.w (u18.w (u17.w h17_16))))))))
     have h19_25 := u25.w (u24.w (u23.w (u22.w (u21.w (u20.w (u19.w h19_18))))))
     refine tk_p rfl (ex_bd (w' := w6) (vs :=  #[(1, (.string s.title)), (2, (.string s.uri)), (3, (.float .f64 (fb s.e))), (4, (.int .i64 s.li)), (5, (.int .i64 s.off)), (9, (.bool s.disc)), (10, (.string s.date)), (6, (.slice kva kvn kvc)), (7, (.slice mva mvn mvc))]) (v := (.agg #[(.int .u64 0), (.string s.title), (.string s.uri), (.float .f64 (fb s.e)), (.int .i64 s.li), (.int .i64 s.off), (.slice kva kvn kvc), (.slice mva mvn mvc), (.slice none 0 0), (.bool s.disc), (.string s.date)])) (by have e1 : a25.eval (.tmp 5) = (.string s.title) := h5_25; have e2 : a25.eval (.tmp 7) = (.string s.uri) := h7_25; have e3 : a25.eval (.tmp 11) = (.float .f64 (fb s.e)) := h11_25; have e4 : a25.eval (.tmp 13) = (.int .i64 s.li) := h13_25; have e5 : a25.eval (.tmp 15) = (.int .i64 s.off) := h15_25; have e9 : a25.eval (.tmp 17) = (.bool s.disc) := h17_25; have e10 : a25.eval (.tmp 19) = (.string s.date) := h19_25; have e6 : a25.eval (.tmp 22) = (.slice kva kvn kvc) := (u25.w (u24.w h22_23)); have e7 : a25.eval (.tmp 25) = (.slice mva mvn mvc) := h25_25; simp only [List.map_toArray, List.map_cons, List.map_nil, e1, e2, e3, e4, e5, e9, e10, e6, e7]) (by kernel_rfl)) (B1_6) F25.l fun a26 u26 h26_26 => ?_
     have F26 := F25.pt u26
     refine tree1 (j := 24) (by kernel_rfl) ?_
     obtain ⟨w7, hr7, B3_7, G7⟩ := sta_run (T := 40) (cs := #[(.int .u64 0), (.string s.title), (.string s.uri), (.float .f64 (fb s.e)), (.int .i64 s.li), (.int .i64 s.off), (.slice kva kvn kvc), (.slice mva mvn mvc), (.slice none 0 0), (.bool s.disc), (.string s.date)]) (fun _ => by kernel_rfl) B3_6 rfl rfl (by simp [Value.oneCell'])
     have B1_7 := B1_6.gk G7 ne_1_3
     have B2_7 := B2_6.gk G7 ne_2_3
     have Kp7 := Kp6.set G7 (Or.inr ge_3)
     have ks_7 := ks_6.gk2 B3_6 (by decide) G7
     have ms_7 := ms_6.gk2 B3_6 (by decide) G7
     refine tk_n rfl (ex_st (u26.w (u25.w h3_24)) h26_26 hr7) (B1_7) ?_
     refine tree0 (by kernel_rfl) ?_
     change Code.wp _ (Code.seq _ _) _ _ _
     refine wp_seq ?_
     refine rg_list ?_
     refine wl_p (ex_lda (u26.w (u25.w h3_24)) (ld_agg (n := 11) (xs := #[(.int .u64 0), (.string s.title), (.string s.uri), (.float .f64 (fb s.e)), (.int .i64 s.li), (.int .i64 s.off), (.slice kva kvn kvc), (.slice mva mvn mvc), (.slice none 0 0), (.bool s.disc), (.string s.date)]) (fun _ => by kernel_rfl) (fun _ => by kernel_rfl) B3_7 rfl (fun _ _ => by rw [Nat.zero_add] <;> rfl))) F26.l fun a27 u27 (h27_27 : a27.tmps.getD 27 undef = (.agg #[(.int .u64 0), (.string s.title), (.string s.uri), (.float .f64 (fb s.e)), (.int .i64 s.li), (.int .i64 s.off), (.slice kva kvn kvc), (.slice mva mvn mvc), (.slice none 0 0), (.bool s.disc), (.string s.date)])) => ?_
     have F27 := F26.pt u27
     obtain ⟨w8, hr8, B2_8, G8⟩ := sta_run (T := 40) (cs := #[(.int .u64 0), (.string s.title), (.string s.uri), (.float .f64 (fb s.e)), (.int .i64 s.li), (.int .i64 s.off), (.slice kva kvn kvc), (.slice mva mvn mvc), (.slice none 0 0), (.bool s.disc), (.string s.date)]) (fun _ => by kernel_rfl) B2_7 rfl rfl (by simp [Value.oneCell'])
     have B1_8 := B1_7.gk G8 ne_1_2
     have B3_8 := B3_7.gk G8 (Ne.symm ne_2_3)
     have Kp8 := Kp7.set G8 (Or.inr ge_2)
     have ks_8 := ks_7.gk2 B2_7 (by decide) G8
     have ms_8 := ms_7.gk2 B2_7 (by decide) G8
     have h2_27 := u27.w (u26.w (u25.w (u24.w (u23.w (u22.w (u21.w (u20.w (u19.w (u18.w (u17.w (u16.w (u15.w (u14.w (u13.w (u12.w (u11.w (u10.w (u9.w (u8.w (u7.w (u6.w (u5.w (u4.w (u3.w h2_2))))))))))))))))))))))))
     refine wl_n (ex_st h2_27 h27_27 hr8) ?_
     change Code.wp _ _ _ _ _
     refine wp_ret ?_
     try simp only [Exit.then, Exit.inBlock]
     exact bodyPost_ret (v := .agg #[(.int .u64 0), (.string s.title), (.string s.uri), (.float .f64 (fb s.e)), (.int .i64 s.li), (.int .i64 s.off), (.slice kva kvn kvc), (.slice mva mvn mvc), (.slice none 0 0), (.bool s.disc), (.string s.date)]) (results_cell_row rfl _ _ _ _ _ _ _ h2_27 B2_8 Tryd.underlying40 rfl (by kernel_rfl)) F27.defers ⟨_, _, rfl, ks_8, ms_8, Kp8.grown⟩
 · obtain ⟨g3, hg3⟩ : ∃ g, w3.heap.size = g := ⟨_, rfl⟩
   have ne_1_3 : g1 ≠ g3 := by have := B1_3.lt; omega
   have ne_2_3 : g2 ≠ g3 := by have := B2_3.lt; omega
   have ge_3 : w0.heap.size ≤ g3 := by have := Kp3.size; omega
   obtain ⟨w4, hr4, B3_4, G4, hs4⟩ := al_run (op := Instr.alloc 40 true (.tuple #[])) (T := 40) (cs := #[(.int .u64 0), (.string ⟨#[]⟩), (.string ⟨#[]⟩), (.float .f64 0), (.int .i64 0), (.int .i64 0), (.slice none 0 0), (.slice none 0 0), (.slice none 0 0), (.bool false), (.string ⟨#[]⟩)]) hg3 (fun _ => by kernel_rfl)
   have B1_4 := B1_3.gn G4
   have B2_4 := B2_3.gn G4
   have Kp4 := Kp3.new G4
   have sk_4 := sk_3.gn G4
   have sm_4 := sm_3.gn G4
   refine tk_p rfl (ex_al hr4) (B1_4) F22.l fun a23 u23 (h3_23 : a23.tmps.getD 3 undef = (.pointer (some ⟨g3, 0, none⟩))) => ?_
   have F23 := F22.pt u23
   refine tree1 (j := 18) (by kernel_rfl) ?_
   have h21_23 := u23.w (u22.w (u21.w h21_20))
   refine tk_cl (args := #[(pto kp)]) (R := fun v w' => KeySl w' v s.key ∧ w4.grownBy w' none) rfl (ex_cl (fun _ _ => by kernel_rfl) (arg1 h21_23)) ((toKeys_any sk_4).mono fun _ _ ⟨kv, h⟩ => ⟨_, h.1, h.2⟩) F23.l ?_
   rintro kv w5 ⟨ks_5, G5⟩
   obtain ⟨kva, kvn, kvc, rfl⟩ := KeySl.shape ks_5
   have B1_5 := B1_4.gn G5
   have B2_5 := B2_4.gn G5
   have B3_5 := B3_4.gn G5
   have Kp5 := Kp4.new G5
   have sm_5 := sm_4.gn G5
   refine ⟨B1_5, ?_⟩
   intro a24 u24 h22_24
   have F24 := F23.pt u24
   refine tree1 (j := 21) (by kernel_rfl) ?_
   refine tk_cl (args := #[(pto mp)]) (R := fun v w' => MapSl w' v s.map ∧ w5.grownBy w' none) rfl (ex_cl (fun _ _ => by kernel_rfl) (arg1 (u24.w (u23.w h24_22)))) ((toMaps_any sm_5).mono fun _ _ ⟨kv, h⟩ => ⟨_, h.1, h.2⟩) F24.l ?_
   rintro mv w6 ⟨ms_6, G6⟩
   obtain ⟨mva, mvn, mvc, rfl⟩ := MapSl.shape ms_6
   have B1_6 := B1_5.gn G6
   have B2_6 := B2_5.gn G6
   have B3_6 := B3_5.gn G6
   have Kp6 := Kp5.new G6
   have ks_6 := ks_5.gn G6
   refine ⟨B1_6, ?_⟩
   intro a25 u25 h25_25
   have F25 := F24.pt u25
   refine tree1 (j := 22) (by kernel_rfl) ?_
   have h5_25 := u25.w (u24.w (u23.w (u22.w (u21.w (u20.w (u19.w (u18.w (u17.w (u16.w (u15.w (u14.w (u13.w (u12.w (u11.w (u10.w (u9.w (u8.w (u7.w (u6.w (u5.w h5_4))))))))))))))))))))
   have h7_25 := u25.w (u24.w (u23.w (u22.w (u21.w (u20.w (u19.w (u18.w (u17.w (u16.w (u15.w (u14.w (u13.w (u12.w (u11.w (u10.w (u9.w (u8.w (u7.w h7_6))))))))))))))))))
   have h11_25 := u25.w (u24.w (u23.w (u22.w (u21.w (u20.w (u19.w (u18.w (u17.w (u16.w (u15.w (u14.w (u13.w (u12.w (u11.w h11_10))))))))))))))
   have h13_25 := u25.w (u24.w (u23.w (u22.w (u21.w (u20.w (u19.w (u18.w (u17.w (u16.w (u15.w (u14.w (u13.w h13_12))))))))))))
   have h15_25 := u25.w (u24.w (u23.w (u22.w (u21.w (u20.w (u19.w (u18.w (u17.w (u16.w (u15.w h15_14))))))))))
   have h17_25 := u25.w (u24.w (u23.w (u22.w (u21.w (u20.w (u19.w (u18.w (u17.w h17_16))))))))
   have h19_25 := u25.w (u24.w (u23.w (u22.w (u21.w (u20.w (u19.w h19_18))))))
   refine tk_p rfl (ex_bd (w' := w6) (vs :=  #[(1, (.string s.title)), (2, (.string s.uri)), (3, (.float .f64 (fb s.e))), (4, (.int .i64 s.li)), (5, (.int .i64 s.off)), (9, (.bool s.disc)), (10, (.string s.date)), (6, (.slice kva kvn kvc)), (7, (.slice mva mvn mvc))]) (v := (.agg #[(.int .u64 0), (.string s.title), (.string s.uri), (.float .f64 (fb s.e)), (.int .i64 s.li), (.int .i64 s.off), (.slice kva kvn kvc), (.slice mva mvn mvc), (.slice none 0 0), (.bool s.disc), (.string s.date)])) (by have e1 : a25.eval (.tmp 5) = (.string s.title) := h5_25; have e2 : a25.eval (.tmp 7) = (.string s.uri) := h7_25; have e3 : a25.eval (.tmp 11) = (.float .f64 (fb s.e)) := h11_25; have e4 : a25.eval (.tmp 13) = (.int .i64 s.li) := h13_25; have e5 : a25.eval (.tmp 15) = (.int .i64 s.off) := h15_25; have e9 : a25.eval (.tmp 17) = (.bool s.disc) := h17_25; have e10 : a25.eval (.tmp 19) = (.string s.date) := h19_25; have e6 : a25.eval (.tmp 22) = (.slice kva kvn kvc) := (u25.w h22_24); have e7 : a25.eval (.tmp 25) = (.slice mva mvn mvc) := h25_25; simp only [List.map_toArray, List.map_cons, List.map_nil, e1, e2, e3, e4, e5, e9, e10, e6, e7]) (by kernel_rfl)) (B1_6) F25.l fun a26 u26 h26_26 => ?_
   have F26 := F25.pt u26
   refine tree1 (j := 24) (by kernel_rfl) ?_
   obtain ⟨w7, hr7, B3_7, G7⟩ := sta_run (T := 40) (cs := #[(.int .u64 0), (.string s.title), (.string s.uri), (.float .f64 (fb s.e)), (.int .i64 s.li), (.int .i64 s.off), (.slice kva kvn kvc), (.slice mva mvn mvc), (.slice none 0 0), (.bool s.disc), (.string s.date)]) (fun _ => by kernel_rfl) B3_6 rfl rfl (by simp [Value.oneCell'])
   have B1_7 := B1_6.gk G7 ne_1_3
   have B2_7 := B2_6.gk G7 ne_2_3
   have Kp7 := Kp6.set G7 (Or.inr ge_3)
   have ks_7 := ks_6.gk2 B3_6 (by decide) G7
   have ms_7 := ms_6.gk2 B3_6 (by decide) G7
   have h3_26 := u26.w (u25.w (u24.w h3_23))
   refine tk_n rfl (ex_st h3_26 h26_26 hr7) (B1_7) ?_
   refine tree0 (by kernel_rfl) ?_
   change Code.wp _ (Code.seq _ _) _ _ _
   refine wp_seq ?_
   refine rg_list ?_
   refine wl_p (ex_lda h3_26 (ld_agg (n := 11) (xs := #[(.int .u64 0), (.string s.title), (.string s.uri), (.float .f64 (fb s.e)), (.int .i64 s.li), (.int .i64 s.off), (.slice kva kvn kvc), (.slice mva mvn mvc), (.slice none 0 0), (.bool s.disc), (.string s.date)]) (fun _ => by kernel_rfl) (fun _ => by kernel_rfl) B3_7 rfl (fun _ _ => by rw [Nat.zero_add] <;> rfl))) F26.l fun a27 u27 (h27_27 : a27.tmps.getD 27 undef = (.agg #[(.int .u64 0), (.string s.title), (.string s.uri), (.float .f64 (fb s.e)), (.int .i64 s.li), (.int .i64 s.off), (.slice kva kvn kvc), (.slice mva mvn mvc), (.slice none 0 0), (.bool s.disc), (.string s.date)])) => ?_
   have F27 := F26.pt u27
   obtain ⟨w8, hr8, B2_8, G8⟩ := sta_run (T := 40) (cs := #[(.int .u64 0), (.string s.title), (.string s.uri), (.float .f64 (fb s.e)), (.int .i64 s.li), (.int .i64 s.off), (.slice kva kvn kvc), (.slice mva mvn mvc), (.slice none 0 0), (.bool s.disc), (.string s.date)]) (fun _ => by kernel_rfl) B2_7 rfl rfl (by simp [Value.oneCell'])
   have B1_8 := B1_7.gk G8 ne_1_2
   have B3_8 := B3_7.gk G8 (Ne.symm ne_2_3)
   have Kp8 := Kp7.set G8 (Or.inr ge_2)
   have ks_8 := ks_7.gk2 B2_7 (by decide) G8
   have ms_8 := ms_7.gk2 B2_7 (by decide) G8
   have h2_27 := u27.w (u26.w (u25.w (u24.w (u23.w (u22.w (u21.w (u20.w (u19.w (u18.w (u17.w (u16.w (u15.w (u14.w (u13.w (u12.w (u11.w (u10.w (u9.w (u8.w (u7.w (u6.w (u5.w (u4.w (u3.w h2_2))))))))))))))))))))))))
   refine wl_n (ex_st h2_27 h27_27 hr8) ?_
   change Code.wp _ _ _ _ _
   refine wp_ret ?_
   try simp only [Exit.then, Exit.inBlock]
   exact bodyPost_ret (v := .agg #[(.int .u64 0), (.string s.title), (.string s.uri), (.float .f64 (fb s.e)), (.int .i64 s.li), (.int .i64 s.off), (.slice kva kvn kvc), (.slice mva mvn mvc), (.slice none 0 0), (.bool s.disc), (.string s.date)]) (results_cell_row rfl _ _ _ _ _ _ _ h2_27 B2_8 Tryd.underlying40 rfl (by kernel_rfl)) F27.defers ⟨_, _, rfl, ks_8, ms_8, Kp8.grown⟩
end
end Go.Proofs.YtdpebhlkgmopkaaDoor
