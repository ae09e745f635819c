/-
  Writing into a playlist's buffer (a bytes.Buffer in a field): what each write adds; all else stays.
-/
import Derived.Test.YtlphcidpaidclaaGreatDoorBas
import Derived.Test.YtlphcidpaidclaaGreatDoorShelf
import Derived.Outline
namespace Go.Proofs.YtlphcidpaidclaaGreatDoor
open Go.RowKit

/-- the buffer in field 17 of block b holds the text l; its struct's other fields read as R says; since w0 nothing below B has changed, nor another block that is no row of bytes -/
structure Enc (B b : Nat) (R : Nat → Option Value) (w0 : World) (l : List UInt8) (w : World) : Prop where
  buf : LibA.IsBuffer 70 R 5 B b 17 (Lib.byteCells l) w
  bel : Below B w0 w
  oth : Lib.OthersKept 5 (some b) w0 w
  low : B ≤ w.heap.size

variable {B b : Nat} {R : Nat → Option Value} {w0 w : World} {l : List UInt8}

theorem Enc.cell (h : Enc B b R w0 l w) (i : Nat) (hi : i < 17 ∨ 20 ≤ i) : w.cell? ⟨b, i, none⟩ = R i := h.buf.rest i (by omega)
theorem Enc.frozen (h : Enc B b R w0 l w) (i : Nat) : w.frozen? ⟨b, i, none⟩ = false := h.buf.notFrozen i
theorem Enc.block (h : Enc B b R w0 l w) {k : Nat} {c : Array Value} {T : TypeId} (hk : w0.heap[k]? = some (.cells c T (0, 0))) (hb : k ≠ b) (hT : T ≠ 5) : w.heap[k]? = some (.cells c T (0, 0)) :=
  h.oth k _ hk (fun e => hb (Option.some.inj e)) (fun c' fz e => hT (by cases e; rfl))
theorem byteCells_app (l m : List UInt8) : Lib.byteCells (l ++ m) = Lib.byteCells l ++ Lib.byteCells m := by simp [Lib.byteCells]
theorem byteCells_one (l : List UInt8) : ∀ v ∈ Lib.byteCells l, v.oneCell' = true := by
  intro v hv
  simp only [Lib.byteCells, List.mem_map] at hv
  obtain ⟨x, _, rfl⟩ := hv
  rfl
theorem Enc.start (hB : B ≤ w.heap.size) (h : LibA.IsBuffer 70 R 5 B b 17 [] w) : Enc B b R w [] w := ⟨h, Below.refl _ _, Lib.OthersKept.refl _ _ _, hB⟩
theorem Enc.drewN (h : Enc B b R w0 l w) (n : Nat) : Enc B b R w0 l (w.drewN n) := ⟨h.buf.drewN n, h.bel.trans ⟨rfl, rfl, rfl, Nat.le_refl _, fun _ _ => rfl⟩, h.oth, h.low⟩
theorem Enc.drew (h : Enc B b R w0 l w) : Enc B b R w0 l w.drew := ⟨h.buf.drew, h.bel.drew, h.oth.drew, h.low⟩

theorem enc_ws (s : ByteArray) (h : Enc B b R w0 l w) (hl : l.length + s.size ≤ 140737488355328) :
    Calls Tryz.prog 46 #[.pointer (some ⟨b, 17, none⟩), .string s] w fun e w' => e = .returned (.tuple #[.int .i64 s.size, .nilIface]) ∧ Enc B b R w0 (l ++ s.data.toList) w' := by
  refine (Any.Buffer_WriteString_at Tryz.bufWS 70 R B b 17 (Lib.byteCells l) s w h.buf h.low (byteCells_one l) (by rw [Lib.byteCells_length]; exact hl)).mono ?_
  rintro e w' ⟨rfl, hI, hB, hO⟩
  refine ⟨rfl, by rw [byteCells_app]; exact hI, h.bel.trans hB, h.oth.trans hO, Nat.le_trans h.low hB.size⟩

theorem enc_wb (c : UInt8) (h : Enc B b R w0 l w) (hl : l.length + 1 ≤ 140737488355328) :
    Calls Tryz.prog 55 #[.pointer (some ⟨b, 17, none⟩), .int .u8 c.toNat] w fun e w' => e = .returned .nilIface ∧ Enc B b R w0 (l ++ [c]) w' := by
  refine (Any.Buffer_WriteByte_at Tryz.bufWB 70 R B b 17 (Lib.byteCells l) c.toNat w h.buf h.low (byteCells_one l) (by rw [Lib.byteCells_length]; exact hl)).mono ?_
  rintro e w' ⟨rfl, hI, hB, hO⟩
  refine ⟨rfl, by rw [byteCells_app]; exact hI, h.bel.trans hB, h.oth.trans hO, Nat.le_trans h.low hB.size⟩

theorem enc_len (h : Enc B b R w0 l w) :
    Calls Tryz.prog 45 #[.pointer (some ⟨b, 17, none⟩)] w fun e w' => e = .returned (.int .i64 l.length) ∧ Enc B b R w0 l w' := by
  refine (Any.Buffer_Len_at Tryz.bufLen 70 R B b 17 (Lib.byteCells l) w h.buf).mono ?_
  rintro e w' ⟨rfl, n, rfl⟩
  exact ⟨by rw [Lib.byteCells_length], h.drewN n⟩

theorem enc_str (h : Enc B b R w0 l w) :
    Calls Tryz.prog 36 #[.pointer (some ⟨b, 17, none⟩)] w fun e w' => e = .returned (.string (bs l)) ∧ Enc B b R w0 l w' := by
  refine (Any.Buffer_String_at Tryz.bufStr 70 R B b 17 l w h.buf).mono ?_
  rintro e w' ⟨rfl, n, rfl⟩
  exact ⟨rfl, h.drewN n⟩

set_option maxRecDepth 100000 in
theorem enc_wr (c : UInt8) (h : Enc B b R w0 l w) (hc : c.toNat < 128) (hl : l.length + 1 ≤ 140737488355328) :
    Calls Tryz.prog 48 #[.pointer (some ⟨b, 17, none⟩), .int .i32 c.toNat] w fun e w' => e = .returned (.tuple #[.int .i64 1, .nilIface]) ∧ Enc B b R w0 (l ++ [c]) w' := by
  have hc' : (c.toNat : Int) < 128 := by omega
  have H := Lib.hid h
  clear h
  generalize hn : (c.toNat : Int) = n at *
  have HN := Lib.hid hn
  have hn0 : 0 ≤ n := by omega
  clear hn hc
  go_enter Tryz.func48, Tryz.ntmps48
  go_wp2_with fail
  rw [← HN.out]
  refine (enc_wb c H.out hl).mono ?_
  rintro e w' ⟨rfl, hE⟩
  have HE := Lib.hid hE
  clear hE
  go_wp2_with fail
  go_ret2
  exact ⟨rfl, HE.out⟩

/-- .. with the text under a name and its length bounded -/
theorem enc_wsN (n k : Nat) (s : ByteArray) (h : Enc B b R w0 l w) (hl : l.length ≤ n) (hs : s.size ≤ k) (hnk : n + k ≤ 1000000) :
    Calls Tryz.prog 46 #[.pointer (some ⟨b, 17, none⟩), .string s] w fun e w' => e = .returned (.tuple #[.int .i64 s.size, .nilIface]) ∧ ∃ l', Hid (l' = l ++ s.data.toList) ∧ l'.length ≤ n + k ∧ Enc B b R w0 l' w' := by
  refine (enc_ws s h (by omega)).mono ?_
  rintro e w' ⟨rfl, hE⟩
  refine ⟨rfl, _, Lib.hid rfl, ?_, hE⟩
  have : s.data.toList.length = s.size := Array.length_toList
  rw [List.length_append]; omega
theorem enc_wrN (n : Nat) (c : UInt8) (h : Enc B b R w0 l w) (hc : c.toNat < 128) (hl : l.length ≤ n) (hnk : n + 1 ≤ 1000000) :
    Calls Tryz.prog 48 #[.pointer (some ⟨b, 17, none⟩), .int .i32 c.toNat] w fun e w' => e = .returned (.tuple #[.int .i64 1, .nilIface]) ∧ ∃ l', Hid (l' = l ++ [c]) ∧ l'.length ≤ n + 1 ∧ Enc B b R w0 l' w' := by
  refine (enc_wr c h hc (by omega)).mono ?_
  rintro e w' ⟨rfl, hE⟩
  exact ⟨rfl, _, Lib.hid rfl, by simp; omega, hE⟩

theorem Enc.rebase (h : Enc B b R w0 l w) : Enc B b R w l w := ⟨h.buf, Below.refl _ _, Lib.OthersKept.refl _ _ _, h.low⟩
theorem Enc.alloc (h : Enc B b R w0 l w) (o : Obj) : Enc B b R w0 l (w.alloc o) := ⟨h.buf.alloc o, h.bel.alloc h.low o, h.oth.alloc o, by have := h.low; simp; omega⟩
/-- a block that is a map is put anew -/
theorem Enc.turned (h : Enc B b R w0 l w) {w' : World} {r : Nat} {es : Array MapEntry} {n : Nat} (hr : w.heap[r]? = some (.map es n)) (hrB : B ≤ r) (hrb : r ≠ b) (hg : w.grownBy w' (some r)) : Enc B b R w' l w' := by
  obtain ⟨hB, v, lr, hbk, hown, hne⟩ := h.buf
  refine ⟨⟨hB, v, lr, hbk.of_heap (hg.block b hbk.lt (fun e => hrb (Option.some.inj e).symm)), hown.kept hg (Or.inr ?_), hne⟩, Below.refl _ _, Lib.OthersKept.refl _ _ _, Nat.le_trans h.low hg.size⟩
  rcases hown.2 with ⟨rfl, _⟩ | ⟨g, cap, cur, rfl, _, hgc, _⟩
  · simp [Value.ownBlock]
  · simp only [Value.ownBlock, ne_eq, Option.some.injEq]
    intro e
    rw [e, hr] at hgc
    cases hgc
end Go.Proofs.YtlphcidpaidclaaGreatDoor
