/-
  impl.WriteMedia of one segment with whole durations.
-/
import Derived.Test.YtlphcidpaidclaaGreatDoorWri
namespace Go.Proofs.YtlphcidpaidclaaGreatDoor
open Go.RowKit
set_option maxRecDepth 100000

/-- what FnWhole expects, as bytes -/
def whoL (u : Nat) (t : ByteArray) : List UInt8 :=
  [35, 69, 88, 84, 77, 51, 85, 10, 35, 69, 88, 84, 45, 88, 45, 86, 69, 82, 83, 73, 79, 78, 58, 51, 10, 35, 69, 88, 84, 45, 88, 45, 77, 69, 68, 73, 65, 45, 83, 69, 81, 85, 69, 78, 67, 69, 58, 48, 10, 35, 69, 88, 84, 45, 88, 45, 84, 65, 82, 71, 69, 84, 68, 85, 82, 65, 84, 73, 79, 78, 58] ++ Lib.decDigits u ++ [10, 35, 69, 88, 84, 73, 78, 70, 58] ++ Lib.decDigits u ++ [44] ++ t.data.toList ++ [10, 97, 46, 116, 115, 10]
def whoS (m : Nat) (t : ByteArray) : SegD := ⟨t, ⟨#[97, 46, 116, 115]⟩, m, 0, 0, none, none, false, ⟨#[]⟩⟩
theorem dd0 : Lib.decDigits 0 = [48] := by rw [Lib.decDigits]; simp
theorem dd3 : Lib.decDigits 3 = [51] := by rw [Lib.decDigits]; simp
theorem enc_who (m : Nat) (t : ByteArray) (g : Nat) (kp mp : Option Nat) (h : mp.isNone = true) :
    encT ⟨tmax 0 [whoS m t], 0, g, false, false, 0, 0, 0, false, true, 0, 1, 1 % 1, 1, 3, kp, mp⟩ none none [whoS m t] = whoL ((m + 7) / 8) t := by
  have h1 : tmax 0 [whoS m t] = (m + 7) / 8 := by simp [tmax, whoS]
  have e1 : strNe ⟨#[]⟩ ⟨#[]⟩ = false := by simp [strNe]
  rw [h1]
  simp [encT, segsT, headT, rdT, nWrit, tx_171, tx_61, tx_57, tx_51, tx_37, optT, segT1, segT4, segMapT, tx_132, tx_145, tx_149, whoS, durT, whoL, h, dd0, dd3, e1]
theorem bs_app (a b : List UInt8) : bs (a ++ b) = bs a ++ bs b := by
  apply ByteArray.ext
  rw [ByteArray.data_append]
  simp [bs]
theorem bs_who (u : Nat) (t : ByteArray) : bs (whoL u t) = (⟨#[35, 69, 88, 84, 77, 51, 85, 10, 35, 69, 88, 84, 45, 88, 45, 86, 69, 82, 83, 73, 79, 78, 58, 51, 10, 35, 69, 88, 84, 45, 88, 45, 77, 69, 68, 73, 65, 45, 83, 69, 81, 85, 69, 78, 67, 69, 58, 48, 10, 35, 69, 88, 84, 45, 88, 45, 84, 65, 82, 71, 69, 84, 68, 85, 82, 65, 84, 73, 79, 78, 58]⟩ : ByteArray) ++ bs (Lib.decDigits u) ++ ⟨#[10, 35, 69, 88, 84, 73, 78, 70, 58]⟩ ++ bs (Lib.decDigits u) ++ ⟨#[44]⟩ ++ t ++ ⟨#[10, 97, 46, 116, 115, 10]⟩ := by
  unfold whoL
  simp only [bs_app]
theorem wm_one {m : Nat} {t : ByteArray} {g : Nat} {w : World} (hm : m < 4000) (ht : t.size ≤ 40)
    (hg : Blk w g 30 #[.int .u64 0, .string t, .string ⟨#[97, 46, 116, 115]⟩, .float .f64 (fb m), .int .i64 0, .int .i64 0, .slice none 0 0, .slice none 0 0, .slice none 0 0, .bool false, .string ⟨#[]⟩])
    (htab : TabP w) (hgt : 3 < w.heap.size) :
    Calls Tryz.prog 7 #[.agg #[.float .f64 0, .int .u64 0, .slice (some ⟨g, 0, none⟩) 1 1, .string ⟨#[]⟩, .bool false, .bool false, .int .i64 0, .int .u64 0, .float .f64 0, .bool false, .int .i64 3, .slice none 0 0, .slice none 0 0, .int .i64 0], .bool true] w
      fun e w' => e = .returned (.tuple #[.string (bs (whoL ((m + 7) / 8) t)), .bool true]) ∧ Below w.heap.size w w' := by
  have hsv : SegSl w (.slice (some ⟨g, 0, none⟩) 1 1) [whoS m t] := SegSl.mk (segs := [whoS m t]) (c := 1) hg (Nat.le_refl _) fun i s hs => by
    cases i with
    | zero =>
      obtain rfl : whoS m t = s := by simpa using hs
      exact ⟨.slice none 0 0, .slice none 0 0, fun k _ => by rw [Nat.mul_zero, Nat.zero_add]; rfl, .nil, .nil⟩
    | succ i => simp at hs
  have h := wm_any (T := 0) (seq := 0) (ty := 0) (dsq := 0) (st := 0) (ver := 3) (win := 0) (cap := 1) (ifr := false) (clo := false) (pre := false) (wh := true) (sv := .slice (some ⟨g, 0, none⟩) 1 1) (kv := .slice none 0 0) (mv := .slice none 0 0) (segs := [whoS m t]) (key := none) (map := none) (w0 := w)
    hsv .nil .nil (by simp) rfl (by omega) (by omega) (by omega) (by omega) (by omega) (Or.inl rfl) (by omega)
    (fun j hj => by
      obtain rfl : j = 0 := by simpa using hj
      simp [tmax])
    (by simp [tmax, whoS]; omega) (fun s hs => by
      obtain rfl : s = whoS m t := by simpa using hs
      exact hm)
    (fun s hs => by
      obtain rfl : s = whoS m t := by simpa using hs
      exact ⟨⟨ht, by show (4 : Nat) ≤ 40; omega, by show (0 : Nat) ≤ 40; omega, by show (0 : Nat) < _; omega, by show (0 : Nat) < _; omega, (fun k hk => by cases hk), (fun k hk => by cases hk)⟩, Or.inl ⟨rfl, hm⟩⟩) (Or.inl rfl) htab hgt
  refine h.mono ?_
  rintro e w' ⟨gg, kp, mp, hmp, rfl, hB⟩
  refine ⟨?_, hB⟩
  rw [← enc_who m t gg kp mp hmp]
  rfl
theorem wm_at {m : Nat} {t : ByteArray} {w : World} (htab : TabP w) (hgt : 3 < w.heap.size) (hm : m < 4000) (ht : t.size ≤ 40) :
    Calls Tryz.prog 7 #[.agg #[.float .f64 0, .int .u64 0, .slice (some ⟨w.heap.size + 1, 0, none⟩) 1 1, .string ⟨#[]⟩, .bool false, .bool false, .int .i64 0, .int .u64 0, .float .f64 0, .bool false, .int .i64 3, .slice none 0 0, .slice none 0 0, .int .i64 0], .bool true]
      ((w.alloc (Obj.cells #[.int .u64 0, .string t, .string ⟨#[97, 46, 116, 115]⟩, .float .f64 (fb m), .int .i64 0, .int .i64 0, .slice none 0 0, .slice none 0 0, .slice none 0 0, .bool false, .string ⟨#[]⟩] 30)).alloc (Obj.cells #[.int .u64 0, .string t, .string ⟨#[97, 46, 116, 115]⟩, .float .f64 (fb m), .int .i64 0, .int .i64 0, .slice none 0 0, .slice none 0 0, .slice none 0 0, .bool false, .string ⟨#[]⟩] 30))
      fun e w' => e = .returned (.tuple #[.string (bs (whoL ((m + 7) / 8) t)), .bool true]) ∧ Below w.heap.size w w' := by
  have h1 := grown_alloc w (Obj.cells #[.int .u64 0, .string t, .string ⟨#[97, 46, 116, 115]⟩, .float .f64 (fb m), .int .i64 0, .int .i64 0, .slice none 0 0, .slice none 0 0, .slice none 0 0, .bool false, .string ⟨#[]⟩] 30)
  have hs : (w.alloc (Obj.cells #[.int .u64 0, .string t, .string ⟨#[97, 46, 116, 115]⟩, .float .f64 (fb m), .int .i64 0, .int .i64 0, .slice none 0 0, .slice none 0 0, .slice none 0 0, .bool false, .string ⟨#[]⟩] 30)).heap.size = w.heap.size + 1 := by simp
  generalize w.alloc (Obj.cells #[.int .u64 0, .string t, .string ⟨#[97, 46, 116, 115]⟩, .float .f64 (fb m), .int .i64 0, .int .i64 0, .slice none 0 0, .slice none 0 0, .slice none 0 0, .bool false, .string ⟨#[]⟩] 30) = w1 at *
  have h2 := grown_alloc w1 (Obj.cells #[.int .u64 0, .string t, .string ⟨#[97, 46, 116, 115]⟩, .float .f64 (fb m), .int .i64 0, .int .i64 0, .slice none 0 0, .slice none 0 0, .slice none 0 0, .bool false, .string ⟨#[]⟩] 30)
  have hs2 : (w1.alloc (Obj.cells #[.int .u64 0, .string t, .string ⟨#[97, 46, 116, 115]⟩, .float .f64 (fb m), .int .i64 0, .int .i64 0, .slice none 0 0, .slice none 0 0, .slice none 0 0, .bool false, .string ⟨#[]⟩] 30)).heap.size = w.heap.size + 2 := by simp [hs]
  have hb : Blk (w1.alloc (Obj.cells #[.int .u64 0, .string t, .string ⟨#[97, 46, 116, 115]⟩, .float .f64 (fb m), .int .i64 0, .int .i64 0, .slice none 0 0, .slice none 0 0, .slice none 0 0, .bool false, .string ⟨#[]⟩] 30)) (w.heap.size + 1) 30 _ := Blk.new hs.symm
  generalize w1.alloc (Obj.cells #[.int .u64 0, .string t, .string ⟨#[97, 46, 116, 115]⟩, .float .f64 (fb m), .int .i64 0, .int .i64 0, .slice none 0 0, .slice none 0 0, .slice none 0 0, .bool false, .string ⟨#[]⟩] 30) = w2 at *
  have hB : Below w.heap.size w w2 := ⟨h2.os.trans h1.os, h2.tape.trans h1.tape, h2.output.trans h1.output, by omega, fun k hk => (h2.block k (by omega) (fun e => by cases e)).trans (h1.block k hk (fun e => by cases e))⟩
  refine (wm_one hm ht hb (htab.keep (hB.block _ hgt)) (by omega)).mono ?_
  rintro e w' ⟨rfl, h⟩
  exact ⟨rfl, ⟨h.os.trans hB.os, h.tape.trans hB.tape, h.output.trans hB.output, by have := h.size; omega, fun k hk => (h.block k (by omega)).trans (hB.block k hk)⟩⟩
end Go.Proofs.YtlphcidpaidclaaGreatDoor
