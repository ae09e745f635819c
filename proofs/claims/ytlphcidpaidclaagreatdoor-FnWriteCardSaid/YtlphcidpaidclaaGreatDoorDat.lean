/-
  Playlists as data: keys, heads, segments; how they lie in memory as the library's structs.
-/
import Derived.Test.YtlphcidpaidclaaGreatDoorStb
import Derived.Test.YtlphcidpaidclaaGreatDoorFla
namespace Go.Proofs.YtlphcidpaidclaaGreatDoor
open Go.RowKit

structure KeyD where
  me : ByteArray
  uri : ByteArray
  iv : ByteArray
  fo : ByteArray
  ve : ByteArray
structure KeyD.Ok (k : KeyD) : Prop where
  me : k.me.size ≤ 40
  uri : k.uri.size ≤ 40
  iv : k.iv.size ≤ 40
  fo : k.fo.size ≤ 40
  ve : k.ve.size ≤ 40
def keyC (k : KeyD) : Array Value := #[.string k.me, .string k.uri, .string k.iv, .string k.fo, .string k.ve]

structure MapD where
  uri : ByteArray
  li : Nat
  off : Nat
structure MapD.Ok (m : MapD) : Prop where
  uri : m.uri.size ≤ 40
  li : m.li < 9223372036854775808
  off : m.off < 9223372036854775808
def mapC (m : MapD) : Array Value := #[.string m.uri, .int .i64 m.li, .int .i64 m.off]

structure SegD where
  title : ByteArray
  uri : ByteArray
  e : Nat
  li : Nat
  off : Nat
  key : Option KeyD
  map : Option MapD
  disc : Bool
  date : ByteArray
structure SegD.Ok (s : SegD) : Prop where
  title : s.title.size ≤ 40
  uri : s.uri.size ≤ 40
  date : s.date.size ≤ 40
  li : s.li < 9223372036854775808
  off : s.off < 9223372036854775808
  key : ∀ k, s.key = some k → k.Ok
  map : ∀ m, s.map = some m → m.Ok
/-- the library's segment -/
def segC (num : Nat) (s : SegD) (kp mp : Option Nat) : Array Value :=
  #[.int .u64 num, .string s.title, .string s.uri, .float .f64 (fb s.e), .int .i64 s.li, .int .i64 s.off, pto kp, pto mp, .bool s.disc, .pointer none, .string s.date]

/-- a key behind a pointer, or none -/
inductive KeyIn (w : World) (b : Nat) : Option Nat → Option KeyD → Prop
  | nil : KeyIn w b none none
  | mk {p : Nat} {k : KeyD} (h : Blk w p 101 (keyC k)) (hb : p ≠ b) (ok : k.Ok) : KeyIn w b (some p) (some k)
/-- a head behind a pointer, or none -/
inductive MapIn (w : World) (b : Nat) : Option Nat → Option MapD → Prop
  | nil : MapIn w b none none
  | mk {p : Nat} {m : MapD} (h : Blk w p 103 (mapC m)) (hb : p ≠ b) (ok : m.Ok) : MapIn w b (some p) (some m)

/-- the library's playlist: all but its segments -/
structure PlD where
  td : Nat
  seq : Nat
  g : Nat
  ifr : Bool
  clo : Bool
  ty : Nat
  dsq : Nat
  st : Nat
  pre : Bool
  asI : Bool
  win : Nat
  cap : Nat
  tl : Nat
  cnt : Nat
  ver : Nat
  kp : Option Nat
  mp : Option Nat
def plC (d : PlD) : Array Value :=
  #[.float .f64 (fn d.td), .int .u64 d.seq, .slice (some ⟨d.g, 0, none⟩) d.cap d.cap, .string { data := #[] }, .bool d.ifr, .bool d.clo, .int .u64 d.ty, .int .u64 d.dsq, .float .f64 (fb d.st), .bool d.pre, .bool d.asI, .int .i64 0, .int .u64 d.win, .int .u64 d.cap, .int .u64 0, .int .u64 d.tl, .int .u64 d.cnt, .slice none 0 0, .int .i64 0, .int .i8 0, .int .u8 d.ver, pto d.kp, pto d.mp]
def plR (d : PlD) (i : Nat) : Option Value := (plC d)[i]?

/-- nothing, or what a function makes of it -/
def optT {α : Type} (f : α → List UInt8 → List UInt8) : Option α → List UInt8 → List UInt8
  | none, l => l
  | some x, l => f x l
/-- eighths of seconds with three digits behind the point -/
def sec3 (n : Nat) : List UInt8 := Lib.decDigits (n / 8) ++ [46] ++ Lib.decDigits (n % 8 * 125 / 100) ++ Lib.decDigits (n % 8 * 125 / 10 % 10) ++ Lib.decDigits (n % 8 * 125 % 10)
/-- .. without noughts at the end -/
def shortT (n : Nat) : List UInt8 :=
  let s := (sec3 n).reverse.dropWhile (· == 48)
  (match s with | 46 :: r => r | s => s).reverse

/-- strconv.FormatFloat of eighths, as short as can be -/
def FF64 : Prop := ∀ {B b : Nat} {R : Nat → Option Value} {w0 : World} {l : List UInt8} (n : Nat) (_h1 : 0 < n) (_hn : n < 301) (_ht : TabP w0) (_hgt : 7 < B) (w : World) (_h : Enc B b R w0 l w),
    Calls Tryz.prog 51 #[.float .f64 (fb n), .int .u8 102, .int .i64 (-1), .int .i64 64] w fun e w' => e = .returned (.string (bs (shortT n))) ∧ Enc B b R w0 l w'
/-- .. with three digits behind the point -/
def FF32 : Prop := ∀ {B b : Nat} {R : Nat → Option Value} {w0 : World} {l : List UInt8} (n : Nat) (_hn : n < 160) (_ht : TabP w0) (_hgt : 7 < B) (w : World) (_h : Enc B b R w0 l w),
    Calls Tryz.prog 51 #[.float .f64 (fb n), .int .u8 102, .int .i64 3, .int .i64 32] w fun e w' => e = .returned (.string (bs (sec3 n))) ∧ Enc B b R w0 l w'
structure PlD.Ok (d : PlD) : Prop where
  seq : d.seq < 18446744073709551616
  dsq : d.dsq < 18446744073709551616
  ver : d.ver < 100
  td : d.td < 501
  st : d.st < 301
  ty : d.ty = 0 ∨ d.ty = 2
  ff : d.st = 0 ∨ FF64

/-- the frame of Encode -/
structure Fr (b : Nat) (a : Act) : Prop where
  size : a.tmps.size = 1029
  defers : a.defers = []
  p : a.tmps.getD 0 undef = pt b
theorem Fr.up {b t : Nat} {a a' : Act} (h : Fr b a) (u : Up t a a') (ht : 0 < t) : Fr b a' := ⟨u.size.trans h.size, u.defers.trans h.defers, (u.low 0 ht).trans h.p⟩
theorem Up.var {t : Nat} {a a' : Act} (u : Up t a a') (s : Nat) (ht : s < t) {v : Value} (h : a.tmps.getD s undef = v) : a'.tmps.getD s undef = v := (u.low s ht).trans h

/-- the part of a piece of code at a path -/
def cat : List Nat → Code → Code
  | [], c => c
  | 0 :: p, .seq a _ => cat p a
  | _ :: p, .seq _ b => cat p b
  | 0 :: p, .cond _ a _ => cat p a
  | _ :: p, .cond _ _ b => cat p b
  | _ :: p, .block _ c => cat p c
  | _ :: p, .loop c => cat p c
  | _ :: p, .scope c => cat p c
  | _, c => c
noncomputable def encB : Code := Tryz.f35.body.getD .skip

theorem dd_size {n k : Nat} (h : n < 10 ^ k) (hk : 1 ≤ k) : (bs (Lib.decDigits n)).size ≤ k := decDigits_len k n h hk
theorem fi_any {B b : Nat} {R : Nat → Option Value} {w0 : World} {l : List UInt8} (n : Nat) (hn : n < 9223372036854775808) (ht : TabP w0) (hgt : 7 < B) (w : World) (h : Enc B b R w0 l w) :
    Calls Tryz.prog 49 #[.int .i64 n, .int .i64 10] w fun e w' => e = .returned (.string (bs (Lib.decDigits n))) ∧ Enc B b R w0 l w' :=
  enc_fi n hn h (ht.keep fun k hk => h.bel.block k (Nat.lt_of_le_of_lt hk hgt))
end Go.Proofs.YtlphcidpaidclaaGreatDoor
