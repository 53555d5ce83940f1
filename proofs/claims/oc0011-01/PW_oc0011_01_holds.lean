import PyProof.Rows.All
import Wide.All
import OpenK.AllK
import Wide.FinOn
import PySem.Challenge.RW_oc0011_01
open PySem PySem.W PyProof.Rows
set_option Elab.async false
set_option maxRecDepth 100000
set_option maxHeartbeats 16000000
namespace Mine
open_top hd for PySem.Challenge.rw_oc0011_01
section
theorem and_hi (X n : Int) (h0 : 0 ≤ n) (h1 : n < 256) : Builtin.bitAnd (X * 256) n = 0 := by
  have step : ∀ (Y k : Int), Builtin.bitAnd (2 * Y) k = 2 * Builtin.bitAnd Y (k / 2) := by
    intro Y k
    rw [kbt_halves]
    have e1 : 2 * Y / 2 = Y := by omega
    rw [e1, if_neg (by omega)]
    omega
  have e : X * 256 = 2 * (2 * (2 * (2 * (2 * (2 * (2 * (2 * X))))))) := by omega
  rw [e, step, step, step, step, step, step, step, step]
  have z : n / 2 / 2 / 2 / 2 / 2 / 2 / 2 / 2 = 0 := by omega
  rw [z]
  have := bitAnd_range X (y := 0) (by decide)
  omega
theorem or_hi (X n : Int) (h0 : 0 ≤ n) (h1 : n < 256) : Builtin.bitOr (X * 256) n = X * 256 + n := by
  rw [bitOr_and, and_hi X n h0 h1]; omega
theorem or_0 (n : Int) (h0 : 0 ≤ n) (h1 : n < 256) : Builtin.bitOr (0 * 2 ^ Int.toNat 8) n = n := by
  have e : (0 * 2 ^ Int.toNat 8 : Int) = 0 * 256 := by decide
  rw [e, or_hi 0 n h0 h1]; omega
theorem p2 : (2 ^ (0 + 8 - 6 : Int).toNat : Int) = 4 := by decide
theorem p4 : (2 ^ (0 + 8 - 6 + 8 - 6 : Int).toNat : Int) = 16 := by decide
theorem p6 : (2 ^ (0 + 8 - 6 + 8 - 6 + 8 - 6 : Int).toNat : Int) = 64 := by decide
theorem p0 : (2 ^ (0 + 8 - 6 + 8 - 6 + 8 - 6 - 6 : Int).toNat : Int) = 1 := by decide
theorem fdv (x : Int) {k : Int} (hk : 0 ≤ k) : Int.fdiv x k = x / k := Int.fdiv_eq_ediv_of_nonneg x hk
theorem ix0 (n0 : Int) (a0 : 0 ≤ n0 ∧ n0 < 256) :
    Builtin.bitAnd ((Builtin.bitAnd (Builtin.bitOr (0 * 2 ^ Int.toNat 8) n0) 65535).fdiv (2 ^ (0 + 8 - 6 : Int).toNat)) 63 = n0 / 4 := by
  rw [or_0 n0 a0.1 a0.2, p2, fdv _ (by decide), bitAnd_m16, bitAnd_m6]; omega
theorem ix1 (n0 n1 : Int) (a0 : 0 ≤ n0 ∧ n0 < 256) (a1 : 0 ≤ n1 ∧ n1 < 256) :
    Builtin.bitAnd ((Builtin.bitAnd (Builtin.bitOr (Builtin.bitAnd (Builtin.bitOr (0 * 2 ^ Int.toNat 8) n0) 65535 * 256) n1) 65535).fdiv (2 ^ (0 + 8 - 6 + 8 - 6 : Int).toNat)) 63 = n0 % 4 * 16 + n1 / 16 := by
  rw [or_0 n0 a0.1 a0.2, p4, fdv _ (by decide), or_hi _ n1 a1.1 a1.2, bitAnd_m16, bitAnd_m16, bitAnd_m6]; omega
theorem ix2 (n0 n1 n2 : Int) (a0 : 0 ≤ n0 ∧ n0 < 256) (a1 : 0 ≤ n1 ∧ n1 < 256) (a2 : 0 ≤ n2 ∧ n2 < 256) :
    Builtin.bitAnd ((Builtin.bitAnd (Builtin.bitOr (Builtin.bitAnd (Builtin.bitOr (Builtin.bitAnd (Builtin.bitOr (0 * 2 ^ Int.toNat 8) n0) 65535 * 256) n1) 65535 * 256) n2) 65535).fdiv (2 ^ (0 + 8 - 6 + 8 - 6 + 8 - 6 : Int).toNat)) 63 = n1 % 16 * 4 + n2 / 64 := by
  rw [or_0 n0 a0.1 a0.2, p6, fdv _ (by decide), or_hi _ n1 a1.1 a1.2, or_hi _ n2 a2.1 a2.2, bitAnd_m16, bitAnd_m16, bitAnd_m16, bitAnd_m6]; omega
theorem ix3 (n0 n1 n2 : Int) (a0 : 0 ≤ n0 ∧ n0 < 256) (a1 : 0 ≤ n1 ∧ n1 < 256) (a2 : 0 ≤ n2 ∧ n2 < 256) :
    Builtin.bitAnd ((Builtin.bitAnd (Builtin.bitOr (Builtin.bitAnd (Builtin.bitOr (Builtin.bitAnd (Builtin.bitOr (0 * 2 ^ Int.toNat 8) n0) 65535 * 256) n1) 65535 * 256) n2) 65535).fdiv (2 ^ (0 + 8 - 6 + 8 - 6 + 8 - 6 - 6 : Int).toNat)) 63 = n2 % 64 := by
  rw [or_0 n0 a0.1 a0.2, p0, fdv _ (by decide), or_hi _ n1 a1.1 a1.2, or_hi _ n2 a2.1 a2.2, bitAnd_m16, bitAnd_m16, bitAnd_m16, bitAnd_m6]; omega
end
section
theorem rm63 (p q u v y z : Int) : (0 + p + (q * 16 + u) + (v * 4 + y) + z) % 63 = (65536 * (4 * p + q) + 256 * (16 * u + v) + (64 * y + z)) % 63 := by
  have e : 65536 * (4 * p + q) + 256 * (16 * u + v) + (64 * y + z) = (0 + p + (q * 16 + u) + (v * 4 + y) + z) + 63 * (4161 * p + 1040 * q + 65 * u + 4 * v + y) := by omega
  rw [e, Int.add_mul_emod_self_left]
theorem rm65 (p q u v y z : Int) : (z - (v * 4 + y - (q * 16 + u - (p - 0)))) % 65 = (65536 * (4 * p + q) + 256 * (16 * u + v) + (64 * y + z)) % 65 := by
  have e : 65536 * (4 * p + q) + 256 * (16 * u + v) + (64 * y + z) = (z - (v * 4 + y - (q * 16 + u - (p - 0)))) + 65 * (4033 * p + 1008 * q + 63 * u + 4 * v + y) := by omega
  rw [e, Int.add_mul_emod_self_left]
theorem rm17 (p q u v y z : Int) : (z - (y - (v - (u - (q - (p - 0)))))) % 17 = (65536 * (16 * p + q) + 256 * (16 * u + v) + (16 * y + z)) % 17 := by
  have e : 65536 * (16 * p + q) + 256 * (16 * u + v) + (16 * y + z) = (z - (y - (v - (u - (q - (p - 0)))))) + 17 * (61681 * p + 3855 * q + 241 * u + 15 * v + y) := by omega
  rw [e, Int.add_mul_emod_self_left]
theorem rm257 (p q u : Int) : (u - (q - (p - 0))) % 257 = (65536 * p + 256 * q + u) % 257 := by
  have e : 65536 * p + 256 * q + u = (u - (q - (p - 0))) + 257 * (255 * p + q) := by omega
  rw [e, Int.add_mul_emod_self_left]
theorem row_of (row : Int) : row = 65536 * (row / 65536) + 256 * (row / 256 % 256) + row % 256 := by omega
end
section
open Builtin
theorem hex_eq (c0 c1 c2 : UInt8) (t : Tok) : Builtin.«bytes.hex» ⟨[.bytes #[c0, c1, c2] t], []⟩ = (mkStr ⟨#[Bytes.hexDigit (c0.toNat / 16), Bytes.hexDigit (c0.toNat % 16), Bytes.hexDigit (c1.toNat / 16), Bytes.hexDigit (c1.toNat % 16), Bytes.hexDigit (c2.toNat / 16), Bytes.hexDigit (c2.toNat % 16)]⟩ >>= fun v => ret v) := by
  rfl
theorem enc_eq (x : PySem.Str) (t t2 : Tok) : Builtin.«str.encode» ⟨[.str x t, .str (Str.ofString "ascii") t2], []⟩ = (_codecs.encodeRoad "str.encode" (.str x t) x (Str.ofString "ascii") none >>= fun v => ret v) := by
  first | rfl | kernel_rfl
theorem road_eq (id : String) (self : Value) (x : PySem.Str) : _codecs.encodeRoad id self x (Str.ofString "ascii") none = (_codecs.encodeNarrow id _codecs.asciiCodec none self x >>= fun b => mkBytes b) := by
  first | rfl | kernel_rfl
theorem narrow_eq (id : String) (self : Value) (h0 h1 h2 h3 h4 h5 : Nat) (l0 : h0 < 128) (l1 : h1 < 128) (l2 : h2 < 128) (l3 : h3 < 128) (l4 : h4 < 128) (l5 : h5 < 128) :
    _codecs.encodeNarrow id _codecs.asciiCodec none self ⟨#[h0, h1, h2, h3, h4, h5]⟩ = pure #[h0.toUInt8, h1.toUInt8, h2.toUInt8, h3.toUInt8, h4.toUInt8, h5.toUInt8] := by
  have b0 : _codecs.asciiCodec.bad h0 = false := by show decide (h0 ≥ 128) = false; exact decide_eq_false (by omega)
  have b1 : _codecs.asciiCodec.bad h1 = false := by show decide (h1 ≥ 128) = false; exact decide_eq_false (by omega)
  have b2 : _codecs.asciiCodec.bad h2 = false := by show decide (h2 ≥ 128) = false; exact decide_eq_false (by omega)
  have b3 : _codecs.asciiCodec.bad h3 = false := by show decide (h3 ≥ 128) = false; exact decide_eq_false (by omega)
  have b4 : _codecs.asciiCodec.bad h4 = false := by show decide (h4 ≥ 128) = false; exact decide_eq_false (by omega)
  have b5 : _codecs.asciiCodec.bad h5 = false := by show decide (h5 ≥ 128) = false; exact decide_eq_false (by omega)
  unfold _codecs.encodeNarrow
  simp only [Std.Legacy.Range.forIn_eq_forIn_range']
  have hr : List.range' 0 [:({ cps := #[h0, h1, h2, h3, h4, h5] } : PySem.Str).length].size = [0, 1, 2, 3, 4, 5] := by
    have e : ({ cps := #[h0, h1, h2, h3, h4, h5] } : PySem.Str).length = 6 := rfl
    rw [e]; rfl
  have z0 : ¬ ((#[] : Array UInt8).size > sizeLine) := by rw [sizeLine_eq]; decide
  have z1 : ¬ ((#[h0.toUInt8, h1.toUInt8, h2.toUInt8, h3.toUInt8, h4.toUInt8, h5.toUInt8] : Array UInt8).size > sizeLine) := by
    rw [sizeLine_eq]; show ¬ (6 > _); decide
  have ex : #[h0, h1, h2, h3, h4, h5].extract 0 = #[h0, h1, h2, h3, h4, h5] := rfl
  have g0 : #[h0, h1, h2, h3, h4, h5][0]? = some h0 := rfl
  have g6 : #[h0, h1, h2, h3, h4, h5][6]? = none := rfl
  have fi : Array.findIdx? _codecs.asciiCodec.bad #[h0, h1, h2, h3, h4, h5] = none := by
    simp [b0, b1, b2, b3, b4, b5]
  rw [hr, List.forIn_cons]
  simp only [z0, if_false, ex, g0, b0, Bool.not_false, if_true, fi]
  have st : ((0 + (none : Option Nat).getD #[h0, h1, h2, h3, h4, h5].size, Array.foldl (fun acc y => acc ++ (_codecs.asciiCodec.bytesOf y).toArray) #[] (#[h0, h1, h2, h3, h4, h5].extract 0 ((none : Option Nat).getD #[h0, h1, h2, h3, h4, h5].size)), ({} : _codecs.Faults)) : Nat × Array UInt8 × _codecs.Faults) = (6, #[h0.toUInt8, h1.toUInt8, h2.toUInt8, h3.toUInt8, h4.toUInt8, h5.toUInt8], {}) := rfl
  rw [st]
  simp only [pure_bind]
  rw [List.forIn_cons]
  simp only [z1, if_false, g6, pure_bind]
theorem upper_eq (c0 c1 c2 c3 c4 c5 : UInt8) (t : Tok) : Builtin.«bytes.upper» ⟨[.bytes #[c0, c1, c2, c3, c4, c5] t], []⟩ = (mkBytes #[Bytes.toUpper c0, Bytes.toUpper c1, Bytes.toUpper c2, Bytes.toUpper c3, Bytes.toUpper c4, Bytes.toUpper c5] >>= fun v => ret v) := by
  rfl

theorem slot_bytes_upper : Slot "bytes" "upper" "bytes.upper" :=
  .of (owner := "bytes") (n := "upper") (by rw [typeLookup_type, builtinLookup_eq_fast]; kernel_rfl) (by decide +kernel) (by decide +kernel) (by decide +kernel)
    (by first | exact .inl (by decide +kernel) | exact .inr (by decide +kernel)) (by rw [isSubtype_type]; kernel_rfl)
theorem type_bytes_upper : typeOf (.builtin "bytes.upper") = pure (.type "method_descriptor") := by show builtinType _ = _; rw [builtinType_eq_fast]; kernel_rfl
theorem entry_bytes_upper : entryFor table "bytes.upper" = some Builtin.«bytes.upper» := entryFor_of_tree (by kernel_rfl)
theorem args_bytes_upper (a : Value) : argsOk "bytes.upper" ⟨[a], []⟩ := by
  unfold argsOk; rw [signature?_of (id := "bytes.upper") (n := ['r', 'e', 'p', 'p', 'u']) (o := ['s', 'e', 't', 'y', 'b']) (by kernel_rfl) FB.owner_bytes]; kernel_rfl
section
variable {prog : Program} {w : World} {A : Around} {s : Shared} {Q E : Value → Shared → Prop} {t t2 : Tok}
theorem call_hex {c0 c1 c2 : UInt8} (h : ∀ t' k, Q (.str ⟨#[Bytes.hexDigit (c0.toNat / 16), Bytes.hexDigit (c0.toNat % 16), Bytes.hexDigit (c1.toNat / 16), Bytes.hexDigit (c1.toNat % 16), Bytes.hexDigit (c2.toNat / 16), Bytes.hexDigit (c2.toNat % 16)]⟩ t') { s with toks := k }) :
    wpAny (model prog w) A (call (.builtin "bytes.hex") [.bytes #[c0, c1, c2] t]) Q E s := by
  refine call_meets FB.slot_bytes_hex (typeIs_bytes _ _ _) FB.entry_bytes_hex (FB.args_bytes_hex_1 _) (S := fun _ R s => ∀ t' k, R (.ok (.ret (.str ⟨#[Bytes.hexDigit (c0.toNat / 16), Bytes.hexDigit (c0.toNat % 16), Bytes.hexDigit (c1.toNat / 16), Bytes.hexDigit (c1.toNat % 16), Bytes.hexDigit (c2.toNat / 16), Bytes.hexDigit (c2.toNat % 16)]⟩ t'))) { s with toks := k }) (.of_wp fun prog w A R s hS => ?_) h
  rw [hex_eq]
  exact wpAny_bind (wpAny_mkStr (wpAny_pure ⟨_, rfl, hS _ _⟩) (by rw [sizeLine_eq]; show 6 ≤ _; decide))
theorem call_enc {h0 h1 h2 h3 h4 h5 : Nat} (l0 : h0 < 128) (l1 : h1 < 128) (l2 : h2 < 128) (l3 : h3 < 128) (l4 : h4 < 128) (l5 : h5 < 128)
    (h : ∀ t' k, Q (.bytes #[h0.toUInt8, h1.toUInt8, h2.toUInt8, h3.toUInt8, h4.toUInt8, h5.toUInt8] t') { s with toks := k }) :
    wpAny (model prog w) A (call (.builtin "str.encode") [.str ⟨#[h0, h1, h2, h3, h4, h5]⟩ t, .str (Str.ofString "ascii") t2]) Q E s := by
  refine call_meets F.slot_str_encode (typeIs_str _ _ _) F.entry_str_encode (F.args_str_encode_2 _ _) (S := fun _ R s => ∀ t' k, R (.ok (.ret (.bytes #[h0.toUInt8, h1.toUInt8, h2.toUInt8, h3.toUInt8, h4.toUInt8, h5.toUInt8] t'))) { s with toks := k }) (.of_wp fun prog w A R s hS => ?_) h
  rw [enc_eq, road_eq, narrow_eq "str.encode" _ h0 h1 h2 h3 h4 h5 l0 l1 l2 l3 l4 l5]
  exact wpAny_bind (wpAny_bind (wpAny_pure (wpAny_mkBytes (wpAny_pure ⟨_, rfl, hS _ _⟩) (by rw [sizeLine_eq]; show 6 ≤ _; decide))))
theorem call_upper {c0 c1 c2 c3 c4 c5 : UInt8}
    (h : ∀ t' k, Q (.bytes #[Bytes.toUpper c0, Bytes.toUpper c1, Bytes.toUpper c2, Bytes.toUpper c3, Bytes.toUpper c4, Bytes.toUpper c5] t') { s with toks := k }) :
    wpAny (model prog w) A (call (.builtin "bytes.upper") [.bytes #[c0, c1, c2, c3, c4, c5] t]) Q E s := by
  refine call_meets slot_bytes_upper (typeIs_bytes _ _ _) entry_bytes_upper (args_bytes_upper _) (S := fun _ R s => ∀ t' k, R (.ok (.ret (.bytes #[Bytes.toUpper c0, Bytes.toUpper c1, Bytes.toUpper c2, Bytes.toUpper c3, Bytes.toUpper c4, Bytes.toUpper c5] t'))) { s with toks := k }) (.of_wp fun prog w A R s hS => ?_) h
  rw [upper_eq]
  exact wpAny_bind (wpAny_mkBytes (wpAny_pure ⟨_, rfl, hS _ _⟩) (by rw [sizeLine_eq]; show 6 ≤ _; decide))
end
theorem method_hex {M : Model} {A : Around} {s : Shared} {E : Value → Shared → Prop} {t : Tok} {b : Array UInt8} {pl : Sem Bool} {Q : Value × List Value → Shared → Prop} (h : Q (.builtin "bytes.hex", [.bytes b t]) s) : wpAny M A (getMethod (.bytes b t) (Str.ofString "hex") pl) Q E s :=
  KBd.method_of (.bytes b t) (typeIs_bytes _ _ _) FB.slot_bytes_hex FB.type_bytes_hex KBd.noRef h
theorem method_upper {M : Model} {A : Around} {s : Shared} {E : Value → Shared → Prop} {t : Tok} {b : Array UInt8} {pl : Sem Bool} {Q : Value × List Value → Shared → Prop} (h : Q (.builtin "bytes.upper", [.bytes b t]) s) : wpAny M A (getMethod (.bytes b t) (Str.ofString "upper") pl) Q E s :=
  KBd.method_of (.bytes b t) (typeIs_bytes _ _ _) slot_bytes_upper type_bytes_upper KBd.noRef h
theorem method_encode {M : Model} {A : Around} {s : Shared} {E : Value → Shared → Prop} {t : Tok} {x : PySem.Str} {pl : Sem Bool} {Q : Value × List Value → Shared → Prop} (h : Q (.builtin "str.encode", [.str x t]) s) : wpAny M A (getMethod (.str x t) (Str.ofString "encode") pl) Q E s :=
  getMethod_builtin (typeIs_str _ _ _) F.plainAttrs_str F.slot_str_encode F.type_str_encode (fun _ e => nomatch e) h
def hextab : List Int := [48, 49, 50, 51, 52, 53, 54, 55, 56, 57, 65, 66, 67, 68, 69, 70]
def hexc (i : Int) : Int := hextab.getD i.toNat 0
theorem hexDigit_lt (n : Nat) (h : n < 16) : Bytes.hexDigit n < 128 := by
  unfold Bytes.hexDigit; split <;> omega
theorem hex_up (n : Nat) (h : n < 16) : (((Bytes.toUpper (Bytes.hexDigit n).toUInt8).toNat : Nat) : Int) = hexc (n : Int) := by
  have q : ∀ k : Fin 16, (((Bytes.toUpper (Bytes.hexDigit k.val).toUInt8).toNat : Nat) : Int) = hexc (k.val : Int) := by decide +kernel
  exact q ⟨n, h⟩
end
section
open PySem.AutoSeq1 (wpAny_loadPart')
open PySem.MeetsSeq PySem.MeetsSeq3
def lexC (op : Int → Int → Bool) : List Int → List Int → Bool
  | x :: xs, y :: ys => if x = y then lexC op xs ys else op x y
  | _, _ => false
theorem lt_loop (l b : Addr) (vs ws : List Value) (ns ms : List Int) (n n2 : Nat) (hv : IntsAre vs ns) (hw : IntsAre ws ms) (hsz : ns.length = ms.length) (k : Nat) :
    ∀ i : Nat, ns.length - i = k → Meets (Builtin.«list.__eq__.loop» ⟨[.ref l, .ref b, rawInt i, rawInt 0], []⟩)
      (fun _ R s => s.heap.get? l = some { cls := .type "list", dict := none, data := .seq vs.toArray n, slots := #[] } ∧ s.heap.get? b = some { cls := .type "list", dict := none, data := .seq ws.toArray n2, slots := #[] } ∧
        R (.ok (.ret (.bool (lexC (fun x y => decide (x < y)) (ns.drop i) (ms.drop i))))) s) := by
  have e1 := hv.length
  have e2 := hw.length
  induction k with
  | zero =>
    intro i hk prog w A R s h
    obtain ⟨hp, g, d, tk, os⟩ := s; obtain ⟨hl, hb, h⟩ := h
    wp_walk using wpAny_loadPart' hl, wpAny_loadPart' hb
    have hi1 : vs.toArray[((i : Nat) : Int).toNat]? = none := by simp; omega
    have hi2 : ws.toArray[((i : Nat) : Int).toNat]? = none := by simp; omega
    have hd : ns.drop i = [] := List.drop_of_length_le (by omega)
    rw [hd] at h
    rw [hi1, hi2]
    wp_walk using wpAny_loadPart' hl, wpAny_loadPart' hb
    show R (.ok (.ret (.bool (decide (vs.toArray.size < ws.toArray.size))))) _
    have hf : decide (vs.toArray.size < ws.toArray.size) = false := by
      simp only [List.size_toArray, decide_eq_false_iff_not]; omega
    rw [hf]
    exact h
  | succ k ih =>
    intro i hk prog w A R s h
    obtain ⟨hp, g, d, tk, os⟩ := s; obtain ⟨hl, hb, h⟩ := h
    wp_walk using wpAny_loadPart' hl, wpAny_loadPart' hb
    have hlt : i < ns.length := by omega
    have hlt2 : i < ms.length := by omega
    obtain ⟨t, hx⟩ := hv.get i ns[i] (by simp [hlt])
    obtain ⟨u, hy⟩ := hw.get i ms[i] (by simp [hlt2])
    have hi1 : vs.toArray[((i : Nat) : Int).toNat]? = some (.int ns[i] t) := by simpa using hx
    have hi2 : ws.toArray[((i : Nat) : Int).toNat]? = some (.int ms[i] u) := by simpa using hy
    have hd : ns.drop i = ns[i] :: ns.drop (i + 1) := List.drop_eq_getElem_cons hlt
    have hd2 : ms.drop i = ms[i] :: ms.drop (i + 1) := List.drop_eq_getElem_cons hlt2
    have hc : ((i : Int) + 1) = ((i + 1 : Nat) : Int) := by push_cast; rfl
    rw [hd, hd2, lexC] at h
    rw [hi1, hi2]
    refine wpAny_bind (EqGives.int _ _ _ _ prog w _ _ _ _ ?_)
    by_cases hq : ns[i] = ms[i]
    · have hb' : (ns[i] == ms[i]) = true := by simpa using hq
      rw [if_pos hq] at h
      rw [hb']
      wp_walk
      rw [hc]
      exact ⟨plainId_quiet plain_eq_loop _, codeAny_builtin entry_eq_loop (by
        rw [Around.under_plainId plain_eq_loop _]
        exact ih (i + 1) (by omega) prog w A R _ ⟨hl, hb, h⟩)⟩
    · have hb' : (ns[i] == ms[i]) = false := by simpa using hq
      rw [if_neg hq] at h
      rw [hb']
      wp_walk using wpAny_loadPart' hl, wpAny_loadPart' hb
      rw [hi1, hi2]
      refine wpAny_bind (PyProof.Rows.lt_int ?_)
      exact wpAny_pure h
theorem gt_loop (l b : Addr) (vs ws : List Value) (ns ms : List Int) (n n2 : Nat) (hv : IntsAre vs ns) (hw : IntsAre ws ms) (hsz : ns.length = ms.length) (k : Nat) :
    ∀ i : Nat, ns.length - i = k → Meets (Builtin.«list.__eq__.loop» ⟨[.ref l, .ref b, rawInt i, rawInt 4], []⟩)
      (fun _ R s => s.heap.get? l = some { cls := .type "list", dict := none, data := .seq vs.toArray n, slots := #[] } ∧ s.heap.get? b = some { cls := .type "list", dict := none, data := .seq ws.toArray n2, slots := #[] } ∧
        R (.ok (.ret (.bool (lexC (fun x y => decide (y < x)) (ns.drop i) (ms.drop i))))) s) := by
  have e1 := hv.length
  have e2 := hw.length
  induction k with
  | zero =>
    intro i hk prog w A R s h
    obtain ⟨hp, g, d, tk, os⟩ := s; obtain ⟨hl, hb, h⟩ := h
    wp_walk using wpAny_loadPart' hl, wpAny_loadPart' hb
    have hi1 : vs.toArray[((i : Nat) : Int).toNat]? = none := by simp; omega
    have hi2 : ws.toArray[((i : Nat) : Int).toNat]? = none := by simp; omega
    have hd : ns.drop i = [] := List.drop_of_length_le (by omega)
    rw [hd] at h
    rw [hi1, hi2]
    wp_walk using wpAny_loadPart' hl, wpAny_loadPart' hb
    show R (.ok (.ret (.bool (decide (vs.toArray.size > ws.toArray.size))))) _
    have hf : decide (vs.toArray.size > ws.toArray.size) = false := by
      simp only [List.size_toArray, decide_eq_false_iff_not]; omega
    rw [hf]
    exact h
  | succ k ih =>
    intro i hk prog w A R s h
    obtain ⟨hp, g, d, tk, os⟩ := s; obtain ⟨hl, hb, h⟩ := h
    wp_walk using wpAny_loadPart' hl, wpAny_loadPart' hb
    have hlt : i < ns.length := by omega
    have hlt2 : i < ms.length := by omega
    obtain ⟨t, hx⟩ := hv.get i ns[i] (by simp [hlt])
    obtain ⟨u, hy⟩ := hw.get i ms[i] (by simp [hlt2])
    have hi1 : vs.toArray[((i : Nat) : Int).toNat]? = some (.int ns[i] t) := by simpa using hx
    have hi2 : ws.toArray[((i : Nat) : Int).toNat]? = some (.int ms[i] u) := by simpa using hy
    have hd : ns.drop i = ns[i] :: ns.drop (i + 1) := List.drop_eq_getElem_cons hlt
    have hd2 : ms.drop i = ms[i] :: ms.drop (i + 1) := List.drop_eq_getElem_cons hlt2
    have hc : ((i : Int) + 1) = ((i + 1 : Nat) : Int) := by push_cast; rfl
    rw [hd, hd2, lexC] at h
    rw [hi1, hi2]
    refine wpAny_bind (EqGives.int _ _ _ _ prog w _ _ _ _ ?_)
    by_cases hq : ns[i] = ms[i]
    · have hb' : (ns[i] == ms[i]) = true := by simpa using hq
      rw [if_pos hq] at h
      rw [hb']
      wp_walk
      rw [hc]
      exact ⟨plainId_quiet plain_eq_loop _, codeAny_builtin entry_eq_loop (by
        rw [Around.under_plainId plain_eq_loop _]
        exact ih (i + 1) (by omega) prog w A R _ ⟨hl, hb, h⟩)⟩
    · have hb' : (ns[i] == ms[i]) = false := by simpa using hq
      rw [if_neg hq] at h
      rw [hb']
      wp_walk using wpAny_loadPart' hl, wpAny_loadPart' hb
      rw [hi1, hi2]
      refine wpAny_bind (PyProof.Rows.gt_int ?_)
      exact wpAny_pure h

theorem list_ltM (l b : Addr) (vs ws : List Value) (ns ms : List Int) (n n2 : Nat) (hv : IntsAre vs ns) (hw : IntsAre ws ms) (hsz : ns.length = ms.length) :
    Meets (Builtin.«list.__lt__» ⟨[.ref l, .ref b], []⟩)
      (fun _ R s => s.heap.get? l = some { cls := .type "list", dict := none, data := .seq vs.toArray n, slots := #[] } ∧ s.heap.get? b = some { cls := .type "list", dict := none, data := .seq ws.toArray n2, slots := #[] } ∧
        R (.ok (.ret (.bool (lexC (fun x y => decide (x < y)) ns ms)))) s) := by
  intro prog w A R s h
  obtain ⟨hp, g, d, tk, os⟩ := s; obtain ⟨hl, hb, h⟩ := h
  have f3 := AutoSeq1.sub_list_list
  wp_walk using wpAny_loadPart' hl, wpAny_loadPart' hb
  exact ⟨plainId_quiet plain_eq_loop _, codeAny_builtin entry_eq_loop (by
    rw [Around.under_plainId plain_eq_loop _]
    exact lt_loop l b vs ws ns ms n n2 hv hw hsz _ 0 rfl prog w A R _ ⟨hl, hb, h⟩)⟩
theorem list_gtM (l b : Addr) (vs ws : List Value) (ns ms : List Int) (n n2 : Nat) (hv : IntsAre vs ns) (hw : IntsAre ws ms) (hsz : ns.length = ms.length) :
    Meets (Builtin.«list.__gt__» ⟨[.ref l, .ref b], []⟩)
      (fun _ R s => s.heap.get? l = some { cls := .type "list", dict := none, data := .seq vs.toArray n, slots := #[] } ∧ s.heap.get? b = some { cls := .type "list", dict := none, data := .seq ws.toArray n2, slots := #[] } ∧
        R (.ok (.ret (.bool (lexC (fun x y => decide (y < x)) ns ms)))) s) := by
  intro prog w A R s h
  obtain ⟨hp, g, d, tk, os⟩ := s; obtain ⟨hl, hb, h⟩ := h
  have f3 := AutoSeq1.sub_list_list
  wp_walk using wpAny_loadPart' hl, wpAny_loadPart' hb
  exact ⟨plainId_quiet plain_eq_loop _, codeAny_builtin entry_eq_loop (by
    rw [Around.under_plainId plain_eq_loop _]
    exact gt_loop l b vs ws ns ms n n2 hv hw hsz _ 0 rfl prog w A R _ ⟨hl, hb, h⟩)⟩
section
variable {prog : Program} {w : World} {A : Around} {s : Shared} {Q E : Value → Shared → Prop} {h₀ : Heap} {L l b : Addr} {news : List (Addr × Obj)} {n n2 : Nat} {vs ws : List Value} {ns ms : List Int}
theorem lt_lists (N : News h₀ L s.heap news) (hl : (l, listOf vs.toArray n) ∈ news) (hb : (b, listOf ws.toArray n2) ∈ news) (hv : IntsAre vs ns) (hw : IntsAre ws ms) (hsz : ns.length = ms.length) (hu : A.units < cLine)
    (h : Q (.bool (lexC (fun x y => decide (x < y)) ns ms)) s) : wpAny (model prog w) A (compareOp .Lt (.ref l) (.ref b)) Q E s :=
  cmp_ofLt (richCompare_meets_room (op := .Lt) ⟨_, (N _ hl).1, rfl⟩ ⟨_, (N _ hb).1, rfl⟩ F.slot_list_lt F.entry_list_lt (F.args_list_lt_2 _ _) (list_ltM l b vs ws ns ms n n2 hv hw hsz)
    ⟨(N _ hl).1, (N _ hb).1, show Value.bool _ ≠ Value.notImplemented ∧ Q (.bool _) s from ⟨(fun x => nomatch x), h⟩⟩ hu)
theorem gt_lists (N : News h₀ L s.heap news) (hl : (l, listOf vs.toArray n) ∈ news) (hb : (b, listOf ws.toArray n2) ∈ news) (hv : IntsAre vs ns) (hw : IntsAre ws ms) (hsz : ns.length = ms.length) (hu : A.units < cLine)
    (h : Q (.bool (lexC (fun x y => decide (y < x)) ns ms)) s) : wpAny (model prog w) A (compareOp .Gt (.ref l) (.ref b)) Q E s :=
  cmp_ofGt (richCompare_meets_room (op := .Gt) ⟨_, (N _ hl).1, rfl⟩ ⟨_, (N _ hb).1, rfl⟩ F.slot_list_gt F.entry_list_gt (F.args_list_gt_2 _ _) (list_gtM l b vs ws ns ms n n2 hv hw hsz)
    ⟨(N _ hl).1, (N _ hb).1, show Value.bool _ ≠ Value.notImplemented ∧ Q (.bool _) s from ⟨(fun x => nomatch x), h⟩⟩ hu)
end
end
section
theorem slot_type_ne : Slot "type" (cmpInfo .NotEq).2.1 "object.__ne__" :=
  .of (owner := "object") (n := "__ne__") (by rw [typeLookup_type, builtinLookup_eq_fast]; kernel_rfl) (by decide +kernel) (by decide +kernel) (by decide +kernel)
    (by first | exact .inl (by decide +kernel) | exact .inr (by decide +kernel)) (by rw [isSubtype_type]; kernel_rfl)
theorem ne_int_int {prog : Program} {w : World} {A : Around} {E : Value → Shared → Prop} {s : Shared} {Q : Value → Shared → Prop} (h : Q (.bool false) s) :
    wpAny (model prog w) A (compareOp .NotEq (.type "int") (.type "int")) Q E s := by
  show wpAny _ A (richCompare .NotEq _ _) Q E s
  refine wpAny_richCompare_same (T := "type") (TypeEq.meta_int s) (TypeEq.meta_int s) slot_type_ne ?_
  refine call_meets (S := fun _ R s => R (.ok (.ret (.bool false))) s) slot_type_ne (TypeEq.meta_int s) F.cmpEntry_ne (F.cmpArgs_ne _ _) (.of_wp fun prog w A R s hS => ?_) ⟨fun e => (by cases e), h⟩
  unfold Builtin.«object.__ne__»
  refine wpAny_bind (wpAny_of_eq (a := (Value.type "int", [Value.type "int"])) rfl ?_)
  refine wpAny_bind (wpAny_cRoomFor_or (.inl rfl) ?_)
  refine wpAny_bind (wpAny_callSpecialIfBound?_slot (TypeEq.meta_int s) TypeEq.slot_type_eq ?_)
  refine call_gives TypeEq.slot_type_eq (TypeEq.meta_int s) F.entry_object_eq (F.args_object_eq_2 _ _) (TypeEq.object_eq_same rfl (by simp)) ?_
  show wpAny _ _ (truthy (.bool true) >>= _) _ _ _
  exact wpAny_bind (wpAny_truthy_bool (wpAny_pure ⟨_, rfl, hS⟩))
end
theorem fill {w : World} : Challenge.rw_oc0011_01 = Challenge.rw_oc0011_01 ∧ (hd.heap_39 w.params) = (hd.heap_39 w.params) := by
  w_top off
  k_fill
  exact ⟨rfl, rfl⟩

section
variable {w : World} {p : Program} {loose : List Str} {mean : ExcName → Option Value} {mg mb : Str → Option Value} {dp un : Nat} {gd : Option (List Code)} {cn : Str} {cs : Scope} {a : Addr} {ccd : Value} {cl : List (Str × Addr)} {outer : List Env} {A₀ : Around} {base h₀ : Heap} {L : Addr} {m : Str → Option Value} {s : Shared} {Q E : Value → Shared → Prop} {news : List (Addr × Obj)}

theorem c_add {x y : Int} {tx ty : Tok} (B : Below A₀ base outer h₀) (F : Fr h₀ L s.heap m) (X : (hd.heap_39 w.params).In h₀) (N : News h₀ L s.heap news) (T : Top p loose mean mg mb h₀) (hk : cs.kind = .function) (hdp : dp + 1 < recursionLimit)
    (hret : ∀ t h' tk', Fr h₀ L h' m → News h₀ L h' news → Q (.int (x + y) t) { s with heap := h', toks := tk' }) :
    wpAny (model Challenge.rw_oc0011_01.row.prog w) (ktrTop dp un gd cn cs L a ccd cl outer) (call (.ref 28) [.int x tx, .int y ty]) Q E s := by
  refine wpAny_call ?_
  k_dflt cell_enter
  k_steps
  all_goals exact hret _ _ _ (by k_asm) (by k_asm)

theorem c_sub {x y : Int} {tx ty : Tok} (B : Below A₀ base outer h₀) (F : Fr h₀ L s.heap m) (X : (hd.heap_39 w.params).In h₀) (N : News h₀ L s.heap news) (T : Top p loose mean mg mb h₀) (hk : cs.kind = .function) (hdp : dp + 1 < recursionLimit)
    (hret : ∀ t h' tk', Fr h₀ L h' m → News h₀ L h' news → Q (.int (x - y) t) { s with heap := h', toks := tk' }) :
    wpAny (model Challenge.rw_oc0011_01.row.prog w) (ktrTop dp un gd cn cs L a ccd cl outer) (call (.ref 49) [.int x tx, .int y ty]) Q E s := by
  refine wpAny_call ?_
  k_dflt cell_enter
  k_steps
  all_goals exact hret _ _ _ (by k_asm) (by k_asm)

theorem c_mul {x y : Int} {tx ty : Tok} (B : Below A₀ base outer h₀) (F : Fr h₀ L s.heap m) (X : (hd.heap_39 w.params).In h₀) (N : News h₀ L s.heap news) (T : Top p loose mean mg mb h₀) (hk : cs.kind = .function) (hdp : dp + 1 < recursionLimit) (hx0 : -1000000000 ≤ x) (hx1 : x ≤ 1000000000) (hy0 : 0 ≤ y) (hy1 : y ≤ 100000)
    (hret : ∀ t h' tk', Fr h₀ L h' m → News h₀ L h' news → Q (.int (x * y) t) { s with heap := h', toks := tk' }) :
    wpAny (model Challenge.rw_oc0011_01.row.prog w) (ktrTop dp un gd cn cs L a ccd cl outer) (call (.ref 42) [.int x tx, .int y ty]) Q E s := by
  refine wpAny_call ?_
  k_dflt cell_enter
  k_steps
  all_goals exact hret _ _ _ (by k_asm) (by k_asm)

theorem c_mod {x y : Int} {tx ty : Tok} (B : Below A₀ base outer h₀) (F : Fr h₀ L s.heap m) (X : (hd.heap_39 w.params).In h₀) (N : News h₀ L s.heap news) (T : Top p loose mean mg mb h₀) (hk : cs.kind = .function) (hdp : dp + 1 < recursionLimit) (hy : 0 < y)
    (hret : ∀ t h' tk', Fr h₀ L h' m → News h₀ L h' news → Q (.int (Int.fmod x y) t) { s with heap := h', toks := tk' }) :
    wpAny (model Challenge.rw_oc0011_01.row.prog w) (ktrTop dp un gd cn cs L a ccd cl outer) (call (.ref 35) [.int x tx, .int y ty]) Q E s := by
  refine wpAny_call ?_
  k_dflt cell_enter
  k_steps
  all_goals exact hret _ _ _ (by k_asm) (by k_asm)
end
theorem fmb (x : Int) {k : Int} (hk : 0 < k) : 0 ≤ Int.fmod x k ∧ Int.fmod x k < k := by
  rw [Int.fmod_eq_emod_of_nonneg x (Int.le_of_lt hk)]
  exact ⟨Int.emod_nonneg x (by omega), Int.emod_lt_of_pos x hk⟩
def fg3 (s0 : Int) : Int := Int.fmod s0 63
def fg2 (s0 s1 : Int) : Int := Int.fmod ((s1 - fg3 s0) * 32) 65
def fg1 (s0 s1 s2 : Int) : Int := Int.fmod ((s2 - (fg3 s0 + fg2 s0 s1 * 63)) * 8) 17
def fg0 (s0 s1 s2 s3 : Int) : Int := Int.fmod ((s3 - (fg3 s0 + fg2 s0 s1 * 63 + fg1 s0 s1 s2 * 4095)) * 8) 257

section
variable {w : World} {p : Program} {loose : List Str} {mean : ExcName → Option Value} {mg mb : Str → Option Value} {dp un : Nat} {gd : Option (List Code)} {cn : Str} {cs : Scope} {a : Addr} {ccd : Value} {cl : List (Str × Addr)} {outer : List Env} {A₀ : Around} {base h₀ : Heap} {L : Addr} {m : Str → Option Value} {s : Shared} {Q E : Value → Shared → Prop} {news : List (Addr × Obj)}

theorem item_mem {prog : Program} {A : Around} {value slice : PySem.Expr} {l : Addr} {vs : List Value} {n : Nat} {k : Int} {u : Tok} {v : Value} (N : News h₀ L s.heap news) (hl : (l, listOf vs.toArray n) ∈ news) (h0 : 0 ≤ k) (hhi : k < 2 ^ 63) (hx : vs[k.toNat]? = some v) (h : Q v s)
    (hs : subscripted slice false (.ref l) (.int k u) = operate [.ref l, .int k u] (getItem (.ref l) (.int k u)) := by with_unfolding_all rfl) :
    wpAny (model prog w) A (subscriptTail value slice (.ref l) (.int k u)) Q E s :=
  item_litK (News.isList N hl) h0 hhi hx h hs
local macro_rules | `(tactic| walk_at "subscriptTail") => `(tactic| (k_here; (with_reducible show wpAny _ _ (subscriptTail _ _ (Value.ref _) (Value.int _ _)) _ _ _); (with_unfolding_all refine' item_mem ?k0 ?k1 ?k2 ?k3 ?k4 ?_ ?k6; (case k0 => k_asm); (case k1 => k_mem); (case k2 => decide); (case k3 => decide); (case k4 => rfl); (case k6 => with_unfolding_all rfl); k_whole)))

local macro_rules | `(tactic| walk_at "call ref") => `(tactic| (k_here; (with_reducible show wpAny _ _ (call (Value.ref 28) [Value.int _ _, Value.int _ _]) _ _ _); k_dflt (refine' c_add ?k1 ?k2 ?k3 ?k4 ?k5 ?kK ?kd ?_; (case k1 => k_asm); (case k2 => k_asm); (case k3 => k_asm); (case k4 => k_asm); (case k5 => k_asm); (case kK => first | exact rfl | assumption); (case kd => ktr_room); k_whole); intro t9 h9 tk9 F9 N9; (try dsimp only); (try k_fold)))
local macro_rules | `(tactic| walk_at "call ref") => `(tactic| (k_here; (with_reducible show wpAny _ _ (call (Value.ref 49) [Value.int _ _, Value.int _ _]) _ _ _); k_dflt (refine' c_sub ?k1 ?k2 ?k3 ?k4 ?k5 ?kK ?kd ?_; (case k1 => k_asm); (case k2 => k_asm); (case k3 => k_asm); (case k4 => k_asm); (case k5 => k_asm); (case kK => first | exact rfl | assumption); (case kd => ktr_room); k_whole); intro t9 h9 tk9 F9 N9; (try dsimp only); (try k_fold)))
local macro_rules | `(tactic| walk_at "call ref") => `(tactic| (k_here; (with_reducible show wpAny _ _ (call (Value.ref 42) [Value.int _ _, Value.int _ _]) _ _ _); k_dflt (refine' c_mul ?k1 ?k2 ?k3 ?k4 ?k5 ?kK ?kd ?ka ?kb ?kc ?kf ?_; (case k1 => k_asm); (case k2 => k_asm); (case k3 => k_asm); (case k4 => k_asm); (case k5 => k_asm); (case kK => first | exact rfl | assumption); (case kd => ktr_room); (case ka => first | decide | omega); (case kb => first | decide | omega); (case kc => first | decide | omega); (case kf => first | decide | omega); k_whole); intro t9 h9 tk9 F9 N9; (try dsimp only); (try k_fold)))
local macro_rules | `(tactic| walk_at "call ref") => `(tactic| (k_here; (with_reducible show wpAny _ _ (call (Value.ref 35) [Value.int _ _, Value.int _ _]) _ _ _); k_dflt (refine' c_mod ?k1 ?k2 ?k3 ?k4 ?k5 ?kK ?kd ?ka ?_; (case k1 => k_asm); (case k2 => k_asm); (case k3 => k_asm); (case k4 => k_asm); (case k5 => k_asm); (case kK => first | exact rfl | assumption); (case kd => ktr_room); (case ka => decide); k_whole); intro t9 h9 tk9 F9 N9; (try dsimp only); (try k_fold)))

theorem c_number {l : Addr} {n : Nat} {x0 x1 x2 x3 : Int} {t0 t1 t2 t3 : Tok} (B : Below A₀ base outer h₀) (F : Fr h₀ L s.heap m) (X : (hd.heap_39 w.params).In h₀) (N : News h₀ L s.heap news) (T : Top p loose mean mg mb h₀) (hk : cs.kind = .function) (hdp : dp + 1 < recursionLimit)
    (hl : (l, listOf #[.int x0 t0, .int x1 t1, .int x2 t2, .int x3 t3] n) ∈ news)
    (hret : ∀ t h' tk', Fr h₀ L h' m → News h₀ L h' news → Q (.int (69615 * x0 + 4095 * x1 + 63 * x2 + x3) t) { s with heap := h', toks := tk' }) :
    wpAny (model Challenge.rw_oc0011_01.row.prog w) (ktrTop dp un gd cn cs L a ccd cl outer) (call (.ref 128) [.ref l]) Q E s := by
  refine wpAny_call ?_
  k_dflt cell_enter
  k_steps
  all_goals exact hret _ _ _ (by k_asm) (by k_asm)
theorem c_figures {l : Addr} {n : Nat} {x0 x1 x2 x3 : Int} {t0 t1 t2 t3 : Tok} (B : Below A₀ base outer h₀) (F : Fr h₀ L s.heap m) (X : (hd.heap_39 w.params).In h₀) (N : News h₀ L s.heap news) (T : Top p loose mean mg mb h₀) (hk : cs.kind = .function) (hdp : dp + 2 < recursionLimit)
    (hl : (l, listOf #[.int x0 t0, .int x1 t1, .int x2 t2, .int x3 t3] n) ∈ news)
    (b1 : -1000000 ≤ x1 ∧ x1 ≤ 1000000) (b2 : -1000000 ≤ x2 ∧ x2 ≤ 1000000) (b3 : -1000000 ≤ x3 ∧ x3 ≤ 1000000)
    (hret : ∀ l' t0 t1 t2 t3 h' tk', Fr h₀ L h' m → News h₀ L h' ((l', listOf #[.int (fg0 x0 x1 x2 x3) t0, .int (fg1 x0 x1 x2) t1, .int (fg2 x0 x1) t2, .int (fg3 x0) t3] 0) :: news) → (∀ p ∈ news, p.1 < l') → Q (.ref l') { s with heap := h', toks := tk' }) :
    wpAny (model Challenge.rw_oc0011_01.row.prog w) (ktrTop dp un gd cn cs L a ccd cl outer) (call (.ref 121) [.ref l]) Q E s := by
  have q3 := fmb x0 (k := 63) (by decide)
  have q2 := fmb ((x1 - Int.fmod x0 63) * 32) (k := 65) (by decide)
  have q1 := fmb ((x2 - (Int.fmod x0 63 + Int.fmod ((x1 - Int.fmod x0 63) * 32) 65 * 63)) * 8) (k := 17) (by decide)
  refine wpAny_call ?_
  k_dflt cell_enter
  k_steps
  all_goals exact hret _ _ _ _ _ _ _ (by k_asm) (by k_asm) (by assumption)
end
section
variable {w : World} {p : Program} {loose : List Str} {mean : ExcName → Option Value} {mg mb : Str → Option Value} {dp un : Nat} {gd : Option (List Code)} {cn : Str} {cs : Scope} {a : Addr} {ccd : Value} {cl : List (Str × Addr)} {outer : List Env} {A₀ : Around} {base h₀ : Heap} {L : Addr} {m : Str → Option Value} {s : Shared} {Q E : Value → Shared → Prop} {news : List (Addr × Obj)}

local macro_rules | `(tactic| walk_at "call ref") => `(tactic| (k_here; (with_reducible show wpAny _ _ (call (Value.ref 28) [Value.int _ _, Value.int _ _]) _ _ _); k_dflt (refine' c_add ?k1 ?k2 ?k3 ?k4 ?k5 ?kK ?kd ?_; (case k1 => k_asm); (case k2 => k_asm); (case k3 => k_asm); (case k4 => k_asm); (case k5 => k_asm); (case kK => first | exact rfl | assumption); (case kd => ktr_room); k_whole); intro t9 h9 tk9 F9 N9; (try dsimp only); (try k_fold)))
local macro_rules | `(tactic| walk_at "call ref") => `(tactic| (k_here; (with_reducible show wpAny _ _ (call (Value.ref 49) [Value.int _ _, Value.int _ _]) _ _ _); k_dflt (refine' c_sub ?k1 ?k2 ?k3 ?k4 ?k5 ?kK ?kd ?_; (case k1 => k_asm); (case k2 => k_asm); (case k3 => k_asm); (case k4 => k_asm); (case k5 => k_asm); (case kK => first | exact rfl | assumption); (case kd => ktr_room); k_whole); intro t9 h9 tk9 F9 N9; (try dsimp only); (try k_fold)))
local macro_rules | `(tactic| walk_at "call ref") => `(tactic| (k_here; (with_reducible show wpAny _ _ (call (Value.ref 42) [Value.int _ _, Value.int _ _]) _ _ _); k_dflt (refine' c_mul ?k1 ?k2 ?k3 ?k4 ?k5 ?kK ?kd ?ka ?kb ?kc ?kf ?_; (case k1 => k_asm); (case k2 => k_asm); (case k3 => k_asm); (case k4 => k_asm); (case k5 => k_asm); (case kK => first | exact rfl | assumption); (case kd => ktr_room); (case ka => first | decide | omega); (case kb => first | decide | omega); (case kc => first | decide | omega); (case kf => first | decide | omega); k_whole); intro t9 h9 tk9 F9 N9; (try dsimp only); (try k_fold)))
local macro_rules | `(tactic| walk_at "call ref") => `(tactic| (k_here; (with_reducible show wpAny _ _ (call (Value.ref 35) [Value.int _ _, Value.int _ _]) _ _ _); k_dflt (refine' c_mod ?k1 ?k2 ?k3 ?k4 ?k5 ?kK ?kd ?ka ?_; (case k1 => k_asm); (case k2 => k_asm); (case k3 => k_asm); (case k4 => k_asm); (case k5 => k_asm); (case kK => first | exact rfl | assumption); (case kd => ktr_room); (case ka => decide); k_whole); intro t9 h9 tk9 F9 N9; (try dsimp only); (try k_fold)))

section
local macro_rules | `(tactic| walk_at "exec For Name Name cons nil") => `(tactic| (k_here; (rename Fr _ _ _ _ => lF'); (with_unfolding_all refine' For_invVF lF' ?k1 ?k2 ?_; (case k1 => exact rfl); (case k2 => exact rfl); k_whole)))
local macro_rules | `(tactic| walk_at "pyIter ref") => `(tactic| ((with_reducible show wpAny _ _ (pyIter (Value.ref _)) (fun it s₂ => LoopAtV _ _ _ _ _ _ _ _ _ it s₂) _ _); (rename Fr _ _ _ _ => lF'); (rename News _ _ _ _ => lN'); (with_unfolding_all refine' iter_acc1L (y := Str.ofString "told") (fun a n => n - a) (by decide) (by rfl) (by assumption) (by assumption) lF' lN' ⟨_, by rfl⟩ (fun n' t' a' ta' h' tk' own' hmem' hoff' F' N' => ?_) (fun u' t' h' tk' F' N' => ?_)); (all_goals (try clear lF' lN')); (all_goals (try k_fold))))
local macro_rules | `(tactic| walk_at "InvEndN") => `(tactic| (refine InvEndN.intro (by assumption) (by assumption) ⟨rfl, ⟨_, by rfl⟩, by (intro z h1 h2; first | rfl | (simp [h1, h2]; done) | (simp_all; done))⟩ rfl (fun _ hp => List.mem_append_left _ hp) (fun _ hp => List.mem_append_right _ hp)))
theorem c_turns {l : Addr} {n : Nat} {vs : List Value} {ns : List Int} (B : Below A₀ base outer h₀) (F : Fr h₀ L s.heap m) (X : (hd.heap_39 w.params).In h₀) (N : News h₀ L s.heap news) (T : Top p loose mean mg mb h₀) (hk : cs.kind = .function) (hdp : dp + 2 < recursionLimit)
    (hl : (l, listOf vs.toArray n) ∈ news) (hi : IntsAre vs ns)
    (hret : ∀ t h' tk', Fr h₀ L h' m → News h₀ L h' news → Q (.int (ns.foldl (fun a n => n - a) 0) t) { s with heap := h', toks := tk' }) :
    wpAny (model Challenge.rw_oc0011_01.row.prog w) (ktrTop dp un gd cn cs L a ccd cl outer) (call (.ref 109) [.ref l]) Q E s := by
  refine wpAny_call ?_
  k_dflt cell_enter
  k_steps
  all_goals exact hret _ _ _ (by k_asm) (by k_asm)
end
end
def b64arr : Array UInt8 := #[65, 66, 67, 68, 69, 70, 71, 72, 73, 74, 75, 76, 77, 78, 79, 80, 81, 82, 83, 84, 85, 86, 87, 88, 89, 90, 97, 98, 99, 100, 101, 102, 103, 104, 105, 106, 107, 108, 109, 110, 111, 112, 113, 114, 115, 116, 117, 118, 119, 120, 121, 122, 48, 49, 50, 51, 52, 53, 54, 55, 56, 57, 43, 47]
def b64tab : List Int := [65, 66, 67, 68, 69, 70, 71, 72, 73, 74, 75, 76, 77, 78, 79, 80, 81, 82, 83, 84, 85, 86, 87, 88, 89, 90, 97, 98, 99, 100, 101, 102, 103, 104, 105, 106, 107, 108, 109, 110, 111, 112, 113, 114, 115, 116, 117, 118, 119, 120, 121, 122, 48, 49, 50, 51, 52, 53, 54, 55, 56, 57, 43, 47]
def b64c (i : Int) : Int := b64tab.getD i.toNat 0
theorem b64_ints : KBw.bInts b64arr = b64tab := by decide +kernel
theorem and63 (x : Int) : 0 ≤ Builtin.bitAnd x 63 ∧ Builtin.bitAnd x 63 < 64 := by
  rw [bitAnd_m6]; omega
theorem b64c_in (i : Int) : 0 ≤ b64c i ∧ b64c i < 256 := by
  have h : ∀ j : Nat, 0 ≤ b64tab.getD j 0 ∧ b64tab.getD j 0 < 256 := by
    intro j
    by_cases hj : j < 64
    · have q : ∀ k : Fin 64, 0 ≤ b64tab.getD k.val 0 ∧ b64tab.getD k.val 0 < 256 := by decide +kernel
      exact q ⟨j, hj⟩
    · have e : b64tab.getD j 0 = 0 := by
        rw [List.getD_eq_getElem?_getD, List.getElem?_eq_none (by show 64 ≤ j; omega)]; rfl
      rw [e]; decide
  exact h i.toNat
theorem b64_item {prog : Program} {w : World} {A : Around} {s : Shared} {Q E : Value → Shared → Prop} {value slice : PySem.Expr} {x : Int} {t u : Tok}
    (h : ∀ t' k, 0 ≤ b64c (Builtin.bitAnd x 63) → b64c (Builtin.bitAnd x 63) < 256 → Q (.int (b64c (Builtin.bitAnd x 63)) t') { s with toks := k })
    (hs : subscripted slice false (.bytes b64arr t) (.int (Builtin.bitAnd x 63) u) = operate [.bytes b64arr t, .int (Builtin.bitAnd x 63) u] (getItem (.bytes b64arr t) (.int (Builtin.bitAnd x 63) u)))
    (ht : ∀ r, letTemporaryGo value (.bytes b64arr t) r = pure ()) : wpAny (model prog w) A (subscriptTail value slice (.bytes b64arr t) (.int (Builtin.bitAnd x 63) u)) Q E s :=
  KBw.item_K b64_ints (by decide) (and63 x).1 (and63 x).2 h hs ht

theorem lsh_mask {prog : Program} {w : World} {A : Around} {s : Shared} {Q E : Value → Shared → Prop} {x : Int} {t u : Tok} (h : Q (.int (Builtin.bitAnd x 65535 * 256) s.toks) { s with toks := s.toks + 1 }) :
    wpAny (model prog w) A (binaryOp .LShift (.int (Builtin.bitAnd x 65535) t) (.int 8 u)) Q E s := by
  refine lshift_int_small (by decide) (by decide) ?_ h
  have := bitAnd_range x (y := 65535) (by decide)
  omega
theorem bytes4 {prog : Program} {w : World} {A : Around} {s : Shared} {Q E : Value → Shared → Prop} {h₀ : Heap} {L D : Addr} {m : Str → Option Value} {news : List (Addr × Obj)} {n : Nat} {x0 x1 x2 x3 : Int} {t0 t1 t2 t3 : Tok}
    (F : Fr h₀ L s.heap m) (N : News h₀ L s.heap news) (hh : A.handled = none) (hl : (D, listOf #[.int x0 t0, .int x1 t1, .int x2 t2, .int x3 t3] n) ∈ news)
    (b0 : 0 ≤ x0 ∧ x0 < 256) (b1 : 0 ≤ x1 ∧ x1 < 256) (b2 : 0 ≤ x2 ∧ x2 < 256) (b3 : 0 ≤ x3 ∧ x3 < 256)
    (h : ∀ b h' t' k, Fr h₀ L h' m → News h₀ L h' news → KBw.bInts b = [x0, x1, x2, x3] → Q (.bytes b t') { s with heap := h', toks := k }) : wpAny (model prog w) A (call (.type "bytes") [.ref D]) Q E s := by
  have hin : KBa.In [x0, x1, x2, x3] := by
    intro n hn
    simp only [List.mem_cons, List.not_mem_nil, or_false] at hn
    rcases hn with rfl | rfl | rfl | rfl <;> assumption
  refine KBa.make_K (ns := [x0, x1, x2, x3]) F N hh (News.isList N hl) (.cons _ _ (.cons _ _ (.cons _ _ (.cons _ _ .nil)))) hin (by show (4 : Nat) ≤ _; decide) ?_
  intro h' t' k F' N' _
  exact h _ h' t' k F' N' (KBa.ints_make hin)

section
variable {w : World} {p : Program} {loose : List Str} {mean : ExcName → Option Value} {mg mb : Str → Option Value} {dp un : Nat} {gd : Option (List Code)} {cn : Str} {cs : Scope} {a : Addr} {ccd : Value} {cl : List (Str × Addr)} {outer : List Env} {A₀ : Around} {base h₀ : Heap} {L : Addr} {m : Str → Option Value} {s : Shared} {Q E : Value → Shared → Prop} {news : List (Addr × Obj)}

section
local macro_rules | `(tactic| walk_at "call type:type") => `(tactic| (k_here; first | ((with_reducible show wpAny _ _ (call (Value.type "type") [Value.bytes _ _]) _ _ _); refine call_type_of (typeIs_bytes _ _ _) (by decide +kernel) ?_) | ((with_reducible show wpAny _ _ (call (Value.type "type") [Value.bool _]) _ _ _); refine call_type_of (typeIs_bool _ _) (by decide +kernel) ?_) | ((with_reducible show wpAny _ _ (call (Value.type "type") [Value.int _ _]) _ _ _); refine call_type_of (typeIs_int _ _ _) (by decide +kernel) ?_)))
local macro_rules | `(tactic| walk_at "subscriptTail") => `(tactic| (k_here; (with_reducible show wpAny _ _ (subscriptTail _ _ (Value.bytes _ _) (Value.int (Builtin.bitAnd _ 63) _)) _ _ _); (with_unfolding_all refine' b64_item ?_ ?k1 ?k2); (case k1 => with_unfolding_all rfl); (case k2 => intro _; with_unfolding_all rfl); intro t' k' kbaLo kbaHi))
local macro_rules | `(tactic| walk_at "binaryOp LShift int int") => `(tactic| (k_here; (with_reducible show wpAny _ _ (binaryOp Operator.LShift (Value.int (Builtin.bitAnd _ 65535) _) (Value.int 8 _)) _ _ _); refine lsh_mask ?_))
local macro_rules | `(tactic| walk_at "call type:bytes") => `(tactic| (k_here; (with_reducible show wpAny _ _ (call (Value.type "bytes") [Value.ref _]) _ _ _); k_dflt (refine' bytes4 ?k1 ?k2 ?k3 ?k4 ?b0 ?b1 ?b2 ?b3 ?_; (case k1 => k_asm); (case k2 => k_asm); (case k3 => exact rfl); (case k4 => k_mem); (case b0 => exact b64c_in _); (case b1 => exact b64c_in _); (case b2 => exact b64c_in _); (case b3 => exact b64c_in _); k_whole); intro b' h' t' k' F' N' hb'))
local macro_rules | `(tactic| k_room) => `(tactic| ktr_room)
local macro_rules | `(tactic| walk_at "exec For Name Name cons nil") => `(tactic| (k_here; (rename Fr _ _ _ _ => lF'); (with_unfolding_all refine' For_invVF lF' ?k1 ?k2 ?_; (case k1 => exact rfl); (case k2 => exact rfl); k_whole)))
local macro_rules | `(tactic| walk_at "pyIter bytes") => `(tactic| ((with_reducible show wpAny _ _ (pyIter (Value.bytes _ _)) (fun it s₂ => LoopAtV _ _ _ _ _ _ _ _ _ it s₂) _ _); (rename Fr _ _ _ _ => lF'); (rename News _ _ _ _ => lN'); (with_unfolding_all refine iter_bytesUnr (by rfl) lF' lN' (by assumption) ?_); clear lF' lN'; intro i' l1; (try k_lt l1)))
local macro_rules | `(tactic| walk_at "UnrEnd") => `(tactic| ((rename News _ _ _ _ => lN'); refine UnrEnd.intro (by assumption) lN' _ (fun _ hp => hp) ?off ?_; (case off => k_all)))
theorem c_b64 {bs : Array UInt8} {t : Tok} {n0 n1 n2 : Int} (B : Below A₀ base outer h₀) (F : Fr h₀ L s.heap m) (X : (hd.heap_39 w.params).In h₀) (N : News h₀ L s.heap news) (T : Top p loose mean mg mb h₀) (hk : cs.kind = .function) (hdp : dp + 4 < recursionLimit)
    (hb : KBw.bInts bs = [n0, n1, n2])
    (hret : ∀ ob t h' tk', Fr h₀ L h' m → News h₀ L h' news → KBw.bInts ob = [b64c (n0 / 4), b64c (n0 % 4 * 16 + n1 / 16), b64c (n1 % 16 * 4 + n2 / 64), b64c (n2 % 64)] → Q (.bytes ob t) { s with heap := h', toks := tk' }) :
    wpAny (model Challenge.rw_oc0011_01.row.prog w) (ktrTop dp un gd cn cs L a ccd cl outer) (call (.ref 88) [.bytes bs t]) Q E s := by
  refine wpAny_call ?_
  k_dflt (refine' code_def ?k1 ?k2 ?k3 ?k4 ?k5 ?kA ?kF ?kK ?k6 ?k7 ?k8 ?k9 ?kB ?_ ?c2 ?c3 ?c4 ?c5; (case kA => exact rfl); (case kF => exact rfl); (case kK => assumption); (case k1 => k_asm); (case k2 => k_asm); (case k3 => k_asm); (case k4 => k_asm); (case k5 => k_asm); (case k6 => k_is); (case k7 => k_is); (case k8 => ktr_room); (case k9 => first | exact BindsTo.of_eq rfl | exact binds_K (by k_in) rfl (by k_is) rfl rfl rfl); (case c5 => decide); (case kB => exact locs rfl); (case c2 => exact rfl); (case c3 => exact rfl); (case c4 => exact rfl); k_whole; intro g' L' h' FG' F' N' B' X' T'; (try dsimp only); (try k_lift B'); (try k_fold))
  k_steps
  rename KBw.bInts _ = [b64c _, b64c _, b64c _, b64c _] => hq
  rename News h₀ L _ _ => hN
  rename Fr h₀ L _ m => hF
  have a0 : 0 ≤ n0 ∧ n0 < 256 := KBw.ints_in (b := bs) (by rw [hb]; simp)
  have a1 : 0 ≤ n1 ∧ n1 < 256 := KBw.ints_in (b := bs) (by rw [hb]; simp)
  have a2 : 0 ≤ n2 ∧ n2 < 256 := KBw.ints_in (b := bs) (by rw [hb]; simp)
  rw [ix0 n0 a0, ix1 n0 n1 a0 a1, ix2 n0 n1 n2 a0 a1 a2, ix3 n0 n1 n2 a0 a1 a2] at hq
  exact hret _ _ _ _ hF (fun p hp => hN p (List.Mem.tail _ hp)) hq
end
end
section
variable {w : World} {p : Program} {loose : List Str} {mean : ExcName → Option Value} {mg mb : Str → Option Value} {dp un : Nat} {gd : Option (List Code)} {cn : Str} {cs : Scope} {a : Addr} {ccd : Value} {cl : List (Str × Addr)} {outer : List Env} {A₀ : Around} {base h₀ : Heap} {L : Addr} {m : Str → Option Value} {s : Shared} {Q E : Value → Shared → Prop} {news : List (Addr × Obj)}
section
local macro_rules | `(tactic| walk_at "call type:type") => `(tactic| (k_here; first | ((with_reducible show wpAny _ _ (call (Value.type "type") [Value.bytes _ _]) _ _ _); refine call_type_of (typeIs_bytes _ _ _) (by decide +kernel) ?_) | ((with_reducible show wpAny _ _ (call (Value.type "type") [Value.bool _]) _ _ _); refine call_type_of (typeIs_bool _ _) (by decide +kernel) ?_) | ((with_reducible show wpAny _ _ (call (Value.type "type") [Value.int _ _]) _ _ _); refine call_type_of (typeIs_int _ _ _) (by decide +kernel) ?_)))
local macro_rules | `(tactic| walk_at "getMethod bytes") => `(tactic| (k_here; first | (with_reducible refine method_hex ?_) | (with_reducible refine method_upper ?_)))
local macro_rules | `(tactic| walk_at "getMethod str") => `(tactic| (k_here; (with_reducible refine method_encode ?_)))
local macro_rules | `(tactic| walk_at "call builtin:bytes.hex") => `(tactic| (k_here; refine call_hex ?_; intro t' k'))
local macro_rules | `(tactic| walk_at "call builtin:str.encode") => `(tactic| (k_here; refine call_enc (hexDigit_lt _ (by omega)) (hexDigit_lt _ (by omega)) (hexDigit_lt _ (by omega)) (hexDigit_lt _ (by omega)) (hexDigit_lt _ (by omega)) (hexDigit_lt _ (by omega)) ?_; intro t' k'))
local macro_rules | `(tactic| walk_at "call builtin:bytes.upper") => `(tactic| (k_here; refine call_upper ?_; intro t' k'))
local macro_rules | `(tactic| k_room) => `(tactic| ktr_room)
theorem c_b16 {bs : Array UInt8} {t : Tok} {n0 n1 n2 : Int} (B : Below A₀ base outer h₀) (F : Fr h₀ L s.heap m) (X : (hd.heap_39 w.params).In h₀) (N : News h₀ L s.heap news) (T : Top p loose mean mg mb h₀) (hk : cs.kind = .function) (hdp : dp + 4 < recursionLimit)
    (hb : KBw.bInts bs = [n0, n1, n2])
    (hret : ∀ ob t h' tk', Fr h₀ L h' m → News h₀ L h' news → KBw.bInts ob = [hexc (n0 / 16), hexc (n0 % 16), hexc (n1 / 16), hexc (n1 % 16), hexc (n2 / 16), hexc (n2 % 16)] → Q (.bytes ob t) { s with heap := h', toks := tk' }) :
    wpAny (model Challenge.rw_oc0011_01.row.prog w) (ktrTop dp un gd cn cs L a ccd cl outer) (call (.ref 95) [.bytes bs t]) Q E s := by
  obtain ⟨c0, c1, c2, rfl, rfl, rfl, rfl⟩ : ∃ c0 c1 c2 : UInt8, bs = #[c0, c1, c2] ∧ n0 = (c0.toNat : Int) ∧ n1 = (c1.toNat : Int) ∧ n2 = (c2.toNat : Int) := by
    obtain ⟨l⟩ := bs
    match l, hb with
    | [c0, c1, c2], hb =>
      have e : ([(c0.toNat : Int), (c1.toNat : Int), (c2.toNat : Int)] : List Int) = [n0, n1, n2] := hb
      simp only [List.cons.injEq, and_true] at e
      exact ⟨c0, c1, c2, rfl, e.1.symm, e.2.1.symm, e.2.2.symm⟩
  clear hb
  have u0 := c0.toNat_lt
  have u1 := c1.toNat_lt
  have u2 := c2.toNat_lt
  refine wpAny_call ?_
  k_dflt (refine' code_def ?k1 ?k2 ?k3 ?k4 ?k5 ?kA ?kF ?kK ?k6 ?k7 ?k8 ?k9 ?kB ?_ ?c2 ?c3 ?c4 ?c5; (case kA => exact rfl); (case kF => exact rfl); (case kK => assumption); (case k1 => k_asm); (case k2 => k_asm); (case k3 => k_asm); (case k4 => k_asm); (case k5 => k_asm); (case k6 => k_is); (case k7 => k_is); (case k8 => ktr_room); (case k9 => first | exact BindsTo.of_eq rfl | exact binds_K (by k_in) rfl (by k_is) rfl rfl rfl); (case c5 => decide); (case kB => exact locs rfl); (case c2 => exact rfl); (case c3 => exact rfl); (case c4 => exact rfl); k_whole; intro g' L' h' FG' F' N' B' X' T'; (try dsimp only); (try k_lift B'); (try k_fold))
  k_steps
  rename News h₀ L _ _ => hN
  rename Fr h₀ L _ m => hF
  refine hret _ _ _ _ hF hN ?_
  show [(((Builtin.Bytes.toUpper (Builtin.Bytes.hexDigit (c0.toNat / 16)).toUInt8).toNat : Nat) : Int), (((Builtin.Bytes.toUpper (Builtin.Bytes.hexDigit (c0.toNat % 16)).toUInt8).toNat : Nat) : Int), (((Builtin.Bytes.toUpper (Builtin.Bytes.hexDigit (c1.toNat / 16)).toUInt8).toNat : Nat) : Int), (((Builtin.Bytes.toUpper (Builtin.Bytes.hexDigit (c1.toNat % 16)).toUInt8).toNat : Nat) : Int), (((Builtin.Bytes.toUpper (Builtin.Bytes.hexDigit (c2.toNat / 16)).toUInt8).toNat : Nat) : Int), (((Builtin.Bytes.toUpper (Builtin.Bytes.hexDigit (c2.toNat % 16)).toUInt8).toNat : Nat) : Int)] = _
  rw [hex_up _ (by omega), hex_up _ (by omega), hex_up _ (by omega), hex_up _ (by omega), hex_up _ (by omega), hex_up _ (by omega)]
  simp only [Int.natCast_ediv, Int.natCast_emod]
  rfl
end
end
section
open PySem.Calls PySem.Spec
section
variable {prog : Program} {w : World} {A : Around} {E : Value → Shared → Prop} {s : Shared} {h₀ : Heap} {L : Addr} {m : Str → Option Value} {env : Env}
def SrcB (prog : Program) (w : World) (A : Around) (h₀ : Heap) (L : Addr) (m : Str → Option Value) (env : Env) (elt : Expr) (x : Str) (scope : Scope) (cl : List (Str × Addr)) (Fin : Shared → List Value → List (Addr × Obj) → Prop) (xv : Value) (s₁ : Shared) : Prop :=
  ∃ b t ks news, xv = .bytes b t ∧ A.handled = none ∧ Fr h₀ L s₁.heap m ∧ News h₀ L s₁.heap news ∧ KBw.bInts b = ks ∧ ks.length ≤ sizeLine ∧
    ∀ g, LCg.CompRest prog w A h₀ L m env elt x scope cl { s₁ with heap := g } (fun _ => True) (fun i v => ∃ t, v = .int (ks.getD i 0) t) (Fin { s₁ with heap := g }) ks.length 0 [] news
theorem bytes_walks {I : Addr} {b : Array UInt8} {t : Tok} (hh : A.handled = none) : Walks prog w A I [I] [I] (KBw.bInts b).length (fun i v => ∃ t, v = .int ((KBw.bInts b).getD i 0) t) (fun i h => KBw.IsBytesIter h I b t i) := by
  rw [KBw.ints_length]
  have W := KBw.walks (prog := prog) (w := w) hh I b t
  exact { sub := W.sub, frame := W.frame, done := W.done, self := W.self, item := fun i s Q E hi st hQ => W.item i s Q E hi st fun v h' tk hP => hQ v h' tk (by
    obtain ⟨c, u, hc, rfl⟩ := hP
    refine ⟨u, ?_⟩
    rw [List.getD_eq_getElem?_getD, KBw.ints_get hc]; rfl) }
theorem Assign_comp_B {elt iter : Expr} {x y : Str} {px py : Pos} {scope : Scope} {cl : List (Str × Addr)} {pos spos : Pos} {Q : Flow → Shared → Prop} (F₀ : Fr h₀ L s.heap m) (hLe : env.locals = L)
    (hsw : swapsWith (.ListComp elt [⟨.Name x px, iter, [], 0⟩] scope pos) (some (.Name y py)) spos.line env = pure true)
    (hclos : closureFor scope env = pure cl) (hcell : ∀ z ∈ scope.names, z.2 ≠ .cell) (hkind : scope.kind = .function)
    (hnames : ∀ z ∈ scope.names, z.2 = .local → scope.names.lookup z.1 = some .local) (hx : scope.names.lookup x = some .local)
    (hy : env.kindOf y = some .local) (hp : (env.scope.kind == .class || (env.scope.kind == .module && env.locals != env.globals)) = false)
    (h : wpAny (model prog w) A (eval iter env) (SrcB prog w A h₀ L m env elt x scope cl (fun s₂ => LCg.FinA h₀ L m s₂ y Q)) E s)
    (hs : ∀ x, foldedSetIterable iter env x = pure x) :
    wpAny (model prog w) A (exec (.Assign [.Name y py] (.ListComp elt [⟨.Name x px, iter, [], 0⟩] scope pos) spos) env) Q E s := by
  subst hLe
  rw [exec_Assign_Name_used _ _ _ _ hsw]
  refine wpAny_bind (wpAny_standAt (wpAny_bind ?_))
  show wpAny _ A (do let _ ← comprehension (.ListComp elt [⟨.Name x px, iter, [], 0⟩] scope pos) scope env _ (newList []) false (eval iter env) (some (assign (.Name y py) env))) _ _ s
  refine wpAny_bind (wpAny_mono (wpAny_comprehension_free (use := some (assign (.Name y py) env)) (Q := fun _ s' => Q .next s') rfl hs hclos hkind hnames
    (wpAny_mono h (fun xv s₁ h₁ => ?_) fun _ _ e => e)) (fun _ s' hq => wpAny_pure (wpAny_pure hq)) fun _ _ e => e)
  obtain ⟨b, t, ks, news, rfl, hh, F, N, rfl, hsz, R⟩ := h₁
  refine KBw.pyIter_bytes ?_
  have up : ∀ b' o, s₁.heap.get? b' = some o → (s₁.heap.push { cls := .type "bytes_iterator", data := .fields #[.bytes b t, .int 0 0] }).get? b' = some o := fun b' o e => Heap.get?_push_of_some _ e
  refine LCg.block_U (bytes_walks (b := b) (t := t) hh) hsz (fun i h st => by obtain ⟨o, e, _⟩ := st; exact ⟨o, e⟩)
    (fun i h h' o nw st e e' _ _ _ => by obtain ⟨o', q, r⟩ := st; rw [e] at q; cases q; exact ⟨o, e', r⟩) hcell hkind hx ⟨_, Heap.get?_push_size _ rfl, rfl, rfl⟩ (fun b hb => ?_)
    (F.keeps up) (N.grown up) (Nat.ne_of_lt F.ns.lt) (next_is_new F) (fun p hp => Nat.ne_of_lt (Heap.lt_size (N p hp).1)) trivial (R _) ?_
  · rw [List.mem_singleton.mp hb]
    show s₁.heap.objs.size < (s₁.heap.push _).objs.size
    rw [Heap.size_push]; exact Nat.lt_succ_self _
  · intro D C h' tk m' ys news' F' N' o1 hn hC₀ hD₀ hCL hDL hCD offC fin
    show wpAny _ A (assign (.Name y py) env (.ref D)) _ _ _
    refine wpAny_assign_Name (wpAny_storeName_local hy F'.ns (fun h₂ hn₂ hs₂ => ?_) hp)
    have hL₀ : h₀.get? env.locals = none := Heap.get?_none_of_le F'.above
    have F₂ : Fr h₀ env.locals h₂ (fun z => if z = y then some (.ref D) else m z) := ⟨hn₂, fun b o e => hs₂.extBut b o (fun q => by rw [q, hL₀] at e; cases e) (F'.keep b o e), F'.above⟩
    refine ⟨m', hn.sameBut hs₂ hCL, fun h'' hs'' => fin D h'' _ (F₂.change hs'' hCL hC₀) (fun p hp => ?_) o1⟩
    have z : h₂.get? p.1 = some p.2 := hs₂.extBut _ _ (N' p hp).2.1 (N' p hp).1
    refine ⟨hs''.extBut _ _ ?_ z, (N' p hp).2⟩
    rcases List.mem_cons.mp hp with rfl | hp
    · exact Ne.symm hCD
    · exact offC p hp
end
abbrev alpha64 : Str := Str.ofString "ABCDEFGHIJKLMNOPQRSTUVWXYZabcdefghijklmnopqrstuvwxyz0123456789+/"
abbrev alpha16 : Str := Str.ofString "0123456789ABCDEF"
theorem occ64 : ∀ k : Fin 64, Builtin.Str.occurrences alpha64 ⟨#[(b64c (k.val : Int)).toNat]⟩ 0 alpha64.length 1 = [k.val] := by decide +kernel
theorem occ16 : ∀ k : Fin 16, Builtin.Str.occurrences alpha16 ⟨#[(hexc (k.val : Int)).toNat]⟩ 0 alpha16.length 1 = [k.val] := by decide +kernel
theorem hexc_in (i : Int) : 0 ≤ hexc i ∧ hexc i < 256 := by
  have h : ∀ j : Nat, 0 ≤ hextab.getD j 0 ∧ hextab.getD j 0 < 256 := by
    intro j
    by_cases hj : j < 16
    · have q : ∀ k : Fin 16, 0 ≤ hextab.getD k.val 0 ∧ hextab.getD k.val 0 < 256 := by decide +kernel
      exact q ⟨j, hj⟩
    · have e : hextab.getD j 0 = 0 := by
        rw [List.getD_eq_getElem?_getD, List.getElem?_eq_none (by show 16 ≤ j; omega)]; rfl
      rw [e]; decide
  exact h i.toNat
section
variable {prog : Program} {w : World} {A : Around} {E : Value → Shared → Prop} {s : Shared} {Q : Value → Shared → Prop} {t u : Tok}
theorem chr64 {i : Int} (h : Q (.str ⟨#[(b64c i).toNat]⟩ s.toks) { s with toks := s.toks + 1 }) : wpAny (model prog w) A (call (.builtin "chr") [.int (b64c i) t]) Q E s :=
  chr_of_range (b64c_in i).1 (by have := (b64c_in i).2; omega) h
theorem chr16 {i : Int} (h : Q (.str ⟨#[(hexc i).toNat]⟩ s.toks) { s with toks := s.toks + 1 }) : wpAny (model prog w) A (call (.builtin "chr") [.int (hexc i) t]) Q E s :=
  chr_of_range (hexc_in i).1 (by have := (hexc_in i).2; omega) h
theorem index64 {i : Int} (h0 : 0 ≤ i) (h1 : i < 64) (h : ∀ t' k, Q (.int i t') { s with toks := k }) :
    wpAny (model prog w) A (call (.builtin "str.index") [.str alpha64 t, .str ⟨#[(b64c i).toNat]⟩ u]) Q E s := by
  have o := occ64 ⟨i.toNat, by omega⟩
  have e : ((i.toNat : Nat) : Int) = i := Int.toNat_of_nonneg h0
  simp only [e] at o
  refine SC.index o ?_
  rw [e]; exact h _ _
theorem index16 {i : Int} (h0 : 0 ≤ i) (h1 : i < 16) (h : ∀ t' k, Q (.int i t') { s with toks := k }) :
    wpAny (model prog w) A (call (.builtin "str.index") [.str alpha16 t, .str ⟨#[(hexc i).toNat]⟩ u]) Q E s := by
  have o := occ16 ⟨i.toNat, by omega⟩
  have e : ((i.toNat : Nat) : Int) = i := Int.toNat_of_nonneg h0
  simp only [e] at o
  refine SC.index o ?_
  rw [e]; exact h _ _
end
end
theorem bytes3 {prog : Program} {w : World} {A : Around} {s : Shared} {Q E : Value → Shared → Prop} {h₀ : Heap} {L D : Addr} {m : Str → Option Value} {news : List (Addr × Obj)} {n : Nat} {x0 x1 x2 : Int} {t0 t1 t2 : Tok}
    (F : Fr h₀ L s.heap m) (N : News h₀ L s.heap news) (hh : A.handled = none) (hl : (D, listOf #[.int x0 t0, .int x1 t1, .int x2 t2] n) ∈ news)
    (b0 : 0 ≤ x0 ∧ x0 < 256) (b1 : 0 ≤ x1 ∧ x1 < 256) (b2 : 0 ≤ x2 ∧ x2 < 256)
    (h : ∀ b h' t' k, Fr h₀ L h' m → News h₀ L h' news → KBw.bInts b = [x0, x1, x2] → Q (.bytes b t') { s with heap := h', toks := k }) : wpAny (model prog w) A (call (.type "bytes") [.ref D]) Q E s := by
  have hin : KBa.In [x0, x1, x2] := by
    intro n hn
    simp only [List.mem_cons, List.not_mem_nil, or_false] at hn
    rcases hn with rfl | rfl | rfl <;> assumption
  refine KBa.make_K (ns := [x0, x1, x2]) F N hh (News.isList N hl) (.cons _ _ (.cons _ _ (.cons _ _ .nil))) hin (by show (3 : Nat) ≤ _; decide) ?_
  intro h' t' k F' N' _
  exact h _ h' t' k F' N' (KBa.ints_make hin)
theorem allLt_mem {d : Addr} : ∀ {l : List (Addr × Obj)}, AllLt d l → ∀ p ∈ l, p.1 < d
  | [], _, _, h => nomatch h
  | _ :: _, x, p, h => by
    rcases List.mem_cons.mp h with rfl | h
    · exact x.1
    · exact allLt_mem x.2 p h

theorem sums_law (row : Int) (r0 : 0 ≤ row) (r1 : row < 16777216) :
    ((List.foldl (fun a n => a + n) 0 [row.fdiv 65536 / 4, row.fdiv 65536 % 4 * 16 + (row.fdiv 256).fmod 256 / 16, (row.fdiv 256).fmod 256 % 16 * 4 + row.fmod 256 / 64, row.fmod 256 % 64] : Int) % 63 = row % 63 ∧
      (List.foldl (fun a n => n - a) 0 [row.fdiv 65536 / 4, row.fdiv 65536 % 4 * 16 + (row.fdiv 256).fmod 256 / 16, (row.fdiv 256).fmod 256 % 16 * 4 + row.fmod 256 / 64, row.fmod 256 % 64] : Int) % 65 = row % 65 ∧
      (List.foldl (fun a n => n - a) 0 [row.fdiv 65536 / 16, row.fdiv 65536 % 16, (row.fdiv 256).fmod 256 / 16, (row.fdiv 256).fmod 256 % 16, row.fmod 256 / 16, row.fmod 256 % 16] : Int) % 17 = row % 17 ∧
      (List.foldl (fun a n => n - a) 0 [row.fdiv 65536, (row.fdiv 256).fmod 256, row.fmod 256] : Int) % 257 = row % 257) ∧
    (-1000 ≤ (List.foldl (fun a n => a + n) 0 [row.fdiv 65536 / 4, row.fdiv 65536 % 4 * 16 + (row.fdiv 256).fmod 256 / 16, (row.fdiv 256).fmod 256 % 16 * 4 + row.fmod 256 / 64, row.fmod 256 % 64] : Int) ∧ (List.foldl (fun a n => a + n) 0 [row.fdiv 65536 / 4, row.fdiv 65536 % 4 * 16 + (row.fdiv 256).fmod 256 / 16, (row.fdiv 256).fmod 256 % 16 * 4 + row.fmod 256 / 64, row.fmod 256 % 64] : Int) ≤ 1000) ∧
    (-1000 ≤ (List.foldl (fun a n => n - a) 0 [row.fdiv 65536 / 4, row.fdiv 65536 % 4 * 16 + (row.fdiv 256).fmod 256 / 16, (row.fdiv 256).fmod 256 % 16 * 4 + row.fmod 256 / 64, row.fmod 256 % 64] : Int) ∧ (List.foldl (fun a n => n - a) 0 [row.fdiv 65536 / 4, row.fdiv 65536 % 4 * 16 + (row.fdiv 256).fmod 256 / 16, (row.fdiv 256).fmod 256 % 16 * 4 + row.fmod 256 / 64, row.fmod 256 % 64] : Int) ≤ 1000) ∧
    (-1000 ≤ (List.foldl (fun a n => n - a) 0 [row.fdiv 65536 / 16, row.fdiv 65536 % 16, (row.fdiv 256).fmod 256 / 16, (row.fdiv 256).fmod 256 % 16, row.fmod 256 / 16, row.fmod 256 % 16] : Int) ∧ (List.foldl (fun a n => n - a) 0 [row.fdiv 65536 / 16, row.fdiv 65536 % 16, (row.fdiv 256).fmod 256 / 16, (row.fdiv 256).fmod 256 % 16, row.fmod 256 / 16, row.fmod 256 % 16] : Int) ≤ 1000) ∧
    (-1000 ≤ (List.foldl (fun a n => n - a) 0 [row.fdiv 65536, (row.fdiv 256).fmod 256, row.fmod 256] : Int) ∧ (List.foldl (fun a n => n - a) 0 [row.fdiv 65536, (row.fdiv 256).fmod 256, row.fmod 256] : Int) ≤ 1000) := by
  simp only [List.foldl_cons, List.foldl_nil]
  rw [fdv row (k := 65536) (by decide), fdv row (k := 256) (by decide), Int.fmod_eq_emod_of_nonneg row (b := 256) (by decide), Int.fmod_eq_emod_of_nonneg (row / 256) (b := 256) (by decide)]
  have e0 := row_of row
  have a0 : 0 ≤ row / 65536 ∧ row / 65536 < 256 := by omega
  have a1 : 0 ≤ row / 256 % 256 ∧ row / 256 % 256 < 256 := by omega
  have a2 : 0 ≤ row % 256 ∧ row % 256 < 256 := by omega
  generalize row / 65536 = n0 at *
  generalize row / 256 % 256 = n1 at *
  generalize row % 256 = n2 at *
  have f0 : n0 = 4 * (n0 / 4) + n0 % 4 := by omega
  have f1 : n1 = 16 * (n1 / 16) + n1 % 16 := by omega
  have f2 : n2 = 64 * (n2 / 64) + n2 % 64 := by omega
  have g0 : n0 = 16 * (n0 / 16) + n0 % 16 := by omega
  have g2 : n2 = 16 * (n2 / 16) + n2 % 16 := by omega
  refine ⟨⟨?_, ?_, ?_, ?_⟩, ⟨by omega, by omega⟩, ⟨by omega, by omega⟩, ⟨by omega, by omega⟩, ⟨by omega, by omega⟩⟩
  · rw [rm63, ← f0, ← f1, ← f2, ← e0]
  · rw [rm65, ← f0, ← f1, ← f2, ← e0]
  · rw [rm17, ← g0, ← f1, ← g2, ← e0]
  · rw [rm257, ← e0]

section
variable {w : World} {p : Program} {loose : List Str} {mean : ExcName → Option Value} {mg mb : Str → Option Value} {dp un : Nat} {gd : Option (List Code)} {cn : Str} {cs : Scope} {a : Addr} {ccd : Value} {cl : List (Str × Addr)} {outer : List Env} {A₀ : Around} {base h₀ : Heap} {L : Addr} {m : Str → Option Value} {s : Shared} {Q E : Value → Shared → Prop} {news : List (Addr × Obj)}

section

local macro_rules | `(tactic| walk_at "call ref") => `(tactic| (k_here; (with_reducible show wpAny _ _ (call (Value.ref 28) [Value.int _ _, Value.int _ _]) _ _ _); k_dflt (refine' c_add ?k1 ?k2 ?k3 ?k4 ?k5 ?kK ?kd ?_; (case k1 => k_asm); (case k2 => k_asm); (case k3 => k_asm); (case k4 => k_asm); (case k5 => k_asm); (case kK => first | exact rfl | assumption); (case kd => ktr_room); k_whole); intro t9 h9 tk9 F9 N9; (try dsimp only); (try k_fold)))
local macro_rules | `(tactic| walk_at "call ref") => `(tactic| (k_here; (with_reducible show wpAny _ _ (call (Value.ref 49) [Value.int _ _, Value.int _ _]) _ _ _); k_dflt (refine' c_sub ?k1 ?k2 ?k3 ?k4 ?k5 ?kK ?kd ?_; (case k1 => k_asm); (case k2 => k_asm); (case k3 => k_asm); (case k4 => k_asm); (case k5 => k_asm); (case kK => first | exact rfl | assumption); (case kd => ktr_room); k_whole); intro t9 h9 tk9 F9 N9; (try dsimp only); (try k_fold)))
local macro_rules | `(tactic| walk_at "call ref") => `(tactic| (k_here; (with_reducible show wpAny _ _ (call (Value.ref 42) [Value.int _ _, Value.int _ _]) _ _ _); k_dflt (refine' c_mul ?k1 ?k2 ?k3 ?k4 ?k5 ?kK ?kd ?ka ?kb ?kc ?kf ?_; (case k1 => k_asm); (case k2 => k_asm); (case k3 => k_asm); (case k4 => k_asm); (case k5 => k_asm); (case kK => first | exact rfl | assumption); (case kd => ktr_room); (case ka => first | decide | omega); (case kb => first | decide | omega); (case kc => first | decide | omega); (case kf => first | decide | omega); k_whole); intro t9 h9 tk9 F9 N9; (try dsimp only); (try k_fold)))
local macro_rules | `(tactic| walk_at "call ref") => `(tactic| (k_here; (with_reducible show wpAny _ _ (call (Value.ref 35) [Value.int _ _, Value.int _ _]) _ _ _); k_dflt (refine' c_mod ?k1 ?k2 ?k3 ?k4 ?k5 ?kK ?kd ?ka ?_; (case k1 => k_asm); (case k2 => k_asm); (case k3 => k_asm); (case k4 => k_asm); (case k5 => k_asm); (case kK => first | exact rfl | assumption); (case kd => ktr_room); (case ka => decide); k_whole); intro t9 h9 tk9 F9 N9; (try dsimp only); (try k_fold)))

local macro_rules | `(tactic| walk_at "call ref") => `(tactic| (k_here; (with_reducible show wpAny _ _ (call (Value.ref 109) [Value.ref _]) _ _ _); k_dflt (refine' c_turns ?k1 ?k2 ?k3 ?k4 ?k5 ?kK ?kd ?ka ?kb ?_; (case k1 => k_asm); (case k2 => k_asm); (case k3 => k_asm); (case k4 => k_asm); (case k5 => k_asm); (case kK => first | exact rfl | assumption); (case kd => ktr_room); (case ka => k_mem); (case kb => first | exact .cons _ _ (.cons _ _ (.cons _ _ .nil)) | exact .cons _ _ (.cons _ _ (.cons _ _ (.cons _ _ .nil))) | exact .cons _ _ (.cons _ _ (.cons _ _ (.cons _ _ (.cons _ _ (.cons _ _ .nil)))))); k_whole); intro t9 h9 tk9 F9 N9; (try dsimp only); (try k_fold)))
local macro_rules | `(tactic| walk_at "call ref") => `(tactic| (k_here; (with_reducible show wpAny _ _ (call (Value.ref 88) [Value.bytes _ _]) _ _ _); k_dflt (refine' c_b64 ?k1 ?k2 ?k3 ?k4 ?k5 ?kK ?kd ?ka ?_; (case k1 => k_asm); (case k2 => k_asm); (case k3 => k_asm); (case k4 => k_asm); (case k5 => k_asm); (case kK => first | exact rfl | assumption); (case kd => ktr_room); (case ka => assumption); k_whole); intro ob9 t9 h9 tk9 F9 N9 hq9; (try dsimp only); (try k_fold)))
local macro_rules | `(tactic| walk_at "call ref") => `(tactic| (k_here; (with_reducible show wpAny _ _ (call (Value.ref 95) [Value.bytes _ _]) _ _ _); k_dflt (refine' c_b16 ?k1 ?k2 ?k3 ?k4 ?k5 ?kK ?kd ?ka ?_; (case k1 => k_asm); (case k2 => k_asm); (case k3 => k_asm); (case k4 => k_asm); (case k5 => k_asm); (case kK => first | exact rfl | assumption); (case kd => ktr_room); (case ka => assumption); k_whole); intro ob9 t9 h9 tk9 F9 N9 hq9; (try dsimp only); (try k_fold)))

local macro_rules | `(tactic| walk_at "call type:bytes") => `(tactic| (k_here; (with_reducible show wpAny _ _ (call (Value.type "bytes") [Value.ref _]) _ _ _); k_dflt (refine' bytes3 ?k1 ?k2 ?k3 ?k4 ?b0 ?b1 ?b2 ?_; (case k1 => k_asm); (case k2 => k_asm); (case k3 => exact rfl); (case k4 => k_mem); (case b0 => assumption); (case b1 => assumption); (case b2 => assumption); k_whole); intro b' h' t' k' F' N' hb'))
local macro_rules | `(tactic| walk_at "exec Assign cons ListComp") => `(tactic| (k_here; k_dflt (refine Assign_comp_B (by k_asm) (by rfl) (by with_unfolding_all rfl) (by with_unfolding_all rfl) (by decide) (by rfl) (by decide) (by rfl) (by rfl) (by rfl) ?_ (by intro _; rfl))))
local macro_rules | `(tactic| walk_at "SrcB") => `(tactic| (k_dflt (refine ⟨_, _, _, _, rfl, rfl, by k_asm, by k_asm, by assumption, by (rw [sizeLine_eq]; simp only [List.length_cons, List.length_nil]; decide), ?_⟩; intro g'; lcg_lit)))
local macro_rules | `(tactic| walk_at "CompRest") => `(tactic| (with_unfolding_all first
  | (refine LCg.CompRest.succ ?_; intro v' I' oI' C' oC' D' m' h' tk' E' hv' hC' hx' F' N' off' ne'; obtain ⟨t9', hv9'⟩ := hv'; subst hv9'; (try simp only [Nat.zero_add, Nat.reduceAdd, List.getD_cons_zero, List.getD_cons_succ] at hx'))
  | refine LCg.CompRest.zero ?_))
local macro_rules | `(tactic| walk_at "CompEnd") => `(tactic| ((rename News _ _ _ _ => lN'); refine LCg.CompEnd.intro (by assumption) lN' _ (fun _ hp => hp) (by assumption) True.intro ?_))
local macro_rules | `(tactic| walk_at "call builtin:chr") => `(tactic| (k_here; first | refine chr64 ?_ | refine chr16 ?_))
local macro_rules | `(tactic| walk_at "call builtin:str.index") => `(tactic| (k_here; first | (refine index64 (by omega) (by omega) ?_; intro t' k') | (refine index16 (by omega) (by omega) ?_; intro t' k')))
local macro_rules | `(tactic| walk_at "exec For Name Name cons nil") => `(tactic| (k_here; (rename Fr _ _ _ _ => lF'); (with_unfolding_all refine' For_invVF lF' ?k1 ?k2 ?_; (case k1 => exact rfl); (case k2 => exact rfl); k_whole)))
local macro_rules | `(tactic| walk_at "pyIter ref") => `(tactic| ((with_reducible show wpAny _ _ (pyIter (Value.ref _)) (fun it s₂ => LoopAtV _ _ _ _ _ _ _ _ _ it s₂) _ _); (rename Fr _ _ _ _ => lF'); (rename News _ _ _ _ => lN'); (with_unfolding_all refine' iter_acc1L (y := Str.ofString "straight") (fun a n => a + n) (by decide) (by rfl) (by k_mem) (.cons _ _ (.cons _ _ (.cons _ _ (.cons _ _ .nil)))) lF' lN' ⟨_, by rfl⟩ (fun n' t' a' ta' h' tk' own' hmem' hoff' F' N' => ?_) (fun u' t' h' tk' F' N' => ?_)); (all_goals (try clear lF' lN')); (all_goals (try k_fold))))
local macro_rules | `(tactic| walk_at "InvEndN") => `(tactic| (refine InvEndN.intro (by assumption) (by assumption) ⟨rfl, ⟨_, by rfl⟩, by (intro z h1 h2; first | rfl | (simp [h1, h2]; done) | (simp_all; done))⟩ rfl (fun _ hp => List.mem_append_left _ hp) (fun _ hp => List.mem_append_right _ hp)))
theorem c_sums {row : Int} {t : Tok} (B : Below A₀ base outer h₀) (F : Fr h₀ L s.heap m) (X : (hd.heap_39 w.params).In h₀) (N : News h₀ L s.heap news) (T : Top p loose mean mg mb h₀) (hk : cs.kind = .function) (hdp : dp + 6 < recursionLimit)
    (r0 : 0 ≤ row) (r1 : row < 16777216)
    (hret : ∀ l' x0 x1 x2 x3 t0 t1 t2 t3 h' tk', (x0 % 63 = row % 63 ∧ x1 % 65 = row % 65 ∧ x2 % 17 = row % 17 ∧ x3 % 257 = row % 257) → (-1000 ≤ x0 ∧ x0 ≤ 1000) → (-1000 ≤ x1 ∧ x1 ≤ 1000) → (-1000 ≤ x2 ∧ x2 ≤ 1000) → (-1000 ≤ x3 ∧ x3 ≤ 1000) →
      Fr h₀ L h' m → News h₀ L h' ((l', listOf #[.int x0 t0, .int x1 t1, .int x2 t2, .int x3 t3] 0) :: news) → (∀ p ∈ news, p.1 < l') → Q (.ref l') { s with heap := h', toks := tk' }) :
    wpAny (model Challenge.rw_oc0011_01.row.prog w) (ktrTop dp un gd cn cs L a ccd cl outer) (call (.ref 114) [.int row t]) Q E s := by
  have q0 : 0 ≤ Int.fdiv row 65536 ∧ Int.fdiv row 65536 < 256 := by rw [fdv _ (by decide)]; omega
  have q1 : 0 ≤ Int.fmod (Int.fdiv row 256) 256 ∧ Int.fmod (Int.fdiv row 256) 256 < 256 := fmb _ (by decide)
  have q2 : 0 ≤ Int.fmod row 256 ∧ Int.fmod row 256 < 256 := fmb _ (by decide)
  refine wpAny_call ?_
  k_dflt (refine' code_defC ?k1 ?k2 ?k3 ?k4 ?k5 ?kA ?kF ?kK ?k6 ?k7 ?k8 ?k9 ?kB ?kD ?_ ?c2 ?c3 ?c4; (case kA => exact rfl); (case kF => exact rfl); (case kK => assumption); (case k1 => k_asm); (case k2 => k_asm); (case k3 => k_asm); (case k4 => k_asm); (case k5 => k_asm); (case k6 => k_is); (case k7 => k_is); (case k8 => ktr_room); (case k9 => exact BindsTo.of_eq rfl); (case kB => exact rfl); (case kD => decide +kernel); (case c2 => exact rfl); (case c3 => exact rfl); (case c4 => exact rfl); k_whole; intro g' L' h' tk' cells' FG' F' N' Y' B' X' T' l1; (try k_lt l1); k_cells Y'; (try simp only [List.cons_append, List.nil_append] at N'); (try dsimp only); (try k_lift B'); (try k_fold))
  have l2 : ∀ p ∈ news, p.1 < L' + 1 := fun p hp => Nat.lt_succ_of_lt (l1 p hp)
  k_steps
  rename News h₀ L _ _ => hN
  rename Fr h₀ L _ m => hF
  rename (_ ∧ _ ∧ _ ∧ _ ∧ AllLt _ news) => hL
  have hS := sums_law row r0 r1
  exact hret _ _ _ _ _ _ _ _ _ _ _ hS.1 hS.2.1 hS.2.2.1 hS.2.2.2.1 hS.2.2.2.2 hF (fun p hp => hN p ((List.mem_cons.mp hp).elim (fun e => e ▸ List.Mem.head _) fun h => .tail _ (.tail _ (.tail _ (.tail _ (.tail _ h)))))) (allLt_mem hL.2.2.2.2)
end
end
section
variable {w : World} {p : Program} {loose : List Str} {mean : ExcName → Option Value} {mg mb : Str → Option Value} {dp un : Nat} {gd : Option (List Code)} {cn : Str} {cs : Scope} {a : Addr} {ccd : Value} {cl : List (Str × Addr)} {outer : List Env} {A₀ : Around} {base h₀ : Heap} {L : Addr} {m : Str → Option Value} {s : Shared} {Q E : Value → Shared → Prop} {news : List (Addr × Obj)}

section
local macro_rules | `(tactic| walk_at "compareOp Gt") => `(tactic| (k_here; (with_reducible show wpAny _ _ (compareOp CmpOp.Gt (Value.ref _) (Value.ref _)) _ _ _); k_dflt (refine' gt_lists ?k1 ?k2 ?k3 ?k4 ?k5 ?k6 ?k7 ?_; (case k1 => k_asm); (case k2 => k_mem); (case k3 => k_mem); (case k4 => assumption); (case k5 => assumption); (case k6 => assumption); (case k7 => ktr_units); k_whole)))
local macro_rules | `(tactic| walk_at "compareOp Lt") => `(tactic| (k_here; (with_reducible show wpAny _ _ (compareOp CmpOp.Lt (Value.ref _) (Value.ref _)) _ _ _); k_dflt (refine' lt_lists ?k1 ?k2 ?k3 ?k4 ?k5 ?k6 ?k7 ?_; (case k1 => k_asm); (case k2 => k_mem); (case k3 => k_mem); (case k4 => assumption); (case k5 => assumption); (case k6 => assumption); (case k7 => ktr_units); k_whole)))
theorem c_cmp {lx ly : Addr} {n n2 : Nat} {vs ws : List Value} {ns ms : List Int} (B : Below A₀ base outer h₀) (F : Fr h₀ L s.heap m) (X : (hd.heap_39 w.params).In h₀) (N : News h₀ L s.heap news) (T : Top p loose mean mg mb h₀) (hk : cs.kind = .function) (hdp : dp + 1 < recursionLimit) (hun : un + 8 < cLine)
    (hx : (lx, listOf vs.toArray n) ∈ news) (hy : (ly, listOf ws.toArray n2) ∈ news) (hv : IntsAre vs ns) (hw : IntsAre ws ms) (hsz : ns.length = ms.length)
    (hret : ∀ t h' tk', Fr h₀ L h' m → News h₀ L h' news → Q (.int (b2i (lexC (fun x y => decide (y < x)) ns ms) - b2i (lexC (fun x y => decide (x < y)) ns ms)) t) { s with heap := h', toks := tk' }) :
    wpAny (model Challenge.rw_oc0011_01.row.prog w) (ktrTop dp un gd cn cs L a ccd cl outer) (call (.ref 102) [.ref lx, .ref ly]) Q E s := by
  refine wpAny_call ?_
  k_dflt cell_enter
  k_steps

  all_goals exact hret _ _ _ (by k_asm) (by k_asm)
end
end
section
theorem fme (x : Int) {k : Int} (hk : 0 ≤ k) : Int.fmod x k = x % k := Int.fmod_eq_emod_of_nonneg x hk
theorem cong {x R m : Int} (h : x % m = R % m) : ∃ k, x = R + m * k := by
  refine ⟨x / m - R / m, ?_⟩
  have a := Int.mul_ediv_add_emod x m
  have b := Int.mul_ediv_add_emod R m
  rw [Int.mul_sub]
  omega
theorem garner (x0 x1 x2 x3 R : Int) (hR : 0 ≤ R ∧ R < 17891055) (h : x0 % 63 = R % 63 ∧ x1 % 65 = R % 65 ∧ x2 % 17 = R % 17 ∧ x3 % 257 = R % 257) :
    (0 ≤ fg0 x0 x1 x2 x3 ∧ fg0 x0 x1 x2 x3 < 257) ∧ (0 ≤ fg1 x0 x1 x2 ∧ fg1 x0 x1 x2 < 17) ∧ (0 ≤ fg2 x0 x1 ∧ fg2 x0 x1 < 65) ∧ (0 ≤ fg3 x0 ∧ fg3 x0 < 63) ∧
      69615 * fg0 x0 x1 x2 x3 + 4095 * fg1 x0 x1 x2 + 63 * fg2 x0 x1 + fg3 x0 = R := by
  obtain ⟨h0, h1, h2, h3⟩ := h
  have b0 : 0 ≤ fg0 x0 x1 x2 x3 ∧ fg0 x0 x1 x2 x3 < 257 := fmb _ (by decide)
  have b1 : 0 ≤ fg1 x0 x1 x2 ∧ fg1 x0 x1 x2 < 17 := fmb _ (by decide)
  have b2 : 0 ≤ fg2 x0 x1 ∧ fg2 x0 x1 < 65 := fmb _ (by decide)
  have b3 : 0 ≤ fg3 x0 ∧ fg3 x0 < 63 := fmb _ (by decide)
  refine ⟨b0, b1, b2, b3, ?_⟩
  have d1 : R / 63 / 65 = R / 4095 := by clear h0 h1 h2 h3 b0 b1 b2 b3; omega
  have d2 : R / 4095 / 17 = R / 69615 := by clear h0 h1 h2 h3 b0 b1 b2 b3 d1; omega
  have e3 : fg3 x0 = R % 63 := by unfold fg3; rw [fme _ (by decide), h0]
  obtain ⟨k1, rfl⟩ := cong h1
  obtain ⟨k2, rfl⟩ := cong h2
  obtain ⟨k3, rfl⟩ := cong h3
  have e2 : fg2 x0 (R + 65 * k1) = R / 63 % 65 := by
    unfold fg2
    rw [fme _ (by decide), e3]
    have q : (R + 65 * k1 - R % 63) * 32 = R / 63 + 65 * (31 * (R / 63) + 32 * k1) := by omega
    rw [q, Int.add_mul_emod_self_left]
  have e1 : fg1 x0 (R + 65 * k1) (R + 17 * k2) = R / 4095 % 17 := by
    unfold fg1
    rw [fme _ (by decide), e2, e3]
    have q : (R + 17 * k2 - (R % 63 + R / 63 % 65 * 63)) * 8 = R / 4095 + 17 * (1927 * (R / 4095) + 8 * k2) := by omega
    rw [q, Int.add_mul_emod_self_left]
  have e0 : fg0 x0 (R + 65 * k1) (R + 17 * k2) (R + 257 * k3) = R / 69615 := by
    unfold fg0
    rw [fme _ (by decide), e1, e2, e3]
    have q : (R + 257 * k3 - (R % 63 + R / 63 % 65 * 63 + R / 4095 % 17 * 4095)) * 8 = R / 69615 + 257 * (2167 * (R / 69615) + 8 * k3) := by omega
    rw [q, Int.add_mul_emod_self_left]
    omega
  rw [e0, e1, e2, e3]
  omega
theorem lex_gt (a0 a1 a2 a3 b0 b1 b2 b3 : Int) (A1 : 0 ≤ a1 ∧ a1 < 17) (A2 : 0 ≤ a2 ∧ a2 < 65) (A3 : 0 ≤ a3 ∧ a3 < 63) (B1 : 0 ≤ b1 ∧ b1 < 17) (B2 : 0 ≤ b2 ∧ b2 < 65) (B3 : 0 ≤ b3 ∧ b3 < 63) :
    lexC (fun x y => decide (y < x)) [a0, a1, a2, a3] [b0, b1, b2, b3] = decide (69615 * b0 + 4095 * b1 + 63 * b2 + b3 < 69615 * a0 + 4095 * a1 + 63 * a2 + a3) := by
  simp only [lexC]
  split
  · split
    · split
      · split
        · exact (decide_eq_false (by omega)).symm
        · exact decide_eq_decide.mpr (by omega)
      · exact decide_eq_decide.mpr (by omega)
    · exact decide_eq_decide.mpr (by omega)
  · exact decide_eq_decide.mpr (by omega)
theorem lex_lt (a0 a1 a2 a3 b0 b1 b2 b3 : Int) (A1 : 0 ≤ a1 ∧ a1 < 17) (A2 : 0 ≤ a2 ∧ a2 < 65) (A3 : 0 ≤ a3 ∧ a3 < 63) (B1 : 0 ≤ b1 ∧ b1 < 17) (B2 : 0 ≤ b2 ∧ b2 < 65) (B3 : 0 ≤ b3 ∧ b3 < 63) :
    lexC (fun x y => decide (x < y)) [a0, a1, a2, a3] [b0, b1, b2, b3] = decide (69615 * a0 + 4095 * a1 + 63 * a2 + a3 < 69615 * b0 + 4095 * b1 + 63 * b2 + b3) := by
  simp only [lexC]
  split
  · split
    · split
      · split
        · exact (decide_eq_false (by omega)).symm
        · exact decide_eq_decide.mpr (by omega)
      · exact decide_eq_decide.mpr (by omega)
    · exact decide_eq_decide.mpr (by omega)
  · exact decide_eq_decide.mpr (by omega)
theorem told_of (A B : Int) : (B < A → b2i (decide (B < A)) - b2i (decide (A < B)) = 1) ∧ (A < B → b2i (decide (B < A)) - b2i (decide (A < B)) = -1) ∧ (A = B → b2i (decide (B < A)) - b2i (decide (A < B)) = 0) := by
  refine ⟨fun h => ?_, fun h => ?_, fun h => ?_⟩
  · rw [decide_eq_true h, decide_eq_false (by omega)]; rfl
  · rw [decide_eq_true h, decide_eq_false (by omega)]; rfl
  · rw [decide_eq_false (by omega), decide_eq_false (by omega)]; rfl
end
section
variable {w : World} {p : Program} {loose : List Str} {mean : ExcName → Option Value} {mg mb : Str → Option Value} {dp un : Nat} {gd : Option (List Code)} {cn : Str} {cs : Scope} {a : Addr} {ccd : Value} {cl : List (Str × Addr)} {outer : List Env} {A₀ : Around} {base h₀ : Heap} {L : Addr} {m : Str → Option Value} {s : Shared} {Q E : Value → Shared → Prop} {news : List (Addr × Obj)}

theorem c_figR {l : Addr} {n : Nat} {x0 x1 x2 x3 R : Int} {t0 t1 t2 t3 : Tok} (B : Below A₀ base outer h₀) (F : Fr h₀ L s.heap m) (X : (hd.heap_39 w.params).In h₀) (N : News h₀ L s.heap news) (T : Top p loose mean mg mb h₀) (hk : cs.kind = .function) (hdp : dp + 2 < recursionLimit)
    (hl : (l, listOf #[.int x0 t0, .int x1 t1, .int x2 t2, .int x3 t3] n) ∈ news)
    (b1 : -1000000 ≤ x1 ∧ x1 ≤ 1000000) (b2 : -1000000 ≤ x2 ∧ x2 ≤ 1000000) (b3 : -1000000 ≤ x3 ∧ x3 ≤ 1000000)
    (hc : x0 % 63 = R % 63 ∧ x1 % 65 = R % 65 ∧ x2 % 17 = R % 17 ∧ x3 % 257 = R % 257) (hR : 0 ≤ R ∧ R < 17891055)
    (hret : ∀ l' f0 f1 f2 f3 t0 t1 t2 t3 h' tk', (0 ≤ f0 ∧ f0 < 257) → (0 ≤ f1 ∧ f1 < 17) → (0 ≤ f2 ∧ f2 < 65) → (0 ≤ f3 ∧ f3 < 63) → 69615 * f0 + 4095 * f1 + 63 * f2 + f3 = R →
      Fr h₀ L h' m → News h₀ L h' ((l', listOf #[.int f0 t0, .int f1 t1, .int f2 t2, .int f3 t3] 0) :: news) → (∀ p ∈ news, p.1 < l') → Q (.ref l') { s with heap := h', toks := tk' }) :
    wpAny (model Challenge.rw_oc0011_01.row.prog w) (ktrTop dp un gd cn cs L a ccd cl outer) (call (.ref 121) [.ref l]) Q E s := by
  have hg := garner x0 x1 x2 x3 R hR hc
  exact c_figures B F X N T hk hdp hl b1 b2 b3 fun l' t0 t1 t2 t3 h' tk' F' N' hlt => hret l' _ _ _ _ t0 t1 t2 t3 h' tk' hg.1 hg.2.1 hg.2.2.1 hg.2.2.2.1 hg.2.2.2.2 F' N' hlt
theorem c_cmpR {lx ly : Addr} {n n2 : Nat} {a0 a1 a2 a3 b0 b1 b2 b3 TA TB : Int} {s0 s1 s2 s3 u0 u1 u2 u3 : Tok} (B : Below A₀ base outer h₀) (F : Fr h₀ L s.heap m) (X : (hd.heap_39 w.params).In h₀) (N : News h₀ L s.heap news) (T : Top p loose mean mg mb h₀) (hk : cs.kind = .function) (hdp : dp + 1 < recursionLimit) (hun : un + 8 < cLine)
    (hx : (lx, listOf #[.int a0 s0, .int a1 s1, .int a2 s2, .int a3 s3] n) ∈ news) (hy : (ly, listOf #[.int b0 u0, .int b1 u1, .int b2 u2, .int b3 u3] n2) ∈ news)
    (A1 : 0 ≤ a1 ∧ a1 < 17) (A2 : 0 ≤ a2 ∧ a2 < 65) (A3 : 0 ≤ a3 ∧ a3 < 63) (B1 : 0 ≤ b1 ∧ b1 < 17) (B2 : 0 ≤ b2 ∧ b2 < 65) (B3 : 0 ≤ b3 ∧ b3 < 63)
    (eA : 69615 * a0 + 4095 * a1 + 63 * a2 + a3 = Int.fmod TA 17891055) (eB : 69615 * b0 + 4095 * b1 + 63 * b2 + b3 = Int.fmod TB 17891055)
    (hret : ∀ d t h' tk', (Int.fmod TB 17891055 < Int.fmod TA 17891055 → d = 1) → (Int.fmod TA 17891055 < Int.fmod TB 17891055 → d = -1) → (Int.fmod TA 17891055 = Int.fmod TB 17891055 → d = 0) →
      TA = 17891055 * Int.fdiv TA 17891055 + Int.fmod TA 17891055 → TB = 17891055 * Int.fdiv TB 17891055 + Int.fmod TB 17891055 → (0 ≤ Int.fmod TA 17891055 ∧ Int.fmod TA 17891055 < 17891055) → (0 ≤ Int.fmod TB 17891055 ∧ Int.fmod TB 17891055 < 17891055) →
      Fr h₀ L h' m → News h₀ L h' news → Q (.int d t) { s with heap := h', toks := tk' }) :
    wpAny (model Challenge.rw_oc0011_01.row.prog w) (ktrTop dp un gd cn cs L a ccd cl outer) (call (.ref 102) [.ref lx, .ref ly]) Q E s := by
  refine c_cmp B F X N T hk hdp hun hx hy (.cons _ _ (.cons _ _ (.cons _ _ (.cons _ _ .nil)))) (.cons _ _ (.cons _ _ (.cons _ _ (.cons _ _ .nil)))) rfl fun t h' tk' F' N' => ?_
  have ht := told_of (Int.fmod TA 17891055) (Int.fmod TB 17891055)
  rw [lex_gt a0 a1 a2 a3 b0 b1 b2 b3 A1 A2 A3 B1 B2 B3, lex_lt a0 a1 a2 a3 b0 b1 b2 b3 A1 A2 A3 B1 B2 B3, eA, eB]
  have dA : TA = 17891055 * Int.fdiv TA 17891055 + Int.fmod TA 17891055 := (Int.mul_fdiv_add_fmod TA 17891055).symm
  have dB : TB = 17891055 * Int.fdiv TB 17891055 + Int.fmod TB 17891055 := (Int.mul_fdiv_add_fmod TB 17891055).symm
  exact hret _ t h' tk' ht.1 ht.2.1 ht.2.2 dA dB (fmb _ (by decide)) (fmb _ (by decide)) F' N'
end
theorem keptP {k0 k1 k2 k3 x0 x1 x2 x3 T row : Int} (hk : k0 % 63 = T % 63 ∧ k1 % 65 = T % 65 ∧ k2 % 17 = T % 17 ∧ k3 % 257 = T % 257) (hx : x0 % 63 = row % 63 ∧ x1 % 65 = row % 65 ∧ x2 % 17 = row % 17 ∧ x3 % 257 = row % 257) :
    Int.fmod (k0 + x0) 63 % 63 = Int.fmod (T + row) 17891055 % 63 ∧ Int.fmod (k1 + x1) 65 % 65 = Int.fmod (T + row) 17891055 % 65 ∧ Int.fmod (k2 + x2) 17 % 17 = Int.fmod (T + row) 17891055 % 17 ∧ Int.fmod (k3 + x3) 257 % 257 = Int.fmod (T + row) 17891055 % 257 := by
  rw [fme _ (by decide), fme _ (by decide), fme _ (by decide), fme _ (by decide), fme _ (by decide)]
  obtain ⟨h0, h1, h2, h3⟩ := hk
  obtain ⟨g0, g1, g2, g3⟩ := hx
  refine ⟨?_, ?_, ?_, ?_⟩
  · rw [Int.emod_emod_of_dvd _ (Int.dvd_refl 63), Int.emod_emod_of_dvd _ (by decide : (63 : Int) ∣ 17891055), Int.add_emod, h0, g0, ← Int.add_emod]
  · rw [Int.emod_emod_of_dvd _ (Int.dvd_refl 65), Int.emod_emod_of_dvd _ (by decide : (65 : Int) ∣ 17891055), Int.add_emod, h1, g1, ← Int.add_emod]
  · rw [Int.emod_emod_of_dvd _ (Int.dvd_refl 17), Int.emod_emod_of_dvd _ (by decide : (17 : Int) ∣ 17891055), Int.add_emod, h2, g2, ← Int.add_emod]
  · rw [Int.emod_emod_of_dvd _ (Int.dvd_refl 257), Int.emod_emod_of_dvd _ (by decide : (257 : Int) ∣ 17891055), Int.add_emod, h3, g3, ← Int.add_emod]
theorem keptN {k0 k1 k2 k3 x0 x1 x2 x3 T row : Int} (hk : k0 % 63 = T % 63 ∧ k1 % 65 = T % 65 ∧ k2 % 17 = T % 17 ∧ k3 % 257 = T % 257) (hx : x0 % 63 = row % 63 ∧ x1 % 65 = row % 65 ∧ x2 % 17 = row % 17 ∧ x3 % 257 = row % 257) :
    Int.fmod (k0 - x0) 63 % 63 = Int.fmod (T - row) 17891055 % 63 ∧ Int.fmod (k1 - x1) 65 % 65 = Int.fmod (T - row) 17891055 % 65 ∧ Int.fmod (k2 - x2) 17 % 17 = Int.fmod (T - row) 17891055 % 17 ∧ Int.fmod (k3 - x3) 257 % 257 = Int.fmod (T - row) 17891055 % 257 := by
  rw [fme _ (by decide), fme _ (by decide), fme _ (by decide), fme _ (by decide), fme _ (by decide)]
  obtain ⟨h0, h1, h2, h3⟩ := hk
  obtain ⟨g0, g1, g2, g3⟩ := hx
  refine ⟨?_, ?_, ?_, ?_⟩
  · rw [Int.emod_emod_of_dvd _ (Int.dvd_refl 63), Int.emod_emod_of_dvd _ (by decide : (63 : Int) ∣ 17891055), Int.sub_emod, h0, g0, ← Int.sub_emod]
  · rw [Int.emod_emod_of_dvd _ (Int.dvd_refl 65), Int.emod_emod_of_dvd _ (by decide : (65 : Int) ∣ 17891055), Int.sub_emod, h1, g1, ← Int.sub_emod]
  · rw [Int.emod_emod_of_dvd _ (Int.dvd_refl 17), Int.emod_emod_of_dvd _ (by decide : (17 : Int) ∣ 17891055), Int.sub_emod, h2, g2, ← Int.sub_emod]
  · rw [Int.emod_emod_of_dvd _ (Int.dvd_refl 257), Int.emod_emod_of_dvd _ (by decide : (257 : Int) ∣ 17891055), Int.sub_emod, h3, g3, ← Int.sub_emod]
theorem fbM (a : Int) {k : Int} (h0 : 0 < k) (h1 : k ≤ 1000000) : -1000000 ≤ Int.fmod a k ∧ Int.fmod a k ≤ 1000000 := by
  have := fmb a h0
  omega
abbrev four (a b c d : Int) (ta tb tc td : Tok) (n : Nat) : Obj := listOf #[.int a ta, .int b tb, .int c tc, .int d td] n
/-- what holds of the law's frame and ledger between two turns -/
def LawJ (D c1 c2 c3 I : Addr) (lo : Obj) (m : Str → Option Value) (nx : List (Addr × Obj)) : Prop :=
  ∃ (lk lb : Addr) (o1 o2 o3 : Obj) (nk nb : Nat) (k0 k1 k2 k3 f0 f1 f2 f3 T R : Int) (a0 a1 a2 a3 b0 b1 b2 b3 tT tR : Tok) (v2 v3 : Option Value),
    nx = [(lk, four k0 k1 k2 k3 a0 a1 a2 a3 nk), (lb, four f0 f1 f2 f3 b0 b1 b2 b3 nb), (D, lo), (c3, o3), (c2, o2), (c1, o1)] ∧
    o1.data = .cell (some (.ref lk)) ∧ o2.data = .cell v2 ∧ o3.data = .cell v3 ∧
    m (Str.ofString "behind") = some (.ref lb) ∧ m (Str.ofString "total") = some (.int T tT) ∧ m (Str.ofString "runs") = some (.int R tR) ∧
    (@LT.lt Nat _ c3 lk ∧ @LT.lt Nat _ c3 lb ∧ @Ne Nat lk I ∧ @Ne Nat lb I) ∧
    (k0 % 63 = T % 63 ∧ k1 % 65 = T % 65 ∧ k2 % 17 = T % 17 ∧ k3 % 257 = T % 257) ∧
    (0 ≤ f0 ∧ f0 < 257) ∧ (0 ≤ f1 ∧ f1 < 17) ∧ (0 ≤ f2 ∧ f2 < 65) ∧ (0 ≤ f3 ∧ f3 < 63) ∧
    69615 * f0 + 4095 * f1 + 63 * f2 + f3 = Int.fmod T 17891055 ∧ R = Int.fdiv T 17891055
section
variable {prog : Program} {w : World} {A : Around} {E : Value → Shared → Prop} {s : Shared} {env : Env} {h₀ : Heap} {target : Expr} {body : List Stmt} {Q : Flow → Shared → Prop}
theorem items_inv {J : (Str → Option Value) → List (Addr × Obj) → Prop} {I : Addr} {keep : List (Addr × Obj)} {ns : List Int}
    (turn : ∀ x t m news h tk it, J m news → Fr h₀ env.locals h m → it.cls = .type "list_iterator" → News h₀ env.locals h ((I, it) :: news) →
      wpAny (model prog w) A (assign target env (.int x t)) (fun _ s₂ => wpAny (model prog w) A (execs body env) (UnrPostW h₀ env.locals { s with heap := h, toks := tk } [(I, it)] (fun m' n' => SubL keep n' ∧ J m' n') Q) E s₂) E { s with heap := h, toks := tk })
    (done : ∀ m news h tk, J m news → Fr h₀ env.locals h m → News h₀ env.locals h news → Q .next { s with heap := h, toks := tk }) :
    ∀ {vs : List Value}, IntsAre vs ns → ∀ m news, J m news → ItemsRest prog w A E h₀ env target body Q s [(I, "list_iterator")] keep (vs.map .val) m news := by
  intro vs hi
  induction hi with
  | nil => intro m news hj; exact ItemsRest.zero fun h tk F N => done m news h tk hj F N
  | cons x t hr ih =>
    intro m news hj
    refine ItemsRest.val fun h tk F => ?_
    intro it hc N
    refine wpAny_mono (turn x t m news h tk it hj F hc N) (fun _ s₂ h₂ => wpAny_mono h₂ (fun f s₃ p => ?_) fun _ _ e => e) fun _ _ e => e
    cases f with
    | ret v => exact p
    | brk => exact p
    | next =>
      obtain ⟨h', tk', m', n', e, F', N', off, hk, hJ⟩ := p
      exact ⟨h', tk', m', n', e, F', N', off, hk, ih m' n' hJ⟩
    | cont =>
      obtain ⟨h', tk', m', n', e, F', N', off, hk, hJ⟩ := p
      exact ⟨h', tk', m', n', e, F', N', off, hk, ih m' n' hJ⟩
theorem fr_three {h : Heap} {L : Addr} {m : Str → Option Value} {x y z : Str} {a b c : Value} (hx : m x = some a) (hy : m y = some b) (hz : m z = some c) (F : Fr h₀ L h m) :
    Fr h₀ L h (fun q => if q = x then some a else if q = y then some b else if q = z then some c else m q) := by
  have e : (fun q => if q = x then some a else if q = y then some b else if q = z then some c else m q) = m := by
    funext q
    by_cases h1 : q = x
    · rw [if_pos h1, h1, hx]
    · rw [if_neg h1]
      by_cases h2 : q = y
      · rw [if_pos h2, h2, hy]
      · rw [if_neg h2]
        by_cases h3 : q = z
        · rw [if_pos h3, h3, hz]
        · rw [if_neg h3]
  rw [e]; exact F
theorem law_iter {D D1 ld lb lk c1 c2 c3 : Addr} {od o1' o1 o2 o3 : Obj} {n nk nb : Nat} {vs : List Value} {ns : List Int} {m₀ : Str → Option Value} {a0 a1 a2 a3 b0 b1 b2 b3 tT tR : Tok} {v2 v3 : Option Value}
    (hh : A.handled = none) (F : Fr h₀ env.locals s.heap m₀)
    (N : News h₀ env.locals s.heap [(D, listOf vs.toArray n), (D1, o1'), (ld, od), (lb, four 0 0 0 0 b0 b1 b2 b3 nb), (lk, four 0 0 0 0 a0 a1 a2 a3 nk), (c3, o3), (c2, o2), (c1, o1)])
    (hi : IntsAre vs ns) (d1 : o1.data = .cell (some (.ref lk))) (d2 : o2.data = .cell v2) (d3 : o3.data = .cell v3)
    (mb : m₀ (Str.ofString "behind") = some (.ref lb)) (mT : m₀ (Str.ofString "total") = some (.int 0 tT)) (mR : m₀ (Str.ofString "runs") = some (.int 0 tR))
    (q1 : @LT.lt Nat _ c1 c2) (q2 : @LT.lt Nat _ c2 c3) (q3 : @LT.lt Nat _ c3 lk) (q4 : @LT.lt Nat _ c3 lb) (q5 : @LT.lt Nat _ c3 D)
    (turn : ∀ (I lk lb : Addr) (it o1 o2 o3 : Obj) (nk nb : Nat) (x k0 k1 k2 k3 f0 f1 f2 f3 T R : Int) (tx a0 a1 a2 a3 b0 b1 b2 b3 tT tR : Tok) (v2 v3 : Option Value) (u : Str → Option Value) (h : Heap) (tk : Nat),
      it.cls = .type "list_iterator" → @LT.lt Nat _ c3 I → @Ne Nat D I → @LT.lt Nat _ c3 lk → @LT.lt Nat _ c3 lb → @Ne Nat lk I → @Ne Nat lb I →
      o1.data = .cell (some (.ref lk)) → o2.data = .cell v2 → o3.data = .cell v3 →
      (k0 % 63 = T % 63 ∧ k1 % 65 = T % 65 ∧ k2 % 17 = T % 17 ∧ k3 % 257 = T % 257) →
      (0 ≤ f0 ∧ f0 < 257) → (0 ≤ f1 ∧ f1 < 17) → (0 ≤ f2 ∧ f2 < 65) → (0 ≤ f3 ∧ f3 < 63) →
      69615 * f0 + 4095 * f1 + 63 * f2 + f3 = Int.fmod T 17891055 → R = Int.fdiv T 17891055 →
      Fr h₀ env.locals h (fun q => if q = Str.ofString "behind" then some (.ref lb) else if q = Str.ofString "total" then some (.int T tT) else if q = Str.ofString "runs" then some (.int R tR) else u q) →
      News h₀ env.locals h [(I, it), (lk, four k0 k1 k2 k3 a0 a1 a2 a3 nk), (lb, four f0 f1 f2 f3 b0 b1 b2 b3 nb), (D, listOf vs.toArray n), (c3, o3), (c2, o2), (c1, o1)] →
      wpAny (model prog w) A (assign target env (.int x tx)) (fun _ s₂ => wpAny (model prog w) A (execs body env) (UnrPostW h₀ env.locals { s with heap := h, toks := tk } [(I, it)] (fun m' n' => SubL [(D, listOf vs.toArray n)] n' ∧ LawJ D c1 c2 c3 I (listOf vs.toArray n) m' n') Q) E s₂) E { s with heap := h, toks := tk })
    (done : ∀ m news h tk, Fr h₀ env.locals h m → News h₀ env.locals h news → Q .next { s with heap := h, toks := tk }) :
    wpAny (model prog w) A (pyIter (.ref D)) (fun it s₂ => TurnsAt prog w A h₀ env target body Q E it s₂) E s := by
  have N2 : News h₀ env.locals s.heap [(lk, four 0 0 0 0 a0 a1 a2 a3 nk), (lb, four 0 0 0 0 b0 b1 b2 b3 nb), (D, listOf vs.toArray n), (c3, o3), (c2, o2), (c1, o1)] := by
    intro p hp
    refine N p ?_
    simp only [List.mem_cons, List.not_mem_nil, or_false] at hp ⊢
    rcases hp with h | h | h | h | h | h
    · exact .inr (.inr (.inr (.inr (.inl h))))
    · exact .inr (.inr (.inr (.inl h)))
    · exact .inl h
    · exact .inr (.inr (.inr (.inr (.inr (.inl h)))))
    · exact .inr (.inr (.inr (.inr (.inr (.inr (.inl h))))))
    · exact .inr (.inr (.inr (.inr (.inr (.inr (.inr h))))))
  refine iter_listTurns (lo := listOf vs.toArray n) hh F N2 (.tail _ (.tail _ (.head _))) rfl rfl fun I hI => ?_
  have i1 : lk < I := hI _ (.head _)
  have i2 : lb < I := hI _ (.tail _ (.head _))
  have i3 : D < I := hI _ (.tail _ (.tail _ (.head _)))
  have i4 : c3 < I := hI _ (.tail _ (.tail _ (.tail _ (.head _))))
  refine items_inv (J := LawJ D c1 c2 c3 I (listOf vs.toArray n)) ?_ ?_ hi _ _ ?_
  · rintro x t m news h tk it ⟨lk, lb, o1, o2, o3, nk, nb, k0, k1, k2, k3, f0, f1, f2, f3, T, R, a0, a1, a2, a3, b0, b1, b2, b3, tT, tR, v2, v3, rfl, e1, e2, e3, e4, e5, e6, ⟨r1, r2, r3, r4⟩, e7, e8, e9, e10, e11, e12, e13⟩ F' hc N'
    exact turn I lk lb it o1 o2 o3 nk nb x k0 k1 k2 k3 f0 f1 f2 f3 T R t a0 a1 a2 a3 b0 b1 b2 b3 tT tR v2 v3 m h tk hc i4 (Nat.ne_of_lt i3) r1 r2 r3 r4 e1 e2 e3 e7 e8 e9 e10 e11 e12 e13 (fr_three e4 e5 e6 F') N'
  · intro m news h tk _ F' N'
    exact done m news h tk F' N'
  · exact ⟨lk, lb, o1, o2, o3, nk, nb, 0, 0, 0, 0, 0, 0, 0, 0, 0, 0, a0, a1, a2, a3, b0, b1, b2, b3, tT, tR, v2, v3, rfl, d1, d2, d3, mb, mT, mR, ⟨q3, q4, Nat.ne_of_lt i1, Nat.ne_of_lt i2⟩, ⟨rfl, rfl, rfl, rfl⟩, ⟨by decide, by decide⟩, ⟨by decide, by decide⟩, ⟨by decide, by decide⟩, ⟨by decide, by decide⟩, by decide, by decide⟩
theorem law_end {D c1 c2 c3 I lk lb L : Addr} {it lo o1 o2 o3 : Obj} {nk nb : Nat} {k0 k1 k2 k3 f0 f1 f2 f3 T R : Int} {a0 a1 a2 a3 b0 b1 b2 b3 tT tR : Tok} {v2 v3 : Option Value} {m' : Str → Option Value} {all : List (Addr × Obj)} {s₁ : Shared} {h' : Heap} {tk : Nat}
    (F : Fr h₀ L h' m') (N : News h₀ L h' all) (mI : (I, it) ∈ all) (mk : (lk, four k0 k1 k2 k3 a0 a1 a2 a3 nk) ∈ all) (mb : (lb, four f0 f1 f2 f3 b0 b1 b2 b3 nb) ∈ all) (mD : (D, lo) ∈ all) (m3 : (c3, o3) ∈ all) (m2 : (c2, o2) ∈ all) (m1 : (c1, o1) ∈ all)
    (d1 : o1.data = .cell (some (.ref lk))) (d2 : o2.data = .cell v2) (d3 : o3.data = .cell v3)
    (nb' : m' (Str.ofString "behind") = some (.ref lb)) (nT : m' (Str.ofString "total") = some (.int T tT)) (nR : m' (Str.ofString "runs") = some (.int R tR))
    (r1 : @LT.lt Nat _ c3 lk) (r2 : @LT.lt Nat _ c3 lb) (r3 : @Ne Nat lk I) (r4 : @Ne Nat lb I) (r5 : @Ne Nat D I) (r6 : @Ne Nat c3 I) (r7 : @Ne Nat c2 I) (r8 : @Ne Nat c1 I)
    (hk : k0 % 63 = T % 63 ∧ k1 % 65 = T % 65 ∧ k2 % 17 = T % 17 ∧ k3 % 257 = T % 257)
    (g0 : 0 ≤ f0 ∧ f0 < 257) (g1 : 0 ≤ f1 ∧ f1 < 17) (g2 : 0 ≤ f2 ∧ f2 < 65) (g3 : 0 ≤ f3 ∧ f3 < 63)
    (he : 69615 * f0 + 4095 * f1 + 63 * f2 + f3 = Int.fmod T 17891055) (hR : R = Int.fdiv T 17891055) :
    UnrEndW h₀ L s₁ [(I, it)] (fun m' n' => SubL [(D, lo)] n' ∧ LawJ D c1 c2 c3 I lo m' n') { s₁ with heap := h', toks := tk } := by
  refine ⟨h', tk, m', [(lk, four k0 k1 k2 k3 a0 a1 a2 a3 nk), (lb, four f0 f1 f2 f3 b0 b1 b2 b3 nb), (D, lo), (c3, o3), (c2, o2), (c1, o1)], rfl, F, ?_, ?_, ⟨.tail _ (.tail _ (.head _)), trivial⟩, ?_⟩
  · intro p hp
    simp only [List.cons_append, List.nil_append, List.mem_cons, List.not_mem_nil, or_false] at hp
    rcases hp with rfl | rfl | rfl | rfl | rfl | rfl | rfl
    · exact N _ mI
    · exact N _ mk
    · exact N _ mb
    · exact N _ mD
    · exact N _ m3
    · exact N _ m2
    · exact N _ m1
  · intro p hp q hq
    rw [List.mem_singleton.mp hq]
    simp only [List.mem_cons, List.not_mem_nil, or_false] at hp
    rcases hp with rfl | rfl | rfl | rfl | rfl | rfl
    · exact r3
    · exact r4
    · exact r5
    · exact r6
    · exact r7
    · exact r8
  · exact ⟨lk, lb, o1, o2, o3, nk, nb, k0, k1, k2, k3, f0, f1, f2, f3, T, R, a0, a1, a2, a3, b0, b1, b2, b3, tT, tR, v2, v3, rfl, d1, d2, d3, nb', nT, nR, ⟨r1, r2, r3, r4⟩, hk, g0, g1, g2, g3, he, hR⟩
end
section
variable {w : World} {p : Program} {loose : List Str} {mean : ExcName → Option Value} {mg mb : Str → Option Value} {dp un : Nat} {gd : Option (List Code)} {cn : Str} {cs : Scope} {a : Addr} {ccd : Value} {cl : List (Str × Addr)} {outer : List Env} {A₀ : Around} {base h₀ : Heap} {L : Addr} {m : Str → Option Value} {s : Shared} {Q E : Value → Shared → Prop} {news : List (Addr × Obj)}

theorem c_cmpP {lx ly : Addr} {n n2 : Nat} {a0 a1 a2 a3 b0 b1 b2 b3 TB row R : Int} {s0 s1 s2 s3 u0 u1 u2 u3 : Tok} (B : Below A₀ base outer h₀) (F : Fr h₀ L s.heap m) (X : (hd.heap_39 w.params).In h₀) (N : News h₀ L s.heap news) (T : Top p loose mean mg mb h₀) (hk : cs.kind = .function) (hdp : dp + 1 < recursionLimit) (hun : un + 8 < cLine)
    (hx : (lx, listOf #[.int a0 s0, .int a1 s1, .int a2 s2, .int a3 s3] n) ∈ news) (hy : (ly, listOf #[.int b0 u0, .int b1 u1, .int b2 u2, .int b3 u3] n2) ∈ news)
    (A1 : 0 ≤ a1 ∧ a1 < 17) (A2 : 0 ≤ a2 ∧ a2 < 65) (A3 : 0 ≤ a3 ∧ a3 < 63) (B1 : 0 ≤ b1 ∧ b1 < 17) (B2 : 0 ≤ b2 ∧ b2 < 65) (B3 : 0 ≤ b3 ∧ b3 < 63)
    (eA : 69615 * a0 + 4095 * a1 + 63 * a2 + a3 = Int.fmod (TB + row) 17891055) (eB : 69615 * b0 + 4095 * b1 + 63 * b2 + b3 = Int.fmod TB 17891055) (hr : 0 ≤ row ∧ row < 16777216) (hR : R = Int.fdiv TB 17891055)
    (h1 : ∀ t h' tk', row ≠ 0 → R = Int.fdiv (TB + row) 17891055 → Fr h₀ L h' m → News h₀ L h' news → Q (.int 1 t) { s with heap := h', toks := tk' })
    (h2 : ∀ t h' tk', row ≠ 0 → R + 1 = Int.fdiv (TB + row) 17891055 → Fr h₀ L h' m → News h₀ L h' news → Q (.int (-1) t) { s with heap := h', toks := tk' })
    (h3 : ∀ t h' tk', row = 0 → R = Int.fdiv (TB + row) 17891055 → Fr h₀ L h' m → News h₀ L h' news → Q (.int 0 t) { s with heap := h', toks := tk' }) :
    wpAny (model Challenge.rw_oc0011_01.row.prog w) (ktrTop dp un gd cn cs L a ccd cl outer) (call (.ref 102) [.ref lx, .ref ly]) Q E s := by
  refine c_cmpR B F X N T hk hdp hun hx hy A1 A2 A3 B1 B2 B3 eA eB fun d t h' tk' i1 i2 i3 j1 j2 j3 j4 F' N' => ?_
  clear eA eB A1 A2 A3 B1 B2 B3 hx hy
  rcases Int.lt_trichotomy (Int.fmod TB 17891055) (Int.fmod (TB + row) 17891055) with q | q | q
  · rw [i1 q]
    exact h1 t h' tk' (by omega) (by omega) F' N'
  · rw [i3 q.symm]
    exact h3 t h' tk' (by omega) (by omega) F' N'
  · rw [i2 q]
    exact h2 t h' tk' (by omega) (by omega) F' N'

theorem c_cmpN {lx ly : Addr} {n n2 : Nat} {a0 a1 a2 a3 b0 b1 b2 b3 TB row R : Int} {s0 s1 s2 s3 u0 u1 u2 u3 : Tok} (B : Below A₀ base outer h₀) (F : Fr h₀ L s.heap m) (X : (hd.heap_39 w.params).In h₀) (N : News h₀ L s.heap news) (T : Top p loose mean mg mb h₀) (hk : cs.kind = .function) (hdp : dp + 1 < recursionLimit) (hun : un + 8 < cLine)
    (hx : (lx, listOf #[.int a0 s0, .int a1 s1, .int a2 s2, .int a3 s3] n) ∈ news) (hy : (ly, listOf #[.int b0 u0, .int b1 u1, .int b2 u2, .int b3 u3] n2) ∈ news)
    (A1 : 0 ≤ a1 ∧ a1 < 17) (A2 : 0 ≤ a2 ∧ a2 < 65) (A3 : 0 ≤ a3 ∧ a3 < 63) (B1 : 0 ≤ b1 ∧ b1 < 17) (B2 : 0 ≤ b2 ∧ b2 < 65) (B3 : 0 ≤ b3 ∧ b3 < 63)
    (eA : 69615 * a0 + 4095 * a1 + 63 * a2 + a3 = Int.fmod (TB - row) 17891055) (eB : 69615 * b0 + 4095 * b1 + 63 * b2 + b3 = Int.fmod TB 17891055) (hr : 0 ≤ row ∧ row < 16777216) (hR : R = Int.fdiv TB 17891055)
    (h1 : ∀ t h' tk', row ≠ 0 → R - 1 = Int.fdiv (TB - row) 17891055 → Fr h₀ L h' m → News h₀ L h' news → Q (.int 1 t) { s with heap := h', toks := tk' })
    (h2 : ∀ t h' tk', row ≠ 0 → R = Int.fdiv (TB - row) 17891055 → Fr h₀ L h' m → News h₀ L h' news → Q (.int (-1) t) { s with heap := h', toks := tk' })
    (h3 : ∀ t h' tk', row = 0 → R = Int.fdiv (TB - row) 17891055 → Fr h₀ L h' m → News h₀ L h' news → Q (.int 0 t) { s with heap := h', toks := tk' }) :
    wpAny (model Challenge.rw_oc0011_01.row.prog w) (ktrTop dp un gd cn cs L a ccd cl outer) (call (.ref 102) [.ref lx, .ref ly]) Q E s := by
  refine c_cmpR B F X N T hk hdp hun hx hy A1 A2 A3 B1 B2 B3 eA eB fun d t h' tk' i1 i2 i3 j1 j2 j3 j4 F' N' => ?_
  clear eA eB A1 A2 A3 B1 B2 B3 hx hy
  rcases Int.lt_trichotomy (Int.fmod TB 17891055) (Int.fmod (TB - row) 17891055) with q | q | q
  · rw [i1 q]
    exact h1 t h' tk' (by omega) (by omega) F' N'
  · rw [i3 q.symm]
    exact h3 t h' tk' (by omega) (by omega) F' N'
  · rw [i2 q]
    exact h2 t h' tk' (by omega) (by omega) F' N'
end
theorem keptP2 {k0 k1 k2 k3 x0 x1 x2 x3 T row : Int} (hk : k0 % 63 = T % 63 ∧ k1 % 65 = T % 65 ∧ k2 % 17 = T % 17 ∧ k3 % 257 = T % 257) (hx : x0 % 63 = row % 63 ∧ x1 % 65 = row % 65 ∧ x2 % 17 = row % 17 ∧ x3 % 257 = row % 257) :
    Int.fmod (k0 + x0) 63 % 63 = (T + row) % 63 ∧ Int.fmod (k1 + x1) 65 % 65 = (T + row) % 65 ∧ Int.fmod (k2 + x2) 17 % 17 = (T + row) % 17 ∧ Int.fmod (k3 + x3) 257 % 257 = (T + row) % 257 := by
  have h := keptP hk hx
  rw [fme (T + row) (k := 17891055) (by decide), Int.emod_emod_of_dvd _ (by decide : (63 : Int) ∣ 17891055), Int.emod_emod_of_dvd _ (by decide : (65 : Int) ∣ 17891055), Int.emod_emod_of_dvd _ (by decide : (17 : Int) ∣ 17891055), Int.emod_emod_of_dvd _ (by decide : (257 : Int) ∣ 17891055)] at h
  exact h
theorem keptN2 {k0 k1 k2 k3 x0 x1 x2 x3 T row : Int} (hk : k0 % 63 = T % 63 ∧ k1 % 65 = T % 65 ∧ k2 % 17 = T % 17 ∧ k3 % 257 = T % 257) (hx : x0 % 63 = row % 63 ∧ x1 % 65 = row % 65 ∧ x2 % 17 = row % 17 ∧ x3 % 257 = row % 257) :
    Int.fmod (k0 - x0) 63 % 63 = (T - row) % 63 ∧ Int.fmod (k1 - x1) 65 % 65 = (T - row) % 65 ∧ Int.fmod (k2 - x2) 17 % 17 = (T - row) % 17 ∧ Int.fmod (k3 - x3) 257 % 257 = (T - row) % 257 := by
  have h := keptN hk hx
  rw [fme (T - row) (k := 17891055) (by decide), Int.emod_emod_of_dvd _ (by decide : (63 : Int) ∣ 17891055), Int.emod_emod_of_dvd _ (by decide : (65 : Int) ∣ 17891055), Int.emod_emod_of_dvd _ (by decide : (17 : Int) ∣ 17891055), Int.emod_emod_of_dvd _ (by decide : (257 : Int) ∣ 17891055)] at h
  exact h
theorem ite_ineF {x y : Int} {P Q : Prop} (h : x = y) (hq : Q) : if (x != y) = true then P else Q := by rw [if_neg (by simp [h])]; exact hq
theorem ite_ineT {x y : Int} {P Q : Prop} (h : x ≠ y) (hp : P) : if (x != y) = true then P else Q := by rw [if_pos (by simp [h])]; exact hp
theorem ite_ieqF {x y : Int} {P Q : Prop} (h : x ≠ y) (hq : Q) : if (x == y) = true then P else Q := by rw [if_neg (by simp [h])]; exact hq
theorem ite_ieqT {x y : Int} {P Q : Prop} (h : x = y) (hp : P) : if (x == y) = true then P else Q := by rw [if_pos (by simp [h])]; exact hp
section

local macro_rules | `(tactic| walk_at "call ref") => `(tactic| (k_here; (with_reducible show wpAny _ _ (call (Value.ref 28) [Value.int _ _, Value.int _ _]) _ _ _); k_dflt (refine' c_add ?k1 ?k2 ?k3 ?k4 ?k5 ?kK ?kd ?_; (case k1 => k_asm); (case k2 => k_asm); (case k3 => k_asm); (case k4 => k_asm); (case k5 => k_asm); (case kK => first | exact rfl | assumption); (case kd => ktr_room); k_whole); intro t9 h9 tk9 F9 N9; (try dsimp only); (try k_fold)))
local macro_rules | `(tactic| walk_at "call ref") => `(tactic| (k_here; (with_reducible show wpAny _ _ (call (Value.ref 49) [Value.int _ _, Value.int _ _]) _ _ _); k_dflt (refine' c_sub ?k1 ?k2 ?k3 ?k4 ?k5 ?kK ?kd ?_; (case k1 => k_asm); (case k2 => k_asm); (case k3 => k_asm); (case k4 => k_asm); (case k5 => k_asm); (case kK => first | exact rfl | assumption); (case kd => ktr_room); k_whole); intro t9 h9 tk9 F9 N9; (try dsimp only); (try k_fold)))
local macro_rules | `(tactic| walk_at "call ref") => `(tactic| (k_here; (with_reducible show wpAny _ _ (call (Value.ref 42) [Value.int _ _, Value.int _ _]) _ _ _); k_dflt (refine' c_mul ?k1 ?k2 ?k3 ?k4 ?k5 ?kK ?kd ?ka ?kb ?kc ?kf ?_; (case k1 => k_asm); (case k2 => k_asm); (case k3 => k_asm); (case k4 => k_asm); (case k5 => k_asm); (case kK => first | exact rfl | assumption); (case kd => ktr_room); (case ka => first | decide | omega); (case kb => first | decide | omega); (case kc => first | decide | omega); (case kf => first | decide | omega); k_whole); intro t9 h9 tk9 F9 N9; (try dsimp only); (try k_fold)))
local macro_rules | `(tactic| walk_at "call ref") => `(tactic| (k_here; (with_reducible show wpAny _ _ (call (Value.ref 35) [Value.int _ _, Value.int _ _]) _ _ _); k_dflt (refine' c_mod ?k1 ?k2 ?k3 ?k4 ?k5 ?kK ?kd ?ka ?_; (case k1 => k_asm); (case k2 => k_asm); (case k3 => k_asm); (case k4 => k_asm); (case k5 => k_asm); (case kK => first | exact rfl | assumption); (case kd => ktr_room); (case ka => decide); k_whole); intro t9 h9 tk9 F9 N9; (try dsimp only); (try k_fold)))

local macro_rules | `(tactic| walk_at "call ref") => `(tactic| (k_here; (with_reducible show wpAny _ _ (call (Value.ref 114) [Value.int _ _]) _ _ _); k_dflt (refine' c_sums ?k1 ?k2 ?k3 ?k4 ?k5 ?kK ?kd ?ka ?kb ?_; (case k1 => k_asm); (case k2 => k_asm); (case k3 => k_asm); (case k4 => k_asm); (case k5 => k_asm); (case kK => first | exact rfl | assumption); (case kd => ktr_room); (case ka => exact (fmb _ (by decide)).1); (case kb => exact (fmb _ (by decide)).2); k_whole); intro l9 x0 x1 x2 x3 t0 t1 t2 t3 h9 tk9 hS9 hb0 hb1 hb2 hb3 F9 N9 l19; (try k_lt l19); (try dsimp only); (try k_fold)))
local macro_rules | `(tactic| walk_at "call ref") => `(tactic| (k_here; (with_reducible show wpAny _ _ (call (Value.ref 121) [Value.ref _]) _ _ _); k_dflt (refine' c_figR ?k1 ?k2 ?k3 ?k4 ?k5 ?kK ?kd ?ka ?kb ?kc ?kf ?kg ?kh ?_; (case k1 => k_asm); (case k2 => k_asm); (case k3 => k_asm); (case k4 => k_asm); (case k5 => k_asm); (case kK => first | exact rfl | assumption); (case kd => ktr_room); (case ka => k_mem); (case kb => first | exact ⟨by omega, by omega⟩ | exact fbM _ (by decide) (by decide)); (case kc => first | exact ⟨by omega, by omega⟩ | exact fbM _ (by decide) (by decide)); (case kf => first | exact ⟨by omega, by omega⟩ | exact fbM _ (by decide) (by decide)); (case kg => first | assumption | exact keptP (by assumption) (by assumption) | exact keptN (by assumption) (by assumption)); (case kh => first | exact fmb _ (by decide) | exact ⟨(fmb _ (by decide)).1, Int.lt_trans (fmb _ (by decide)).2 (by decide)⟩); k_whole); intro l9 f0 f1 f2 f3 t0 t1 t2 t3 h9 tk9 g0 g1 g2 g3 ge F9 N9 l19; (try k_lt l19); (try dsimp only); (try k_fold)))
local macro_rules | `(tactic| walk_at "call ref") => `(tactic| (k_here; (with_reducible show wpAny _ _ (call (Value.ref 128) [Value.ref _]) _ _ _); k_dflt (refine' c_number ?k1 ?k2 ?k3 ?k4 ?k5 ?kK ?kd ?ka ?_; (case k1 => k_asm); (case k2 => k_asm); (case k3 => k_asm); (case k4 => k_asm); (case k5 => k_asm); (case kK => first | exact rfl | assumption); (case kd => ktr_room); (case ka => k_mem); k_whole); intro t9 h9 tk9 F9 N9; (try dsimp only); (try k_fold)))
local macro_rules | `(tactic| walk_at "call ref") => `(tactic| (k_here; (with_reducible show wpAny _ _ (call (Value.ref 102) [Value.ref _, Value.ref _]) _ _ _); k_dflt (refine' c_cmpP ?k1 ?k2 ?k3 ?k4 ?k5 ?kK ?kd ?ku ?ka ?kb ?p1 ?p2 ?p3 ?p4 ?p5 ?p6 ?p7 ?p8 ?p9 ?pA ?_ ?_ ?_; (case k1 => k_asm); (case k2 => k_asm); (case k3 => k_asm); (case k4 => k_asm); (case k5 => k_asm); (case kK => first | exact rfl | assumption); (case kd => ktr_room); (case ku => ktr_units); (case ka => k_mem); (case kb => k_mem); (case p1 => with_reducible assumption); (case p2 => with_reducible assumption); (case p3 => with_reducible assumption); (case p4 => with_reducible assumption); (case p5 => with_reducible assumption); (case p6 => with_reducible assumption); (case p7 => with_reducible assumption); (case p8 => with_reducible assumption); (case p9 => exact fmb _ (by decide)); (case pA => with_reducible assumption); (all_goals k_whole)); (all_goals (intro t9 h9 tk9 q1 q2 F9 N9; (try dsimp only); (try k_fold)))))
local macro_rules | `(tactic| walk_at "call ref") => `(tactic| (k_here; (with_reducible show wpAny _ _ (call (Value.ref 102) [Value.ref _, Value.ref _]) _ _ _); k_dflt (refine' c_cmpN ?k1 ?k2 ?k3 ?k4 ?k5 ?kK ?kd ?ku ?ka ?kb ?p1 ?p2 ?p3 ?p4 ?p5 ?p6 ?p7 ?p8 ?p9 ?pA ?_ ?_ ?_; (case k1 => k_asm); (case k2 => k_asm); (case k3 => k_asm); (case k4 => k_asm); (case k5 => k_asm); (case kK => first | exact rfl | assumption); (case kd => ktr_room); (case ku => ktr_units); (case ka => k_mem); (case kb => k_mem); (case p1 => with_reducible assumption); (case p2 => with_reducible assumption); (case p3 => with_reducible assumption); (case p4 => with_reducible assumption); (case p5 => with_reducible assumption); (case p6 => with_reducible assumption); (case p7 => with_reducible assumption); (case p8 => with_reducible assumption); (case p9 => exact fmb _ (by decide)); (case pA => with_reducible assumption); (all_goals k_whole)); (all_goals (intro t9 h9 tk9 q1 q2 F9 N9; (try dsimp only); (try k_fold)))))

local macro_rules | `(tactic| walk_at "call type:type") => `(tactic| (k_here; first | ((with_reducible show wpAny _ _ (call (Value.type "type") [Value.bytes _ _]) _ _ _); refine call_type_of (typeIs_bytes _ _ _) (by decide +kernel) ?_) | ((with_reducible show wpAny _ _ (call (Value.type "type") [Value.bool _]) _ _ _); refine call_type_of (typeIs_bool _ _) (by decide +kernel) ?_) | ((with_reducible show wpAny _ _ (call (Value.type "type") [Value.int _ _]) _ _ _); refine call_type_of (typeIs_int _ _ _) (by decide +kernel) ?_)))
local macro_rules | `(tactic| walk_at "ite") => `(tactic| (k_here; first
  | (with_reducible refine ite_ineF (by with_reducible assumption) ?_; walk_say "MINE")
  | (with_reducible refine ite_ieqF (by with_reducible assumption) ?_; walk_say "MINE")
  | (with_reducible refine ite_ieqT (by with_reducible assumption) ?_; walk_say "MINE")))
local macro_rules | `(tactic| walk_at "exec Assign cons ListComp") => `(tactic| (k_here; k_dflt (refine LCg.Assign_ListComp_U (F₀ := by k_asm) (by rfl) (by with_unfolding_all rfl) (by with_unfolding_all rfl) (by decide) (by rfl) (by decide) (by rfl) (by rfl) (by rfl) ?_ (by intro _; rfl))))
local macro_rules | `(tactic| walk_at "subscriptTail") => `(tactic| (k_here; (with_reducible show wpAny _ _ (subscriptTail _ _ (Value.ref _) (Value.int _ _)) _ _ _); (with_unfolding_all refine' item_mem ?k0 ?k1 ?k2 ?k3 ?k4 ?_ ?k6; (case k0 => k_asm); (case k1 => k_mem); (case k2 => decide); (case k3 => decide); (case k4 => rfl); (case k6 => with_unfolding_all rfl); k_whole)))
local macro_rules | `(tactic| walk_at "subscriptTail Name") => `(tactic| (k_here; (with_reducible show wpAny _ _ (subscriptTail _ _ (Value.ref _) (Value.int _ _)) _ _ _); (with_unfolding_all refine' item_mem ?k0 ?k1 ?k2 ?k3 ?k4 ?_ ?k6; (case k0 => k_asm); (case k1 => k_mem); (case k2 => decide); (case k3 => decide); (case k4 => rfl); (case k6 => with_unfolding_all rfl); k_whole)))
local macro_rules | `(tactic| walk_at "subscriptTail Name Name") => `(tactic| (k_here; (with_reducible show wpAny _ _ (subscriptTail _ _ (Value.ref _) (Value.int _ _)) _ _ _); (with_unfolding_all refine' item_mem ?k0 ?k1 ?k2 ?k3 ?k4 ?_ ?k6; (case k0 => k_asm); (case k1 => k_mem); (case k2 => decide); (case k3 => decide); (case k4 => rfl); (case k6 => with_unfolding_all rfl); k_whole)))
local macro_rules | `(tactic| walk_at "subscriptTail Name Name ref") => `(tactic| (k_here; (with_reducible show wpAny _ _ (subscriptTail _ _ (Value.ref _) (Value.int _ _)) _ _ _); (with_unfolding_all refine' item_mem ?k0 ?k1 ?k2 ?k3 ?k4 ?_ ?k6; (case k0 => k_asm); (case k1 => k_mem); (case k2 => decide); (case k3 => decide); (case k4 => rfl); (case k6 => with_unfolding_all rfl); k_whole)))
local macro_rules | `(tactic| walk_at "subscriptTail Name Name ref int") => `(tactic| (k_here; (with_reducible show wpAny _ _ (subscriptTail _ _ (Value.ref _) (Value.int _ _)) _ _ _); (with_unfolding_all refine' item_mem ?k0 ?k1 ?k2 ?k3 ?k4 ?_ ?k6; (case k0 => k_asm); (case k1 => k_mem); (case k2 => decide); (case k3 => decide); (case k4 => rfl); (case k6 => with_unfolding_all rfl); k_whole)))
local macro_rules | `(tactic| walk_at "CompSrc") => `(tactic| (k_here; k_dflt (refine LCg.CompSrc.range (by rfl) (by k_asm) (by k_asm) (by assumption) (by first | decide | rfl) (by first | rfl | decide) (by first | size_fits | exact Nat.le_of_ble_eq_true rfl) ?_; intro g'; lcg_lit)))
local macro_rules | `(tactic| walk_at "CompRest") => `(tactic| (with_unfolding_all first
  | (refine LCg.CompRest.succ ?_; intro v' I' oI' C' oC' D' m' h' tk' E' hv' hC' hx' F' N' off' ne'; obtain ⟨t9', hv9'⟩ := hv'; subst hv9')
  | refine LCg.CompRest.zero ?_))
local macro_rules | `(tactic| walk_at "CompEnd") => `(tactic| ((rename News _ _ _ _ => lN'); refine LCg.CompEnd.intro (by assumption) lN' _ (fun _ hp => hp) (by assumption) True.intro ?_))
local macro_rules | `(tactic| walk_at "compareOp NotEq") => `(tactic| (k_here; (with_reducible show wpAny _ _ (compareOp CmpOp.NotEq (Value.type "int") (Value.type "int")) _ _ _); refine ne_int_int ?_))
local macro_rules | `(tactic| walk_at "exec For Name BinOp cons nil") => `(tactic| (k_here; (rename Fr _ _ _ _ => lF'); (with_unfolding_all refine' For_turns lF' ?_; k_whole)))
local macro_rules | `(tactic| walk_at "compareOp NotIn int ref") => `(tactic| (k_here; k_dflt (refine' notin_list_ints ?a ?b ?_; (case a => exact News.isList (by k_asm) (by k_mem)); (case b => first | exact .cons _ _ .nil | exact .cons _ _ (.cons _ _ .nil)); k_whole)))
local macro_rules | `(tactic| walk_at "UnrEndW") => `(tactic| (k_dflt (refine' law_end ?F ?N ?mI ?mk ?mb ?mD ?m3 ?m2 ?m1 ?d1 ?d2 ?d3 ?nb ?nT ?nR ?r1 ?r2 ?r3 ?r4 ?r5 ?r6 ?r7 ?r8 ?hk ?g0 ?g1 ?g2 ?g3 ?he ?hR; (case F => k_asm); (case N => k_asm); (case mI => k_mem); (case mD => k_mem); (case m3 => k_mem); (case m2 => k_mem); (case m1 => k_mem); (case d1 => k_asm); (case d2 => k_asm); (case d3 => k_asm); (case nb => exact rfl); (case nT => exact rfl); (case nR => exact rfl); (case mk => k_mem); (case mb => k_mem); (case r1 => omega); (case r2 => omega); (case r3 => omega); (case r4 => omega); (case r5 => omega); (case r6 => omega); (case r7 => omega); (case r8 => omega); (case hk => first | exact keptP2 (by assumption) (by assumption) | exact keptN2 (by assumption) (by assumption)); (case g0 => with_reducible assumption); (case g1 => with_reducible assumption); (case g2 => with_reducible assumption); (case g3 => with_reducible assumption); (case he => with_reducible assumption); (case hR => first | with_reducible assumption | omega))))
theorem cw_x : PySem.Challenge.rw_oc0011_01.Holds := hd (by
  k_go0
  (all_goals try k_fold)
  k_steps
  rename News _ _ _ _ => hN
  rename Fr _ _ _ _ => hF
  rename IntsAre _ (_ ++ _) => hI
  with_unfolding_all refine' law_iter ?k1 hF hN hI ?k2 ?k3 ?k4 ?k5 ?k6 ?k7 ?q1 ?q2 ?q3 ?q4 ?q5 ?turn ?done
  case k1 => exact rfl
  case k2 => assumption
  case k3 => assumption
  case k4 => assumption
  case k5 => exact rfl
  case k6 => exact rfl
  case k7 => exact rfl
  case q1 => (refine ltN ?_; omega)
  case q2 => (refine ltN ?_; omega)
  case q3 => (refine ltN ?_; omega)
  case q4 => (refine ltN ?_; omega)
  case q5 => (refine ltN ?_; omega)
  case done =>
    intro m9 news9 h9 tk9 F9 N9
    k_steps
    all_goals w_report
  case turn =>
    clear hF hN
    intro I lk lb it o1 o2 o3 nk nb x k0 k1 k2 k3 f0 f1 f2 f3 T R tx a0 a1 a2 a3 b0 b1 b2 b3 tT tR v2 v3 u h tk hic hI1 hI2 hI3 hI4 hI5 hI6 e1 e2 e3 e4 e5 e6 e7 e8 e9 e10 F1 N1
    by_cases hx : 0 ≤ x
    · (try k_fold)
      k_steps
    · have hx' : x < 0 := by omega
      (try k_fold)
      k_steps)
end
end Mine
theorem PySem.Challenge.cw_oc0011_01_holds : PySem.Challenge.rw_oc0011_01.Holds :=
  Mine.cw_x
