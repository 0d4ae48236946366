import PyProof.Rows.All
import Wide.All
import OpenK.AllK
import Wide.FinOn
import PySem.Challenge.RW_ke0005_01
set_option Elab.async false
set_option linter.all false
section
open PySem PySem.W PyProof.Rows PySem.Calls
set_option maxRecDepth 100000
namespace Mine
open PySem.Builtin PySem.Builtin.Bytes PySem.Builtin.Struct

-- facts of the tables
theorem st_getattribute : typeLookup (.type "_struct.Struct") "__getattribute__" = pure (some (.builtin "_struct.Struct.__getattribute__")) := by rw [typeLookup_type, builtinLookup_eq_fast]; kernel_rfl
theorem st_canon : (Manifest.canonical "_struct.Struct.__getattribute__" != "object.__getattribute__") = false := by decide +kernel
theorem st_getattr : typeLookup (.type "_struct.Struct") "__getattr__" = pure none := by rw [typeLookup_type, builtinLookup_eq_fast]; kernel_rfl
theorem st_slot_pi : Slot "_struct.Struct" "pack_into" "_struct.Struct.pack_into" :=
  .of (owner := "_struct.Struct") (n := "pack_into") (by rw [typeLookup_type, builtinLookup_eq_fast]; kernel_rfl) (by decide +kernel) (by decide +kernel) (by decide +kernel)
    (by first | exact .inl (by decide +kernel) | exact .inr (by decide +kernel)) (by rw [isSubtype_type]; kernel_rfl)
theorem st_slot_uf : Slot "_struct.Struct" "unpack_from" "_struct.Struct.unpack_from" :=
  .of (owner := "_struct.Struct") (n := "unpack_from") (by rw [typeLookup_type, builtinLookup_eq_fast]; kernel_rfl) (by decide +kernel) (by decide +kernel) (by decide +kernel)
    (by first | exact .inl (by decide +kernel) | exact .inr (by decide +kernel)) (by rw [isSubtype_type]; kernel_rfl)
theorem st_type_pi : typeOf (.builtin "_struct.Struct.pack_into") = pure (.type "method_descriptor") := by show builtinType _ = _; rw [builtinType_eq_fast]; kernel_rfl
theorem st_type_uf : typeOf (.builtin "_struct.Struct.unpack_from") = pure (.type "method_descriptor") := by show builtinType _ = _; rw [builtinType_eq_fast]; kernel_rfl
theorem st_entry_pi : entryFor table "_struct.Struct.pack_into" = some Builtin.«_struct.Struct.pack_into» := by first | exact entryFor_of_fast (by kernel_rfl) | exact entryFor_of_tree (by kernel_rfl)
theorem st_entry_uf : entryFor table "_struct.Struct.unpack_from" = some Builtin.«_struct.Struct.unpack_from» := by first | exact entryFor_of_fast (by kernel_rfl) | exact entryFor_of_tree (by kernel_rfl)
theorem st_entry_held : entryFor table "_struct.pack_into.held" = some Builtin.«_struct.pack_into.held» := by first | exact entryFor_of_fast (by kernel_rfl) | exact entryFor_of_tree (by kernel_rfl)
theorem st_args_pi (a b c d : Value) : argsOk "_struct.Struct.pack_into" ⟨[a, b, c, d], []⟩ := by unfold argsOk; kernel_rfl
theorem st_args_uf (a b c : Value) : argsOk "_struct.Struct.unpack_from" ⟨[a, b, c], []⟩ := by unfold argsOk; kernel_rfl
theorem ba_buffer : typeLookup (.type "bytearray") "__buffer__" = pure (some (.builtin "bytearray.__buffer__")) := by rw [typeLookup_type, builtinLookup_eq_fast]; kernel_rfl
theorem ba_release : typeLookup (.type "bytearray") "__release_buffer__" = pure (some (.builtin "bytearray.__release_buffer__")) := by rw [typeLookup_type, builtinLookup_eq_fast]; kernel_rfl
theorem by_buffer : typeLookup (.type "bytes") "__buffer__" = pure (some (.builtin "bytes.__buffer__")) := by rw [typeLookup_type, builtinLookup_eq_fast]; kernel_rfl
theorem plainExc_struct : PlainExc "struct.error" :=
  ⟨fun args => by unfold ownMembersOf; split <;> first | rfl | (rename_i h; revert h; decide) | simp_all, by decide +kernel⟩

abbrev baObj (b : Array UInt8) : Obj := { cls := .type "bytearray", data := .bytearray b }
abbrev stObj (b : Array UInt8) (t : Tok) : Obj := { cls := .type "_struct.Struct", data := .fields #[.bytes b t] }

section
variable {M : Model} {A : Around} {E : Value → Shared → Prop} {s : Shared}
theorem getMethod_st {l : Addr} {b : Array UInt8} {t : Tok} {name : PySem.Str} {id : String} {pl : Sem Bool} {Q : Value × List Value → Shared → Prop} (ho : s.heap.get? l = some (stObj b t)) (sl : Slot "_struct.Struct" name id)
    (ty : typeOf (.builtin id) = pure (.type "method_descriptor"))
    (h : Q (.builtin id, [.ref l]) s) : wpAny M A (getMethod (.ref l) name pl) Q E s := by
  have hT : s.TypeIs (.ref l) "_struct.Struct" := ⟨_, ho, rfl⟩
  unfold getMethod
  refine wpAny_bind (wpAny_specialOf hT st_getattribute ?_)
  show wpAny M A (if (Manifest.canonical "_struct.Struct.__getattribute__" != "object.__getattribute__") = true then _ else _) Q E s
  rw [st_canon, if_neg Bool.false_ne_true]
  refine wpAny_bind (wpAny_specialOf hT st_getattr ?_)
  refine wpAny_bind (wpAny_specialOf hT sl.lookup ?_)
  refine wpAny_bind (wpAny_of_eq ty ?_)
  refine wpAny_bind (wpAny_load ho ?_)
  exact wpAny_bind (wpAny_rule (wpAny_pure h))
end

end Mine
end
section
open PySem PySem.W PyProof.Rows PySem.Calls
set_option maxRecDepth 100000
namespace Mine
open PySem.Builtin PySem.Builtin.Bytes PySem.Builtin.Struct
def fmtB (c : Char) (w : Nat) : Format := { bigEndian := false, native := false, codes := [⟨c, 1, 0, w⟩], size := w, items := 1 }
def fmtQ : Format := { bigEndian := false, native := true, codes := [⟨'?', 1, 0, 1⟩], size := 1, items := 1 }
theorem parse_q : parse #[63] = pure fmtQ := by kernel_rfl
theorem parse_B : parse #[60, 66] = pure (fmtB 'B' 1) := by kernel_rfl
theorem parse_H : parse #[60, 72] = pure (fmtB 'H' 2) := by kernel_rfl
theorem parse_I : parse #[60, 73] = pure (fmtB 'I' 4) := by kernel_rfl
theorem parse_Q : parse #[60, 81] = pure (fmtB 'Q' 8) := by kernel_rfl
theorem parse_b : parse #[60, 98] = pure (fmtB 'b' 1) := by kernel_rfl
theorem parse_h : parse #[60, 104] = pure (fmtB 'h' 2) := by kernel_rfl
theorem parse_i : parse #[60, 105] = pure (fmtB 'i' 4) := by kernel_rfl
theorem parse_qq : parse #[60, 113] = pure (fmtB 'q' 8) := by kernel_rfl


theorem wp_conv {α : Type} {M : Model} {A : Around} {t t' : Sem α} {Q : α → Shared → Prop} {E : Value → Shared → Prop} {s : Shared} (e : t = t') (h : wpAny M A t' Q E s) : wpAny M A t Q E s := e ▸ h

theorem wp_ite2 {α : Type} {M : Model} {A : Around} {c : Prop} [Decidable c] {a b : Sem α} {Q : α → Shared → Prop} {E : Value → Shared → Prop} {s : Shared} (h1 : c → wpAny M A a Q E s) (h2 : ¬ c → wpAny M A b Q E s) : wpAny M A (if c then a else b) Q E s := by
  split <;> simp_all
/-- code, width, least, greatest -/
def codes8 : List (Char × Nat × Int × Int) := [('B', 1, 0, 255), ('H', 2, 0, 65535), ('I', 4, 0, 4294967295), ('Q', 8, 0, 18446744073709551615),
  ('b', 1, -128, 127), ('h', 2, -32768, 32767), ('i', 4, -2147483648, 2147483647), ('q', 8, -9223372036854775808, 9223372036854775807)]

theorem wp_packEach {c : Char} {w : Nat} {lo hi : Int} (hc : (c, w, lo, hi) ∈ codes8) {id : String} {i : Int} {t : Tok} {put : Unit → Nat → Array UInt8 → Sem Unit} {src : Value → Nat → Nat → Sem Unit} {M : Model} {A : Around}
    {Q : Unit → Shared → Prop} {E : Value → Shared → Prop} {s : Shared} (hh : A.handled = none)
    (h1 : lo ≤ i ∧ i ≤ hi → wpAny M A (put () 0 (intBytes false w i)) Q E s)
    (h2 : ¬ (lo ≤ i ∧ i ≤ hi) → ∀ h' tk e, Heap.NewExc s.heap h' e "struct.error" → E (.ref e) { s with heap := h', toks := tk }) :
    wpAny M A (packEach id (fmtB c w) [.int i t] () put src) Q E s := by
  simp only [codes8, List.mem_cons, List.mem_nil_iff, Prod.mk.injEq, or_false] at hc
  rcases hc with ⟨rfl, rfl, rfl, rfl⟩ | ⟨rfl, rfl, rfl, rfl⟩ | ⟨rfl, rfl, rfl, rfl⟩ | ⟨rfl, rfl, rfl, rfl⟩ | ⟨rfl, rfl, rfl, rfl⟩ | ⟨rfl, rfl, rfl, rfl⟩ | ⟨rfl, rfl, rfl, rfl⟩ | ⟨rfl, rfl, rfl, rfl⟩
  all_goals
    unfold packEach
    refine wpAny_bind ?_
    simp only [fmtB, List.forIn_cons]
    refine wpAny_bind ?_
    refine bm_if_false (by decide) ?_
    refine bm_if_false (by decide) ?_
    refine wpAny_bind ?_
    simp only [Std.Legacy.Range.forIn_eq_forIn_range', Std.Legacy.Range.size, Nat.sub_zero, Nat.add_sub_cancel, Nat.div_one, List.range'_one, List.forIn_cons, List.forIn_nil]
    refine wpAny_bind (wpAny_bind (wpAny_bind ?_))
    refine wpAny_of_eq (a := Except.ok i) rfl ?_
    refine wpAny_bind (wpAny_pure ?_)
    dsimp only
    refine wp_ite2 (fun hc => ?_) (fun hc => ?_)
    · refine wpAny_bind (wpAny_rule ?_)
      refine wpAny_bind ?_
      unfold structError
      first
        | refine wpAny_raiseErrorWords plainExc_struct hh ?_
        | refine wpAny_raiseErrorMade plainExc_struct hh ?_ ?_
      exact h2 (by simp [Char.isLower] at hc ⊢; omega)
    · refine wpAny_pure (wpAny_bind ?_)
      exact wpAny_mono (h1 (by simp [Char.isLower] at hc ⊢; omega)) (fun a s' h => wpAny_pure (wpAny_pure (wpAny_pure (wpAny_pure (wpAny_pure h))))) fun _ _ h => h
end Mine
end
section
open PySem PySem.W PyProof.Rows PySem.Calls
set_option maxRecDepth 100000
namespace Mine
open PySem.Builtin PySem.Builtin.Bytes PySem.Builtin.Struct

/-- raw laid at a place -/
def layAt (out : Array UInt8) (p : Nat) (raw : Array UInt8) : Array UInt8 := raw.toList.zipIdx.foldl (fun out (c, k) => out.setIfInBounds (p + k) c) out
theorem layAt_size (p : Nat) : ∀ (l : List (UInt8 × Nat)) (out : Array UInt8), (l.foldl (fun out (x : UInt8 × Nat) => out.setIfInBounds (p + x.2) x.1) out).size = out.size
  | [], _ => rfl
  | x :: r, out => by rw [List.foldl_cons, layAt_size p r]; simp
theorem size_layAt (out : Array UInt8) (p : Nat) (raw : Array UInt8) : (layAt out p raw).size = out.size := layAt_size p _ out

section
variable {M : Model} {A : Around} {E : Value → Shared → Prop} {s : Shared}
theorem wp_write {d : Addr} {b : Array UInt8} {f : Array UInt8 → Array UInt8} {Q : Unit → Shared → Prop} (hd : s.heap.get? d = some (baObj b)) (hsz : (f b).size ≤ sizeLine)
    (h : ∀ h', h'.get? d = some (baObj (f b)) → Heap.SameBut d s.heap h' → Q () { s with heap := h' }) : wpAny M A (write (.ref d) f) Q E s := by
  show wpAny _ _ (updateBytearray d f) _ _ _
  unfold updateBytearray
  refine wpAny_bind (wpAny_load hd ?_)
  show wpAny _ _ (update d (Obj.mapBytearray f) >>= fun _ => lookBehind d) _ _ _
  refine wpAny_bind (wpAny_update hd ?_)
  have h2 : (s.heap.update d (Obj.mapBytearray f)).get? d = some (baObj (f b)) := Heap.get?_update_self (Obj.mapBytearray f) hd rfl
  refine wpAny_lookBehind h2 ?_ ?_
  · show (if (f b).size > sizeLine then some "bytearray:memory" else none) = none
    rw [if_neg (by omega)]
  · exact h _ h2 (Heap.SameBut.update ..)

theorem wp_structFormat {st : Addr} {fb : Array UInt8} {t : Tok} {f : Format} {Q : Array UInt8 × Format → Shared → Prop} (hst : s.heap.get? st = some (stObj fb t)) (hp : parse fb = pure f) (h : Q (fb, f) s) : wpAny M A (structFormat (.ref st)) Q E s := by
  unfold structFormat
  refine wpAny_bind (wpAny_field hst rfl (x := .bytes fb t) rfl ?_)
  refine bm_if_false rfl ?_
  refine wpAny_bind (wpAny_of_eq (a := fb) rfl ?_)
  exact wpAny_bind (wpAny_of_eq hp (wpAny_pure h))

theorem nat_text_le {k : Nat} (h : k < 10 ^ 4) : (toString k).length ≤ 5 := by
  have e := int_text_length_le10 (a := (k : Int)) (k := 4) (by decide) (by simpa using h)
  have e2 : (toString (k : Int)) = toString k := rfl
  rw [e2] at e
  omega

theorem wp_placeIn {name verb noRoom : String} {w len : Nat} {f : Format} {place : Int} {Q : Nat → Shared → Prop} (hf : f.size = w) (hh : A.handled = none) (h0 : 0 ≤ place) (hw : w ≤ 8) (hl : len ≤ 1000) (hpl : place ≤ 1000)
    (hn : name.length ≤ 100) (hv : verb.length ≤ 100)
    (h1 : place + w ≤ len → Q place.toNat s)
    (h2 : ¬ (place + w ≤ len) → ∀ h' tk e, Heap.NewExc s.heap h' e "struct.error" → E (.ref e) { s with heap := h', toks := tk }) : wpAny M A (placeIn name verb noRoom f len place) Q E s := by
  subst hf
  unfold placeIn
  simp only [if_neg (show ¬ place < 0 by omega)]
  refine wp_ite2 (fun hc => ?_) (fun hc => ?_)
  · refine wpAny_bind ?_
    refine wpAny_rule ?_
    refine wpAny_bind ?_
    unfold structError
    refine wpAny_raiseErrorMade plainExc_struct hh (h2 (by omega)) ?_
    show (Str.ofString _).length ≤ sizeLine
    rw [PySem.ofString_length, sizeLine_eq]
    have e1 := int_text_length_le10 (a := place + (f.size : Int)) (k := 4) (by decide) (by omega)
    have e2 := int_text_length_le10 (a := place) (k := 4) (by decide) (by omega)
    have e3 := nat_text_le (k := f.size) (by omega)
    have e4 := nat_text_le (k := len) (by omega)
    simp only [String.length_append]
    have t1 : (toString name) = name := rfl
    have t2 : (toString verb) = verb := rfl
    have q1 : (toString " requires a buffer of at least ").length ≤ 100 := by decide
    have q2 : (toString " bytes for ").length ≤ 100 := by decide
    have q3 : (toString " ").length ≤ 100 := by decide
    have q4 : (toString " bytes at offset ").length ≤ 100 := by decide
    have q5 : (toString " (actual buffer size is ").length ≤ 100 := by decide
    have q6 : (toString ")").length ≤ 100 := by decide
    rw [t1, t2]
    omega
  · exact wpAny_pure (h1 (by omega))

theorem fits_small {i : Int} (h0 : 0 ≤ i) (h1 : i < 2 ^ 62) : fitsIndex i = true := by
  unfold fitsIndex
  simp only [Bool.and_eq_true, decide_eq_true_eq]
  omega
end

section
variable {prog : Program} {w : World} {A : Around} {E : Value → Shared → Prop} {s : Shared}
theorem call_pack_gen {st d : Addr} {fb b : Array UInt8} {t : Tok} {f : Format} {k : Nat} {place n : Int} {tp tn : Tok} {Q : Value → Shared → Prop} (hst : s.heap.get? st = some (stObj fb t)) (hp : parse fb = pure f) (hfs : f.size = k) (hfi : f.items = 1)
    (hd : s.heap.get? d = some (baObj b)) (hb : b.size ≤ 1000) (h0 : 0 ≤ place) (hh : A.handled = none) (hp1 : place ≤ 1000) (hk : k ≤ 8)
    (h1 : place + k ≤ b.size → ∀ (A' : Around) h₁ src, A'.handled = none → h₁.get? d = some (baObj (layAt b place.toNat (Array.replicate k 0))) → Heap.SameBut d s.heap h₁ →
      wpAny (model prog w) A' (packEach "_struct.Struct.pack_into" f [.int n tn] () (fun _ q raw => write (.ref d) (layAt · (0 + place.toNat + q) raw)) src) (fun _ s' => Q .none s') E { s with heap := h₁ })
    (h3 : ¬ (place + k ≤ b.size) → ∀ h' tk e, Heap.NewExc s.heap h' e "struct.error" → E (.ref e) { s with heap := h', toks := tk }) :
    wpAny (model prog w) A (call (.builtin "_struct.Struct.pack_into") [.ref st, .ref d, .int place tp, .int n tn]) Q E s := by
  have hT : s.TypeIs (.ref st) "_struct.Struct" := ⟨_, hst, rfl⟩
  have hTd : s.TypeIs (.ref d) "bytearray" := ⟨_, hd, rfl⟩
  refine wpAny_call (codeAny_call_builtin st_slot_pi.plain st_entry_pi (st_slot_pi.check _ _ _ _ _ _ _ _ hT (st_args_pi _ _ _ _) ?_))
  unfold Builtin.«_struct.Struct.pack_into»
  refine wpAny_bind (wpAny_of_eq (a := ()) rfl ?_)
  refine wpAny_bind (wp_structFormat hst hp ?_)
  refine wpAny_bind (wpAny_field hst rfl (x := .bytes fb t) rfl ?_)
  unfold packInto
  refine bm_if_false (by rw [hfi]; rfl) ?_
  refine wpAny_bind (wpAny_specialOf hTd ba_buffer ?_)
  show wpAny _ _ (payload (.ref d) >>= _) _ _ _
  refine wpAny_bind ?_
  unfold Builtin.Bytes.payload Builtin.Bytes.payload?
  refine wpAny_bind (wpAny_bind (wpAny_load hd ?_))
  refine wpAny_pure (wpAny_pure ?_)
  refine wpAny_bind (wpAny_pure (wpAny_pure ⟨Code.quiet_builtin _ (by decide +kernel), codeAny_builtin st_entry_held ?_⟩))
  unfold Builtin.«_struct.pack_into.held»
  have hh' : (A.under (Code.builtin "_struct.pack_into.held" { pos := [Value.ref d, Value.ref d, rawInt ↑(0 : Nat), rawInt ↑b.size, Value.ref st, Value.bytes fb t, Value.int place tp, Value.int n tn] })).handled = none := hh
  generalize A.under (Code.builtin "_struct.pack_into.held" { pos := [Value.ref d, Value.ref d, rawInt ↑(0 : Nat), rawInt ↑b.size, Value.ref st, Value.bytes fb t, Value.int place tp, Value.int n tn] }) = A' at hh' ⊢
  show wpAny _ A' (do let f ← parse (← payload (.bytes fb t)); packHeld (if (Value.ref st == .none) = true then "_struct.pack_into" else "_struct.Struct.pack_into") f (.ref d) 0 (Int.toNat (b.size : Int)) (.int place tp) [.int n tn]) _ _ _
  refine wpAny_bind (wpAny_of_eq (a := fb) rfl ?_)
  refine wpAny_bind (wpAny_of_eq hp ?_)
  unfold packHeld
  refine wpAny_bind (wpAny_of_eq (a := place) rfl ?_)
  refine bm_if_false (by rw [fits_small h0 (by omega)]; rfl) ?_
  refine wpAny_bind (wp_placeIn (w := k) hfs hh' h0 hk (by rw [Int.toNat_natCast]; exact hb) hp1 (by decide) (by decide) (fun hr => ?_) (fun hr => ?_))
  · rw [Int.toNat_natCast] at hr
    refine wpAny_bind (wp_write (b := b) (f := fun x => layAt x (0 + place.toNat) (Array.replicate f.size 0)) hd ?_ fun h₁ g1 g2 => ?_)
    · simp only [size_layAt]; rw [sizeLine_eq]; omega
    rw [Nat.zero_add, hfs] at g1
    refine wpAny_bind ?_
    exact wpAny_mono (h1 hr A' h₁ _ hh' g1 g2) (fun a s' h => wpAny_pure h) fun _ _ h => h
  · rw [Int.toNat_natCast] at hr
    intro h' tk e x
    exact h3 hr h' tk e x

/-- the three ends of a write of an int code -/
theorem call_pack_into {st d : Addr} {fb b : Array UInt8} {t : Tok} {c : Char} {k : Nat} {lo hi place n : Int} {tp tn : Tok} {Q : Value → Shared → Prop} (hst : s.heap.get? st = some (stObj fb t)) (hp : parse fb = pure (fmtB c k)) (hc : (c, k, lo, hi) ∈ codes8)
    (hd : s.heap.get? d = some (baObj b)) (hb : b.size ≤ 1000) (h0 : 0 ≤ place) (hh : A.handled = none) (hp1 : place ≤ 1000) (hk : k ≤ 8)
    (h1 : place + k ≤ b.size → lo ≤ n ∧ n ≤ hi → ∀ h', h'.get? d = some (baObj (layAt (layAt b place.toNat (Array.replicate k 0)) place.toNat (intBytes false k n))) → Heap.SameBut d s.heap h' → Q .none { s with heap := h' })
    (h2 : place + k ≤ b.size → ¬ (lo ≤ n ∧ n ≤ hi) → ∀ h₁ h' tk e, h₁.get? d = some (baObj (layAt b place.toNat (Array.replicate k 0))) → Heap.SameBut d s.heap h₁ → Heap.NewExc h₁ h' e "struct.error" → E (.ref e) { s with heap := h', toks := tk })
    (h3 : ¬ (place + k ≤ b.size) → ∀ h' tk e, Heap.NewExc s.heap h' e "struct.error" → E (.ref e) { s with heap := h', toks := tk }) :
    wpAny (model prog w) A (call (.builtin "_struct.Struct.pack_into") [.ref st, .ref d, .int place tp, .int n tn]) Q E s := by
  refine call_pack_gen hst hp rfl rfl hd hb h0 hh hp1 hk (fun hr A' h₁ src hh' g1 g2 => ?_) h3
  refine wp_packEach hc hh' (fun hr2 => ?_) (fun hr2 => ?_)
  · refine wp_write (f := fun x => layAt x (0 + place.toNat + 0) (intBytes false k n)) g1 ?_ fun h₂ g3 g4 => ?_
    · simp only [size_layAt]; rw [sizeLine_eq]; omega
    rw [Nat.zero_add, Nat.add_zero] at g3
    exact h1 hr hr2 h₂ g3 (g2.trans g4)
  · intro h' tk e x
    exact h2 hr hr2 h₁ h' tk e g1 g2 x
end
end Mine
end
section
open PySem PySem.W PyProof.Rows PySem.Calls
set_option maxRecDepth 100000
namespace Mine
open PySem.Builtin PySem.Builtin.Bytes PySem.Builtin.Struct

theorem uf_bind (a b : Value) : bindOptional "_struct.Struct.unpack_from" "unpack_from" ["buffer", "offset"] [a, b] [] = pure [some a, some b] := by kernel_rfl
theorem ba_sub : isSubtype (.type "bytearray") (.type "bytearray") = pure true := by rw [isSubtype_type]; kernel_rfl
theorem by_sub : isSubtype (.type "bytes") (.type "bytes") = pure true := by rw [isSubtype_type]; kernel_rfl
theorem by_release : typeLookup (.type "bytes") "__release_buffer__" = pure none := by rw [typeLookup_type, builtinLookup_eq_fast]; kernel_rfl
section
variable {M : Model} {A : Around} {E : Value → Shared → Prop} {s : Shared}
theorem wp_slotIsOwn {v : Value} {T name id : String} {Q : Bool → Shared → Prop} (hT : s.TypeIs v T) (hl : typeLookup (.type T) (Str.ofString name) = pure (some (.builtin id))) (he : id.endsWith ("." ++ name) = true)
    (hd : id.dropRight (name.length + 1) = T) (hs : isSubtype (.type T) (.type T) = pure true) (h : Q true s) : wpAny M A (slotIsOwn v name) Q E s := by
  unfold slotIsOwn
  refine wpAny_bind (wpAny_specialOf hT hl ?_)
  dsimp only
  refine bm_if_false (by rw [he]; rfl) ?_
  rw [hd]
  exact wpAny_isInstance hT hs h
theorem wp_buffer_ba {id : String} {full : Bool} {d : Addr} {b : Array UInt8} {Q : Option (Array UInt8) → Shared → Prop} (hd : s.heap.get? d = some (baObj b)) (h : Q (some b) s) : wpAny M A (buffer? id (.ref d) full) Q E s := by
  have hT : s.TypeIs (.ref d) "bytearray" := ⟨_, hd, rfl⟩
  unfold buffer?
  refine wpAny_bind (wpAny_specialOf hT ba_buffer ?_)
  dsimp only
  refine wpAny_bind (wp_slotIsOwn hT ba_buffer (by decide +kernel) (by decide +kernel) ba_sub ?_)
  refine bm_if_false rfl ?_
  refine wpAny_bind (wpAny_specialOf hT ba_buffer ?_)
  show wpAny _ _ (ownRelease (.ref d) >>= _) _ _ _
  refine wpAny_bind ?_
  unfold ownRelease
  refine wpAny_bind (wp_slotIsOwn hT ba_release (by decide +kernel) (by decide +kernel) ba_sub (wpAny_pure ?_))
  refine bm_if_false rfl ?_
  refine wpAny_bind ?_
  unfold Builtin.Bytes.payload Builtin.Bytes.payload?
  refine wpAny_bind (wpAny_bind (wpAny_load hd ?_))
  exact wpAny_pure (wpAny_pure (wpAny_pure h))
theorem wp_buffer_by {id : String} {full : Bool} {b : Array UInt8} {t : Tok} {Q : Option (Array UInt8) → Shared → Prop} (h : Q (some b) s) : wpAny M A (buffer? id (.bytes b t) full) Q E s := by
  have hT : s.TypeIs (.bytes b t) "bytes" := typeIs_bytes s b t
  unfold buffer?
  refine wpAny_bind (wpAny_specialOf hT by_buffer ?_)
  dsimp only
  refine wpAny_bind (wp_slotIsOwn hT by_buffer (by decide +kernel) (by decide +kernel) by_sub ?_)
  refine bm_if_false rfl ?_
  refine wpAny_bind (wpAny_specialOf hT by_buffer ?_)
  show wpAny _ _ (ownRelease (.bytes b t) >>= _) _ _ _
  refine wpAny_bind ?_
  unfold ownRelease slotIsOwn
  refine wpAny_bind (wpAny_bind (wpAny_specialOf hT by_release ?_))
  refine wpAny_pure (wpAny_pure ?_)
  refine bm_if_false rfl ?_
  exact wpAny_bind (wpAny_of_eq (a := b) rfl (wpAny_pure h))

def HasBytes (s : Shared) (v : Value) (b : Array UInt8) : Prop := (∃ t, v = .bytes b t) ∨ (∃ d, v = .ref d ∧ s.heap.get? d = some (baObj b))
theorem wp_bytesLike {id : String} {v : Value} {b : Array UInt8} {Q : Array UInt8 → Shared → Prop} (hv : HasBytes s v b) (h : Q b s) : wpAny M A (bytesLike id v) Q E s := by
  unfold bytesLike
  rcases hv with ⟨t, rfl⟩ | ⟨d, rfl, hd⟩
  · exact wpAny_bind (wp_buffer_by (wpAny_pure h))
  · exact wpAny_bind (wp_buffer_ba hd (wpAny_pure h))

def valOf (c : Char) (w : Nat) (n : Nat) : Int := if (c.isLower && decide (n ≥ 2 ^ (8 * w - 1))) = true then (n : Int) - 2 ^ (8 * w) else n

theorem wp_unpacked {c : Char} {w : Nat} {lo hi : Int} (hc : (c, w, lo, hi) ∈ codes8) {id : String} {b : Array UInt8} {p : Nat} {Q : Value → Shared → Prop}
    (h : ∀ h' t, Q (.ref s.heap.objs.size) { s with heap := s.heap.push { cls := .type "tuple", data := .seq #[.int (valOf c w (natOf false (b.extract p (p + w)))) t] }, toks := h' }) :
    wpAny M A (Struct.unpacked id (fmtB c w) b p) Q E s := by
  simp only [codes8, List.mem_cons, List.mem_nil_iff, Prod.mk.injEq, or_false] at hc
  rcases hc with ⟨rfl, rfl, rfl, rfl⟩ | ⟨rfl, rfl, rfl, rfl⟩ | ⟨rfl, rfl, rfl, rfl⟩ | ⟨rfl, rfl, rfl, rfl⟩ | ⟨rfl, rfl, rfl, rfl⟩ | ⟨rfl, rfl, rfl, rfl⟩ | ⟨rfl, rfl, rfl, rfl⟩ | ⟨rfl, rfl, rfl, rfl⟩
  all_goals
    unfold Struct.unpacked
    refine wpAny_bind ?_
    simp only [fmtB, List.forIn_cons, List.forIn_nil]
    refine wpAny_bind ?_
    refine wp_ite2 (c := tooLong 1 = true) (fun hc => absurd hc (by decide)) (fun _ => ?_)
    refine wpAny_bind ?_
    simp only [Std.Legacy.Range.forIn_eq_forIn_range', Std.Legacy.Range.size, Nat.sub_zero, Nat.add_sub_cancel, Nat.div_one, List.range'_one, List.forIn_cons, List.forIn_nil]
    refine wpAny_bind ?_
    refine wpAny_bind ?_
    refine wpAny_mkInt ?_
    refine wpAny_pure (wpAny_pure (wpAny_pure (wpAny_pure ?_)))
    refine wpAny_newObj_type ?_ (show (1 : Nat) ≤ sizeLine by rw [sizeLine_eq]; omega)
    simp only [Nat.add_zero, Nat.zero_mul, Nat.zero_add, Nat.one_mul]
    exact h _ _
end

section
variable {prog : Program} {w : World} {A : Around} {E : Value → Shared → Prop} {s : Shared}
theorem call_unpack_from {st : Addr} {fb b : Array UInt8} {t : Tok} {f : Format} {place : Int} {v : Value} {tp : Tok} {Q : Value → Shared → Prop} {k : Nat} (hst : s.heap.get? st = some (stObj fb t)) (hp : parse fb = pure f) (hfs : f.size = k)
    (hv : HasBytes s v b) (hb : b.size ≤ 1000) (h0 : 0 ≤ place) (hh : A.handled = none) (hp1 : place ≤ 1000) (hk : k ≤ 8)
    (h1 : place + k ≤ b.size → wpAny (model prog w) A.in1 (Struct.unpacked "_struct.Struct.unpack_from" f b place.toNat) Q E s)
    (h3 : ¬ (place + k ≤ b.size) → ∀ h' tk e, Heap.NewExc s.heap h' e "struct.error" → E (.ref e) { s with heap := h', toks := tk }) :
    wpAny (model prog w) A (call (.builtin "_struct.Struct.unpack_from") [.ref st, v, .int place tp]) Q E s := by
  have hT : s.TypeIs (.ref st) "_struct.Struct" := ⟨_, hst, rfl⟩
  refine wpAny_call (codeAny_call_builtin st_slot_uf.plain st_entry_uf (st_slot_uf.check _ _ _ _ _ _ _ _ hT (st_args_uf _ _ _) ?_))
  unfold Builtin.«_struct.Struct.unpack_from»
  refine wpAny_bind (wpAny_of_eq (uf_bind _ _) ?_)
  dsimp only
  unfold unpackFrom
  refine wpAny_bind (wp_bytesLike hv ?_)
  dsimp only
  refine wpAny_bind ?_
  unfold indexHeld
  refine wpAny_bind (wpAny_of_eq (a := some place) rfl ?_)
  have hor : ∀ c : Bool, (c || (some place).isSome) = true := fun c => by cases c <;> rfl
  refine bm_if_true (hor _) ?_
  refine wpAny_bind (wpAny_of_eq (a := some place) rfl (wpAny_pure ?_))
  refine bm_if_false (by rw [fits_small h0 (by omega)]; rfl) ?_
  refine wpAny_bind (wpAny_pure ?_)
  refine wpAny_bind (wpAny_bind (wp_structFormat hst hp (wpAny_pure ?_)))
  refine bm_if_true rfl ?_
  refine wpAny_bind (wp_bytesLike hv ?_)
  refine wpAny_bind (wp_placeIn (w := k) hfs hh h0 hk hb hp1 (by decide) (by decide) (fun hr => ?_) (fun hr => ?_))
  · exact wpAny_bind (wpAny_mono (h1 hr) (fun v s' h => wpAny_pure h) fun _ _ h => h)
  · intro h' tk e x
    exact h3 hr h' tk e x
end

section
variable {M : Model} {A : Around} {E : Value → Shared → Prop} {s : Shared}
theorem wp_unpacked_q {id : String} {b : Array UInt8} {p : Nat} {Q : Value → Shared → Prop}
    (h : Q (.ref s.heap.objs.size) { s with heap := s.heap.push { cls := .type "tuple", data := .seq #[.bool (natOf false (b.extract p (p + 1)) != 0)] } }) :
    wpAny M A (Struct.unpacked id fmtQ b p) Q E s := by
  unfold Struct.unpacked
  refine wpAny_bind ?_
  simp only [fmtQ, List.forIn_cons, List.forIn_nil]
  refine wpAny_bind ?_
  refine wp_ite2 (c := tooLong 1 = true) (fun hc => absurd hc (by decide)) (fun _ => ?_)
  refine wpAny_bind ?_
  simp only [Std.Legacy.Range.forIn_eq_forIn_range', Std.Legacy.Range.size, Nat.sub_zero, Nat.add_sub_cancel, Nat.div_one, List.range'_one, List.forIn_cons, List.forIn_nil]
  refine wpAny_bind ?_
  refine wpAny_bind ?_
  refine wpAny_pure (wpAny_pure (wpAny_pure (wpAny_pure (wpAny_pure ?_))))
  refine wpAny_newObj_type ?_ (show (1 : Nat) ≤ sizeLine by rw [sizeLine_eq]; omega)
  simp only [Nat.add_zero, Nat.zero_mul, Nat.zero_add, Nat.one_mul]
  exact h

theorem wp_packEach_q {id : String} {i : Int} {t : Tok} {put : Unit → Nat → Array UInt8 → Sem Unit} {src : Value → Nat → Nat → Sem Unit}
    {Q : Unit → Shared → Prop}
    (h1 : wpAny M A (truthy (.int i t)) (fun c s' => wpAny M A (put () 0 #[if c then 1 else 0]) Q E s') (fun _ _ => False) s) :
    wpAny M A (packEach id fmtQ [.int i t] () put src) Q E s := by
  unfold packEach
  refine wpAny_bind ?_
  simp only [fmtQ, List.forIn_cons]
  refine wpAny_bind ?_
  refine bm_if_false (by decide) ?_
  refine bm_if_false (by decide) ?_
  refine wpAny_bind ?_
  simp only [Std.Legacy.Range.forIn_eq_forIn_range', Std.Legacy.Range.size, Nat.sub_zero, Nat.add_sub_cancel, Nat.div_one, List.range'_one, List.forIn_cons, List.forIn_nil]
  refine wpAny_bind (wpAny_bind (wpAny_bind ?_))
  refine wpAny_attempt ?_
  refine wpAny_mono h1 (fun c s' h => ?_) fun _ _ h => h.elim
  refine wpAny_pure (wpAny_bind ?_)
  exact wpAny_mono h (fun a s' h => wpAny_pure (wpAny_pure (wpAny_pure (wpAny_pure (wpAny_pure h))))) fun _ _ h => h
end

section
variable {prog : Program} {w : World} {A : Around} {E : Value → Shared → Prop} {s : Shared}
theorem call_pack_into_q {st d : Addr} {fb b : Array UInt8} {t : Tok} {place n : Int} {tp tn : Tok} {Q : Value → Shared → Prop} (hst : s.heap.get? st = some (stObj fb t)) (hp : parse fb = pure fmtQ)
    (hd : s.heap.get? d = some (baObj b)) (hb : b.size ≤ 1000) (h0 : 0 ≤ place) (hh : A.handled = none) (hp1 : place ≤ 1000)
    (h1 : place + (1 : Nat) ≤ b.size → ∀ h' tk, h'.get? d = some (baObj (layAt (layAt b place.toNat (Array.replicate 1 0)) place.toNat #[if (n != 0) = true then 1 else 0])) → Heap.SameBut d s.heap h' → Q .none { s with heap := h', toks := tk })
    (h3 : ¬ (place + (1 : Nat) ≤ b.size) → ∀ h' tk e, Heap.NewExc s.heap h' e "struct.error" → E (.ref e) { s with heap := h', toks := tk }) :
    wpAny (model prog w) A (call (.builtin "_struct.Struct.pack_into") [.ref st, .ref d, .int place tp, .int n tn]) Q E s := by
  refine call_pack_gen hst hp rfl rfl hd hb h0 hh hp1 (by decide) (fun hr A' h₁ src hh' g1 g2 => ?_) h3
  refine wp_packEach_q ?_
  refine PyProof.Rows.truthy_int ?_
  refine wp_write (f := fun x => layAt x (0 + place.toNat + 0) _) g1 ?_ fun h₂ g3 g4 => ?_
  · simp only [size_layAt]; rw [sizeLine_eq]; omega
  rw [Nat.zero_add, Nat.add_zero] at g3
  exact h1 hr h₂ _ g3 (g2.trans g4)
end
end Mine
end
section
open PySem PySem.W PyProof.Rows PySem.Calls
set_option maxRecDepth 100000
namespace Mine
open PySem.Builtin PySem.Builtin.Bytes PySem.Builtin.Struct
open PySem.W.KBw (bInts)

theorem ba_slot_next : Slot "bytearray_iterator" "__next__" "bytearray_iterator.__next__" :=
  .of (owner := "bytearray_iterator") (n := "__next__") (by rw [typeLookup_type, builtinLookup_eq_fast]; kernel_rfl) (by decide +kernel) (by decide +kernel) (by decide +kernel)
    (by first | exact .inl (by decide +kernel) | exact .inr (by decide +kernel)) (by rw [isSubtype_type]; kernel_rfl)
theorem ba_slot_self : Slot "bytearray_iterator" "__iter__" "bytearray_iterator.__iter__" :=
  .of (owner := "bytearray_iterator") (n := "__iter__") (by rw [typeLookup_type, builtinLookup_eq_fast]; kernel_rfl) (by decide +kernel) (by decide +kernel) (by decide +kernel)
    (by first | exact .inl (by decide +kernel) | exact .inr (by decide +kernel)) (by rw [isSubtype_type]; kernel_rfl)
theorem ba_slot_iter : Slot "bytearray" "__iter__" "bytearray.__iter__" :=
  .of (owner := "bytearray") (n := "__iter__") (by rw [typeLookup_type, builtinLookup_eq_fast]; kernel_rfl) (by decide +kernel) (by decide +kernel) (by decide +kernel)
    (by first | exact .inl (by decide +kernel) | exact .inr (by decide +kernel)) (by rw [isSubtype_type]; kernel_rfl)
theorem ba_slot_len : Slot "bytearray" "__len__" "bytearray.__len__" :=
  .of (owner := "bytearray") (n := "__len__") (by rw [typeLookup_type, builtinLookup_eq_fast]; kernel_rfl) (by decide +kernel) (by decide +kernel) (by decide +kernel)
    (by first | exact .inl (by decide +kernel) | exact .inr (by decide +kernel)) (by rw [isSubtype_type]; kernel_rfl)
theorem ba_entry_next : entryFor table "bytearray_iterator.__next__" = some Builtin.«bytearray_iterator.__next__» := entryFor_of_tree (by kernel_rfl)
theorem ba_entry_iter : entryFor table "bytearray.__iter__" = some Builtin.«bytearray.__iter__» := entryFor_of_tree (by kernel_rfl)
theorem ba_entry_self : entryFor table "bytearray_iterator.__iter__" = some Builtin.«dict_keyiterator.__iter__» := entryFor_alias (id' := "dict_keyiterator.__iter__") (by kernel_rfl) rfl (by decide +kernel) (by kernel_rfl)
theorem ba_args_next (a : Value) : argsOk "bytearray_iterator.__next__" ⟨[a], []⟩ := by unfold argsOk; kernel_rfl
theorem ba_args_self (a : Value) : argsOk "bytearray_iterator.__iter__" ⟨[a], []⟩ := by unfold argsOk; kernel_rfl
theorem ba_args_iter (a : Value) : argsOk "bytearray.__iter__" ⟨[a], []⟩ := by unfold argsOk; kernel_rfl

def IsBaIter (h : Heap) (a d : Addr) (i : Nat) : Prop := ∃ o, h.get? a = some o ∧ o.cls = .type "bytearray_iterator" ∧ o.data = .fields #[.ref d, .int i 0]
theorem baIter_typeIs {s : Shared} {a d : Addr} {i : Nat} (y : IsBaIter s.heap a d i) : s.TypeIs (.ref a) "bytearray_iterator" :=
  let ⟨o, ho, hc, _⟩ := y; ⟨o, ho, hc⟩

section
variable {prog : Program} {w : World} {A : Around} {E : Value → Shared → Prop} {s : Shared} {b : Array UInt8} {d : Addr}
theorem pyIter_ba {Q : Value → Shared → Prop} (hd : s.heap.get? d = some (baObj b)) (hQ : Q (.ref s.heap.objs.size) { s with heap := s.heap.push { cls := .type "bytearray_iterator", data := .fields #[.ref d, .int 0 0] } }) : wpAny (model prog w) A (pyIter (.ref d)) Q E s := by
  have hT : s.TypeIs (.ref d) "bytearray" := ⟨_, hd, rfl⟩
  refine wpAny_pyIter_slot hT ba_slot_iter (wpAny_call_entry ba_slot_iter hT ba_entry_iter ?_ (ba_args_iter _))
  show wpAny _ _ (do ret (← newFields "bytearray_iterator" [.ref d, rawInt 0])) _ _ s
  exact wpAny_bind (wpAny_newObj_type (wpAny_pure ⟨_, rfl, "bytearray_iterator", _, ⟨_, Heap.get?_push_size _ rfl, rfl⟩, ba_slot_next.lookup, hQ⟩))
theorem pyIter_baself {it : Addr} {i : Nat} {Q : Value → Shared → Prop} (hit : IsBaIter s.heap it d i) (h : Q (.ref it) s) : wpAny (model prog w) A (pyIter (.ref it)) Q E s := by
  refine wpAny_pyIter_slot (baIter_typeIs hit) ba_slot_self (wpAny_call_entry ba_slot_self (baIter_typeIs hit) ba_entry_self ?_ (ba_args_self _))
  show wpAny _ _ (ret (.ref it)) _ _ s
  exact wpAny_pure ⟨_, rfl, "bytearray_iterator", _, baIter_typeIs hit, ba_slot_next.lookup, h⟩

theorem ba_next_item {it : Addr} {i : Nat} {c : UInt8} {Q : Option Value → Shared → Prop} (hit : IsBaIter s.heap it d i) (hd : s.heap.get? d = some (baObj b)) (hx : b[i]? = some c)
    (hQ : ∀ h', IsBaIter h' it d (i + 1) → Heap.SameBut it s.heap h' → Q (some (.int (c.toNat : Int) s.toks)) { s with heap := h', toks := s.toks + 1 }) : wpAny (model prog w) A (pyNext (.ref it)) Q E s := by
  obtain ⟨o, ho, hc, hf⟩ := id hit
  unfold pyNext
  refine wpAny_bind (wpAny_attempt (wpAny_callSpecial?_slot (name := PySem.Str.ofString "__next__") (baIter_typeIs hit) ba_slot_next
    (wpAny_call_entry ba_slot_next (baIter_typeIs hit) ba_entry_next ?_ (ba_args_next _))))
  show wpAny _ _ (field (.ref it) 0 >>= _) _ _ s
  refine wpAny_bind (wpAny_field ho hf (x := .ref d) rfl ?_)
  show wpAny _ _ (load d >>= _) _ _ s
  refine wpAny_bind (wpAny_load hd ?_)
  show wpAny _ _ (field (.ref it) 1 >>= _) _ _ s
  refine wpAny_bind (wpAny_field ho hf (x := .int i 0) rfl ?_)
  simp only [Int.toNat_natCast, hx]
  refine wpAny_bind (wpAny_setField ho hf (by simp) (wpAny_bind (wpAny_mkInt (wpAny_pure ⟨_, rfl, wpAny_pure (hQ _ ?_ (Heap.SameBut.update ..))⟩))))
  exact ⟨_, Heap.get?_update_self _ ho (Obj.isFreed_of_fields (Obj.data_mapFields hf _)), (Obj.cls_mapFields ..).trans hc, by
    rw [Obj.data_mapFields hf]; simp [rawInt]⟩

theorem ba_next_end {it : Addr} {i : Nat} {Q : Option Value → Shared → Prop} (hh : A.handled = none) (hit : IsBaIter s.heap it d i) (hd : s.heap.get? d = some (baObj b)) (hx : b[i]? = none)
    (hQ : ∀ h', Heap.ExtBut it s.heap h' → Q none { s with heap := h' }) : wpAny (model prog w) A (pyNext (.ref it)) Q E s := by
  obtain ⟨o, ho, hc, hf⟩ := id hit
  unfold pyNext
  refine wpAny_bind (wpAny_attempt (wpAny_callSpecial?_slot (name := PySem.Str.ofString "__next__") (baIter_typeIs hit) ba_slot_next
    (wpAny_call_entry ba_slot_next (baIter_typeIs hit) ba_entry_next ?_ (ba_args_next _))))
  show wpAny _ _ (field (.ref it) 0 >>= _) _ _ s
  refine wpAny_bind (wpAny_field ho hf (x := .ref d) rfl ?_)
  show wpAny _ _ (load d >>= _) _ _ s
  refine wpAny_bind (wpAny_load hd ?_)
  show wpAny _ _ (field (.ref it) 1 >>= _) _ _ s
  refine wpAny_bind (wpAny_field ho hf (x := .int i 0) rfl ?_)
  simp only [Int.toNat_natCast, hx]
  refine wpAny_bind (wpAny_rule (wpAny_bind (wpAny_setField ho hf (by simp) ?_)))
  refine wpAny_bind (wpAny_letGo ?_)
  show wpAny _ _ (newExc (.type "StopIteration") [] >>= _) _ _ _
  refine wpAny_bind ?_
  simp only [newExc, newTuple]
  refine wpAny_bind (wpAny_newObj_type ?_ (by size_fits))
  refine wpAny_bind (m := firstArgMember _ _) (wpAny_of_eq (a := Value.none) (by first | rfl | (simp only [firstArgMember]; rfl)) ?_)
  refine wpAny_newObj_type ?_ (by size_fits)
  simp only [raiseNew]
  refine wpAny_bind (wpAny_handled ?_)
  rw [show A.in1.handled = none from hh]
  refine wpAny_bind (wpAny_pure (wpAny_throw ?_))
  refine wpAny_bind (wpAny_isInstance (T := "StopIteration") (b := true) ⟨_, Heap.get?_push_size _ rfl, rfl⟩ isSubtype_stop ?_)
  exact wpAny_pure (hQ _ (((Heap.SameBut.update ..).extBut.push _).push _))

theorem ba_walks (hh : A.handled = none) (I d : Addr) (b : Array UInt8) (hI : I ≠ d) :
    Walks prog w A I [I, d] [I] b.size (fun i v => ∃ c u, b[i]? = some c ∧ v = Value.int (c.toNat : Int) u) (fun i h => IsBaIter h I d i ∧ h.get? d = some (baObj b)) where
  sub := fun _ hb => by simp at hb ⊢; exact .inl hb
  frame := fun _ _ _ st hk => let ⟨⟨o, ho, r⟩, h2⟩ := st; ⟨⟨o, hk I (by simp) o ho, r⟩, hk d (by simp) _ h2⟩
  item := fun i s Q E hi st hQ => by
    refine ba_next_item st.1 st.2 (c := b[i]) (by simp [hi]) fun h' hit' hs' => ?_
    exact hQ _ h' (s.toks + 1) ⟨_, _, by simp [hi], rfl⟩ ⟨hit', (hs'.2 d (Ne.symm hI)).trans st.2⟩ fun b o hb e => hs'.extBut b o (fun h => hb (by simp [h])) e
  done := fun s Q E st hQ => ba_next_end hh st.1 st.2 (by simp) fun h' he' => hQ h' s.toks fun b o hb e => he' b o (fun h => hb (by simp [h])) e
  self := fun _ _ _ _ st hQ => pyIter_baself st.1 hQ

theorem ba_hint {Q : Bool → Shared → Prop} (hd : s.heap.get? d = some (baObj b)) (h : Q false s) : wpAny (model prog w) A (Builtin.List.listLengthHint (.ref d)) Q E s := by
  have hT : s.TypeIs (.ref d) "bytearray" := ⟨_, hd, rfl⟩
  unfold Builtin.List.listLengthHint
  refine wpAny_bind (wpAny_specialOf hT ba_slot_len.lookup ?_)
  generalize hid : ("bytearray.__len__" : String) = id0
  wp_delta
  rw [show splitId id0 = some ("bytearray", "__len__") from by subst hid; decide +kernel]
  subst hid
  refine wpAny_bind (wpAny_isInstance (T := "bytearray") (b := true) hT ba_sub ?_)
  refine wpAny_ite_split (fun hab => absurd hab (by decide)) (fun _ => ?_)
  refine wpAny_ite_split (fun _ => ?_) (fun hab => absurd (by decide +kernel) hab)
  exact wpAny_bind (wpAny_typeOf hT (wpAny_pure h))

theorem ba_extend {R : Result → Shared → Prop} (hh : A.handled = none) (hd : s.heap.get? d = some (baObj b)) (hlen : b.size ≤ 1000) (S : Addr) (res : Value) (c₀ : Nat) (hS : s.heap.get? S = some { cls := .type "list", data := .seq #[] c₀ })
    (hR : ∀ h' tk acc' c', (∀ b o, b ≠ S → s.heap.get? b = some o → h'.get? b = some o) → h'.get? S = some { cls := .type "list", dict := none, data := .seq acc' c', slots := #[] } →
      ItemsOf (fun i v => ∃ c u, b[i]? = some c ∧ v = Value.int (c.toNat : Int) u) acc' b.size → R (.ok (.ret res)) { s with heap := h', toks := tk }) :
    wpAny (model prog w) A.in1 (Builtin.List.listExtendWith (.ref S) (.ref d) res)
      (fun fin s' => match fin with | .done f => R (.ok f) s' | .again c' => c'.quiet = true ∧ codeAny (model prog w) A c' R s') (fun e s' => R (.error e) s') s := by
  have hSr : S ≠ d := fun e => by rw [e, hd] at hS; simp at hS
  have hSlt : S < s.heap.objs.size := Heap.lt_size hS
  have hdlt : d < s.heap.objs.size := Heap.lt_size hd
  have hSI : S ≠ s.heap.objs.size := Nat.ne_of_lt hSlt
  have hdI : s.heap.objs.size ≠ d := Ne.symm (Nat.ne_of_lt hdlt)
  have hSf : S ∉ [s.heap.objs.size, d] := fun hm => by
    rcases List.mem_cons.mp hm with e | hm
    · exact hSI e
    · exact hSr (List.mem_singleton.mp hm)
  have hT : s.TypeIs (.ref d) "bytearray" := ⟨_, hd, rfl⟩
  have W := (ba_walks (prog := prog) (w := w) (A := A.in1) hh s.heap.objs.size d b hdI).toS
  unfold Builtin.List.listExtendWith
  refine wpAny_bind (wpAny_typeOf hT ?_)
  have h1 : Builtin.List.listSameRef (.ref S) (.ref d) = false := by simp [Builtin.List.listSameRef, hSr]
  have h2 : (Value.type "bytearray" == Value.type "list") = false := by decide
  have h3 : (Value.type "bytearray" == Value.type "tuple") = false := by decide
  simp only [h1, h2, h3, Bool.or_false, Bool.false_eq_true, if_false]
  refine wpAny_bind (pyIter_ba hd ?_)
  refine wpAny_bind (wpAny_holding (ba_hint (b := b) (Heap.get?_push_of_some _ hd) ?_))
  refine wpAny_ite_split (fun hab => absurd hab (by decide +kernel)) (fun _ => wpAny_pure ⟨plainId_quiet F.plain_extend_loop _, ?_⟩)
  have hit₁ : IsBaIter (s.heap.push { cls := .type "bytearray_iterator", data := .fields #[.ref d, .int 0 0] }) s.heap.objs.size d 0 := ⟨_, Heap.get?_push_size _ rfl, rfl, rfl⟩
  refine codeAny_extend_loopS W (by rw [sizeLine_eq]; omega) S hSf res b.size 0 _ #[] c₀ rfl (Nat.zero_le _) ⟨hit₁, Heap.get?_push_of_some _ hd⟩ (Heap.get?_push_of_some _ hS) (ItemsOf.nil _) fun s' acc' c' hm hS' hacc => ?_
  rw [Moved.eq_with hm]
  refine hR s'.heap s'.toks acc' c' (fun b o hb e => hm.heap b o (fun hmem => ?_) (Heap.get?_push_of_some _ e)) hS' hacc
  rcases List.mem_cons.mp hmem with e' | hmem
  · exact hb e'
  · exact absurd (Heap.lt_size e) (by rw [List.mem_singleton.mp hmem]; exact Nat.lt_irrefl _)
end

theorem ints_of_items {b : Array UInt8} {acc : Array Value} (h : ItemsOf (fun i v => ∃ c u, b[i]? = some c ∧ v = Value.int (c.toNat : Int) u) acc b.size) : IntsAre acc.toList (bInts b) := by
  obtain ⟨h1, h2⟩ := h
  have key : ∀ (xs : List Value) (cs : List UInt8), xs.length = cs.length → (∀ (j : Nat) (v : Value), xs[j]? = some v → ∃ (c : UInt8) (u : Tok), cs[j]? = some c ∧ v = Value.int (c.toNat : Int) u) → IntsAre xs (cs.map fun c : UInt8 => (c.toNat : Int)) := by
    intro xs
    induction xs with
    | nil => intro cs hl _; cases cs with | nil => exact .nil | cons _ _ => cases hl
    | cons x xs ih =>
      intro cs hl hj
      cases cs with
      | nil => cases hl
      | cons c cs =>
        obtain ⟨c', u, e1, e2⟩ := hj 0 x rfl
        cases e1
        subst e2
        exact .cons _ _ (ih cs (by simpa using hl) fun j v hv => hj (j + 1) v hv)
  refine key acc.toList b.toList (by simpa using h1) fun j v hv => ?_
  obtain ⟨c, u, e1, e2⟩ := h2 j v (by simpa using hv)
  exact ⟨c, u, by simpa using e1, e2⟩

section
variable {prog : Program} {w : World} {A : Around} {E : Value → Shared → Prop} {s : Shared} {b : Array UInt8} {d : Addr}
theorem call_list_ba {Q : Value → Shared → Prop} (hh : A.handled = none) (hd : s.heap.get? d = some (baObj b)) (hlen : b.size ≤ 1000)
    (hQ : ∀ h' tk vs c', (∀ b o, s.heap.get? b = some o → h'.get? b = some o) →
      h'.get? s.heap.objs.size = some (listOf vs c') → IntsAre vs.toList (bInts b) → Q (.ref s.heap.objs.size) { s with heap := h', toks := tk }) :
    wpAny (model prog w) A (call (.type "list") [.ref d]) Q E s := by
  refine callType_codes (Q₁ := fun obj s₁ => obj = .ref s.heap.objs.size ∧ s₁ = { s with heap := s.heap.push { cls := .type "list", data := .seq #[] } }) F.called_list (F.typeCall_list_1 _) F.entry_list_init
    (code_list_new _ ⟨rfl, rfl⟩) fun obj s₁ h₁ => ?_
  obtain ⟨rfl, rfl⟩ := h₁
  have hS : (s.heap.push { cls := .type "list", data := .seq #[] }).get? s.heap.objs.size = some { cls := .type "list", data := .seq #[] } := Heap.get?_push_size _ rfl
  have hd' : (s.heap.push { cls := .type "list", data := .seq #[] }).get? d = some (baObj b) := Heap.get?_push_of_some _ hd
  have hSr : s.heap.objs.size ≠ d := Ne.symm (Nat.ne_of_lt (Heap.lt_size hd))
  refine ⟨⟨_, hS, rfl⟩, F.args_list_init_2 _ _, ?_⟩
  have hk0 : ∀ b o, s.heap.get? b = some o → (s.heap.push { cls := .type "list", data := .seq #[] }).get? b = some o := fun b o e => Heap.get?_push_of_some _ e
  generalize hSe : s.heap.objs.size = S at hS hSr hQ ⊢
  generalize s.heap.push { cls := .type "list", data := .seq #[] } = hp at hS hd' hk0 ⊢
  show wpAny _ _ (do let old ← Builtin.List.listItems (.ref S); Builtin.List.listUpdate (.ref S) (fun _ => #[]); letGo old.toList.reverse; Builtin.List.listExtendWith (.ref S) (.ref d) .none) _ _ _
  refine wpAny_bind ?_
  unfold Builtin.List.listItems
  refine wpAny_bind (wpAny_seqItems hS rfl (wpAny_pure ?_))
  show wpAny _ _ (updateSeq S (fun _ => #[]) >>= fun _ => letGo (#[] : Array Value).toList.reverse >>= fun _ => Builtin.List.listExtendWith (.ref S) (.ref d) .none) _ _ _
  refine wpAny_bind (wpAny_updateSeq hS rfl ?_)
  have hS₂ := Heap.get?_update_self (Obj.mapSeq (fun _ => (#[] : Array Value))) hS rfl
  have oth : ∀ b o, b ≠ S → hp.get? b = some o → (hp.update S (Obj.mapSeq (fun _ => (#[] : Array Value)))).get? b = some o :=
    fun b o hb e => (Heap.get?_update_other _ _ (Ne.symm hb)).trans e
  refine wpAny_bind (wpAny_letGo ?_)
  refine ba_extend (A := A.in1) (b := b) hh (oth d _ (Ne.symm hSr) hd') hlen S .none _ hS₂ fun h' tk acc' c' hk hS' hacc => ?_
  refine ⟨rfl, hQ h' tk acc' c' (fun b o e => ?_) hS' (ints_of_items hacc)⟩
  have hb : b ≠ S := by rw [← hSe]; exact Nat.ne_of_lt (Heap.lt_size e)
  exact hk b o hb (oth b o hb (hk0 b o e))
end
end Mine
end
section
open PySem PySem.W PyProof.Rows PySem.Calls
set_option maxRecDepth 100000
namespace Mine
open PySem.Builtin PySem.Builtin.Bytes PySem.Builtin.Struct
open PySem.W.KBw (bInts)
open PySem.W (KBy.picked)

theorem ba_slot_getitem : Slot "bytearray" "__getitem__" "bytearray.__getitem__" :=
  .of (owner := "bytearray") (n := "__getitem__") (by rw [typeLookup_type, builtinLookup_eq_fast]; kernel_rfl) (by decide +kernel) (by decide +kernel) (by decide +kernel)
    (by first | exact .inl (by decide +kernel) | exact .inr (by decide +kernel)) (by rw [isSubtype_type]; kernel_rfl)
theorem ba_entry_getitem : entryFor table "bytearray.__getitem__" = some Builtin.«bytearray.__getitem__» := entryFor_of_tree (by kernel_rfl)
theorem ba_args_getitem (a b : Value) : argsOk "bytearray.__getitem__" ⟨[a, b], []⟩ := by unfold argsOk; kernel_rfl

theorem meets_baslice (d : Addr) (b : Array UInt8) (a : Addr) {l u : Value} {lo hi : Option Int} (hl : IsPart l lo) (hu : IsPart u hi) :
    Meets («bytearray.__getitem__» ⟨[.ref d, .ref a], []⟩) (fun _ R s => s.heap.get? d = some (baObj b) ∧ s.heap.IsSliceOf a l u .none ∧ b.size ≤ 1000 ∧ R (.ok (.ret (.ref s.heap.objs.size))) { s with heap := s.heap.push (baObj (KBy.picked b lo hi)) }) := by
  refine .of_wp fun prog w A R s hS => ?_
  obtain ⟨hd0, ⟨o, ho, hc, hd⟩, hsz, h⟩ := hS
  have hT : s.TypeIs (.ref a) "slice" := ⟨o, ho, hc⟩
  have hle : (KBy.picked b lo hi).size ≤ sizeLine := Nat.le_trans (KBc.size_picked_le b lo hi) (by rw [sizeLine_eq]; omega)
  show wpAny _ _ (Bytes.subscript? (.ref a) >>= fun r => _) _ _ s
  refine wpAny_bind ?_
  unfold Bytes.subscript?
  refine wpAny_bind (wpAny_specialOf hT slice_no_index (wpAny_pure ?_))
  refine wpAny_bind (wpAny_typeOf hT ?_)
  show wpAny _ _ (Bytes.sliceParts (.ref a) >>= fun r => _) _ _ s
  refine wpAny_bind ?_
  unfold Bytes.sliceParts
  refine wpAny_bind (wpAny_field (x := .none) ho hd rfl ?_)
  open PySem.W.KBy in kby_none
  refine wpAny_ite (KBy.ite_no (show ¬ ((Value.none == rawInt 0) = true) from Bool.false_ne_true) ?_)
  refine wpAny_bind (wpAny_field (x := l) ho hd rfl ?_)
  have go : wpAny (model prog w) A.in1 (sliceIndices (rawPart lo) (rawPart hi) (rawPart none) b.size) (fun r s' => r = sliceBounds lo hi none b.size ∧ s' = s) (fun _ _ => False) s :=
    wpAny_of_eq (sliceIndices_raw lo hi none b.size (fun e => nomatch e)) ⟨rfl, rfl⟩
  open PySem.W.KBy in
  cases hl <;> cases hu <;> (first
    | (kby_none; (refine wpAny_bind (wpAny_field (x := .none) ho hd rfl ?_)); kby_none)
    | (kby_none; (refine wpAny_bind (wpAny_field (x := .int _ _) ho hd rfl ?_)); kby_int)
    | (kby_int; (refine wpAny_bind (wpAny_field (x := .none) ho hd rfl ?_)); kby_none)
    | (kby_int; (refine wpAny_bind (wpAny_field (x := .int _ _) ho hd rfl ?_)); kby_int)) <;> refine wpAny_pure ?_
  all_goals
    refine wpAny_bind ?_
    unfold Builtin.Bytes.payload Builtin.Bytes.payload?
    refine wpAny_bind (wpAny_bind (wpAny_load hd0 ?_))
    refine wpAny_pure (wpAny_pure ?_)
    refine wpAny_bind (wpAny_mono go (fun r s' hr => ?_) fun _ _ e => e.elim)
    obtain ⟨hr1, hr2⟩ := hr
    subst hr1 hr2
    refine wpAny_bind ?_
    unfold Builtin.Bytes.newBytearray
    exact wpAny_newObj_type (wpAny_pure ⟨_, rfl, h⟩) hle

section
variable {prog : Program} {w : World} {A : Around} {E : Value → Shared → Prop} {s : Shared} {value slice : PySem.Expr} {b : Array UInt8} {h₀ : Heap} {L d : Addr} {m : PySem.Str → Option Value} {news : List (Addr × Obj)} {l u : Value} {lo hi : Option Int} {Q : Value → Shared → Prop}
theorem baslice_K (hF : Fr h₀ L s.heap m) (hN : News h₀ L s.heap news) (hd : (d, baObj b) ∈ news) (hl : IsPart l lo) (hu : IsPart u hi) (hz : b.size ≤ 1000)
    (h : ∀ D h', Fr h₀ L h' m → News h₀ L h' ((D, baObj (KBy.picked b lo hi)) :: news) → (∀ p ∈ news, p.1 < D) → Q (.ref D) { s with heap := h' })
    (hs : subscripted slice false (.ref d) (.ref s.heap.objs.size) = operate [.ref s.heap.objs.size, .ref d] (getItem (.ref d) (.ref s.heap.objs.size)) := by with_unfolding_all rfl)
    (ht : ∀ r, letTemporaryGo value (.ref d) r = pure () := by intro _; with_unfolding_all rfl) :
    wpAny (model prog w) A (subscriptTail value slice (.ref d) (.ref s.heap.objs.size)) Q E { s with heap := s.heap.push { cls := .type "slice", data := .fields #[l, u, .none] } } := by
  have hd0 := (hN _ hd).1
  have hT : ({ s with heap := s.heap.push { cls := .type "slice", data := .fields #[l, u, .none] } } : Shared).TypeIs (.ref d) "bytearray" := ⟨_, Heap.get?_push_of_some _ hd0, rfl⟩
  refine tail_of_ItemOn ⟨"bytearray", _, ba_slot_getitem.lookup, hT, getItem_meets hT (by decide) ba_slot_getitem ba_entry_getitem (ba_args_getitem _ _) (meets_baslice d b _ hl hu)
    ⟨Heap.get?_push_of_some _ hd0, Heap.IsSliceOf.new _ _ _ _, hz, ?_⟩⟩ hs ht
  have hF1 := hF.push ({ cls := .type "slice", data := .fields #[l, u, .none] } : Obj)
  have hN1 : News h₀ L (s.heap.push { cls := .type "slice", data := .fields #[l, u, .none] }) news := fun p hp => ⟨Heap.get?_push_of_some _ (hN p hp).1, (hN p hp).2⟩
  exact h _ _ (hF1.push _) (hN1.push hF1 _) fun p hp => Heap.lt_size (hN1 p hp).1
end

-- bytes(bytearray)
theorem ba_no_bytes : typeLookup (.type "bytearray") "__bytes__" = pure none := by rw [typeLookup_type, builtinLookup_eq_fast]; kernel_rfl
theorem ba_no_index : typeLookup (.type "bytearray") "__index__" = pure none := by rw [typeLookup_type, builtinLookup_eq_fast]; kernel_rfl
section
variable {prog : Program} {w : World} {A : Around} {E : Value → Shared → Prop} {s : Shared}
theorem by_new_ba {d : Addr} {b : Array UInt8} {Q : Value → Shared → Prop} (hd : s.heap.get? d = some (baObj b)) (hz : b.size ≤ 1000)
    (hQ : ∀ t k, Q (.bytes b t) { s with toks := k }) :
    codeAny (model prog w) A (.call (.builtin "bytes.__new__") ⟨[.type "bytes", .ref d], []⟩) (wants Q E) s := by
  refine codeAny_of_tree ?_
  show wpAny _ A.in1 (do checkBuiltinCall "bytes.__new__" ⟨[.type "bytes", .ref d], []⟩; again (.builtin "bytes.__new__" ⟨[.type "bytes", .ref d], []⟩)) _ _ s
  refine wpAny_bind (wpAny_of_eq (F.bm_newCall _) (wpAny_pure ⟨plainId_quiet F.bm_plain _, codeAny_builtin F.bm_entry ?_⟩))
  rw [Around.under_plainId F.bm_plain _]
  have hT : s.TypeIs (.ref d) "bytearray" := ⟨_, hd, rfl⟩
  unfold Builtin.«bytes.__new__»
  refine wpAny_bind (wpAny_of_eq (a := true) rfl ?_)
  refine bm_if_false rfl ?_
  refine wpAny_bind (wpAny_of_eq F.bm_sub ?_)
  refine bm_if_false rfl ?_
  refine wpAny_bind (wpAny_of_eq (F.bm_bind _) ?_)
  refine wpAny_bind (wpAny_of_eq (a := ()) rfl ?_)
  refine wpAny_bind (wpAny_of_eq (a := ()) rfl ?_)
  refine bm_if_false rfl ?_
  refine wpAny_bind (wpAny_specialOf hT ba_no_bytes ?_)
  refine wpAny_bind (wpAny_bind ?_)
  show wpAny _ _ (load d >>= _) _ _ _
  refine wpAny_bind (wpAny_load hd ?_)
  refine wpAny_pure (wpAny_pure ?_)
  refine bm_if_false rfl ?_
  refine wpAny_bind (wpAny_specialOf hT ba_no_index ?_)
  refine bm_if_true rfl ?_
  show wpAny _ _ (Builtin.Bytes.buffer? "bytes.__new__" (.ref d) true >>= _) _ _ _
  refine wpAny_bind (wp_buffer_ba hd ?_)
  refine wpAny_bind (wpAny_rule ?_)
  refine wpAny_bind (wpAny_mkBytes ?_ (by rw [sizeLine_eq]; omega))
  refine bm_if_true (by decide) ?_
  exact wpAny_pure (hQ _ _)
theorem call_bytes_ba {d : Addr} {b : Array UInt8} {Q : Value → Shared → Prop} (hd : s.heap.get? d = some (baObj b)) (hz : b.size ≤ 1000)
    (hQ : ∀ t k, Q (.bytes b t) { s with toks := k }) : wpAny (model prog w) A (call (.type "bytes") [.ref d]) Q E s := by
  refine callType_codes (Q₁ := fun obj s₁ => s₁.TypeIs obj "bytes" ∧ Q obj s₁) F.bm_called (F.bm_typeCall _) F.entry_object_init
    (by_new_ba hd hz fun t k => ⟨PySem.W.typeIs_bytes _ _ _, hQ t k⟩) fun obj s₁ h₁ => ?_
  exact ⟨h₁.1, F.args_object_init_2 obj _, object_init_meets F.bm_called.init.lookup F.bm_called.made (by decide) prog w A.in1 _ s₁ ⟨h₁.1, rfl, h₁.2⟩⟩
end
end Mine
end
section
open PySem PySem.W PyProof.Rows PySem.Calls
set_option maxRecDepth 100000
namespace Mine
open Sem (wp)

/-- a codec's builtin, which holds what it decodes -/
def decCode : Code → Bool
  | .builtin id _ => Builtin.Bytes.decodersThatHold.contains id
  | _ => false
/-- no such builtin stands on the stack -/
def cleanS (st : List (Code × Pos)) : Bool := st.all fun x => !decCode x.1
def cleanC (Γ : Ctx) : Prop := decCode Γ.code = false ∧ cleanS Γ.below = true

theorem cleanC.enter {Γ : Ctx} (h : cleanC Γ) {c : Code} (hc : decCode c = false) (hd : Option Value) (p : Pos) : cleanC (Γ.enter c hd p) :=
  ⟨hc, by show cleanS ((Γ.code, p) :: Γ.below) = true; unfold cleanS; rw [List.all_cons, h.1]; exact h.2⟩
theorem cleanC.goto {Γ : Ctx} (h : cleanC Γ) {c : Code} (hc : decCode c = false) : cleanC (Γ.goto c) := ⟨hc, h.2⟩

def wpP {α : Type} (M : Model) (A : Around) (t : Sem α) (Q : α → Shared → Prop) (E : Value → Shared → Prop) (s : Shared) : Prop :=
  ∀ Γ p, Γ.In A → cleanC Γ → wp M Γ t (fun a _ s' => Q a s') (fun e _ s' => E e s') p s
def codeP (M : Model) (A : Around) (c : Code) (R : Result → Shared → Prop) (s : Shared) : Prop :=
  ∀ Γ p, Γ.code = c → Γ.Below A → cleanC Γ → wpCode M Γ R p s

section
variable {α β : Type} {M : Model} {A : Around} {E : Value → Shared → Prop} {s : Shared}
theorem wpP_of_any {t : Sem α} {Q : α → Shared → Prop} (h : wpAny M A t Q E s) : wpP M A t Q E s := fun Γ p hΓ _ => h Γ p hΓ
theorem codeP_of_any {c : Code} {R : Result → Shared → Prop} (h : codeAny M A c R s) : codeP M A c R s := fun Γ p hc hΓ _ => h Γ p hc hΓ
theorem wpP_mono {t : Sem α} {Q Q' : α → Shared → Prop} {E' : Value → Shared → Prop} (h : wpP M A t Q E s) (hQ : ∀ a s, Q a s → Q' a s) (hE : ∀ e s, E e s → E' e s) : wpP M A t Q' E' s :=
  fun Γ p hΓ hc => Sem.wp_mono M Γ t (fun a _ s => hQ a s) (fun e _ s => hE e s) p s (h Γ p hΓ hc)
theorem wpP_bind {m : Sem α} {f : α → Sem β} {Q : β → Shared → Prop} (h : wpP M A m (fun a s' => wpP M A (f a) Q E s') E s) : wpP M A (m >>= f) Q E s := fun Γ p hΓ hc => by
  rw [Sem.wp_bind']
  exact Sem.wp_mono M Γ m (fun a p' s' h' => h' Γ p' hΓ hc) (fun _ _ _ h' => h') p s (h Γ p hΓ hc)
theorem wpP_pure {a : α} {Q : α → Shared → Prop} (h : Q a s) : wpP M A (pure a) Q E s := fun _ _ _ _ => h
theorem wpP_onRaise {m : Sem α} {k : Value → Sem Unit} {Q : α → Shared → Prop} (h : wpP M A m Q (fun e s' => wpAny M A (k e) (fun _ s'' => E e s'') E s') s) : wpP M A (m.onRaise k) Q E s := fun Γ p hΓ hc => by
  rw [Sem.wp_onRaise]
  exact Sem.wp_mono M Γ m (fun _ _ _ h' => h') (fun e p' s' h' => h' Γ p' hΓ) p s (h Γ p hΓ hc)
theorem wpP_holding {vs : List Value} {m : Sem α} {Q : α → Shared → Prop} (h : wpP M A m Q E s) : wpP M A (holding vs m) Q E s :=
  fun Γ p hΓ hc => by rw [Sem.wp_holding]; exact h Γ p hΓ hc
theorem wpP_keep {vs : List Value} {m : Sem α} {Q : α → Shared → Prop} (h : wpP M A m Q E s) : wpP M A (m.keep vs) Q E s :=
  fun Γ p hΓ hc => by rw [Sem.wp_keep]; exact h Γ p hΓ hc
theorem wpP_run {c : Code} {h : Option Value} {Q : Flow → Shared → Prop} (hd : decCode c = false)
    (hc : codeP M (A.mark h) c (fun r s' => match r with | .ok f => Q f s' | .error e => E e s') s) (hnb : h ≠ some byPass := by intro x; cases x) : wpP M A (run c h) Q E s :=
  fun Γ p hΓ hcl => by rw [Sem.wp_run]; exact hc _ p rfl (hΓ.enter c h p hnb) (hcl.enter hd h p)
theorem wpP_call {f : Value} {pos : List Value} {kw : List (Str × Value)} {Q : Value → Shared → Prop}
    (hc : codeP M A (.call f ⟨pos, kw⟩) (fun r s' => match r with | .ok (.ret v) => Q v s' | .ok _ => False | .error e => E e s') s) : wpP M A (call f pos kw) Q E s :=
  fun Γ p hΓ hcl => by
    show wp M Γ (runValue (.call f ⟨pos, kw⟩)) _ _ p s
    rw [Sem.wp_runValue]; exact hc _ p rfl (hΓ.enter _ none p (by intro x; cases x)) (hcl.enter rfl none p)
theorem codeP_of_tree {c : Code} {R : Result → Shared → Prop}
    (h : wpP M (A.under c) (M.den c) (fun fin s' => match fin with | .done f => R (.ok f) s' | .again c' => c'.quiet = true ∧ decCode c' = false ∧ codeP M A c' R s')
      (fun e s' => R (.error e) s') s) : codeP M A c R s := fun Γ p hc hΓ hcl => by
  rw [wpCode_iff_wp, hc]
  refine Sem.wp_mono M Γ _ (fun fin p' s' h' => ?_) (fun _ _ _ h' => h') p s (h Γ p (hc ▸ hΓ.in) hcl)
  cases fin with
  | done f => exact h'
  | again c' => exact ⟨h'.1, h'.2.2 (Γ.goto c') p' rfl (hΓ.goto c') (hcl.goto h'.2.1)⟩
theorem codeP_mono {c : Code} {R R' : Result → Shared → Prop} (h : codeP M A c R s) (hR : ∀ r s, R r s → R' r s) : codeP M A c R' s := fun Γ p hc hΓ hcl => wpCode_mono hR (h Γ p hc hΓ hcl)
theorem wpP_stack {Q : List (Code × Pos) → Shared → Prop} (h : ∀ st, cleanS st = true → (∀ g, A.guards = some g → (∀ x ∈ st, x.1.isGuard = true → x.1 ∈ g)) → Q st s) : wpP M A stack Q E s := fun Γ p hΓ hc => by
  show Q ((Γ.code, p) :: Γ.below) s
  refine h _ (by unfold cleanS; rw [List.all_cons, hc.1]; exact hc.2) fun g hg x hx hi => ?_
  have e := hΓ.2.2.2.1 g hg
  rw [← guardsOf_cons Γ.code p] at e
  rw [← e]
  exact List.mem_filter.mpr ⟨List.mem_map_of_mem hx, hi⟩
theorem wpP_ite {c : Prop} [Decidable c] {a b : Sem α} {Q : α → Shared → Prop} (h1 : c → wpP M A a Q E s) (h2 : ¬ c → wpP M A b Q E s) : wpP M A (if c then a else b) Q E s := by
  split <;> simp_all
end

/-- what Bytes.exported asks, on a clean stack without guards -/
theorem exportedP {M : Model} {A : Around} {E : Value → Shared → Prop} {s : Shared} {d : Addr} {Q : Bool → Shared → Prop} (hg : A.guards = some []) (h : Q false s) : wpP M A (Builtin.Bytes.exported (.ref d)) Q E s := by
  unfold Builtin.Bytes.exported
  refine wpP_bind (wpP_stack fun st h1 h2 => wpP_pure ?_)
  have e : ∀ (f : Code × Pos → Bool), (∀ x ∈ st, f x = false) → st.any f = false := fun f hf => by
    rw [List.any_eq_false]; intro x hx; rw [hf x hx]; exact Bool.false_ne_true
  rw [e]
  · exact h
  · intro x hx
    have hng : x.1.isGuard = false := by
      cases hq : x.1.isGuard with
      | false => rfl
      | true => exact absurd (h2 [] hg x hx hq) List.not_mem_nil
    have hnd : decCode x.1 = false := by
      have := List.all_eq_true.mp h1 x hx
      simpa using this
    obtain ⟨c, p⟩ := x
    split
    all_goals first | rfl | skip
    all_goals (rename_i heq; cases heq)
    all_goals first
      | (exfalso; revert hng; simp [Code.isGuard, guardIds]; done)
      | skip
    rw [show Builtin.Bytes.decodersThatHold.contains _ = false from hnd, Bool.and_false]

section
variable {prog : Program} {w : World} {A : Around} {R : Result → Shared → Prop} {s : Shared}
theorem codeP_builtin {id : String} {args : Args} {b : Builtin} (hb : entryFor table id = some b)
    (h : wpP (model prog w) (A.under (.builtin id args)) (b args)
      (fun fin s' => match fin with | .done f => R (.ok f) s' | .again c' => c'.quiet = true ∧ decCode c' = false ∧ codeP (model prog w) A c' R s') (fun e s' => R (.error e) s') s) :
    codeP (model prog w) A (.builtin id args) R s := by
  refine codeP_of_tree ?_
  show wpP _ _ (match entryFor table id with | some b => b args | none => unsupported ((withoutEnding? id "#data").getD id)) _ _ s
  rw [hb]; exact h
theorem codeP_call_builtin {id : String} {args : Args} {b : Builtin} (hq : plainId id = true) (hd : decCode (.builtin id args) = false) (hb : entryFor table id = some b)
    (h : wpAny (model prog w) A.in1 (checkBuiltinCall id args) (fun _ s₁ => wpP (model prog w) A.in1 (b args)
      (fun fin s' => match fin with | .done f => R (.ok f) s' | .again c' => c'.quiet = true ∧ decCode c' = false ∧ codeP (model prog w) A c' R s') (fun e s' => R (.error e) s') s₁)
      (fun e s' => R (.error e) s') s) : codeP (model prog w) A (.call (.builtin id) args) R s := by
  refine codeP_of_tree ?_
  show wpP _ A.in1 (do checkBuiltinCall id args; again (.builtin id args)) _ _ s
  refine wpP_bind (wpP_of_any (wpAny_mono h (fun _ s₁ h₁ => wpP_pure ⟨plainId_quiet hq args, hd, codeP_builtin hb ?_⟩) fun _ _ h' => h'))
  rw [Around.under_plainId hq args]
  exact h₁
end
end Mine
end
section
open PySem PySem.W PyProof.Rows PySem.Calls
set_option maxRecDepth 100000
namespace Mine
open PySem.Builtin PySem.Builtin.Bytes PySem.Builtin.Struct
open PySem.W.KBw (bInts)

theorem bn_mro : mroOf (.type "bytearray") = pure [.type "bytearray", .type "object"] := by rw [mroOf_type]; kernel_rfl
theorem bn_lookup_new : typeLookup (.type "bytearray") "__new__" = pure (some (.builtin "bytearray.__new__")) := by rw [typeLookup_type, builtinLookup_eq_fast]; kernel_rfl
theorem bn_slot_init : Slot "bytearray" "__init__" "bytearray.__init__" :=
  .of (owner := "bytearray") (n := "__init__") (by rw [typeLookup_type, builtinLookup_eq_fast]; kernel_rfl) (by decide +kernel) (by decide +kernel) (by decide +kernel)
    (by first | exact .inl (by decide +kernel) | exact .inr (by decide +kernel)) (by rw [isSubtype_type]; kernel_rfl)
theorem bn_lookup_init : typeLookup (.type "bytearray") "__init__" = pure (some (.builtin "bytearray.__init__")) := by rw [typeLookup_type, builtinLookup_eq_fast]; kernel_rfl
theorem bn_called : TypeCalled "bytearray" "bytearray.__new__" "bytearray.__init__" :=
  ⟨by decide +kernel, by decide +kernel, ⟨_, _, bn_mro⟩, madeBy_type bn_mro bn_lookup_new (by decide +kernel), by decide +kernel, by rw [isSubtype_type]; kernel_rfl, bn_slot_init⟩
theorem bn_typeCall (a : Value) : checkTypeCall "bytearray" ⟨[a], []⟩ = pure () := by kernel_rfl
theorem bn_newCall (a : Value) : checkBuiltinCall "bytearray.__new__" ⟨[.type "bytearray", a], []⟩ = pure () := by kernel_rfl
theorem bn_entry_new : entryFor table "bytearray.__new__" = some Builtin.«list.__new__» := entryFor_alias (id' := "list.__new__") (by kernel_rfl) rfl (by decide +kernel) (by kernel_rfl)
theorem bn_plain_new : plainId "bytearray.__new__" = true := by decide +kernel
theorem bn_entry_init : entryFor table "bytearray.__init__" = some Builtin.«bytearray.__init__» := by first | exact entryFor_of_fast (by kernel_rfl) | exact entryFor_of_tree (by kernel_rfl)
theorem bn_args_init (a b : Value) : argsOk "bytearray.__init__" ⟨[a, b], []⟩ := by unfold argsOk; kernel_rfl
theorem bn_bind (v : Value) : bindOptional "bytearray.__init__" "bytearray" ["source", "encoding", "errors"] [v] [] = pure [some v, none, none] := by kernel_rfl
set_option maxRecDepth 1000000 in
set_option maxHeartbeats 4000000 in
theorem bn_owner : ("bytearray.__new__".splitOn ".__new__").headD "" = "bytearray" := by simp +decide [String.splitOn, String.splitOnAux]

section
variable {prog : Program} {w : World} {A : Around} {E : Value → Shared → Prop} {s : Shared}
theorem code_ba_new (a : Value) {Q₁ : Value → Shared → Prop}
    (h : Q₁ (.ref s.heap.objs.size) { s with heap := s.heap.push (baObj #[]) }) :
    codeAny (model prog w) A (.call (.builtin "bytearray.__new__") ⟨[.type "bytearray", a], []⟩) (wants Q₁ E) s := by
  refine codeAny_of_tree ?_
  show wpAny _ A.in1 (do checkBuiltinCall "bytearray.__new__" ⟨[.type "bytearray", a], []⟩; again (.builtin "bytearray.__new__" ⟨[.type "bytearray", a], []⟩)) _ _ s
  refine wpAny_bind (wpAny_of_eq (bn_newCall a) (wpAny_pure ⟨plainId_quiet bn_plain_new _, codeAny_builtin_stack bn_entry_new rfl fun p st => ?_⟩))
  rw [Around.under_plainId bn_plain_new _]
  have hsub := ba_sub
  have hown := bn_owner
  obtain ⟨hp, g, d, tk, os⟩ := s
  simp only [hown]
  wp_walk
  exact h

theorem tw_eq {vs : List Value} {ns : List Int} {p : Value → Bool} (h : IntsAre vs ns) (hp : ∀ i t, i ∈ ns → p (.int i t) = true) : List.takeWhile p vs.toArray.toList = vs := by
  show List.takeWhile p vs = vs
  induction h with
  | nil => rfl
  | cons i t r ih =>
    rw [List.takeWhile_cons, hp i t (.head _)]
    simp only [if_true]
    rw [ih fun j u hj => hp j u (.tail _ hj)]
theorem fm_eq {vs : List Value} {ns : List Int} {f : Value → Option UInt8} (h : IntsAre vs ns) (hf : ∀ i t, f (.int i t) = some i.toNat.toUInt8) : List.filterMap f vs = ns.map fun n => n.toNat.toUInt8 := by
  induction h with
  | nil => rfl
  | cons i t r ih => rw [List.filterMap_cons, hf i t, List.map_cons, ih]

theorem ba_init {d l : Addr} {vs : List Value} {ns : List Int} {Q : Value → Shared → Prop} (hg : A.guards = some []) (hd : s.heap.get? d = some (baObj #[])) (hl : s.heap.IsList l vs.toArray) (hi : IntsAre vs ns) (hr : ∀ x ∈ ns, 0 ≤ x ∧ x < 256) (hz : ns.length ≤ 1000)
    (hQ : ∀ h', h'.get? d = some (baObj (byteArr ns)) → Heap.ExtBut d s.heap h' → Q .none { s with heap := h' }) :
    wpP (model prog w) A.in1 (Builtin.«bytearray.__init__» ⟨[.ref d, .ref l], []⟩)
        (fun fin s' => match fin with | .done f => wants Q E (.ok f) s' | .again c' => c'.quiet = true ∧ decCode c' = false ∧ codeP (model prog w) A c' (wants Q E) s')
        (fun e s' => wants Q E (.error e) s') s := by
  have hT : s.TypeIs (.ref l) "list" := hl.typeIs
  have hTd : s.TypeIs (.ref d) "bytearray" := ⟨_, hd, rfl⟩
  have hdl : d ≠ l := fun e => by
    obtain ⟨o, ho, hc, _⟩ := hl
    rw [← e, hd] at ho; cases ho; simp at hc
  unfold Builtin.«bytearray.__init__»
  show wpP _ _ (ownRelease (.ref d) >>= _) _ _ _
  refine wpP_bind (wpP_of_any ?_)
  unfold ownRelease
  refine wpAny_bind (wp_slotIsOwn hTd ba_release (by decide +kernel) (by decide +kernel) ba_sub (wpAny_pure ?_))
  refine wpP_ite (fun h => absurd h (by decide)) (fun _ => ?_)
  refine wpP_bind (wpP_of_any (wpAny_of_eq (bn_bind _) ?_))
  refine wpP_bind (wpP_of_any (wpAny_of_eq (a := ()) rfl ?_))
  refine wpP_bind (wpP_of_any (wpAny_of_eq (a := ()) rfl ?_))
  refine wpP_bind ?_
  unfold orM
  refine wpP_bind (exportedP hg ?_)
  show wpP _ _ (exportsOf (.ref d) >>= _) _ _ _
  refine wpP_of_any ?_
  refine wpAny_bind ?_
  unfold exportsOf
  refine wpAny_bind (wpAny_load hd ?_)
  refine wpAny_pure (wpAny_pure ?_)
  refine wpP_ite (fun h => absurd h (by decide)) (fun _ => ?_)
  refine wpP_of_any ?_
  refine wpAny_bind (wp_write (b := #[]) (f := fun _ => #[]) hd (Nat.zero_le _) fun h₁ g1 g2 => ?_)
  have hl₁ : h₁.IsList l vs.toArray := hl.extBut g2.extBut (Ne.symm hdl)
  have hT₁ : ({ s with heap := h₁ } : Shared).TypeIs (.ref l) "list" := Heap.IsList.typeIs (s := { s with heap := h₁ }) hl₁
  obtain ⟨ol, hol, hoc, nl, hod⟩ := id hl₁
  refine wpAny_bind ?_
  refine wpAny_bind (wpAny_load hol ?_)
  rw [hod]
  refine wpAny_pure ?_
  refine bm_if_false rfl ?_
  refine wpAny_bind (wpAny_of_eq (a := ()) rfl ?_)
  refine wpAny_bind (wpAny_specialOf hT₁ F.bm_no_index ?_)
  refine bm_if_false rfl ?_
  refine wpAny_bind ?_
  unfold Builtin.Bytes.buffer?
  refine wpAny_bind (wpAny_specialOf hT₁ F.bm_no_buffer ?_)
  refine wpAny_bind (wpAny_specialOf hT₁ F.bm_no_buffer ?_)
  refine wpAny_pure ?_
  refine wpAny_bind (wpAny_typeOf hT₁ ?_)
  refine bm_if_true (by decide) ?_
  refine wpAny_bind ?_
  unfold seqItems?
  refine wpAny_bind (wpAny_load hol ?_)
  rw [hod]
  refine wpAny_pure ?_
  dsimp only
  rw [tw_eq hi (fun i t hm => by have := hr i hm; simp [this.1, this.2])]
  rw [fm_eq hi (fun i t => rfl)]
  rw [show vs.toArray[vs.length]? = none by simp]
  refine wpAny_bind (wpAny_rule ?_)
  refine wpAny_bind ?_
  refine wp_write (b := #[]) (f := fun _ => byteArr ns) g1 ?_ fun h₂ g3 g4 => ?_
  · show (byteArr ns).size ≤ _
    rw [byteArr_size, sizeLine_eq]; omega
  · exact wpAny_pure (hQ h₂ g3 (fun b o hb e => (g4.2 b hb).trans ((g2.2 b hb).trans e)))
end

section
variable {prog : Program} {w : World} {A : Around} {E : Value → Shared → Prop} {s : Shared}
/-- bytearray of a list of octets, on a clean stack -/
theorem call_bytearray {l : Addr} {vs : List Value} {ns : List Int} {Q : Value → Shared → Prop} (hg : A.guards = some []) (hl : s.heap.IsList l vs.toArray) (hi : IntsAre vs ns) (hr : ∀ x ∈ ns, 0 ≤ x ∧ x < 256) (hz : ns.length ≤ 1000)
    (hQ : ∀ h', h'.get? s.heap.objs.size = some (baObj (byteArr ns)) → (∀ b o, s.heap.get? b = some o → h'.get? b = some o) → Q (.ref s.heap.objs.size) { s with heap := h' }) :
    wpP (model prog w) A (call (.type "bytearray") [.ref l]) Q E s := by
  refine wpP_call (codeP_of_tree ?_)
  show wpP _ _ (callAny (.type "bytearray") _) _ _ _
  refine wpP_pure ⟨Code.quiet_builtin _ (by decide +kernel), rfl, codeP_builtin F.entry_type_call ?_⟩
  rw [Around.under_plain (weight_type_call_type "bytearray" [.ref l] []) rfl]
  unfold Builtin.«type.__call__»
  refine wpP_ite (fun h => absurd h (by decide)) (fun _ => ?_)
  refine wpP_ite (fun h => absurd (bn_called.canCreate.symm.trans h) (by decide)) (fun _ => ?_)
  refine wpP_bind (wpP_of_any (wpAny_of_eq (bn_typeCall _) ?_))
  refine wpP_bind (wpP_of_any (wpAny_of_eq bn_mro ?_))
  refine wpP_ite (fun h => absurd h (by decide)) (fun _ => ?_)
  refine wpP_bind (wpP_of_any (wpAny_of_eq bn_called.made ?_))
  refine wpP_bind (wpP_pure ?_)
  refine wpP_bind (wpP_holding (wpP_of_any (wpAny_call (code_ba_new _ ?_))))
  have hd : (s.heap.push (baObj #[])).get? s.heap.objs.size = some (baObj #[]) := Heap.get?_push_size _ rfl
  have hTd : ({ s with heap := s.heap.push (baObj #[]) } : Shared).TypeIs (.ref s.heap.objs.size) "bytearray" := ⟨_, hd, rfl⟩
  refine wpP_bind (wpP_of_any (wpAny_isInstance hTd ba_sub ?_))
  refine wpP_ite (fun h => absurd h (by decide)) (fun _ => ?_)
  refine wpP_bind (wpP_holding ?_)
  unfold callSpecial?
  refine wpP_bind (wpP_of_any (wpAny_specialOf hTd bn_lookup_init ?_))
  simp only [bn_slot_init.bind]
  refine wpP_holding (wpP_bind (wpP_pure (wpP_bind ?_)))
  refine wpP_call (codeP_call_builtin bn_slot_init.plain (show Builtin.Bytes.decodersThatHold.contains "bytearray.__init__" = false by decide +kernel) bn_entry_init (bn_slot_init.check _ _ _ _ _ _ _ _ hTd (bn_args_init _ _) ?_))
  refine ba_init (s := { s with heap := s.heap.push (baObj #[]) }) (Q := fun v s' => wpP (model prog w) A.in1 (pure (some v)) _ _ s') hg hd (hl.push _) hi hr hz fun h' g1 g2 => ?_
  refine wpP_pure ?_
  refine wpP_ite (fun h => absurd h (by decide)) (fun _ => ?_)
  exact wpP_pure (hQ h' g1 fun b o e => g2 b o (Nat.ne_of_lt (Heap.lt_size e)) (Heap.get?_push_of_some _ e))
end
end Mine
end
section
open PySem PySem.W PyProof.Rows PySem.Calls
set_option maxRecDepth 100000
namespace Mine
open Sem (wp)

/-- a thread whose tree first looks at the stack takes one step to what it hands on -/
theorem stack_first {den : Code → Sem Fin} {p : Program} {w : World} {n : Nat} {s s' : Shared} {o : Outcome} {F : List (Code × Pos) → Sem Fin} (hz : s.asleep)
    (h : schedN den p w n (.single s ⟨stack >>= F, .builtin "claim.caller" {}, default, []⟩) = .halted o s') :
    ∃ m, schedN den p w m (.single s ⟨F [(.builtin "claim.caller" {}, default)], .builtin "claim.caller" {}, default, []⟩) = .halted o s' := by
  cases n with
  | zero => cases h
  | succ n =>
    refine ⟨n, ?_⟩
    have hs : step den p w s ⟨stack >>= F, .builtin "claim.caller" {}, default, []⟩ = .go s ⟨F [(.builtin "claim.caller" {}, default)], .builtin "claim.caller" {}, default, []⟩ := rfl
    have e := sstep_single den p w s ⟨stack >>= F, .builtin "claim.caller" {}, default, []⟩ (by rfl) hz
    rw [hs] at e
    rcases e with e | e
    · simp only [schedN, e, Step.lift] at h
      exact h
    · cases e

theorem holdsOpen_stack {c : ClaimW} {defs keeps : List Str} {writes : Bool} {F : List Value → List (Code × Pos) → Sem Fin}
    (H : c.HoldsOpenBy (fun vs => ⟨stack >>= F vs, .builtin "claim.caller" {}, default, []⟩) defs keeps writes) :
    c.HoldsOpenBy (fun vs => ⟨F vs [(.builtin "claim.caller" {}, default)], .builtin "claim.caller" {}, default, []⟩) defs keeps writes := by
  refine ⟨H.1, H.2.1, fun w => ⟨(H.2.2 w).1, fun s hs => ?_⟩⟩
  obtain ⟨s₀, h1, h2, s₁, h3, h4, h5, h6, h7⟩ := (H.2.2 w).2 s hs
  refine ⟨s₀, h1, h2, s₁, h3, h4, h5, h6, ?_⟩
  have hs' : AfterImport (opening c.prog) w s := hs
  have hz : s₁.asleep := Shared.asleep_of_life (h3.2.1.trans (fence_lifeW h1)) hs'.life
  intro args hp hl ord hord
  obtain ⟨vs, s₂, g1, n, o, s', g2, g3⟩ := h7 args hp hl ord hord
  have hal := layAllW_rest _ _ _ g1
  obtain ⟨m, g4⟩ := stack_first (Shared.asleep_of_life hal.2.2.2 hz) g2
  exact ⟨vs, s₂, g1, m, o, s', g4, g3⟩

abbrev WalkP (q : Program) (loose : List Str) (XP : (Str → Option Value) → Heap → Prop) (YP : World → Heap → Prop) (r : RowW) (d : DefRec) (kwd : List (Str × Expr)) (run : Value → List Value → Sem Value) : Prop :=
  ∀ (w : World) (s₀ s₁ : Shared) (mg mb : Str → Option Value), Ground q loose r.records XP w s₀ mg mb s₁.heap → YP w s₁.heap → ∀ (a : Addr) (o : Obj) (pm cd doc dV kV : Value), s₁.heap.get? a = some o →
    o.data = .func { docDef d.name d.params d.body d.scope pm cd doc with defaults := dV, kwdefaults := kV } → s₁.heap.CodeRec cd d.name → Dflts mg s₁.heap d.params kwd dV kV → mg d.name = some (.ref a) → s₁.gens = #[] →
    ∀ (args : List WData) (vals : List Value) (as : List Addr), r.claim.pre args = true → WData.layableAll args = true → ReadsAllW r.records (classAt s₀.heap) s₁.heap vals args as → WellAll w.params s₁.heap vals args → (∀ a ∈ as, (a == sysModules) = false) →
      wpP (model r.prog w) callerA (run (.ref a) vals) (fun v s' => GoodWG r.claim (classAt s₀.heap) (ExcName.means s₀.heap) args s₁ (.ok (.ret v)) s')
        (fun e s' => GoodWG r.claim (classAt s₀.heap) (ExcName.means s₀.heap) args s₁ (.error e) s') s₁ ∧
      GoodWG r.claim (classAt s₀.heap) (ExcName.means s₀.heap) args s₁ (.ok (.ret (.bool true))) s₁

/-- the call, asked of clean stacks alone -/
def runClean (f : Value) (vs : List Value) : Sem Value := stack >>= fun st => if cleanS st = true then PySem.call f vs else pure (.bool true)

theorem wpAny_runClean {M : Model} {A : Around} {f : Value} {vs : List Value} {Q E : Value → Shared → Prop} {s : Shared} (h1 : wpP M A (PySem.call f vs) Q E s) (h2 : Q (.bool true) s) : wpAny M A (runClean f vs) Q E s := by
  intro Γ p hΓ
  unfold runClean
  rw [Sem.wp_bind']
  show wp M Γ (if cleanS ((Γ.code, p) :: Γ.below) = true then PySem.call f vs else pure (.bool true)) _ _ p s
  split
  · rename_i hc
    unfold cleanS at hc
    rw [List.all_cons, Bool.and_eq_true] at hc
    exact h1 Γ p hΓ ⟨by simpa using hc.1, hc.2⟩
  · exact h2

/-- the library's head for an open row, its walk asked of clean stacks alone -/
theorem PySem.W.holds_open {r : OpenRow} {q : Program} {loose : List Str} {Xt : Shared → Bool} {XP : (Str → Option Value) → Heap → Prop} {α : Type} {Yf : Shared → α} {Ya : World → α} {YP : World → Heap → Prop} {d : DefRec} {kwd : List (Str × Expr)} {N : Nat}
    (left : LeftO r.prog q loose Xt Yf Ya N) (hY : ∀ w s, Yf s = Ya w → YP w s.heap) (hYk : ∀ w h h', YP w h → (∀ b o, h.get? b = some o → h'.get? b = some o) → YP w h')
    (hX : ∀ s, Xt s = true → XP (s.heap.nsMap mainGlobals) s.heap) (hXk : ∀ mg h h', XP mg h → (∀ b o, h.get? b = some o → h'.get? b = some o) → XP mg h')
    (hdef : defOf q r.name = some (d, kwd)) (hp : r.prog.theDef r.name = some (d.params, d.body, d.scope)) (hk : kwWritten? d.params.kwonlyargs d.params.kw_defaults = some kwd) (hRf : ∀ s, Xt s = true → RecFacts r.records s.heap) (hwr : (!r.writes || r.records.isEmpty) = true)
    (k1 : r.wellSaid = true) (ok : (chainsOk q && opensWell r.prog && (frees r.toRowW && r.within.isEmpty)) = true) (hb : r.prog.bare) (hw : r.toRowW.promised)
    (call : WalkP q loose XP YP r.toRowW d kwd fun f vs => PySem.call f vs) : r.Holds := by
  refine ⟨k1, hw, ?_⟩
  have H := open_anyG (r := r.toRowW) (run := runClean) (defs := if r.pinned then [r.name] else []) (kps := r.keeps) (writes := r.writes)
    (tree := fun vs => stack >>= fun st => if cleanS st = true then (do match ← nsGet mainNs r.name with
      | some f => do ret (← PySem.call f vs)
      | none => unsupported "claim.caller:no-such-global") else ret (.bool true)) left hY hYk hX hXk hRf hwr ok hb hw
    (fun vs w s mg f Q E hg hf h => ?_) (fun w s hg G n hn => ?_) fun w s₀ s₁ mg mb G Y args vs as hpre hlay L low => ?_
  · exact holdsOpen_stack H
  · intro Γ p hΓ
    have h' := h Γ p hΓ
    unfold runClean at h'
    rw [Sem.wp_bind'] at h' ⊢
    have h2 : wp _ Γ (if cleanS ((Γ.code, p) :: Γ.below) = true then PySem.call f vs else pure (.bool true)) _ _ p s := h'
    show wp _ Γ (if cleanS ((Γ.code, p) :: Γ.below) = true then _ else ret (.bool true)) _ _ p s
    by_cases hc : cleanS ((Γ.code, p) :: Γ.below) = true
    · rw [if_pos hc] at h2 ⊢
      rw [Sem.wp_bind']
      refine (wpAny_nsGet (M := model r.toRowW.prog w) (A := callerA) (Q := fun o s' => o = some f ∧ s' = s) (E := fun _ _ => False) hg ⟨hf, rfl⟩) Γ p hΓ |> fun z => ?_
      refine Sem.wp_mono _ Γ _ (fun o p' s' ho => ?_) (fun _ _ _ x => x.elim) p s z
      obtain ⟨rfl, rfl⟩ := ho
      have h3 := h Γ p' hΓ
      unfold runClean at h3
      rw [Sem.wp_bind'] at h3
      have h4 : wp _ Γ (if cleanS ((Γ.code, p) :: Γ.below) = true then PySem.call f vs else pure (.bool true)) _ _ p' s' := h3
      rw [if_pos hc] at h4
      show wp _ Γ (PySem.call f vs >>= fun v => ret v) _ _ p' s'
      rw [Sem.wp_bind']
      exact h4
    · rw [if_neg hc] at h2 ⊢
      exact h2
  · obtain rfl : n = r.name := by split at hn <;> simp_all
    exact pinned_of_view hg G hdef hp hk
  · obtain ⟨a, o, pm, cd, doc, dV, kV, h1, h2, h3, h4, h5⟩ := G.fn hdef
    have z := call w s₀ s₁ mg mb G Y a o pm cd doc dV kV h2 h3 h4 h5 (defOf_name hdef ▸ h1) L.gens args vs as hpre hlay L.reads L.well (L.low low)
    exact ⟨.ref a, h1, wpAny_runClean z.1 z.2⟩
end Mine
end
section
open PySem PySem.W PyProof.Rows
namespace Mine

/-- the library's head, its look at the top and its walk asked together -/
theorem holds_two {r : OpenRow} {q : Program} {loose : List Str} {Xt : Shared → Bool} {XP : (Str → Option Value) → Heap → Prop} {α : Type} {Yf : Shared → α} {Ya : World → α} {YP : World → Heap → Prop} {d : DefRec} {kwd : List (Str × Expr)} {N : Nat}
    (hY : ∀ w s, Yf s = Ya w → YP w s.heap) (hYk : ∀ w h h', YP w h → (∀ b o, h.get? b = some o → h'.get? b = some o) → YP w h')
    (hX : ∀ s, Xt s = true → XP (s.heap.nsMap mainGlobals) s.heap) (hXk : ∀ mg h h', XP mg h → (∀ b o, h.get? b = some o → h'.get? b = some o) → XP mg h')
    (hdef : defOf q r.name = some (d, kwd)) (hp : r.prog.theDef r.name = some (d.params, d.body, d.scope)) (hk : kwWritten? d.params.kwonlyargs d.params.kw_defaults = some kwd) (hRf : ∀ s, Xt s = true → RecFacts r.records s.heap) (hwr : (!r.writes || r.records.isEmpty) = true)
    (k1 : r.wellSaid = true) (ok : (chainsOk q && opensWell r.prog && (frees r.toRowW && r.within.isEmpty)) = true) (hb : r.prog.bare) (hw : r.toRowW.promised)
    (both : LeftO r.prog q loose Xt Yf Ya N ∧ WalkP q loose XP YP r.toRowW d kwd fun f vs => PySem.call f vs) : r.Holds :=
  Mine.PySem.W.holds_open both.1 hY hYk hX hXk hdef hp hk hRf hwr k1 ok hb hw both.2

def lawView : Program := view PySem.Challenge.pw_ke0005_01 [0, 2, 3, 5, 6, 7, 8, 9, 10, 11, 12, 13, 15, 16, 17, 18, 19, 20, 21, 22, 23, 24, 25, 26, 27, 28, 30, 31, 32, 33]
def lawLoose : List Str := ["boolean", "uint8", "uint16", "uint32", "uint64", "int8", "int16", "int32", "int64", "BoolFlags", "Uint8Flags", "Uint16Flags", "Uint32Flags", "Uint64Flags", "Int8Flags", "Int16Flags", "Int32Flags", "Int64Flags"]

local macro_rules | `(tactic| o_head $H) => `(tactic| (refine Mine.holds_two (q := Mine.lawView) (loose := Mine.lawLoose) (Xt := fun s => xlAt Mine.lawView [] s && recOk (RowW.records PySem.Challenge.rw_ke0005_01.row.toRowW) s) (XP := XL Mine.lawView []) (Yf := Hook.obs $H) (Ya := Hook.val $H) (YP := Hook.says $H) (N := 7494) (Hook.of $H) (Hook.keeps $H) (fun s e => xl_of s (Bool.and_eq_true_iff.mp e).1) XL.keeps (by rfl) (by rfl) (by rfl) (fun s e => recFacts_of (Bool.and_eq_true_iff.mp e).2) (by rfl) (by first | assumption | decide +kernel) (by decide +kernel) ⟨rfl, rfl, rfl, rfl, rfl, by decide +kernel⟩ ?hw ?hc))
set_option maxRecDepth 100000 in
set_option maxHeartbeats 8000000 in
open_top hd for PySem.Challenge.rw_ke0005_01
end Mine
end
section
open PySem PySem.W PyProof.Rows
namespace Mine

/-! the run of the top on a heap kept as a tree, its state never written out -/
def topRunT (tb : String → Option Builtin) (p : Program) (w : World) (n₀ : Nat) (ann : Option Value) : Nat → SharedT → Thread → Option SharedT
  | 0, _, _ => none
  | n + 1, s, t => match through t with
    | true => some s
    | false => match stepOk n₀ ann t with
      | false => none
      | true => match stepT (denote tb) p w s t with
        | some (s', t') => topRunT tb p w n₀ ann n s' t'
        | none => none
def treeOf : List Obj → Nat → BT → BT
  | [], _, t => t
  | o :: l, n, t => treeOf l (n + 1) (t.ins n o)

section
variable {tb : String → Option Builtin} {p : Program} {w : World} {n₀ : Nat} {ann : Option Value}
theorem topRun_of : ∀ {n : Nat} {s s' : SharedT} {t : Thread}, topRunT tb p w n₀ ann n s t = some s' → topRun tb p w n₀ ann n s.abs t = some s'.abs
  | 0, _, _, _, h => by cases h
  | n + 1, s, s', t, h => by
    unfold topRunT at h
    unfold topRun
    cases he : through t with
    | true => rw [he] at h; cases h; rfl
    | false =>
      rw [he] at h
      cases hk : stepOk n₀ ann t with
      | false => rw [hk] at h; cases h
      | true =>
        rw [hk] at h
        cases hs : stepT (denote tb) p w s t with
        | none => rw [hs] at h; cases h
        | some r => obtain ⟨s₂, t₂⟩ := r; rw [hs] at h; rw [stepT_spec hs]; exact topRun_of h
end

/-! the texts of a heap's lists brought to their normal form before they are compared -/
section
variable {α : Type}
def fNat (n : Nat) (k : Nat → α) : α := match n with
  | 0 => k 0
  | m + 1 => k (m + 1)
theorem fNat_eq (n : Nat) (k : Nat → α) : fNat n k = k n := by cases n <;> rfl
def fStr : List Nat → (List Nat → α) → α
  | [], k => k []
  | a :: l, k => fNat a fun a => fStr l fun l => k (a :: l)
theorem fStr_eq : ∀ (l : List Nat) (k : List Nat → α), fStr l k = k l
  | [], _ => rfl
  | a :: l, k => by unfold fStr; rw [fNat_eq, fStr_eq l]
def fVal (v : Value) (k : Value → α) : α := match v with
  | .str ⟨⟨s⟩⟩ t => fStr s fun s => k (.str ⟨⟨s⟩⟩ t)
  | v => k v
theorem fVal_eq (v : Value) (k : Value → α) : fVal v k = k v := by
  cases v <;> first | rfl | exact fStr_eq _ fun s => k (.str ⟨⟨s⟩⟩ _)
def fVals : List Value → (List Value → α) → α
  | [], k => k []
  | a :: l, k => fVal a fun a => fVals l fun l => k (a :: l)
theorem fVals_eq : ∀ (l : List Value) (k : List Value → α), fVals l k = k l
  | [], _ => rfl
  | a :: l, k => by unfold fVals; rw [fVal_eq, fVals_eq l]
def fObj (o : Obj) (k : Obj → α) : α := match o with
  | ⟨c, d, .seq ⟨l⟩ e, sl⟩ => fVals l fun l => k ⟨c, d, .seq ⟨l⟩ e, sl⟩
  | o => k o
theorem fObj_eq (o : Obj) (k : Obj → α) : fObj o k = k o := by
  obtain ⟨c, d, dt, sl⟩ := o
  cases dt <;> first | rfl | exact fVals_eq _ fun l => k ⟨c, d, .seq ⟨l⟩ _, sl⟩
def fObjs : List Obj → (List Obj → α) → α
  | [], k => k []
  | a :: l, k => fObj a fun a => fObjs l fun l => k (a :: l)
theorem fObjs_eq : ∀ (l : List Obj) (k : List Obj → α), fObjs l k = k l
  | [], _ => rfl
  | a :: l, k => by unfold fObjs; rw [fObj_eq, fObjs_eq l]
def fHeap (h : Heap) (k : Heap → α) : α := match h with
  | ⟨⟨l⟩, life⟩ => fObjs l fun l => k ⟨⟨l⟩, life⟩
theorem fHeap_eq (h : Heap) (k : Heap → α) : fHeap h k = k h := by
  obtain ⟨⟨l⟩, life⟩ := h
  exact fObjs_eq l fun l => k ⟨⟨l⟩, life⟩
end

theorem opening_lazy {p : Program} {N : Nat} {H₀ : Params → Heap} {gs₀ : Array GenState} {d₀ : Drawn} {k₀ : Nat}
    (h : ∀ w : World, (fencedOpening treeTable p w N).bind (fun s => fHeap s.heap fun h => some (h, s.gens, s.drawn, s.toks)) = some (H₀ w.params, gs₀, d₀, k₀)) :
    ∀ w : World, (fencedOpening treeTable p w N).map (fun s => (s.heap, s.gens, s.drawn, s.toks)) = some (H₀ w.params, gs₀, d₀, k₀) := fun w => by
  obtain ⟨s, es, k⟩ := Option.bind_eq_some_iff.mp (h w)
  rw [fHeap_eq] at k
  rw [es]
  exact k

theorem left_lazy {p q : Program} {loose : List Str} {Xt : Shared → Bool} {α : Type} {Yf : Shared → α} {Ya : World → α} {N : Nat} {g0 : Bool} {H₀ : Params → Heap} {gs₀ : Array GenState} {d₀ : Drawn} {k₀ : Nat} {m₀ : Nat} {ann : Option Value}
    (T₀ : World → OsState → SharedT)
    (open_ : ∀ w : World, (fencedOpening treeTable p w N).map (fun s => (s.heap, s.gens, s.drawn, s.toks)) = some (H₀ w.params, gs₀, d₀, k₀))
    (size : ∀ w : World, ((H₀ w.params).isNs mainGlobals && gs₀.size == 0, (H₀ w.params).objs.size, (H₀ w.params).nsMap mainGlobals "__annotations__") = (true, m₀, ann))
    (e0 : ∀ w os, (T₀ w os).abs = ⟨H₀ w.params, gs₀, d₀, k₀, os⟩)
    (looks : ∀ w os, ((topRunT treeTable p w m₀ ann N (T₀ w os) (topStub p)).map fun s => ((staticsOk (importedModules p.main.body) (H₀ w.params) s.abs.heap && namesBound p s.abs.heap && gensDone s.abs && laidKept (H₀ w.params) s.abs.heap),
        openSeen q loose (importedModules p.main.body) Xt g0 s.abs, Yf s.abs)) = some (true, openGood q loose, Ya w)) : LeftO p q loose Xt Yf Ya N g0 := fun w => by
  obtain ⟨⟨h, gs, d, k, os⟩, e, e'⟩ := Option.map_eq_some_iff.mp (open_ w)
  obtain ⟨rfl, rfl, rfl, rfl⟩ : h = H₀ w.params ∧ gs = gs₀ ∧ d = d₀ ∧ k = k₀ := by simpa using e'
  obtain ⟨z1, z2, z3⟩ : _ ∧ _ ∧ _ := by simpa only [Prod.mk.injEq] using size w
  obtain ⟨s, es, kk⟩ := Option.map_eq_some_iff.mp (looks w os)
  obtain ⟨l1, l2, l3⟩ : _ ∧ _ ∧ _ := by simpa only [Prod.mk.injEq] using kk
  have r := topRun_of es
  rw [e0] at r
  have t : topFrom treeTable p w N ⟨H₀ w.params, gs, d, k, os⟩ = some s.abs := by
    unfold topFrom
    dsimp only
    rw [z1, z2, z3, r]
    show (match staticsOk (importedModules p.main.body) (H₀ w.params) s.abs.heap && namesBound p s.abs.heap && gensDone s.abs && laidKept (H₀ w.params) s.abs.heap with | true => _ | false => _) = _
    rw [l1]
  unfold openEnds
  rw [e]
  show (topFrom treeTable p w N _).map _ = _
  rw [t]
  exact congrArg some (Prod.ext l2 l3)

theorem curry {A B R : Prop} (x : A ∧ B → R) (a : A) (b : B) : R := x ⟨a, b⟩
end Mine
end
section
open PySem PySem.W PyProof.Rows
set_option maxRecDepth 100000
namespace Mine
abbrev ofs (s : String) : Str := Str.ofString s
noncomputable def h0_0 (P : Params) : Obj := { cls := Value.type "dict", data := Data.dict #[{ hash := PyData.keyHash P (ofs "__name__"), key := Value.str (ofs "__name__") 1, val := Value.str (ofs "builtins") 160 }, { hash := PyData.keyHash P (ofs "__doc__"), key := Value.str (ofs "__doc__") 2, val := Value.builtin "builtins.__doc__:str#opaque" }, { hash := PyData.keyHash P (ofs "__package__"), key := Value.str (ofs "__package__") 3, val := Value.builtin "builtins.__package__:str#opaque" }, { hash := PyData.keyHash P (ofs "__loader__"), key := Value.str (ofs "__loader__") 4, val := Value.builtin "builtins.__loader__:shared#opaque" }, { hash := PyData.keyHash P (ofs "__spec__"), key := Value.str (ofs "__spec__") 5, val := Value.builtin "builtins.__spec__#opaque" }, { hash := PyData.keyHash P (ofs "__build_class__"), key := Value.str (ofs "__build_class__") 6, val := Value.builtin "__build_class__" }, { hash := PyData.keyHash P (ofs "__import__"), key := Value.str (ofs "__import__") 7, val := Value.builtin "__import__" }, { hash := PyData.keyHash P (ofs "abs"), key := Value.str (ofs "abs") 8, val := Value.builtin "abs" }, { hash := PyData.keyHash P (ofs "all"), key := Value.str (ofs "all") 9, val := Value.builtin "all" }, { hash := PyData.keyHash P (ofs "any"), key := Value.str (ofs "any") 10, val := Value.builtin "any" }, { hash := PyData.keyHash P (ofs "ascii"), key := Value.str (ofs "ascii") 11, val := Value.builtin "ascii" }, { hash := PyData.keyHash P (ofs "bin"), key := Value.str (ofs "bin") 12, val := Value.builtin "bin" }, { hash := PyData.keyHash P (ofs "breakpoint"), key := Value.str (ofs "breakpoint") 13, val := Value.builtin "breakpoint" }, { hash := PyData.keyHash P (ofs "callable"), key := Value.str (ofs "callable") 14, val := Value.builtin "callable" }, { hash := PyData.keyHash P (ofs "chr"), key := Value.str (ofs "chr") 15, val := Value.builtin "chr" }, { hash := PyData.keyHash P (ofs "compile"), key := Value.str (ofs "compile") 16, val := Value.builtin "compile" }, { hash := PyData.keyHash P (ofs "delattr"), key := Value.str (ofs "delattr") 17, val := Value.builtin "delattr" }, { hash := PyData.keyHash P (ofs "dir"), key := Value.str (ofs "dir") 18, val := Value.builtin "dir" }, { hash := PyData.keyHash P (ofs "divmod"), key := Value.str (ofs "divmod") 19, val := Value.builtin "divmod" }, { hash := PyData.keyHash P (ofs "eval"), key := Value.str (ofs "eval") 20, val := Value.builtin "eval" }, { hash := PyData.keyHash P (ofs "exec"), key := Value.str (ofs "exec") 21, val := Value.builtin "exec" }, { hash := PyData.keyHash P (ofs "format"), key := Value.str (ofs "format") 22, val := Value.builtin "format" }, { hash := PyData.keyHash P (ofs "getattr"), key := Value.str (ofs "getattr") 23, val := Value.builtin "getattr" }, { hash := PyData.keyHash P (ofs "globals"), key := Value.str (ofs "globals") 24, val := Value.builtin "globals" }, { hash := PyData.keyHash P (ofs "hasattr"), key := Value.str (ofs "hasattr") 25, val := Value.builtin "hasattr" }, { hash := PyData.keyHash P (ofs "hash"), key := Value.str (ofs "hash") 26, val := Value.builtin "hash" }, { hash := PyData.keyHash P (ofs "hex"), key := Value.str (ofs "hex") 27, val := Value.builtin "hex" }, { hash := PyData.keyHash P (ofs "id"), key := Value.str (ofs "id") 28, val := Value.builtin "id" }, { hash := PyData.keyHash P (ofs "input"), key := Value.str (ofs "input") 29, val := Value.builtin "input" }, { hash := PyData.keyHash P (ofs "isinstance"), key := Value.str (ofs "isinstance") 30, val := Value.builtin "isinstance" }, { hash := PyData.keyHash P (ofs "issubclass"), key := Value.str (ofs "issubclass") 31, val := Value.builtin "issubclass" }, { hash := PyData.keyHash P (ofs "iter"), key := Value.str (ofs "iter") 32, val := Value.builtin "iter" }, { hash := PyData.keyHash P (ofs "aiter"), key := Value.str (ofs "aiter") 33, val := Value.builtin "aiter" }, { hash := PyData.keyHash P (ofs "len"), key := Value.str (ofs "len") 34, val := Value.builtin "len" }, { hash := PyData.keyHash P (ofs "locals"), key := Value.str (ofs "locals") 35, val := Value.builtin "locals" }, { hash := PyData.keyHash P (ofs "max"), key := Value.str (ofs "max") 36, val := Value.builtin "max" }, { hash := PyData.keyHash P (ofs "min"), key := Value.str (ofs "min") 37, val := Value.builtin "min" }, { hash := PyData.keyHash P (ofs "next"), key := Value.str (ofs "next") 38, val := Value.builtin "next" }, { hash := PyData.keyHash P (ofs "anext"), key := Value.str (ofs "anext") 39, val := Value.builtin "anext" }, { hash := PyData.keyHash P (ofs "oct"), key := Value.str (ofs "oct") 40, val := Value.builtin "oct" }, { hash := PyData.keyHash P (ofs "ord"), key := Value.str (ofs "ord") 41, val := Value.builtin "ord" }, { hash := PyData.keyHash P (ofs "pow"), key := Value.str (ofs "pow") 42, val := Value.builtin "pow" }, { hash := PyData.keyHash P (ofs "print"), key := Value.str (ofs "print") 43, val := Value.builtin "print" }, { hash := PyData.keyHash P (ofs "repr"), key := Value.str (ofs "repr") 44, val := Value.builtin "repr" }, { hash := PyData.keyHash P (ofs "round"), key := Value.str (ofs "round") 45, val := Value.builtin "round" }, { hash := PyData.keyHash P (ofs "setattr"), key := Value.str (ofs "setattr") 46, val := Value.builtin "setattr" }, { hash := PyData.keyHash P (ofs "sorted"), key := Value.str (ofs "sorted") 47, val := Value.builtin "sorted" }, { hash := PyData.keyHash P (ofs "sum"), key := Value.str (ofs "sum") 48, val := Value.builtin "sum" }, { hash := PyData.keyHash P (ofs "vars"), key := Value.str (ofs "vars") 49, val := Value.builtin "vars" }, { hash := PyData.keyHash P (ofs "None"), key := Value.str (ofs "None") 50, val := Value.none }, { hash := PyData.keyHash P (ofs "Ellipsis"), key := Value.str (ofs "Ellipsis") 51, val := Value.ellipsis }, { hash := PyData.keyHash P (ofs "NotImplemented"), key := Value.str (ofs "NotImplemented") 52, val := Value.notImplemented }, { hash := PyData.keyHash P (ofs "False"), key := Value.str (ofs "False") 53, val := Value.bool false }, { hash := PyData.keyHash P (ofs "True"), key := Value.str (ofs "True") 54, val := Value.bool true }, { hash := PyData.keyHash P (ofs "bool"), key := Value.str (ofs "bool") 55, val := Value.type "bool" }, { hash := PyData.keyHash P (ofs "memoryview"), key := Value.str (ofs "memoryview") 56, val := Value.type "memoryview" }, { hash := PyData.keyHash P (ofs "bytearray"), key := Value.str (ofs "bytearray") 57, val := Value.type "bytearray" }, { hash := PyData.keyHash P (ofs "bytes"), key := Value.str (ofs "bytes") 58, val := Value.type "bytes" }, { hash := PyData.keyHash P (ofs "classmethod"), key := Value.str (ofs "classmethod") 59, val := Value.type "classmethod" }, { hash := PyData.keyHash P (ofs "complex"), key := Value.str (ofs "complex") 60, val := Value.type "complex" }, { hash := PyData.keyHash P (ofs "dict"), key := Value.str (ofs "dict") 61, val := Value.type "dict" }, { hash := PyData.keyHash P (ofs "enumerate"), key := Value.str (ofs "enumerate") 62, val := Value.type "enumerate" }, { hash := PyData.keyHash P (ofs "filter"), key := Value.str (ofs "filter") 63, val := Value.type "filter" }, { hash := PyData.keyHash P (ofs "float"), key := Value.str (ofs "float") 64, val := Value.type "float" }, { hash := PyData.keyHash P (ofs "frozenset"), key := Value.str (ofs "frozenset") 65, val := Value.type "frozenset" }, { hash := PyData.keyHash P (ofs "property"), key := Value.str (ofs "property") 66, val := Value.type "property" }, { hash := PyData.keyHash P (ofs "int"), key := Value.str (ofs "int") 67, val := Value.type "int" }, { hash := PyData.keyHash P (ofs "list"), key := Value.str (ofs "list") 68, val := Value.type "list" }, { hash := PyData.keyHash P (ofs "map"), key := Value.str (ofs "map") 69, val := Value.type "map" }, { hash := PyData.keyHash P (ofs "object"), key := Value.str (ofs "object") 70, val := Value.type "object" }, { hash := PyData.keyHash P (ofs "range"), key := Value.str (ofs "range") 71, val := Value.type "range" }, { hash := PyData.keyHash P (ofs "reversed"), key := Value.str (ofs "reversed") 72, val := Value.type "reversed" }, { hash := PyData.keyHash P (ofs "set"), key := Value.str (ofs "set") 73, val := Value.type "set" }, { hash := PyData.keyHash P (ofs "slice"), key := Value.str (ofs "slice") 74, val := Value.type "slice" }, { hash := PyData.keyHash P (ofs "staticmethod"), key := Value.str (ofs "staticmethod") 75, val := Value.type "staticmethod" }, { hash := PyData.keyHash P (ofs "str"), key := Value.str (ofs "str") 76, val := Value.type "str" }, { hash := PyData.keyHash P (ofs "super"), key := Value.str (ofs "super") 77, val := Value.type "super" }, { hash := PyData.keyHash P (ofs "tuple"), key := Value.str (ofs "tuple") 78, val := Value.type "tuple" }, { hash := PyData.keyHash P (ofs "type"), key := Value.str (ofs "type") 79, val := Value.type "type" }, { hash := PyData.keyHash P (ofs "zip"), key := Value.str (ofs "zip") 80, val := Value.type "zip" }, { hash := PyData.keyHash P (ofs "__debug__"), key := Value.str (ofs "__debug__") 81, val := Value.bool true }, { hash := PyData.keyHash P (ofs "BaseException"), key := Value.str (ofs "BaseException") 82, val := Value.type "BaseException" }, { hash := PyData.keyHash P (ofs "BaseExceptionGroup"), key := Value.str (ofs "BaseExceptionGroup") 83, val := Value.type "BaseExceptionGroup" }, { hash := PyData.keyHash P (ofs "Exception"), key := Value.str (ofs "Exception") 84, val := Value.type "Exception" }, { hash := PyData.keyHash P (ofs "GeneratorExit"), key := Value.str (ofs "GeneratorExit") 85, val := Value.type "GeneratorExit" }, { hash := PyData.keyHash P (ofs "KeyboardInterrupt"), key := Value.str (ofs "KeyboardInterrupt") 86, val := Value.type "KeyboardInterrupt" }, { hash := PyData.keyHash P (ofs "SystemExit"), key := Value.str (ofs "SystemExit") 87, val := Value.type "SystemExit" }, { hash := PyData.keyHash P (ofs "ArithmeticError"), key := Value.str (ofs "ArithmeticError") 88, val := Value.type "ArithmeticError" }, { hash := PyData.keyHash P (ofs "AssertionError"), key := Value.str (ofs "AssertionError") 89, val := Value.type "AssertionError" }, { hash := PyData.keyHash P (ofs "AttributeError"), key := Value.str (ofs "AttributeError") 90, val := Value.type "AttributeError" }, { hash := PyData.keyHash P (ofs "BufferError"), key := Value.str (ofs "BufferError") 91, val := Value.type "BufferError" }, { hash := PyData.keyHash P (ofs "EOFError"), key := Value.str (ofs "EOFError") 92, val := Value.type "EOFError" }, { hash := PyData.keyHash P (ofs "ImportError"), key := Value.str (ofs "ImportError") 93, val := Value.type "ImportError" }, { hash := PyData.keyHash P (ofs "LookupError"), key := Value.str (ofs "LookupError") 94, val := Value.type "LookupError" }, { hash := PyData.keyHash P (ofs "MemoryError"), key := Value.str (ofs "MemoryError") 95, val := Value.type "MemoryError" }, { hash := PyData.keyHash P (ofs "NameError"), key := Value.str (ofs "NameError") 96, val := Value.type "NameError" }, { hash := PyData.keyHash P (ofs "OSError"), key := Value.str (ofs "OSError") 97, val := Value.type "OSError" }, { hash := PyData.keyHash P (ofs "ReferenceError"), key := Value.str (ofs "ReferenceError") 98, val := Value.type "ReferenceError" }, { hash := PyData.keyHash P (ofs "RuntimeError"), key := Value.str (ofs "RuntimeError") 99, val := Value.type "RuntimeError" }, { hash := PyData.keyHash P (ofs "StopAsyncIteration"), key := Value.str (ofs "StopAsyncIteration") 100, val := Value.type "StopAsyncIteration" }, { hash := PyData.keyHash P (ofs "StopIteration"), key := Value.str (ofs "StopIteration") 101, val := Value.type "StopIteration" }, { hash := PyData.keyHash P (ofs "SyntaxError"), key := Value.str (ofs "SyntaxError") 102, val := Value.type "SyntaxError" }, { hash := PyData.keyHash P (ofs "SystemError"), key := Value.str (ofs "SystemError") 103, val := Value.type "SystemError" }, { hash := PyData.keyHash P (ofs "TypeError"), key := Value.str (ofs "TypeError") 104, val := Value.type "TypeError" }, { hash := PyData.keyHash P (ofs "ValueError"), key := Value.str (ofs "ValueError") 105, val := Value.type "ValueError" }, { hash := PyData.keyHash P (ofs "Warning"), key := Value.str (ofs "Warning") 106, val := Value.type "Warning" }, { hash := PyData.keyHash P (ofs "FloatingPointError"), key := Value.str (ofs "FloatingPointError") 107, val := Value.type "FloatingPointError" }, { hash := PyData.keyHash P (ofs "OverflowError"), key := Value.str (ofs "OverflowError") 108, val := Value.type "OverflowError" }, { hash := PyData.keyHash P (ofs "ZeroDivisionError"), key := Value.str (ofs "ZeroDivisionError") 109, val := Value.type "ZeroDivisionError" }, { hash := PyData.keyHash P (ofs "BytesWarning"), key := Value.str (ofs "BytesWarning") 110, val := Value.type "BytesWarning" }, { hash := PyData.keyHash P (ofs "DeprecationWarning"), key := Value.str (ofs "DeprecationWarning") 111, val := Value.type "DeprecationWarning" }, { hash := PyData.keyHash P (ofs "EncodingWarning"), key := Value.str (ofs "EncodingWarning") 112, val := Value.type "EncodingWarning" }, { hash := PyData.keyHash P (ofs "FutureWarning"), key := Value.str (ofs "FutureWarning") 113, val := Value.type "FutureWarning" }, { hash := PyData.keyHash P (ofs "ImportWarning"), key := Value.str (ofs "ImportWarning") 114, val := Value.type "ImportWarning" }, { hash := PyData.keyHash P (ofs "PendingDeprecationWarning"), key := Value.str (ofs "PendingDeprecationWarning") 115, val := Value.type "PendingDeprecationWarning" }, { hash := PyData.keyHash P (ofs "ResourceWarning"), key := Value.str (ofs "ResourceWarning") 116, val := Value.type "ResourceWarning" }, { hash := PyData.keyHash P (ofs "RuntimeWarning"), key := Value.str (ofs "RuntimeWarning") 117, val := Value.type "RuntimeWarning" }, { hash := PyData.keyHash P (ofs "SyntaxWarning"), key := Value.str (ofs "SyntaxWarning") 118, val := Value.type "SyntaxWarning" }, { hash := PyData.keyHash P (ofs "UnicodeWarning"), key := Value.str (ofs "UnicodeWarning") 119, val := Value.type "UnicodeWarning" }, { hash := PyData.keyHash P (ofs "UserWarning"), key := Value.str (ofs "UserWarning") 120, val := Value.type "UserWarning" }, { hash := PyData.keyHash P (ofs "BlockingIOError"), key := Value.str (ofs "BlockingIOError") 121, val := Value.type "BlockingIOError" }, { hash := PyData.keyHash P (ofs "ChildProcessError"), key := Value.str (ofs "ChildProcessError") 122, val := Value.type "ChildProcessError" }, { hash := PyData.keyHash P (ofs "ConnectionError"), key := Value.str (ofs "ConnectionError") 123, val := Value.type "ConnectionError" }, { hash := PyData.keyHash P (ofs "FileExistsError"), key := Value.str (ofs "FileExistsError") 124, val := Value.type "FileExistsError" }, { hash := PyData.keyHash P (ofs "FileNotFoundError"), key := Value.str (ofs "FileNotFoundError") 125, val := Value.type "FileNotFoundError" }, { hash := PyData.keyHash P (ofs "InterruptedError"), key := Value.str (ofs "InterruptedError") 126, val := Value.type "InterruptedError" }, { hash := PyData.keyHash P (ofs "IsADirectoryError"), key := Value.str (ofs "IsADirectoryError") 127, val := Value.type "IsADirectoryError" }, { hash := PyData.keyHash P (ofs "NotADirectoryError"), key := Value.str (ofs "NotADirectoryError") 128, val := Value.type "NotADirectoryError" }, { hash := PyData.keyHash P (ofs "PermissionError"), key := Value.str (ofs "PermissionError") 129, val := Value.type "PermissionError" }, { hash := PyData.keyHash P (ofs "ProcessLookupError"), key := Value.str (ofs "ProcessLookupError") 130, val := Value.type "ProcessLookupError" }, { hash := PyData.keyHash P (ofs "TimeoutError"), key := Value.str (ofs "TimeoutError") 131, val := Value.type "TimeoutError" }, { hash := PyData.keyHash P (ofs "IndentationError"), key := Value.str (ofs "IndentationError") 132, val := Value.type "IndentationError" }, { hash := PyData.keyHash P (ofs "_IncompleteInputError"), key := Value.str (ofs "_IncompleteInputError") 133, val := Value.type "_IncompleteInputError" }, { hash := PyData.keyHash P (ofs "IndexError"), key := Value.str (ofs "IndexError") 134, val := Value.type "IndexError" }, { hash := PyData.keyHash P (ofs "KeyError"), key := Value.str (ofs "KeyError") 135, val := Value.type "KeyError" }, { hash := PyData.keyHash P (ofs "ModuleNotFoundError"), key := Value.str (ofs "ModuleNotFoundError") 136, val := Value.type "ModuleNotFoundError" }, { hash := PyData.keyHash P (ofs "NotImplementedError"), key := Value.str (ofs "NotImplementedError") 137, val := Value.type "NotImplementedError" }, { hash := PyData.keyHash P (ofs "PythonFinalizationError"), key := Value.str (ofs "PythonFinalizationError") 138, val := Value.type "PythonFinalizationError" }, { hash := PyData.keyHash P (ofs "RecursionError"), key := Value.str (ofs "RecursionError") 139, val := Value.type "RecursionError" }, { hash := PyData.keyHash P (ofs "UnboundLocalError"), key := Value.str (ofs "UnboundLocalError") 140, val := Value.type "UnboundLocalError" }, { hash := PyData.keyHash P (ofs "UnicodeError"), key := Value.str (ofs "UnicodeError") 141, val := Value.type "UnicodeError" }, { hash := PyData.keyHash P (ofs "BrokenPipeError"), key := Value.str (ofs "BrokenPipeError") 142, val := Value.type "BrokenPipeError" }, { hash := PyData.keyHash P (ofs "ConnectionAbortedError"), key := Value.str (ofs "ConnectionAbortedError") 143, val := Value.type "ConnectionAbortedError" }, { hash := PyData.keyHash P (ofs "ConnectionRefusedError"), key := Value.str (ofs "ConnectionRefusedError") 144, val := Value.type "ConnectionRefusedError" }, { hash := PyData.keyHash P (ofs "ConnectionResetError"), key := Value.str (ofs "ConnectionResetError") 145, val := Value.type "ConnectionResetError" }, { hash := PyData.keyHash P (ofs "TabError"), key := Value.str (ofs "TabError") 146, val := Value.type "TabError" }, { hash := PyData.keyHash P (ofs "UnicodeDecodeError"), key := Value.str (ofs "UnicodeDecodeError") 147, val := Value.type "UnicodeDecodeError" }, { hash := PyData.keyHash P (ofs "UnicodeEncodeError"), key := Value.str (ofs "UnicodeEncodeError") 148, val := Value.type "UnicodeEncodeError" }, { hash := PyData.keyHash P (ofs "UnicodeTranslateError"), key := Value.str (ofs "UnicodeTranslateError") 149, val := Value.type "UnicodeTranslateError" }, { hash := PyData.keyHash P (ofs "ExceptionGroup"), key := Value.str (ofs "ExceptionGroup") 150, val := Value.type "ExceptionGroup" }, { hash := PyData.keyHash P (ofs "EnvironmentError"), key := Value.str (ofs "EnvironmentError") 151, val := Value.type "OSError" }, { hash := PyData.keyHash P (ofs "IOError"), key := Value.str (ofs "IOError") 152, val := Value.type "OSError" }, { hash := PyData.keyHash P (ofs "open"), key := Value.str (ofs "open") 153, val := Value.builtin "open" }, { hash := PyData.keyHash P (ofs "quit"), key := Value.str (ofs "quit") 154, val := Value.builtin "builtins.quit#opaque" }, { hash := PyData.keyHash P (ofs "exit"), key := Value.str (ofs "exit") 155, val := Value.builtin "builtins.exit#opaque" }, { hash := PyData.keyHash P (ofs "copyright"), key := Value.str (ofs "copyright") 156, val := Value.builtin "builtins.copyright#opaque" }, { hash := PyData.keyHash P (ofs "credits"), key := Value.str (ofs "credits") 157, val := Value.builtin "builtins.credits#opaque" }, { hash := PyData.keyHash P (ofs "license"), key := Value.str (ofs "license") 158, val := Value.builtin "builtins.license#opaque" }, { hash := PyData.keyHash P (ofs "help"), key := Value.str (ofs "help") 159, val := Value.builtin "builtins.help#opaque" }] 159 }
noncomputable def h0_1 (P : Params) : Obj := { cls := Value.type "dict", data := Data.dict #[{ hash := PyData.keyHash P (ofs "builtins"), key := Value.str (ofs "builtins") 162, val := Value.ref 4 }, { hash := PyData.keyHash P (ofs "__main__"), key := Value.str (ofs "__main__") 163, val := Value.ref 5 }, { hash := PyData.keyHash P (ofs "_struct"), key := Value.str (ofs "_struct") 285, val := Value.ref 13 }] 3 }
noncomputable def h0_2 (P : Params) : Obj := { cls := Value.none, data := Data.dict #[{ hash := PyData.keyHash P ⟨#[105, 109, 112, 111, 114, 116, 46, 108, 111, 97, 100, 101, 100, 46, 95, 115, 116, 114, 117, 99, 116]⟩, key := Value.str ⟨#[105, 109, 112, 111, 114, 116, 46, 108, 111, 97, 100, 101, 100, 46, 95, 115, 116, 114, 117, 99, 116]⟩ 186, val := Value.bool true }, { hash := PyData.keyHash P (ofs "class._frozen_importlib_external._LoaderBasics"), key := Value.str (ofs "class._frozen_importlib_external._LoaderBasics") 191, val := Value.ref 16 }, { hash := PyData.keyHash P ⟨#[119, 97, 116, 99, 104, 101, 100, 46, 105, 109, 112, 111, 114, 116]⟩, key := Value.str ⟨#[119, 97, 116, 99, 104, 101, 100, 46, 105, 109, 112, 111, 114, 116]⟩ 207, val := Value.ref 20 }, { hash := PyData.keyHash P (ofs "class._frozen_importlib_external.FileLoader"), key := Value.str (ofs "class._frozen_importlib_external.FileLoader") 208, val := Value.ref 22 }, { hash := PyData.keyHash P (ofs "class._frozen_importlib_external.ExtensionFileLoader"), key := Value.str (ofs "class._frozen_importlib_external.ExtensionFileLoader") 229, val := Value.ref 27 }, { hash := PyData.keyHash P (ofs "class._frozen_importlib.ModuleSpec"), key := Value.str (ofs "class._frozen_importlib.ModuleSpec") 257, val := Value.ref 33 }, { hash := PyData.keyHash P (ofs "sys.modules.booked-epoch"), key := Value.str (ofs "sys.modules.booked-epoch") 286, val := Value.int 3 0 }, { hash := PyData.keyHash P (ofs "class.struct.error"), key := Value.str (ofs "class.struct.error") 303, val := Value.type "struct.error" }, { hash := PyData.keyHash P ⟨#[105, 109, 112, 111, 114, 116, 46, 108, 97, 116, 101, 114, 45, 108, 97, 105, 100, 46, 95, 115, 116, 114, 117, 99, 116]⟩, key := Value.str ⟨#[105, 109, 112, 111, 114, 116, 46, 108, 97, 116, 101, 114, 45, 108, 97, 105, 100, 46, 95, 115, 116, 114, 117, 99, 116]⟩ 305, val := Value.bool true }, { hash := PyData.keyHash P (ofs "watched.library"), key := Value.str (ofs "watched.library") 307, val := Value.ref 38 }, { hash := PyData.keyHash P (ofs "watched.library-objects"), key := Value.str (ofs "watched.library-objects") 0, val := Value.str (ofs "\x0d") 0 }] 11 }
noncomputable def h0_3 (P : Params) : Obj := { cls := Value.type "dict", data := Data.dict #[{ hash := PyData.keyHash P (ofs "__name__"), key := Value.str (ofs "__name__") 165, val := Value.str (ofs "__main__") 164 }, { hash := PyData.keyHash P (ofs "__doc__"), key := Value.str (ofs "__doc__") 166, val := Value.none }, { hash := PyData.keyHash P (ofs "__package__"), key := Value.str (ofs "__package__") 167, val := Value.none }, { hash := PyData.keyHash P (ofs "__loader__"), key := Value.str (ofs "__loader__") 168, val := Value.builtin "__main__.__loader__#opaque" }, { hash := PyData.keyHash P (ofs "__spec__"), key := Value.str (ofs "__spec__") 169, val := Value.none }, { hash := PyData.keyHash P (ofs "__annotations__"), key := Value.str (ofs "__annotations__") 170, val := Value.ref 6 }, { hash := PyData.keyHash P (ofs "__builtins__"), key := Value.str (ofs "__builtins__") 171, val := Value.ref 4 }, { hash := PyData.keyHash P (ofs "__file__"), key := Value.str (ofs "__file__") 173, val := Value.str (ofs "/claim/cut.py") 172 }, { hash := PyData.keyHash P (ofs "__cached__"), key := Value.str (ofs "__cached__") 174, val := Value.none }, { hash := PyData.keyHash P (ofs "Struct"), key := Value.str (ofs "Struct") 313, val := Value.type "_struct.Struct" }, { hash := PyData.keyHash P (ofs "error"), key := Value.str (ofs "error") 316, val := Value.type "struct.error" }] 11 }
noncomputable def h0_4 (P : Params) : Obj := { cls := Value.type "module", dict := some 0 }
noncomputable def h0_5 (P : Params) : Obj := { cls := Value.type "module", dict := some 3 }
noncomputable def h0_6 (P : Params) : Obj := { cls := Value.type "dict", data := Data.dict #[] }
noncomputable def h0_7 (P : Params) : Obj := { cls := Value.type "tuple", data := Data.seq #[] }
noncomputable def h0_8 (P : Params) : Obj := { cls := Value.none, data := Data.fields #[] }
noncomputable def h0_9 (P : Params) : Obj := { cls := Value.type "code", data := Data.fields #[Value.str (ofs "<module>") 176, Value.str (ofs "<module>") 177, Value.str (ofs "/claim/cut.py") 178, Value.int 1 0, Value.int 0 0, Value.int 0 0, Value.int 0 0, Value.int 0 0, Value.ref 7, Value.bool false, Value.int 175 0, Value.ref 8, Value.none, Value.none, Value.none, Value.none, Value.int 179 0, Value.int 1 0, Value.str (ofs "/claim/cut.py") 180] }
noncomputable def h0_10 (P : Params) : Obj := { cls := Value.type "frame", slots := #[some (Value.ref 9), some (Value.ref 3), some (Value.ref 3), none, some (Value.str (ofs "__main__") 164), none, some (Value.ref 0)] }
noncomputable def h0_11 (P : Params) : Obj := { cls := Value.type "tuple", data := Data.seq #[Value.str (ofs "Struct") 182, Value.str (ofs "error") 183] }
noncomputable def h0_12 (P : Params) : Obj := { cls := Value.type "dict", data := Data.dict #[{ hash := PyData.keyHash P (ofs "__name__"), key := Value.str (ofs "__name__") 288, val := Value.str (ofs "_struct") 287 }, { hash := PyData.keyHash P (ofs "__doc__"), key := Value.str (ofs "__doc__") 289, val := Value.builtin "off-the-table:_struct.__doc__:shared#opaque" }, { hash := PyData.keyHash P (ofs "__package__"), key := Value.str (ofs "__package__") 291, val := Value.str (ofs "") 290 }, { hash := PyData.keyHash P (ofs "__loader__"), key := Value.str (ofs "__loader__") 292, val := Value.builtin "off-the-table:_struct.__loader__:shared#opaque" }, { hash := PyData.keyHash P (ofs "__spec__"), key := Value.str (ofs "__spec__") 293, val := Value.builtin "off-the-table:_struct.__spec__:shared#opaque" }, { hash := PyData.keyHash P (ofs "_clearcache"), key := Value.str (ofs "_clearcache") 294, val := Value.builtin "off-the-table:_struct._clearcache:shared#opaque" }, { hash := PyData.keyHash P (ofs "calcsize"), key := Value.str (ofs "calcsize") 295, val := Value.builtin "_struct.calcsize" }, { hash := PyData.keyHash P (ofs "iter_unpack"), key := Value.str (ofs "iter_unpack") 296, val := Value.builtin "_struct.iter_unpack" }, { hash := PyData.keyHash P (ofs "pack"), key := Value.str (ofs "pack") 297, val := Value.builtin "_struct.pack" }, { hash := PyData.keyHash P (ofs "pack_into"), key := Value.str (ofs "pack_into") 298, val := Value.builtin "_struct.pack_into" }, { hash := PyData.keyHash P (ofs "unpack"), key := Value.str (ofs "unpack") 299, val := Value.builtin "_struct.unpack" }, { hash := PyData.keyHash P (ofs "unpack_from"), key := Value.str (ofs "unpack_from") 300, val := Value.builtin "_struct.unpack_from" }, { hash := PyData.keyHash P (ofs "__file__"), key := Value.str (ofs "__file__") 301, val := Value.str (ofs "/nix/store/wj1f56qky4pmjc7l0r6b6l7whnnw7hp6-python3-3.13.15/lib/python3.13/lib-dynload/_struct.cpython-313-x86_64-linux-gnu.so") 187 }, { hash := PyData.keyHash P (ofs "Struct"), key := Value.str (ofs "Struct") 302, val := Value.type "_struct.Struct" }, { hash := PyData.keyHash P (ofs "error"), key := Value.str (ofs "error") 304, val := Value.type "struct.error" }] 15 }
noncomputable def h0_13 (P : Params) : Obj := { cls := Value.type "module", dict := some 12 }
noncomputable def h0_14 (P : Params) : Obj := { cls := Value.type "dict", data := Data.dict #[{ hash := PyData.keyHash P (ofs "name"), key := Value.str (ofs "name") 189, val := Value.str (ofs "_struct") 188 }, { hash := PyData.keyHash P (ofs "path"), key := Value.str (ofs "path") 190, val := Value.str (ofs "/nix/store/wj1f56qky4pmjc7l0r6b6l7whnnw7hp6-python3-3.13.15/lib/python3.13/lib-dynload/_struct.cpython-313-x86_64-linux-gnu.so") 187 }] 2 }
noncomputable def h0_15 (P : Params) : Obj := { cls := Value.type "dict", data := Data.dict #[{ hash := PyData.keyHash P (ofs "__module__"), key := Value.str (ofs "__module__") 194, val := Value.str (ofs "_frozen_importlib_external") 192 }, { hash := PyData.keyHash P (ofs "__firstlineno__"), key := Value.str (ofs "__firstlineno__") 195, val := Value.int 1001 193 }, { hash := PyData.keyHash P (ofs "__doc__"), key := Value.str (ofs "__doc__") 196, val := Value.builtin "_frozen_importlib_external._LoaderBasics.__doc__:str#opaque" }, { hash := PyData.keyHash P (ofs "is_package"), key := Value.str (ofs "is_package") 197, val := Value.builtin "_frozen_importlib_external._LoaderBasics.is_package#opaque" }, { hash := PyData.keyHash P (ofs "create_module"), key := Value.str (ofs "create_module") 198, val := Value.builtin "_frozen_importlib_external._LoaderBasics.create_module#opaque" }, { hash := PyData.keyHash P (ofs "exec_module"), key := Value.str (ofs "exec_module") 199, val := Value.builtin "_frozen_importlib_external._LoaderBasics.exec_module#opaque" }, { hash := PyData.keyHash P (ofs "load_module"), key := Value.str (ofs "load_module") 200, val := Value.builtin "_frozen_importlib_external._LoaderBasics.load_module#opaque" }, { hash := PyData.keyHash P (ofs "__static_attributes__"), key := Value.str (ofs "__static_attributes__") 201, val := Value.ref 17 }, { hash := PyData.keyHash P (ofs "__dict__"), key := Value.str (ofs "__dict__") 203, val := Value.ref 18 }, { hash := PyData.keyHash P (ofs "__weakref__"), key := Value.str (ofs "__weakref__") 205, val := Value.ref 19 }] 10 }
noncomputable def h0_16 (P : Params) : Obj := { cls := Value.type "type", data := Data.cls { name := ofs "_LoaderBasics", bases := [Value.type "object"], mro := [Value.ref 16, Value.type "object"], ns := 15, qualname := ofs "_LoaderBasics", subclasses := [Value.ref 27] } }
noncomputable def h0_17 (P : Params) : Obj := { cls := Value.type "tuple", data := Data.seq #[] }
noncomputable def h0_18 (P : Params) : Obj := { cls := Value.type "getset_descriptor", data := Data.fields #[Value.str (ofs "__dict__") 202, Value.ref 16, Value.builtin "function.__dict__", Value.builtin "function.__dict__#set"] }
noncomputable def h0_19 (P : Params) : Obj := { cls := Value.type "getset_descriptor", data := Data.fields #[Value.str (ofs "__weakref__") 204, Value.ref 16, Value.builtin "ExceptionGroup.__weakref__", Value.none] }
noncomputable def h0_20 (P : Params) : Obj := { cls := Value.none, data := Data.seq #[Value.int 15 0, Value.str ⟨#[6, 194, 10, 95, 95, 109, 111, 100, 117, 108, 101, 95, 95, 6, 192, 26, 95, 102, 114, 111, 122, 101, 110, 95, 105, 109, 112, 111, 114, 116, 108, 105, 98, 95, 101, 120, 116, 101, 114, 110, 97, 108, 6, 195, 15, 95, 95, 102, 105, 114, 115, 116, 108, 105, 110, 101, 110, 111, 95, 95, 4, 193, 0, 1001, 6, 196, 7, 95, 95, 100, 111, 99, 95, 95, 9, 59, 95, 102, 114, 111, 122, 101, 110, 95, 105, 109, 112, 111, 114, 116, 108, 105, 98, 95, 101, 120, 116, 101, 114, 110, 97, 108, 46, 95, 76, 111, 97, 100, 101, 114, 66, 97, 115, 105, 99, 115, 46, 95, 95, 100, 111, 99, 95, 95, 58, 115, 116, 114, 35, 111, 112, 97, 113, 117, 101, 6, 197, 10, 105, 115, 95, 112, 97, 99, 107, 97, 103, 101, 9, 58, 95, 102, 114, 111, 122, 101, 110, 95, 105, 109, 112, 111, 114, 116, 108, 105, 98, 95, 101, 120, 116, 101, 114, 110, 97, 108, 46, 95, 76, 111, 97, 100, 101, 114, 66, 97, 115, 105, 99, 115, 46, 105, 115, 95, 112, 97, 99, 107, 97, 103, 101, 35, 111, 112, 97, 113, 117, 101, 6, 198, 13, 99, 114, 101, 97, 116, 101, 95, 109, 111, 100, 117, 108, 101, 9, 61, 95, 102, 114, 111, 122, 101, 110, 95, 105, 109, 112, 111, 114, 116, 108, 105, 98, 95, 101, 120, 116, 101, 114, 110, 97, 108, 46, 95, 76, 111, 97, 100, 101, 114, 66, 97, 115, 105, 99, 115, 46, 99, 114, 101, 97, 116, 101, 95, 109, 111, 100, 117, 108, 101, 35, 111, 112, 97, 113, 117, 101, 6, 199, 11, 101, 120, 101, 99, 95, 109, 111, 100, 117, 108, 101, 9, 59, 95, 102, 114, 111, 122, 101, 110, 95, 105, 109, 112, 111, 114, 116, 108, 105, 98, 95, 101, 120, 116, 101, 114, 110, 97, 108, 46, 95, 76, 111, 97, 100, 101, 114, 66, 97, 115, 105, 99, 115, 46, 101, 120, 101, 99, 95, 109, 111, 100, 117, 108, 101, 35, 111, 112, 97, 113, 117, 101, 6, 200, 11, 108, 111, 97, 100, 95, 109, 111, 100, 117, 108, 101, 9, 59, 95, 102, 114, 111, 122, 101, 110, 95, 105, 109, 112, 111, 114, 116, 108, 105, 98, 95, 101, 120, 116, 101, 114, 110, 97, 108, 46, 95, 76, 111, 97, 100, 101, 114, 66, 97, 115, 105, 99, 115, 46, 108, 111, 97, 100, 95, 109, 111, 100, 117, 108, 101, 35, 111, 112, 97, 113, 117, 101, 6, 201, 21, 95, 95, 115, 116, 97, 116, 105, 99, 95, 97, 116, 116, 114, 105, 98, 117, 116, 101, 115, 95, 95, 4, 0, 0, 17, 6, 203, 8, 95, 95, 100, 105, 99, 116, 95, 95, 4, 0, 0, 18, 6, 205, 11, 95, 95, 119, 101, 97, 107, 114, 101, 102, 95, 95, 4, 0, 0, 19]⟩ 0, Value.bool true, Value.bool true, Value.str ⟨#[]⟩ 206, Value.int 21 0, Value.str ⟨#[6, 213, 10, 95, 95, 109, 111, 100, 117, 108, 101, 95, 95, 6, 209, 26, 95, 102, 114, 111, 122, 101, 110, 95, 105, 109, 112, 111, 114, 116, 108, 105, 98, 95, 101, 120, 116, 101, 114, 110, 97, 108, 6, 214, 15, 95, 95, 102, 105, 114, 115, 116, 108, 105, 110, 101, 110, 111, 95, 95, 4, 210, 0, 1176, 6, 215, 7, 95, 95, 100, 111, 99, 95, 95, 9, 56, 95, 102, 114, 111, 122, 101, 110, 95, 105, 109, 112, 111, 114, 116, 108, 105, 98, 95, 101, 120, 116, 101, 114, 110, 97, 108, 46, 70, 105, 108, 101, 76, 111, 97, 100, 101, 114, 46, 95, 95, 100, 111, 99, 95, 95, 58, 115, 116, 114, 35, 111, 112, 97, 113, 117, 101, 6, 216, 8, 95, 95, 105, 110, 105, 116, 95, 95, 9, 53, 95, 102, 114, 111, 122, 101, 110, 95, 105, 109, 112, 111, 114, 116, 108, 105, 98, 95, 101, 120, 116, 101, 114, 110, 97, 108, 46, 70, 105, 108, 101, 76, 111, 97, 100, 101, 114, 46, 95, 95, 105, 110, 105, 116, 95, 95, 35, 111, 112, 97, 113, 117, 101, 6, 217, 6, 95, 95, 101, 113, 95, 95, 9, 51, 95, 102, 114, 111, 122, 101, 110, 95, 105, 109, 112, 111, 114, 116, 108, 105, 98, 95, 101, 120, 116, 101, 114, 110, 97, 108, 46, 70, 105, 108, 101, 76, 111, 97, 100, 101, 114, 46, 95, 95, 101, 113, 95, 95, 35, 111, 112, 97, 113, 117, 101, 6, 218, 8, 95, 95, 104, 97, 115, 104, 95, 95, 9, 53, 95, 102, 114, 111, 122, 101, 110, 95, 105, 109, 112, 111, 114, 116, 108, 105, 98, 95, 101, 120, 116, 101, 114, 110, 97, 108, 46, 70, 105, 108, 101, 76, 111, 97, 100, 101, 114, 46, 95, 95, 104, 97, 115, 104, 95, 95, 35, 111, 112, 97, 113, 117, 101, 6, 219, 11, 108, 111, 97, 100, 95, 109, 111, 100, 117, 108, 101, 9, 56, 95, 102, 114, 111, 122, 101, 110, 95, 105, 109, 112, 111, 114, 116, 108, 105, 98, 95, 101, 120, 116, 101, 114, 110, 97, 108, 46, 70, 105, 108, 101, 76, 111, 97, 100, 101, 114, 46, 108, 111, 97, 100, 95, 109, 111, 100, 117, 108, 101, 35, 111, 112, 97, 113, 117, 101, 6, 220, 12, 103, 101, 116, 95, 102, 105, 108, 101, 110, 97, 109, 101, 9, 57, 95, 102, 114, 111, 122, 101, 110, 95, 105, 109, 112, 111, 114, 116, 108, 105, 98, 95, 101, 120, 116, 101, 114, 110, 97, 108, 46, 70, 105, 108, 101, 76, 111, 97, 100, 101, 114, 46, 103, 101, 116, 95, 102, 105, 108, 101, 110, 97, 109, 101, 35, 111, 112, 97, 113, 117, 101, 6, 221, 8, 103, 101, 116, 95, 100, 97, 116, 97, 9, 53, 95, 102, 114, 111, 122, 101, 110, 95, 105, 109, 112, 111, 114, 116, 108, 105, 98, 95, 101, 120, 116, 101, 114, 110, 97, 108, 46, 70, 105, 108, 101, 76, 111, 97, 100, 101, 114, 46, 103, 101, 116, 95, 100, 97, 116, 97, 35, 111, 112, 97, 113, 117, 101, 6, 222, 19, 103, 101, 116, 95, 114, 101, 115, 111, 117, 114, 99, 101, 95, 114, 101, 97, 100, 101, 114, 9, 64, 95, 102, 114, 111, 122, 101, 110, 95, 105, 109, 112, 111, 114, 116, 108, 105, 98, 95, 101, 120, 116, 101, 114, 110, 97, 108, 46, 70, 105, 108, 101, 76, 111, 97, 100, 101, 114, 46, 103, 101, 116, 95, 114, 101, 115, 111, 117, 114, 99, 101, 95, 114, 101, 97, 100, 101, 114, 35, 111, 112, 97, 113, 117, 101, 6, 223, 21, 95, 95, 115, 116, 97, 116, 105, 99, 95, 97, 116, 116, 114, 105, 98, 117, 116, 101, 115, 95, 95, 4, 0, 0, 23, 6, 225, 8, 95, 95, 100, 105, 99, 116, 95, 95, 4, 0, 0, 24, 6, 227, 11, 95, 95, 119, 101, 97, 107, 114, 101, 102, 95, 95, 4, 0, 0, 25]⟩ 0, Value.bool true, Value.bool true, Value.str ⟨#[]⟩ 228, Value.int 26 0, Value.str ⟨#[6, 234, 10, 95, 95, 109, 111, 100, 117, 108, 101, 95, 95, 6, 230, 26, 95, 102, 114, 111, 122, 101, 110, 95, 105, 109, 112, 111, 114, 116, 108, 105, 98, 95, 101, 120, 116, 101, 114, 110, 97, 108, 6, 235, 15, 95, 95, 102, 105, 114, 115, 116, 108, 105, 110, 101, 110, 111, 95, 95, 4, 231, 0, 1296, 6, 236, 7, 95, 95, 100, 111, 99, 95, 95, 9, 65, 95, 102, 114, 111, 122, 101, 110, 95, 105, 109, 112, 111, 114, 116, 108, 105, 98, 95, 101, 120, 116, 101, 114, 110, 97, 108, 46, 69, 120, 116, 101, 110, 115, 105, 111, 110, 70, 105, 108, 101, 76, 111, 97, 100, 101, 114, 46, 95, 95, 100, 111, 99, 95, 95, 58, 115, 116, 114, 35, 111, 112, 97, 113, 117, 101, 6, 237, 8, 95, 95, 105, 110, 105, 116, 95, 95, 9, 62, 95, 102, 114, 111, 122, 101, 110, 95, 105, 109, 112, 111, 114, 116, 108, 105, 98, 95, 101, 120, 116, 101, 114, 110, 97, 108, 46, 69, 120, 116, 101, 110, 115, 105, 111, 110, 70, 105, 108, 101, 76, 111, 97, 100, 101, 114, 46, 95, 95, 105, 110, 105, 116, 95, 95, 35, 111, 112, 97, 113, 117, 101, 6, 238, 6, 95, 95, 101, 113, 95, 95, 9, 60, 95, 102, 114, 111, 122, 101, 110, 95, 105, 109, 112, 111, 114, 116, 108, 105, 98, 95, 101, 120, 116, 101, 114, 110, 97, 108, 46, 69, 120, 116, 101, 110, 115, 105, 111, 110, 70, 105, 108, 101, 76, 111, 97, 100, 101, 114, 46, 95, 95, 101, 113, 95, 95, 35, 111, 112, 97, 113, 117, 101, 6, 239, 8, 95, 95, 104, 97, 115, 104, 95, 95, 9, 62, 95, 102, 114, 111, 122, 101, 110, 95, 105, 109, 112, 111, 114, 116, 108, 105, 98, 95, 101, 120, 116, 101, 114, 110, 97, 108, 46, 69, 120, 116, 101, 110, 115, 105, 111, 110, 70, 105, 108, 101, 76, 111, 97, 100, 101, 114, 46, 95, 95, 104, 97, 115, 104, 95, 95, 35, 111, 112, 97, 113, 117, 101, 6, 240, 13, 99, 114, 101, 97, 116, 101, 95, 109, 111, 100, 117, 108, 101, 9, 67, 95, 102, 114, 111, 122, 101, 110, 95, 105, 109, 112, 111, 114, 116, 108, 105, 98, 95, 101, 120, 116, 101, 114, 110, 97, 108, 46, 69, 120, 116, 101, 110, 115, 105, 111, 110, 70, 105, 108, 101, 76, 111, 97, 100, 101, 114, 46, 99, 114, 101, 97, 116, 101, 95, 109, 111, 100, 117, 108, 101, 35, 111, 112, 97, 113, 117, 101, 6, 241, 11, 101, 120, 101, 99, 95, 109, 111, 100, 117, 108, 101, 9, 65, 95, 102, 114, 111, 122, 101, 110, 95, 105, 109, 112, 111, 114, 116, 108, 105, 98, 95, 101, 120, 116, 101, 114, 110, 97, 108, 46, 69, 120, 116, 101, 110, 115, 105, 111, 110, 70, 105, 108, 101, 76, 111, 97, 100, 101, 114, 46, 101, 120, 101, 99, 95, 109, 111, 100, 117, 108, 101, 35, 111, 112, 97, 113, 117, 101, 6, 242, 10, 105, 115, 95, 112, 97, 99, 107, 97, 103, 101, 9, 64, 95, 102, 114, 111, 122, 101, 110, 95, 105, 109, 112, 111, 114, 116, 108, 105, 98, 95, 101, 120, 116, 101, 114, 110, 97, 108, 46, 69, 120, 116, 101, 110, 115, 105, 111, 110, 70, 105, 108, 101, 76, 111, 97, 100, 101, 114, 46, 105, 115, 95, 112, 97, 99, 107, 97, 103, 101, 35, 111, 112, 97, 113, 117, 101, 6, 243, 8, 103, 101, 116, 95, 99, 111, 100, 101, 9, 62, 95, 102, 114, 111, 122, 101, 110, 95, 105, 109, 112, 111, 114, 116, 108, 105, 98, 95, 101, 120, 116, 101, 114, 110, 97, 108, 46, 69, 120, 116, 101, 110, 115, 105, 111, 110, 70, 105, 108, 101, 76, 111, 97, 100, 101, 114, 46, 103, 101, 116, 95, 99, 111, 100, 101, 35, 111, 112, 97, 113, 117, 101, 6, 244, 10, 103, 101, 116, 95, 115, 111, 117, 114, 99, 101, 9, 64, 95, 102, 114, 111, 122, 101, 110, 95, 105, 109, 112, 111, 114, 116, 108, 105, 98, 95, 101, 120, 116, 101, 114, 110, 97, 108, 46, 69, 120, 116, 101, 110, 115, 105, 111, 110, 70, 105, 108, 101, 76, 111, 97, 100, 101, 114, 46, 103, 101, 116, 95, 115, 111, 117, 114, 99, 101, 35, 111, 112, 97, 113, 117, 101, 6, 245, 12, 103, 101, 116, 95, 102, 105, 108, 101, 110, 97, 109, 101, 9, 66, 95, 102, 114, 111, 122, 101, 110, 95, 105, 109, 112, 111, 114, 116, 108, 105, 98, 95, 101, 120, 116, 101, 114, 110, 97, 108, 46, 69, 120, 116, 101, 110, 115, 105, 111, 110, 70, 105, 108, 101, 76, 111, 97, 100, 101, 114, 46, 103, 101, 116, 95, 102, 105, 108, 101, 110, 97, 109, 101, 35, 111, 112, 97, 113, 117, 101, 6, 246, 21, 95, 95, 115, 116, 97, 116, 105, 99, 95, 97, 116, 116, 114, 105, 98, 117, 116, 101, 115, 95, 95, 4, 0, 0, 28]⟩ 0, Value.bool true, Value.bool true, Value.str ⟨#[]⟩ 247, Value.int 32 0, Value.str ⟨#[6, 268, 10, 95, 95, 109, 111, 100, 117, 108, 101, 95, 95, 6, 258, 17, 95, 102, 114, 111, 122, 101, 110, 95, 105, 109, 112, 111, 114, 116, 108, 105, 98, 6, 269, 15, 95, 95, 102, 105, 114, 115, 116, 108, 105, 110, 101, 110, 111, 95, 95, 4, 259, 0, 562, 6, 270, 7, 95, 95, 100, 111, 99, 95, 95, 9, 47, 95, 102, 114, 111, 122, 101, 110, 95, 105, 109, 112, 111, 114, 116, 108, 105, 98, 46, 77, 111, 100, 117, 108, 101, 83, 112, 101, 99, 46, 95, 95, 100, 111, 99, 95, 95, 58, 115, 116, 114, 35, 111, 112, 97, 113, 117, 101, 6, 271, 8, 95, 95, 105, 110, 105, 116, 95, 95, 9, 44, 95, 102, 114, 111, 122, 101, 110, 95, 105, 109, 112, 111, 114, 116, 108, 105, 98, 46, 77, 111, 100, 117, 108, 101, 83, 112, 101, 99, 46, 95, 95, 105, 110, 105, 116, 95, 95, 35, 111, 112, 97, 113, 117, 101, 6, 272, 8, 95, 95, 114, 101, 112, 114, 95, 95, 9, 44, 95, 102, 114, 111, 122, 101, 110, 95, 105, 109, 112, 111, 114, 116, 108, 105, 98, 46, 77, 111, 100, 117, 108, 101, 83, 112, 101, 99, 46, 95, 95, 114, 101, 112, 114, 95, 95, 35, 111, 112, 97, 113, 117, 101, 6, 273, 6, 95, 95, 101, 113, 95, 95, 9, 42, 95, 102, 114, 111, 122, 101, 110, 95, 105, 109, 112, 111, 114, 116, 108, 105, 98, 46, 77, 111, 100, 117, 108, 101, 83, 112, 101, 99, 46, 95, 95, 101, 113, 95, 95, 35, 111, 112, 97, 113, 117, 101, 6, 274, 6, 99, 97, 99, 104, 101, 100, 9, 42, 95, 102, 114, 111, 122, 101, 110, 95, 105, 109, 112, 111, 114, 116, 108, 105, 98, 46, 77, 111, 100, 117, 108, 101, 83, 112, 101, 99, 46, 99, 97, 99, 104, 101, 100, 35, 111, 112, 97, 113, 117, 101, 6, 275, 6, 112, 97, 114, 101, 110, 116, 9, 42, 95, 102, 114, 111, 122, 101, 110, 95, 105, 109, 112, 111, 114, 116, 108, 105, 98, 46, 77, 111, 100, 117, 108, 101, 83, 112, 101, 99, 46, 112, 97, 114, 101, 110, 116, 35, 111, 112, 97, 113, 117, 101, 6, 276, 12, 104, 97, 115, 95, 108, 111, 99, 97, 116, 105, 111, 110, 9, 48, 95, 102, 114, 111, 122, 101, 110, 95, 105, 109, 112, 111, 114, 116, 108, 105, 98, 46, 77, 111, 100, 117, 108, 101, 83, 112, 101, 99, 46, 104, 97, 115, 95, 108, 111, 99, 97, 116, 105, 111, 110, 35, 111, 112, 97, 113, 117, 101, 6, 277, 21, 95, 95, 115, 116, 97, 116, 105, 99, 95, 97, 116, 116, 114, 105, 98, 117, 116, 101, 115, 95, 95, 4, 0, 0, 34, 6, 279, 8, 95, 95, 100, 105, 99, 116, 95, 95, 4, 0, 0, 35, 6, 281, 11, 95, 95, 119, 101, 97, 107, 114, 101, 102, 95, 95, 4, 0, 0, 36, 6, 282, 8, 95, 95, 104, 97, 115, 104, 95, 95, 0]⟩ 0, Value.bool true, Value.bool true, Value.str ⟨#[]⟩ 283] 3 }
noncomputable def h0_21 (P : Params) : Obj := { cls := Value.type "dict", data := Data.dict #[{ hash := PyData.keyHash P (ofs "__module__"), key := Value.str (ofs "__module__") 213, val := Value.str (ofs "_frozen_importlib_external") 209 }, { hash := PyData.keyHash P (ofs "__firstlineno__"), key := Value.str (ofs "__firstlineno__") 214, val := Value.int 1176 210 }, { hash := PyData.keyHash P (ofs "__doc__"), key := Value.str (ofs "__doc__") 215, val := Value.builtin "_frozen_importlib_external.FileLoader.__doc__:str#opaque" }, { hash := PyData.keyHash P (ofs "__init__"), key := Value.str (ofs "__init__") 216, val := Value.builtin "_frozen_importlib_external.FileLoader.__init__#opaque" }, { hash := PyData.keyHash P (ofs "__eq__"), key := Value.str (ofs "__eq__") 217, val := Value.builtin "_frozen_importlib_external.FileLoader.__eq__#opaque" }, { hash := PyData.keyHash P (ofs "__hash__"), key := Value.str (ofs "__hash__") 218, val := Value.builtin "_frozen_importlib_external.FileLoader.__hash__#opaque" }, { hash := PyData.keyHash P (ofs "load_module"), key := Value.str (ofs "load_module") 219, val := Value.builtin "_frozen_importlib_external.FileLoader.load_module#opaque" }, { hash := PyData.keyHash P (ofs "get_filename"), key := Value.str (ofs "get_filename") 220, val := Value.builtin "_frozen_importlib_external.FileLoader.get_filename#opaque" }, { hash := PyData.keyHash P (ofs "get_data"), key := Value.str (ofs "get_data") 221, val := Value.builtin "_frozen_importlib_external.FileLoader.get_data#opaque" }, { hash := PyData.keyHash P (ofs "get_resource_reader"), key := Value.str (ofs "get_resource_reader") 222, val := Value.builtin "_frozen_importlib_external.FileLoader.get_resource_reader#opaque" }, { hash := PyData.keyHash P (ofs "__static_attributes__"), key := Value.str (ofs "__static_attributes__") 223, val := Value.ref 23 }, { hash := PyData.keyHash P (ofs "__dict__"), key := Value.str (ofs "__dict__") 225, val := Value.ref 24 }, { hash := PyData.keyHash P (ofs "__weakref__"), key := Value.str (ofs "__weakref__") 227, val := Value.ref 25 }] 13 }
noncomputable def h0_22 (P : Params) : Obj := { cls := Value.type "type", data := Data.cls { name := ofs "FileLoader", bases := [Value.type "object"], mro := [Value.ref 22, Value.type "object"], ns := 21, qualname := ofs "FileLoader", subclasses := [Value.ref 27] } }
noncomputable def h0_23 (P : Params) : Obj := { cls := Value.type "tuple", data := Data.seq #[Value.str (ofs "name") 211, Value.str (ofs "path") 212] }
noncomputable def h0_24 (P : Params) : Obj := { cls := Value.type "getset_descriptor", data := Data.fields #[Value.str (ofs "__dict__") 224, Value.ref 22, Value.builtin "function.__dict__", Value.builtin "function.__dict__#set"] }
noncomputable def h0_25 (P : Params) : Obj := { cls := Value.type "getset_descriptor", data := Data.fields #[Value.str (ofs "__weakref__") 226, Value.ref 22, Value.builtin "ExceptionGroup.__weakref__", Value.none] }
noncomputable def h0_26 (P : Params) : Obj := { cls := Value.type "dict", data := Data.dict #[{ hash := PyData.keyHash P (ofs "__module__"), key := Value.str (ofs "__module__") 234, val := Value.str (ofs "_frozen_importlib_external") 230 }, { hash := PyData.keyHash P (ofs "__firstlineno__"), key := Value.str (ofs "__firstlineno__") 235, val := Value.int 1296 231 }, { hash := PyData.keyHash P (ofs "__doc__"), key := Value.str (ofs "__doc__") 236, val := Value.builtin "_frozen_importlib_external.ExtensionFileLoader.__doc__:str#opaque" }, { hash := PyData.keyHash P (ofs "__init__"), key := Value.str (ofs "__init__") 237, val := Value.builtin "_frozen_importlib_external.ExtensionFileLoader.__init__#opaque" }, { hash := PyData.keyHash P (ofs "__eq__"), key := Value.str (ofs "__eq__") 238, val := Value.builtin "_frozen_importlib_external.ExtensionFileLoader.__eq__#opaque" }, { hash := PyData.keyHash P (ofs "__hash__"), key := Value.str (ofs "__hash__") 239, val := Value.builtin "_frozen_importlib_external.ExtensionFileLoader.__hash__#opaque" }, { hash := PyData.keyHash P (ofs "create_module"), key := Value.str (ofs "create_module") 240, val := Value.builtin "_frozen_importlib_external.ExtensionFileLoader.create_module#opaque" }, { hash := PyData.keyHash P (ofs "exec_module"), key := Value.str (ofs "exec_module") 241, val := Value.builtin "_frozen_importlib_external.ExtensionFileLoader.exec_module#opaque" }, { hash := PyData.keyHash P (ofs "is_package"), key := Value.str (ofs "is_package") 242, val := Value.builtin "_frozen_importlib_external.ExtensionFileLoader.is_package#opaque" }, { hash := PyData.keyHash P (ofs "get_code"), key := Value.str (ofs "get_code") 243, val := Value.builtin "_frozen_importlib_external.ExtensionFileLoader.get_code#opaque" }, { hash := PyData.keyHash P (ofs "get_source"), key := Value.str (ofs "get_source") 244, val := Value.builtin "_frozen_importlib_external.ExtensionFileLoader.get_source#opaque" }, { hash := PyData.keyHash P (ofs "get_filename"), key := Value.str (ofs "get_filename") 245, val := Value.builtin "_frozen_importlib_external.ExtensionFileLoader.get_filename#opaque" }, { hash := PyData.keyHash P (ofs "__static_attributes__"), key := Value.str (ofs "__static_attributes__") 246, val := Value.ref 28 }] 13 }
noncomputable def h0_27 (P : Params) : Obj := { cls := Value.type "type", data := Data.cls { name := ofs "ExtensionFileLoader", bases := [Value.ref 22, Value.ref 16], mro := [Value.ref 27, Value.ref 22, Value.ref 16, Value.type "object"], ns := 26, qualname := ofs "ExtensionFileLoader" } }
noncomputable def h0_28 (P : Params) : Obj := { cls := Value.type "tuple", data := Data.seq #[Value.str (ofs "name") 232, Value.str (ofs "path") 233] }
noncomputable def h0_29 (P : Params) : Obj := { cls := Value.ref 27, dict := some 14 }
noncomputable def h0_30 (P : Params) : Obj := { cls := Value.type "list", data := Data.seq #[] }
noncomputable def h0_31 (P : Params) : Obj := { cls := Value.type "dict", data := Data.dict #[{ hash := PyData.keyHash P (ofs "name"), key := Value.str (ofs "name") 249, val := Value.str (ofs "_struct") 248 }, { hash := PyData.keyHash P (ofs "loader"), key := Value.str (ofs "loader") 250, val := Value.ref 29 }, { hash := PyData.keyHash P (ofs "origin"), key := Value.str (ofs "origin") 251, val := Value.str (ofs "/nix/store/wj1f56qky4pmjc7l0r6b6l7whnnw7hp6-python3-3.13.15/lib/python3.13/lib-dynload/_struct.cpython-313-x86_64-linux-gnu.so") 187 }, { hash := PyData.keyHash P (ofs "loader_state"), key := Value.str (ofs "loader_state") 252, val := Value.none }, { hash := PyData.keyHash P (ofs "submodule_search_locations"), key := Value.str (ofs "submodule_search_locations") 253, val := Value.none }, { hash := PyData.keyHash P (ofs "_uninitialized_submodules"), key := Value.str (ofs "_uninitialized_submodules") 254, val := Value.ref 30 }, { hash := PyData.keyHash P (ofs "_set_fileattr"), key := Value.str (ofs "_set_fileattr") 255, val := Value.bool true }, { hash := PyData.keyHash P (ofs "_cached"), key := Value.str (ofs "_cached") 256, val := Value.none }, { hash := PyData.keyHash P (ofs "_initializing"), key := Value.str (ofs "_initializing") 284, val := Value.bool false }] 9 }
noncomputable def h0_32 (P : Params) : Obj := { cls := Value.type "dict", data := Data.dict #[{ hash := PyData.keyHash P (ofs "__module__"), key := Value.str (ofs "__module__") 268, val := Value.str (ofs "_frozen_importlib") 258 }, { hash := PyData.keyHash P (ofs "__firstlineno__"), key := Value.str (ofs "__firstlineno__") 269, val := Value.int 562 259 }, { hash := PyData.keyHash P (ofs "__doc__"), key := Value.str (ofs "__doc__") 270, val := Value.builtin "_frozen_importlib.ModuleSpec.__doc__:str#opaque" }, { hash := PyData.keyHash P (ofs "__init__"), key := Value.str (ofs "__init__") 271, val := Value.builtin "_frozen_importlib.ModuleSpec.__init__#opaque" }, { hash := PyData.keyHash P (ofs "__repr__"), key := Value.str (ofs "__repr__") 272, val := Value.builtin "_frozen_importlib.ModuleSpec.__repr__#opaque" }, { hash := PyData.keyHash P (ofs "__eq__"), key := Value.str (ofs "__eq__") 273, val := Value.builtin "_frozen_importlib.ModuleSpec.__eq__#opaque" }, { hash := PyData.keyHash P (ofs "cached"), key := Value.str (ofs "cached") 274, val := Value.builtin "_frozen_importlib.ModuleSpec.cached#opaque" }, { hash := PyData.keyHash P (ofs "parent"), key := Value.str (ofs "parent") 275, val := Value.builtin "_frozen_importlib.ModuleSpec.parent#opaque" }, { hash := PyData.keyHash P (ofs "has_location"), key := Value.str (ofs "has_location") 276, val := Value.builtin "_frozen_importlib.ModuleSpec.has_location#opaque" }, { hash := PyData.keyHash P (ofs "__static_attributes__"), key := Value.str (ofs "__static_attributes__") 277, val := Value.ref 34 }, { hash := PyData.keyHash P (ofs "__dict__"), key := Value.str (ofs "__dict__") 279, val := Value.ref 35 }, { hash := PyData.keyHash P (ofs "__weakref__"), key := Value.str (ofs "__weakref__") 281, val := Value.ref 36 }, { hash := PyData.keyHash P (ofs "__hash__"), key := Value.str (ofs "__hash__") 282, val := Value.none }] 13 }
noncomputable def h0_33 (P : Params) : Obj := { cls := Value.type "type", data := Data.cls { name := ofs "ModuleSpec", bases := [Value.type "object"], mro := [Value.ref 33, Value.type "object"], ns := 32, qualname := ofs "ModuleSpec" } }
noncomputable def h0_34 (P : Params) : Obj := { cls := Value.type "tuple", data := Data.seq #[Value.str (ofs "_cached") 260, Value.str (ofs "_set_fileattr") 261, Value.str (ofs "_uninitialized_submodules") 262, Value.str (ofs "loader") 263, Value.str (ofs "loader_state") 264, Value.str (ofs "name") 265, Value.str (ofs "origin") 266, Value.str (ofs "submodule_search_locations") 267] }
noncomputable def h0_35 (P : Params) : Obj := { cls := Value.type "getset_descriptor", data := Data.fields #[Value.str (ofs "__dict__") 278, Value.ref 33, Value.builtin "function.__dict__", Value.builtin "function.__dict__#set"] }
noncomputable def h0_36 (P : Params) : Obj := { cls := Value.type "getset_descriptor", data := Data.fields #[Value.str (ofs "__weakref__") 280, Value.ref 33, Value.builtin "ExceptionGroup.__weakref__", Value.none] }
noncomputable def h0_37 (P : Params) : Obj := { cls := Value.ref 33, dict := some 31 }
noncomputable def h0_38 (P : Params) : Obj := { cls := Value.none, data := Data.seq #[Value.int 12 0, Value.str ⟨#[6, 288, 8, 95, 95, 110, 97, 109, 101, 95, 95, 6, 287, 7, 95, 115, 116, 114, 117, 99, 116, 6, 289, 7, 95, 95, 100, 111, 99, 95, 95, 9, 26, 95, 115, 116, 114, 117, 99, 116, 46, 95, 95, 100, 111, 99, 95, 95, 58, 115, 116, 114, 35, 111, 112, 97, 113, 117, 101, 6, 291, 11, 95, 95, 112, 97, 99, 107, 97, 103, 101, 95, 95, 6, 290, 0, 6, 292, 10, 95, 95, 108, 111, 97, 100, 101, 114, 95, 95, 4, 0, 0, 29, 6, 293, 8, 95, 95, 115, 112, 101, 99, 95, 95, 4, 0, 0, 37, 6, 294, 11, 95, 99, 108, 101, 97, 114, 99, 97, 99, 104, 101, 9, 19, 95, 115, 116, 114, 117, 99, 116, 46, 95, 99, 108, 101, 97, 114, 99, 97, 99, 104, 101, 6, 295, 8, 99, 97, 108, 99, 115, 105, 122, 101, 9, 16, 95, 115, 116, 114, 117, 99, 116, 46, 99, 97, 108, 99, 115, 105, 122, 101, 6, 296, 11, 105, 116, 101, 114, 95, 117, 110, 112, 97, 99, 107, 9, 19, 95, 115, 116, 114, 117, 99, 116, 46, 105, 116, 101, 114, 95, 117, 110, 112, 97, 99, 107, 6, 297, 4, 112, 97, 99, 107, 9, 12, 95, 115, 116, 114, 117, 99, 116, 46, 112, 97, 99, 107, 6, 298, 9, 112, 97, 99, 107, 95, 105, 110, 116, 111, 9, 17, 95, 115, 116, 114, 117, 99, 116, 46, 112, 97, 99, 107, 95, 105, 110, 116, 111, 6, 299, 6, 117, 110, 112, 97, 99, 107, 9, 14, 95, 115, 116, 114, 117, 99, 116, 46, 117, 110, 112, 97, 99, 107, 6, 300, 11, 117, 110, 112, 97, 99, 107, 95, 102, 114, 111, 109, 9, 19, 95, 115, 116, 114, 117, 99, 116, 46, 117, 110, 112, 97, 99, 107, 95, 102, 114, 111, 109, 6, 301, 8, 95, 95, 102, 105, 108, 101, 95, 95, 6, 187, 126, 47, 110, 105, 120, 47, 115, 116, 111, 114, 101, 47, 119, 106, 49, 102, 53, 54, 113, 107, 121, 52, 112, 109, 106, 99, 55, 108, 48, 114, 54, 98, 54, 108, 55, 119, 104, 110, 110, 119, 55, 104, 112, 54, 45, 112, 121, 116, 104, 111, 110, 51, 45, 51, 46, 49, 51, 46, 49, 53, 47, 108, 105, 98, 47, 112, 121, 116, 104, 111, 110, 51, 46, 49, 51, 47, 108, 105, 98, 45, 100, 121, 110, 108, 111, 97, 100, 47, 95, 115, 116, 114, 117, 99, 116, 46, 99, 112, 121, 116, 104, 111, 110, 45, 51, 49, 51, 45, 120, 56, 54, 95, 54, 52, 45, 108, 105, 110, 117, 120, 45, 103, 110, 117, 46, 115, 111, 6, 302, 6, 83, 116, 114, 117, 99, 116, 8, 14, 95, 115, 116, 114, 117, 99, 116, 46, 83, 116, 114, 117, 99, 116, 6, 304, 5, 101, 114, 114, 111, 114, 8, 12, 115, 116, 114, 117, 99, 116, 46, 101, 114, 114, 111, 114]⟩ 0, Value.bool true, Value.bool false, Value.str ⟨#[95, 115, 116, 114, 117, 99, 116]⟩ 306] }
noncomputable def H0 (P : Params) : Heap := { objs := #[h0_0 P, h0_1 P, h0_2 P, h0_3 P, h0_4 P, h0_5 P, h0_6 P, h0_7 P, h0_8 P, h0_9 P, h0_10 P, h0_11 P, h0_12 P, h0_13 P, h0_14 P, h0_15 P, h0_16 P, h0_17 P, h0_18 P, h0_19 P, h0_20 P, h0_21 P, h0_22 P, h0_23 P, h0_24 P, h0_25 P, h0_26 P, h0_27 P, h0_28 P, h0_29 P, h0_30 P, h0_31 P, h0_32 P, h0_33 P, h0_34 P, h0_35 P, h0_36 P, h0_37 P, h0_38 P], life := {} }

abbrev rowProg : Program := PySem.Challenge.rw_ke0005_01.row.prog
theorem h0_abs : ∀ w : World, absHeap (treeOf (H0 w.params).objs.toList 0 .nil) 39 {} = H0 w.params := by intro w; kernel_rfl
theorem h0_size : ∀ w : World, ((H0 w.params).isNs mainGlobals && (#[] : Array GenState).size == 0, (H0 w.params).objs.size, (H0 w.params).nsMap mainGlobals "__annotations__") = (true, 39, some (.ref 6)) := by intro w; kernel_rfl
end Mine
end
section
open PySem PySem.W PyProof.Rows
set_option maxRecDepth 100000
namespace Mine
set_option maxHeartbeats 8000000 in
theorem h0_open : ∀ w : World, (fencedOpening treeTable rowProg w 7494).map (fun s => (s.heap, s.gens, s.drawn, s.toks)) = some (H0 w.params, (#[] : Array GenState), ({} : Drawn), 317) := opening_lazy (by intro w; kernel_rfl)
end Mine
end
section
open PySem PySem.W PyProof.Rows
set_option maxRecDepth 100000
namespace Mine
theorem abs_mk {t : BT} {n : Nat} {life : Life} {gens : Array GenState} {drawn : Drawn} {toks : Nat} {os : OsState} {H : Heap} (h : absHeap t n life = H) : (SharedT.mk t n life gens drawn toks os).abs = ⟨H, gens, drawn, toks, os⟩ := by subst h; rfl
noncomputable def T0 (w : World) (os : OsState) : SharedT := ⟨treeOf (H0 w.params).objs.toList 0 .nil, 39, {}, #[], {}, 317, os⟩
theorem t0_abs (w : World) (os : OsState) : (T0 w os).abs = ⟨H0 w.params, #[], {}, 317, os⟩ := abs_mk (h0_abs w)
set_option maxHeartbeats 8000000 in
def hd1 := curry hd (left_lazy (ann := some (.ref 6)) (m₀ := 39) T0 h0_open h0_size t0_abs (by intro w os; kernel_rfl))
end Mine
end
section
open PySem PySem.W PyProof.Rows PySem.Calls
set_option maxRecDepth 100000
namespace Mine
open Sem (wp)

section
variable {prog : Program} {w : World} {A : Around} {E : Value → Shared → Prop} {s : Shared} {env : Env}

theorem codeP_func {body : List Stmt} {R : Result → Shared → Prop}
    (h : wpP (model prog w) (A.deeper env) (execs body env) (fun f s' => R (.ok (.ret (match f with | .ret v => v | _ => .none))) s') (fun _ _ => False) s) : codeP (model prog w) A (.func body env) R s := by
  refine codeP_of_tree ?_
  show wpP _ (A.deeper env) (do point; match ← (execs body env).onRaise (leaving env) with | .ret v => ret v | _ => ret .none) _ _ s
  refine wpP_bind (wpP_of_any (wpAny_point ?_))
  refine wpP_bind (wpP_onRaise (wpP_mono h (fun f s' hf => ?_) fun _ _ x => x.elim))
  cases f <;> exact wpP_pure hf

theorem codeP_call_function {a : Addr} {args : Args} {o : Obj} {fd : FuncData} {body : List Stmt} {R : Result → Shared → Prop} (hroom : A.depth < recursionLimit)
    (ho : s.heap.get? a = some o)
    (hd' : o.data = .func fd) (hco : fd.scope.isCoroutine = false) (hgen : fd.scope.isGenerator = false) (hbody : fd.body = .stmts body) (hcd : s.heap.CodeRec fd.code fd.qualname)
    (h : wpAny (model prog w) A.in1 (bindArgs fd args) (fun binds s₁ =>
      wpAny (model prog w) A.in1 (newFunctionEnv fd.scope fd.globals fd.closure binds (fd.qualname ++ ".<locals>.") (some a) fd.code none fd.builtins)
        (fun env s₂ => s₂.heap.NoLimit ∧ codeP (model prog w) A (.func body env) R s₂) (fun e s' => R (.error e) s') s₁) (fun e s' => R (.error e) s') s) :
    codeP (model prog w) A (.call (.ref a) args) R s := by
  refine codeP_of_tree ?_
  show wpP _ A.in1 (callAny (.ref a) args) _ _ s
  simp only [callAny]
  refine wpP_bind (wpP_of_any (wpAny_load ho ?_))
  obtain ⟨c, oc, vs, tq, hc, hoc, hdc, hq⟩ := hcd
  simp only [hd', callFunction, hco, hgen, hbody, hc]
  rw [hc] at h
  refine wpP_bind (m := field (.ref c) 1) (wpP_of_any (wpAny_field hoc hdc hq ?_))
  refine wpP_bind (wpP_pure ?_)
  refine wpP_bind (wpP_of_any (wpAny_mono h (fun binds s₁ h₁ => ?_) fun _ _ h' => h'))
  refine wpP_bind (wpP_of_any (wpAny_mono h₁ (fun env s₂ h₂ => ?_) fun _ _ h' => h'))
  exact wpP_bind (wpP_of_any (wpAny_enterFrame h₂.1 hroom (wpP_pure ⟨rfl, rfl, h₂.2⟩)))

theorem wp_execs_append {M : Model} {Γ : Ctx} {l₂ : List Stmt} {Q : Flow → Pos → Shared → Prop} {X : Value → Pos → Shared → Prop} : ∀ (l₁ : List Stmt) (p : Pos) (s : Shared),
    wp M Γ (execs l₁ env) (fun f p' s' => match f with | .next => wp M Γ (execs l₂ env) Q X p' s' | f => Q f p' s') X p s → wp M Γ (execs (l₁ ++ l₂) env) Q X p s
  | [], _, _, h => h
  | a :: l, p, s, h => by
    have h2 : wp M Γ (exec a env >>= fun f => match f with | .next => execs l env | f => pure f) _ X p s := h
    show wp M Γ (exec a env >>= fun f => match f with | .next => execs (l ++ l₂) env | f => pure f) Q X p s
    rw [Sem.wp_bind'] at h2 ⊢
    refine Sem.wp_mono M Γ _ (fun f p' s' h3 => ?_) (fun _ _ _ x => x) p s h2
    cases f with
    | next => exact wp_execs_append l p' s' h3
    | brk => exact h3
    | cont => exact h3
    | ret v => exact h3

theorem wpP_execs_append {l₁ l₂ : List Stmt} {Q : Flow → Shared → Prop} (h : wpP (model prog w) A (execs l₁ env) (fun f s' => match f with | .next => wpP (model prog w) A (execs l₂ env) Q E s' | f => Q f s') E s) :
    wpP (model prog w) A (execs (l₁ ++ l₂) env) Q E s := fun Γ p hΓ hc =>
  wp_execs_append l₁ p s (Sem.wp_mono _ Γ _ (fun f p' s' h3 => by
    cases f with
    | next => exact h3 Γ p' hΓ hc
    | brk => exact h3
    | cont => exact h3
    | ret v => exact h3) (fun _ _ _ x => x) p s (h Γ p hΓ hc))

theorem wpP_execs_cons {a : Stmt} {l : List Stmt} {Q : Flow → Shared → Prop} (h : wpP (model prog w) A (exec a env) (fun f s' => match f with | .next => wpP (model prog w) A (execs l env) Q E s' | f => Q f s') E s) :
    wpP (model prog w) A (execs (a :: l) env) Q E s := by
  show wpP _ _ (exec a env >>= fun f => match f with | .next => execs l env | f => pure f) Q E s
  refine wpP_bind (wpP_mono h (fun f s' h3 => ?_) fun _ _ x => x)
  cases f with
  | next => exact h3
  | brk => exact wpP_pure h3
  | cont => exact wpP_pure h3
  | ret v => exact wpP_pure h3

theorem wpAny_execs_append {l₁ l₂ : List Stmt} {Q : Flow → Shared → Prop} (h : wpAny (model prog w) A (execs l₁ env) (fun f s' => match f with | .next => wpAny (model prog w) A (execs l₂ env) Q E s' | f => Q f s') E s) :
    wpAny (model prog w) A (execs (l₁ ++ l₂) env) Q E s := fun Γ p hΓ =>
  wp_execs_append l₁ p s (Sem.wp_mono _ Γ _ (fun f p' s' h3 => by
    cases f with
    | next => exact h3 Γ p' hΓ
    | brk => exact h3
    | cont => exact h3
    | ret v => exact h3) (fun _ _ _ x => x) p s (h Γ p hΓ))

/-- a call by a name: the callee and its arguments, then the call -/
theorem wpP_callWith_fn {pos : Pos} {a : Addr} {o : Obj} {fd : FuncData} {args : List (Bool × Sem Value)} {Q : Value → Shared → Prop} (hplain : args.any (·.1) = false)
    (h : wpAny (model prog w) A (evalArgs (.ref a) true args []) (fun x s₁ => (s₁.heap.get? a = some o ∧ o.data = .func fd) ∧ wpP (model prog w) A (PySem.call (.ref a) x.pos x.kw) Q E s₁) E s) :
    wpP (model prog w) A (callWith pos (.ref a) [] args []) Q E s := by
  unfold callWith
  refine wpP_bind (wpP_holding (wpP_of_any (wpAny_mono h (fun x s₁ h₁ => ?_) fun _ _ x => x)))
  refine wpP_bind (wpP_of_any (wpAny_standAt ?_))
  have tail : ∀ {t : Sem Value}, wpP (model prog w) A t Q E s₁ → wpP (model prog w) A (t >>= fun r => holding [r] point >>= fun _ => pure r) Q E s₁ :=
    fun ht => wpP_bind (wpP_mono ht (fun r s₂ hr => wpP_of_any (wpAny_bind (wpAny_holding (wpAny_point (wpAny_pure hr))))) fun _ _ x => x)
  simp only [hplain, List.any_nil, Bool.or_false]
  refine wpP_bind (m := keeperOf (.ref a)) (wpP_of_any ?_)
  unfold keeperOf
  refine wpAny_bind (wpAny_load h₁.1.1 ?_)
  rw [h₁.1.2]
  refine wpAny_pure ?_
  refine wpP_ite (fun _ => ?_) (fun _ => ?_)
  · exact tail h₁.2
  · exact tail (by unfold callMarked; exact wpP_keep h₁.2)

theorem wpP_callWith_type {pos : Pos} {T : String} {args : List (Bool × Sem Value)} {Q : Value → Shared → Prop} (hplain : args.any (·.1) = false)
    (h : wpAny (model prog w) A (evalArgs (.type T) true args []) (fun a s₁ => wpP (model prog w) A (PySem.call (.type T) a.pos a.kw) Q E s₁) E s) :
    wpP (model prog w) A (callWith pos (.type T) [] args []) Q E s := by
  unfold callWith
  refine wpP_bind (wpP_holding (wpP_of_any (wpAny_mono h (fun a s₁ h₁ => ?_) fun _ _ x => x)))
  refine wpP_bind (wpP_of_any (wpAny_standAt ?_))
  simp only [hplain, List.any_nil, Bool.or_false]
  refine wpP_bind (wpP_of_any (wpAny_pure ?_))
  exact wpP_bind (wpP_mono h₁ (fun r s₂ hr => wpP_of_any (wpAny_bind (wpAny_holding (wpAny_point (wpAny_pure hr))))) fun _ _ x => x)

theorem wpP_eval_call {id : Str} {p pos : Pos} {args : List Expr} {Q : Value → Shared → Prop}
    (h : wpAny (model prog w) A (eval (.Name id p) env) (fun f s₁ => wpP (model prog w) A (callWith pos f [] (backTo pos (starEach args env)) []) Q E s₁) E s) :
    wpP (model prog w) A (eval (.Call (.Name id p) args [] pos) env) Q E s := by
  show wpP _ _ (eval (.Name id p) env >>= fun f => callWith pos f [] (backTo pos (starEach args env)) (backToKw pos (keywordEach [] env))) Q E s
  exact wpP_bind (wpP_of_any h)

theorem wpP_return {e : Expr} {pos : Pos} {Q : Flow → Shared → Prop} (h : wpP (model prog w) A (eval e env) (fun v => Q (.ret v)) E s) : wpP (model prog w) A (exec (.Return (some e) pos) env) Q E s := by
  show wpP _ _ (standAt pos >>= fun _ => eval e env >>= fun x => pure (.ret x)) Q E s
  refine wpP_bind (wpP_of_any (wpAny_standAt ?_))
  exact wpP_bind (wpP_mono h (fun v s' hv => wpP_pure hv) fun _ _ x => x)

theorem wpP_assign {x : Str} {pos' pos : Pos} {value : Expr} {Q : Flow → Shared → Prop} (hs : swapsWith value (some (.Name x pos')) pos.line env = pure false)
    (h : wpP (model prog w) A (eval value env) (fun v s₁ => wpAny (model prog w) A (storeName env x v) (fun _ s₂ => Q .next s₂) E s₁) E s) :
    wpP (model prog w) A (exec (.Assign [.Name x pos'] value pos) env) Q E s := by
  rw [exec_Assign_Name env x pos' value pos hs]
  refine wpP_bind (wpP_of_any (wpAny_standAt ?_))
  refine wpP_bind (wpP_mono h (fun v s' hv => ?_) fun _ _ x => x)
  refine wpP_of_any (wpAny_bind (wpAny_standAt (wpAny_bind (wpAny_bindName (wpAny_mono hv (fun _ _ h' => wpAny_pure h') fun _ _ x => x)))))

/-- «if not f(..): ..» where f hands back True -/
theorem wpP_if_not {c : Expr} {pn pos : Pos} {body orelse : List Stmt} {Q : Flow → Shared → Prop} (hit : isTrue c env (eval c env) = (do let v ← eval c env; standAt c.pos; holding [v] (truthy v)))
    (h : wpP (model prog w) A (eval c env) (fun v s₁ => v = .bool true ∧ wpP (model prog w) A (execs orelse env) Q E s₁) E s) :
    wpP (model prog w) A (exec (.If (.UnaryOp .Not c pn) body orelse pos) env) Q E s := by
  show wpP _ _ (standAt pos >>= fun _ => (isTrue c env (eval c env) >>= fun b => pure (!b)) >>= fun b => if b = true then execs body env else execs orelse env) Q E s
  refine wpP_bind (wpP_of_any (wpAny_standAt ?_))
  refine wpP_bind (wpP_bind ?_)
  rw [hit]
  refine wpP_bind (wpP_mono h (fun v s' hv => ?_) fun _ _ x => x)
  obtain ⟨rfl, hv⟩ := hv
  refine wpP_bind (wpP_of_any (wpAny_standAt ?_))
  refine wpP_holding (wpP_of_any (wpAny_truthy_bool ?_))
  refine wpP_pure ?_
  exact wpP_ite (fun h => absurd h (by decide)) (fun _ => hv)
end
end Mine
end
section
open PySem PySem.W PyProof.Rows PySem.Calls
set_option maxRecDepth 100000
namespace Mine
open Sem (wp)

section
variable {prog : Program} {w : World} {A₀ A : Around} {s : Shared} {base h₀ : Heap} {outer : List Env} {L : Addr} {m : Str → Option Value} {env : Env} {news : List (Addr × Obj)}
  {R : Result → Shared → Prop} {name qual : Str} {params : Arguments} {body : List Stmt} {scope : Scope} {cl : List (Str × Addr)} {dV kV doc pm cdv ct : Value} {an : Option Addr} {fo : Obj} {f : Addr} {args : Args} {binds : List (Str × Value)}

/-- a def with cells, entered on a clean stack -/
theorem codeP_cells (B : Below A₀ base outer h₀) (F : Fr h₀ L s.heap m) (N : News h₀ L s.heap news) (hlim : h₀.NoLimit) (hA : A.frames = some (env :: outer)) (hf : env.frame = some L) (hke : env.scope.kind = .function)
    (ho : s.heap.get? f = some fo) (hd : fo.data = .func (fnX name qual params body scope [] dV kV doc pm an cdv ct)) (hcd : s.heap.CodeRec cdv qual) (hroom : A.depth < recursionLimit)
    (hbind : BindsTo s (fnX name qual params body scope [] dV kV doc pm an cdv ct) args binds)
    (hkind : ∀ n, ∀ x ∈ binds, scope.names.lookup x.1 = some .local ∨ (scope.names.lookup x.1 = some .cell ∧ ((cellsFrom n scope.names []).lookup x.1).isSome = true))
    (hnd : ((cellsFrom 0 scope.names []).map (·.1)).Nodup)
    (h : ∀ g L' h₁ tk cells, Fr h₀ L g m → Fr g L' h₁ (bindL (envOfC qual scope L' f cdv).kindOf binds fun _ => none) → News g L' h₁ (cells ++ news) →
      CellsAre (bindC (envOfC qual scope L' f cdv).kindOf binds fun _ => none) (cellsFrom (L' + 1) scope.names []) cells → Below A base (env :: outer) g → h₀.StaysIn g → (∀ p ∈ news, p.1 < L') →
      wpP (model prog w) (A.deeper (envOfC qual scope L' f cdv)) (execs body (envOfC qual scope L' f cdv))
        (fun fl s' => LeaveK h₀ L m g R (match fl with | .ret v => v | _ => .none) s') (fun _ _ => False) { s with heap := h₁, toks := tk })
    (hco : scope.isCoroutine = false := by rfl) (hgen : scope.isGenerator = false := by rfl) (hk : scope.kind = .function := by rfl) : codeP (model prog w) A (.call (.ref f) args) R s := by
  obtain ⟨FG, BG, st, lv⟩ := groundX (R := R) B F N hA hf hke
  refine codeP_call_function hroom ho hd hco hgen rfl hcd (hbind _ _ _ _ ?_)
  refine wpAny_newFunctionEnv_cells hk (hkind _) fun env' he s' x => ?_
  subst he
  refine ⟨(hlim.keeps F.keep).keeps x.toInCall.keep, codeP_func ?_⟩
  obtain ⟨h₁, tk, rfl, _⟩ := x.done
  have hk₁ := x.toInCall.keep
  obtain ⟨cells, NC, Y⟩ := Cl.news (h₀ := s.heap) (Nat.le_refl _) fun n c hm => ⟨x.cell n c (lookup_of_mem_nodup (cellsFrom_names scope.names 0 (s.heap.objs.size + 1) [] [] rfl ▸ hnd) hm), x.above n c hm⟩
  refine wpP_mono (h _ s.heap.objs.size h₁ tk cells FG ⟨x.toInCall.ns, fun b o e => hk₁ b o (of_hideAll _ e), Nat.le_of_eq (hideAll_size _ _)⟩ (fun p hp => ?_) Y BG st (fun p hp => Heap.lt_size (N p hp).1)) (fun fl s' hl => lv _ _ hl) fun _ _ y => y
  rcases List.mem_append.mp hp with hp | hp
  · refine ⟨(NC p hp).1, (NC p hp).2.1, ?_⟩
    cases q : (hideAll s.heap (news.map (·.1))).get? p.1 with
    | none => rfl
    | some o => have := of_hideAll _ q; rw [(NC p hp).2.2] at this; cases this
  · exact ⟨hk₁ _ _ (N p hp).1, Nat.ne_of_lt (Heap.lt_size (N p hp).1), hideAll_none _ (List.mem_map_of_mem hp)⟩
end

section
variable {prog : Program} {w : World} {A : Around} {s : Shared} {env : Env} {h₀ : Heap}
/-- a for over an iterator, on a clean stack; its turns end by going on; what holds between the turns is told of the heap -/
theorem codeP_forLoop {R : Result → Shared → Prop} {x : Str} {px : Pos} {body : List Stmt} {I : Addr} {n : Nat} {P : Nat → Value → Prop} {St : Nat → Heap → Prop} (W : Walks prog w A I [I] [I] n P St)
    (J : Nat → Heap → Prop) (Jk : ∀ i h h', J i h → (∀ b o, b ≠ I → h.get? b = some o → h'.get? b = some o) → J i h')
    (turn : ∀ i v h tk, i < n → P i v → J i h → St (i + 1) h → wpAny (model prog w) A (storeName env x v) (fun _ s₁ => wpP (model prog w) A (execs body env)
      (fun f s' => f = .next ∧ ∃ h' tk', s' = { s with heap := h', toks := tk' } ∧ J (i + 1) h' ∧ St (i + 1) h') (fun _ _ => False) s₁) (fun _ _ => False) { s with heap := h, toks := tk })
    (done : ∀ h tk, J n h → R (.ok .next) { s with heap := h, toks := tk }) :
    ∀ (k i : Nat) (h : Heap) (tk : Nat), n - i = k → i ≤ n → J i h → St i h → codeP (model prog w) A (.forLoop (.Name x px) (.ref I) body [] env) R { s with heap := h, toks := tk } := by
  intro k
  induction k with
  | zero =>
    intro i h tk hk hi hJ hst
    have hin : i = n := by omega
    subst hin
    refine codeP_of_tree ?_
    show wpP _ A ((forTurn (.Name x px) (.ref I) body [] env).onRaise (fun x => do noteFrame x env; theTreesLotGoes x)) _ _ _
    refine wpP_onRaise ?_
    unfold forTurn
    refine wpP_bind (wpP_of_any (wpAny_standAt ?_))
    refine wpP_bind (wpP_of_any (wpAny_onRaise (W.done _ _ _ hst fun h' tk' hk' => ?_)))
    exact wpP_pure ⟨rfl, rfl, codeP_of_any (codeAny_block (wpAny_execs_nil (done h' tk' (Jk _ _ _ hJ fun b o hb e => hk' b o (by simpa using hb) e))))⟩
  | succ k ih =>
    intro i h tk hk hi hJ hst
    have hlt : i < n := by omega
    refine codeP_of_tree ?_
    show wpP _ A ((forTurn (.Name x px) (.ref I) body [] env).onRaise (fun x => do noteFrame x env; theTreesLotGoes x)) _ _ _
    refine wpP_onRaise ?_
    unfold forTurn
    refine wpP_bind (wpP_of_any (wpAny_standAt ?_))
    refine wpP_bind (wpP_of_any (wpAny_onRaise (W.item i _ _ _ hlt hst fun v h' tk' hP hst' hk' => ?_)))
    refine wpP_bind (wpP_of_any (wpAny_pure ?_))
    have ht := turn i v h' tk' hlt hP (Jk _ _ _ hJ fun b o hb e => hk' b o (by simpa using hb) e) hst'
    refine wpP_bind (wpP_of_any (wpAny_assign_Name (wpAny_mono ht (fun _ s₁ h₁ => ?_) fun _ _ x => x.elim)))
    refine wpP_bind (wpP_mono h₁ (fun f s' hf => ?_) fun _ _ x => x.elim)
    obtain ⟨rfl, h'', tk'', rfl, hJ', hst''⟩ := hf
    exact wpP_pure ⟨rfl, rfl, ih (i + 1) h'' tk'' (by omega) hlt hJ' hst''⟩

/-- the for statement over a range object -/
theorem wpP_for_range {x : Str} {px pos : Pos} {iter : Expr} {body : List Stmt} {Q : Flow → Shared → Prop} {E : Value → Shared → Prop}
    (hs : ∀ x, foldedSetIterable iter env x = pure x)
    (h : wpAny (model prog w) A (eval iter env) (fun xv s₁ => wpAny (model prog w) A (pyIter xv) (fun it s₂ => codeP (model prog w) A (.forLoop (.Name x px) it body [] env) (fun r s' => match r with | .ok f => Q f s' | .error _ => False) s₂) E s₁) E s) :
    wpP (model prog w) A (exec (.For (.Name x px) iter body [] pos) env) Q E s := by
  rw [exec_For]
  refine wpP_bind (wpP_of_any (wpAny_standAt ?_))
  refine wpP_bind (wpP_of_any (wpAny_mono h (fun xv s₁ h₁ => ?_) fun _ _ x => x))
  refine wpP_bind (wpP_of_any (wpAny_of_eq (hs xv) ?_))
  refine wpP_bind (wpP_of_any (wpAny_standAt ?_))
  refine wpP_bind (wpP_of_any (wpAny_holding (wpAny_mono h₁ (fun it s₂ h₂ => ?_) fun _ _ x => x)))
  unfold runOwn
  refine wpP_onRaise (wpP_run rfl (codeP_mono h₂ fun r s' hr => ?_))
  cases r with
  | ok f => exact hr
  | error e => exact hr.elim
end
end Mine
end
section
open PySem PySem.W PyProof.Rows PySem.Calls
set_option maxRecDepth 100000
namespace Mine
local macro_rules | `(tactic| walk_at "never 0") => `(tactic| fail)
local macro_rules | `(tactic| walk_at "never 1") => `(tactic| fail)
local macro_rules | `(tactic| walk_at "never 2") => `(tactic| fail)
local macro_rules | `(tactic| walk_at "never 3") => `(tactic| fail)
local macro_rules | `(tactic| walk_at "never 4") => `(tactic| fail)
local macro_rules | `(tactic| walk_at "never 5") => `(tactic| fail)
local macro_rules | `(tactic| walk_at "never 6") => `(tactic| fail)
local macro_rules | `(tactic| walk_at "never 7") => `(tactic| fail)
local macro_rules | `(tactic| walk_at "never 8") => `(tactic| fail)
local macro_rules | `(tactic| walk_at "never 9") => `(tactic| fail)
local macro_rules | `(tactic| walk_at "never 10") => `(tactic| fail)
local macro_rules | `(tactic| walk_at "never 11") => `(tactic| fail)
local macro_rules | `(tactic| walk_at "never 12") => `(tactic| fail)
local macro_rules | `(tactic| walk_at "never 13") => `(tactic| fail)
local macro_rules | `(tactic| walk_at "never 14") => `(tactic| fail)
local macro_rules | `(tactic| walk_at "never 15") => `(tactic| fail)
theorem fresh_KeG : True := by
  w_top off
  trivial

/-- the class of a kind, its width, whether it bears a sign, its bounds, its packer -/
def kA (k : Int) : Addr := [75, 89, 103, 117, 131, 145, 159, 173, 187, 201, 213, 225].getD k.toNat 0
def kW (k : Int) : Int := [1, 1, 2, 4, 8, 1, 2, 4, 8, 4, 4, 2].getD k.toNat 0
def kG (k : Int) : Int := [1, 0, 0, 0, 0, 1, 1, 1, 1, 1, 0, 0].getD k.toNat 0
def kLow (k : Int) : Int := [0, 0, 0, 0, 0, -128, -32768, -2147483648, -9223372036854775808, -2147483648, 0, 0].getD k.toNat 0
def kHigh (k : Int) : Int := [1, 255, 65535, 4294967295, 18446744073709551615, 127, 32767, 2147483647, 9223372036854775807, 2147483647, 4294967295, 65535].getD k.toNat 0
def kSt (k : Int) : Addr := [57, 58, 59, 60, 61, 62, 63, 64, 65, 64, 60, 59].getD k.toNat 0

theorem kinds {k : Int} (h0 : 0 ≤ k) (h1 : k < 12) : k = 0 ∨ k = 1 ∨ k = 2 ∨ k = 3 ∨ k = 4 ∨ k = 5 ∨ k = 6 ∨ k = 7 ∨ k = 8 ∨ k = 9 ∨ k = 10 ∨ k = 11 := by omega

abbrev lawProg : Program := PySem.Challenge.pw_ke0005_01
def onceBody : List Stmt := match lawProg.main.body[32]? with | some (Stmt.FunctionDef _ _ b _ _ _ _ _ _ _) => b | _ => []
def onceScope : Scope := match lawProg.main.body[32]? with | some (Stmt.FunctionDef _ _ _ _ _ _ sc _ _ _) => sc | _ => default
abbrev onceEnv (L : Addr) : Env := envOfC "_law_once" onceScope L 262 (.ref 261)

theorem fill_on : (∀ (P : Params) (h : Heap), (hd.heap_39 P).In h → PySem.Challenge.rw_ke0005_01.Holds → True) := by
  k_fill
  intros; trivial

theorem kW_lo {k : Int} (h0 : 0 ≤ k) (h1 : k < 12) : 0 ≤ kW k := by
  rcases kinds h0 h1 with rfl | rfl | rfl | rfl | rfl | rfl | rfl | rfl | rfl | rfl | rfl | rfl <;> decide
theorem kW_hi {k : Int} (h0 : 0 ≤ k) (h1 : k < 12) : kW k ≤ 8 := by
  rcases kinds h0 h1 with rfl | rfl | rfl | rfl | rfl | rfl | rfl | rfl | rfl | rfl | rfl | rfl <;> decide
theorem kA_at {k : Int} (h0 : 0 ≤ k) (h1 : k < 12) : (List.toArray [Value.ref 75, .ref 89, .ref 103, .ref 117, .ref 131, .ref 145, .ref 159, .ref 173, .ref 187, .ref 201, .ref 213, .ref 225])[k.toNat]? = some (.ref (kA k)) := by
  rcases kinds h0 h1 with rfl | rfl | rfl | rfl | rfl | rfl | rfl | rfl | rfl | rfl | rfl | rfl <;> rfl

local macro_rules | `(tactic| walk_at "subscriptTail") => `(tactic| (k_here; (with_reducible show wpAny _ _ (subscriptTail _ _ (Value.ref _) (Value.int _ _)) _ _ _); (with_unfolding_all refine' item_list ?k1 ?k2 ?k3 (kA_at ?k4 ?k5) ?_ ?k6 ?k7; (case k1 => is_list); (case k2 => assumption); (case k3 => omega); (case k4 => assumption); (case k5 => assumption); (case k6 => with_unfolding_all rfl); (case k7 => intro _; with_unfolding_all rfl); k_whole)))

end Mine
end
section
open PySem PySem.W PyProof.Rows PySem.Calls
set_option maxRecDepth 100000
namespace Mine
theorem fresh_KeH : True := by
  w_top off
  trivial

set_option maxHeartbeats 8000000 in
theorem widths_call {w : World} {A : Around} {env : Env} {L : Addr} {base h₀ : Heap} {outer : List Env} {A₀ : Around} {m mg mb : Str → Option Value} {p : Program} {loose : List Str} {mean : ExcName → Option Value} {news : List (Addr × Obj)}
    {s : Shared} {Q : Value → Shared → Prop} {E : Value → Shared → Prop}
    (B : Below A₀ base outer h₀) (F : Fr h₀ L s.heap m) (X₀ : (hd.heap_39 w.params).In h₀)
    (N : News h₀ L s.heap news) (T : Top p loose mean mg mb h₀) (hA : A.frames = some (env :: outer)) (hf : env.frame = some L) (hke : env.scope.kind = .function) (hdep : A.depth < recursionLimit)
    (hQ : ∀ l h' tk vs, Fr h₀ L h' m → News h₀ L h' news → h'.IsList l vs → (∀ k : Int, k < 12 → 0 ≤ k → ∃ D t1 t2, vs[k.toNat]? = some (.ref D) ∧ IsTup h' D #[.int (kW k) t1, .int (kG k) t2]) → Q (.ref l) {s with heap := h', toks := tk}) :
    wpAny (model lawProg w) A (PySem.call (.ref 248) [] []) Q E s := by
  refine wpAny_call ?_
  refine' code_def ?k1 ?k2 ?k3 ?k4 ?k5 ?kA ?kF ?kK ?k6 ?k7 ?k8 ?k9 ?kB ?_ ?c2 ?c3 ?c4 ?c5
  case kA => exact hA
  case kF => exact hf
  case kK => exact hke
  case k1 => k_asm
  case k2 => k_asm
  case k3 => k_asm
  case k4 => k_asm
  case k5 => k_asm
  case k6 => k_is
  case k7 => k_is
  case k8 => exact hdep
  case k9 => exact BindsTo.of_eq rfl
  case c5 => decide
  case kB => exact locs rfl
  case c2 => exact rfl
  case c3 => exact rfl
  case c4 => exact rfl
  intro g' L' h' FG' F' N' B' X' T'
  clear N F
  k_steps
  rename News h₀ L _ _ => kN
  rename Fr h₀ L _ m => kF
  refine hQ _ _ _ _ kF (fun p hp => kN p ?_) (News.isList kN (List.Mem.head _)) (fun k h1 h0 => ?_)
  · (repeat (first | exact hp | refine List.Mem.tail _ ?_))
  · rcases kinds h0 h1 with rfl | rfl | rfl | rfl | rfl | rfl | rfl | rfl | rfl | rfl | rfl | rfl
    all_goals exact ⟨_, _, _, rfl, News.isTup kN (by k_mem)⟩
end Mine
end
section
open PySem PySem.W PyProof.Rows PySem.Calls
set_option maxRecDepth 100000
namespace Mine
local macro_rules | `(tactic| walk_at "never 0") => `(tactic| fail)
local macro_rules | `(tactic| walk_at "never 1") => `(tactic| fail)
local macro_rules | `(tactic| walk_at "never 2") => `(tactic| fail)
local macro_rules | `(tactic| walk_at "never 3") => `(tactic| fail)
local macro_rules | `(tactic| walk_at "never 4") => `(tactic| fail)
local macro_rules | `(tactic| walk_at "never 5") => `(tactic| fail)
local macro_rules | `(tactic| walk_at "never 6") => `(tactic| fail)
local macro_rules | `(tactic| walk_at "never 7") => `(tactic| fail)
local macro_rules | `(tactic| walk_at "never 8") => `(tactic| fail)
local macro_rules | `(tactic| walk_at "never 9") => `(tactic| fail)
local macro_rules | `(tactic| walk_at "never 10") => `(tactic| fail)
local macro_rules | `(tactic| walk_at "never 11") => `(tactic| fail)
local macro_rules | `(tactic| walk_at "never 12") => `(tactic| fail)
local macro_rules | `(tactic| walk_at "never 13") => `(tactic| fail)
local macro_rules | `(tactic| walk_at "never 14") => `(tactic| fail)
local macro_rules | `(tactic| walk_at "never 15") => `(tactic| fail)
theorem fresh_KeI : True := by
  w_top off
  trivial
theorem int_eq {a b : Int} {t : Tok} (e : a = b) : some (Value.int a t) = some (Value.int b t) := by rw [e]
theorem tabK {k : Int} (h0 : 0 ≤ k) (h1 : k < 12) : (k = 0 ∧ kLow k = 0 ∧ kHigh k = 1) ∨ (k ≠ 0 ∧ kG k = 1 ∧ 0 - Int.fdiv (256 ^ (kW k).toNat) 2 = kLow k ∧ 0 - Int.fdiv (256 ^ (kW k).toNat) 2 + 256 ^ (kW k).toNat - 1 = kHigh k) ∨
    (k ≠ 0 ∧ kG k ≠ 1 ∧ kLow k = 0 ∧ 0 + 256 ^ (kW k).toNat - 1 = kHigh k) := by
  rcases kinds h0 h1 with rfl | rfl | rfl | rfl | rfl | rfl | rfl | rfl | rfl | rfl | rfl | rfl <;> decide
local macro_rules | `(tactic| walk_at "subscriptTail") => `(tactic| (k_here; (with_reducible show wpAny _ _ (subscriptTail _ _ (Value.ref _) (Value.int _ _)) _ _ _); (with_unfolding_all refine' item_list ?k1 ?k2 ?k3 (kA_at ?k4 ?k5) ?_ ?k6 ?k7; (case k1 => is_list); (case k2 => assumption); (case k3 => omega); (case k4 => assumption); (case k5 => assumption); (case k6 => with_unfolding_all rfl); (case k7 => intro _; with_unfolding_all rfl); k_whole)))
local macro_rules | `(tactic| walk_at "subscriptTail") => `(tactic| (k_here; (with_reducible show wpAny _ _ (subscriptTail _ _ (Value.ref _) (Value.int _ _)) _ _ _); (with_reducible rename (∀ k : Int, k < 12 → 0 ≤ k → ∃ D t1 t2, _) => hv'); (obtain ⟨D', t1', t2', e1', e2'⟩ := hv' _ (by assumption) (by assumption)); (with_unfolding_all refine' item_list ?k1 ?k2 ?k3 e1' ?_ ?k6 ?k7; (case k1 => assumption); (case k2 => assumption); (case k3 => omega); (case k6 => with_unfolding_all rfl); (case k7 => intro _; with_unfolding_all rfl); k_whole)))
local macro_rules | `(tactic| walk_at "eval Name") => `(tactic| (k_here; k_dflt (refine' nameX_L ?F ?v ?_ ?a ?b; (case F => k_asm); (case a => rfl); (case b => rfl); (case v => assumption); k_whole)))
local macro_rules | `(tactic| walk_at "call ref") => `(tactic| (k_here; (k_dflt ((show wpAny _ _ (PySem.call (Value.ref 248) [] []) _ _ _); refine' widths_call ?B ?F ?X ?N ?T ?kA ?kF ?kK ?kd ?_; (case kA => exact rfl); (case kF => exact rfl); (case kK => exact rfl); (case B => k_asm); (case F => k_asm); (case X => k_asm); (case N => k_asm); (case T => k_asm); (case kd => k_room))); intro l' h' tk' vs' F' N' hl' hv'))

local macro_rules | `(tactic| k_all) => `(tactic| with_reducible assumption)
set_option maxHeartbeats 8000000 in
theorem segA1 {w : World} {env : Env} {L : Addr} {base g : Heap} {m mg mb : Str → Option Value} {p : Program} {loose : List Str} {mean : ExcName → Option Value}
    {s : Shared} {lo : Addr} {vs : Array Value} {nn : Nat} {ps : Array Value} {oF oD oP oN : Obj} {kind n : Int} {t1 tn : Tok} {codes : List (Addr × Obj)} {Q : Flow → Shared → Prop} {E : Value → Shared → Prop}
    (B : Below (callerA.deeper env) base [env] g) (F : Fr g L s.heap m) (X₀ : (hd.heap_39 w.params).In g)
    (N : News g L s.heap ((L + 1 + 1 + 1 + 1, oF) :: (L + 1 + 1 + 1, oD) :: (L + 1 + 1, oP) :: (L + 1, oN) :: (lo, listOf vs nn) :: (257, tabObj ps) :: codes)) (hcF : ∀ p ∈ codes, p.1 ≠ L + 1 + 1 + 1 + 1)
    (T : Top p loose mean mg mb g) (l1 : @LT.lt Nat _ lo L ∧ @LT.lt Nat _ 257 L) (l2 : @Ne Nat lo 257) (dF : oF.data = .cell none) (dN : oN.data = .cell (some (.int n tn))) (hk0 : 0 ≤ kind) (hk1 : kind < 12) (hmk : m "kind" = some (.int kind t1)) 
    (hQ : ∀ h' tk oF' m', Fr g L h' m' → m' "octets" = m "octets" → m' "kind" = m "kind" → (∃ t, m' "width" = some (.int (kW kind) t)) → (∃ t, m' "whole" = some (.int (256 ^ (kW kind).toNat) t)) → (∃ t, m' "low" = some (.int (kLow kind) t)) → (∃ t, m' "high" = some (.int (kHigh kind) t)) → (∃ b, m' "fits" = some (.bool b) ∧ (b = true ↔ kLow kind ≤ n ∧ n ≤ kHigh kind)) →
      News g L h' ((L + 1 + 1 + 1 + 1, oF') :: (L + 1 + 1 + 1, oD) :: (L + 1 + 1, oP) :: (L + 1, oN) :: (lo, listOf vs nn) :: (257, tabObj ps) :: codes) → oF'.data = .cell (some (.ref (kA kind))) →
      Q .next {s with heap := h', toks := tk}) :
    wpAny (model lawProg w) ((callerA.deeper env).deeper (onceEnv L)) (execs (onceBody.take 7) (onceEnv L)) Q E s := by
  show wpAny _ (Around.deeper _ (envOfC _ (Scope.mk _ _ _ _ _) _ _ _)) (execs [_, _, _, _, _, _, _] (envOfC _ (Scope.mk _ _ _ _ _) _ _ _)) _ _ _
  have kw0 : 0 ≤ kW kind := kW_lo hk0 hk1
  have kw1 : kW kind ≤ 8 := kW_hi hk0 hk1
  k_steps
  all_goals
    rename Fr g L _ _ => kF
    rename News g L _ _ => kN
    rename _ = Data.cell (some (Value.ref (kA kind))) => kd
    refine hQ _ _ _ _ kF rfl rfl ⟨_, rfl⟩ ⟨_, rfl⟩ ⟨_, int_eq ?_⟩ ⟨_, int_eq ?_⟩ ⟨_, rfl, ?_⟩ (fun p hp => kN p ?_) kd
    · have tk9 := tabK hk0 hk1
      omega
    · have tk9 := tabK hk0 hk1
      omega
    · have tk9 := tabK hk0 hk1
      simp only [decide_eq_true_eq]
      omega
    · (repeat (first | exact hp | refine List.Mem.tail _ ?_))
end Mine
end
section
open PySem PySem.W PyProof.Rows PySem.Calls
set_option maxRecDepth 100000
namespace Mine

/-- what has the frames of the stack taken away -/
abbrev framesOf (l : List Env) : List Addr := l.filterMap (·.frame)

/-- e flies out to the stack l: the ground stays but for its frames' slots, the ledger stays -/
def Flies (g : Heap) (news : List (Addr × Obj)) (l : List Env) (e : Addr) (X : String) (h' : Heap) : Prop :=
  ∃ B a0, (∀ b o, g.get? b = some o → b ∉ framesOf l → B.get? b = some o) ∧ (∀ q ∈ news, B.get? q.1 = some q.2 ∧ g.get? q.1 = none) ∧ Heap.FlyingW B l e (.type X) a0 h' ∧ g.UpToSlots h'

theorem in_frames {env : Env} {l : List Env} {b : Addr} (hm : b ∈ framesOf (env :: l)) : env.frame = some b ∨ b ∈ framesOf l := by
  obtain ⟨env', he, hf⟩ := List.mem_filterMap.mp hm
  rcases List.mem_cons.mp he with rfl | he
  · exact .inl hf
  · exact .inr (List.mem_filterMap.mpr ⟨env', he, hf⟩)

section
variable {M : Model} {A A₀ : Around} {E : Value → Shared → Prop} {s' : Shared} {base g G h : Heap} {outer : List Env} {L e : Addr} {m : Str → Option Value} {env : Env} {Q : Unit → Shared → Prop} {news : List (Addr × Obj)} {X : String}

theorem fly_first (K : Below A base outer g) (F : Fr g L h m) (N : News g L h news) (hf : env.frame = some L) (hk : env.scope.kind = .function) (hx : Heap.NewExc h s'.heap e X)
    (hQ : ∀ h', Flies g news outer e X h' → Q () { s' with heap := h' }) : wpAny M (A.deeper env) (leaving env (.ref e)) Q E s' := by
  have K' := pushX K F hf hk
  have hin : ∀ env' ∈ (env :: outer), ∀ b, env'.frame = some b → b ∈ framesOf (env :: outer) := fun env' he b hb => List.mem_filterMap.mpr ⟨env', he, hb⟩
  obtain ⟨ob, t, he, hc, hd⟩ := hx.there
  have sub : Heap.StaysIn (hideAll h (framesOf (env :: outer))) h := fun b o q => of_hideAll _ q
  have hen : (hideAll h (framesOf (env :: outer))).get? e = none := by
    cases q : (hideAll h (framesOf (env :: outer))).get? e with
    | none => rfl
    | some o => have := sub _ _ q; rw [hx.new] at this; cases this
  refine wpAny_leaving_firstW (base := hideAll h (framesOf (env :: outer))) (a0 := t) K'.stack ((funFrames_hide K'.frames hin).of_keeps fun b o hb _ => ⟨o, hx.keeps b o hb, rfl⟩) hf he (fun b o q => hx.keeps _ _ (sub b o q)) hen hd rfl rfl fun h' hL => ?_
  obtain ⟨k1, ⟨_, _, k2⟩, k3, k4⟩ := hL
  rw [hc] at k3
  refine hQ h' ⟨_, t, fun b o q nm => hideAll_get _ (F.keep b o q) fun hm => ?_, fun q hq => ⟨hideAll_get _ (N q hq).1 fun hm => ?_, (N q hq).2.2⟩, ⟨k1, hen, k2, k3⟩, ?_⟩
  · rcases in_frames hm with z | z
    · obtain rfl : L = b := Option.some.inj (hf.symm.trans z)
      rw [kts_self F] at q; cases q
    · exact nm z
  · rcases in_frames hm with z | z
    · exact (N q hq).2.1 (Option.some.inj (hf.symm.trans z)).symm
    · obtain ⟨o, ho, _⟩ := (K.frames.mem z).2
      rw [(N q hq).2.2] at ho; cases ho
  · exact (Heap.UpToSlots.of_keeps (fun b o q => hx.keeps b o (F.keep b o q))).trans k4

theorem fly_next (K : Below A base outer g) (F : Fr g L G m) (hf : env.frame = some L) (hx : Flies G news (env :: outer) e X s'.heap)
    (hQ : ∀ h', Flies g news outer e X h' → Q () { s' with heap := h' }) : wpAny M (A.deeper env) (leaving env (.ref e)) Q E s' := by
  obtain ⟨B, a0, hB, hN, hfl, hsm⟩ := hx
  refine wpAny_leaves_onW (Around.frames_deeper K.stack) hf hfl fun h' x1 x2 => hQ h' ⟨B, a0, fun b o q nm => hB b o (F.keep b o q) fun hm => ?_, fun q hq => ⟨(hN q hq).1, kts_none F.keep (hN q hq).2⟩, x1, ?_⟩
  · rcases in_frames hm with z | z
    · obtain rfl : L = b := Option.some.inj (hf.symm.trans z)
      rw [kts_self F] at q; cases q
    · exact nm z
  · exact (Heap.UpToSlots.of_keeps F.keep).trans (hsm.trans x2)

/-- the ground of a frame, when what stands above has come down -/
theorem fly_ground {B h₅ : Heap} (K : Below A₀ base outer g) (F : Fr g L G m) (hf : env.frame = some L) (hBG : ∀ b o, G.get? b = some o → b ∉ framesOf (env :: outer) → B.get? b = some o) (hN : ∀ q ∈ news, B.get? q.1 = some q.2 ∧ G.get? q.1 = none)
    (hBh : B.StaysIn h₅) (hsm : G.UpToSlots h₅) (hBf : B.get? L = none) :
    ∃ g', KtsTurn (framesOf outer) g g' ∧ Fr g' L h₅ m ∧ Below A₀ base outer g' ∧ News g' L h₅ news := by
  obtain ⟨g', T, F', K'⟩ := kts_ground (name := "") (scope := env.scope) (a := 0) (cd := .none) (L := L) K F (fun b o q nm => hBG b o q fun hm => nm (by
    rcases in_frames hm with z | z
    · exact List.mem_filterMap.mpr ⟨_, List.mem_cons_self, by obtain rfl : L = b := Option.some.inj (hf.symm.trans z); rfl⟩
    · obtain ⟨env', he, hf'⟩ := List.mem_filterMap.mp z
      exact List.mem_filterMap.mpr ⟨env', List.mem_cons_of_mem _ he, hf'⟩)) hBh hsm
  exact ⟨g', T, F', K', fun q hq => ⟨hBh _ _ (hN q hq).1, fun z => (by have := (hN q hq).1; rw [z, hBf] at this; cases this), T.none_ _ (kts_none F.keep (hN q hq).2)⟩⟩
end
end Mine
end
section
open PySem PySem.W PyProof.Rows PySem.Calls
set_option maxRecDepth 100000
namespace Mine
open PySem.Builtin PySem.Builtin.Bytes PySem.Builtin.Struct

/-- the letter of a kind from 1 on -/
def kC (k : Int) : Char := ['?', 'B', 'H', 'I', 'Q', 'b', 'h', 'i', 'q', 'i', 'I', 'H'].getD k.toNat 'B'
/-- the octets of a number of a kind -/
def dig (k n : Int) : Array UInt8 := if k = 0 then #[if (n != 0) = true then 1 else 0] else intBytes false (kW k).toNat n
def putAt (k : Int) (b : Array UInt8) (p n : Int) : Array UInt8 := layAt (layAt b p.toNat (Array.replicate (kW k).toNat 0)) p.toNat (dig k n)

theorem kind_code {k : Int} (h0 : 0 ≤ k) (h1 : k < 12) (hk : k ≠ 0) : (kC k, (kW k).toNat, kLow k, kHigh k) ∈ codes8 := by
  rcases kinds h0 h1 with rfl | rfl | rfl | rfl | rfl | rfl | rfl | rfl | rfl | rfl | rfl | rfl
  · exact absurd rfl hk
  all_goals decide

theorem kind_st {P : Params} {h : Heap} {k : Int} (X : (hd.heap_39 P).In h) (h0 : 0 ≤ k) (h1 : k < 12) :
    ∃ fb t, h.get? (kSt k) = some (stObj fb t) ∧ parse fb = pure (if k = 0 then fmtQ else fmtB (kC k) (kW k).toNat) := by
  rcases kinds h0 h1 with rfl | rfl | rfl | rfl | rfl | rfl | rfl | rfl | rfl | rfl | rfl | rfl
  · exact ⟨_, _, X 57 _ (by k_is), parse_q⟩
  · exact ⟨_, _, X 58 _ (by k_is), parse_B⟩
  · exact ⟨_, _, X 59 _ (by k_is), parse_H⟩
  · exact ⟨_, _, X 60 _ (by k_is), parse_I⟩
  · exact ⟨_, _, X 61 _ (by k_is), parse_Q⟩
  · exact ⟨_, _, X 62 _ (by k_is), parse_b⟩
  · exact ⟨_, _, X 63 _ (by k_is), parse_h⟩
  · exact ⟨_, _, X 64 _ (by k_is), parse_i⟩
  · exact ⟨_, _, X 65 _ (by k_is), parse_qq⟩
  · exact ⟨_, _, X 64 _ (by k_is), parse_i⟩
  · exact ⟨_, _, X 60 _ (by k_is), parse_I⟩
  · exact ⟨_, _, X 59 _ (by k_is), parse_H⟩

section
variable {prog : Program} {w : World} {A : Around} {E : Value → Shared → Prop} {s : Shared}
theorem pk_call {P : Params} {d : Addr} {b : Array UInt8} {k place n : Int} {tp tn : Tok} {Q : Value → Shared → Prop} (X : (hd.heap_39 P).In s.heap) (k0 : 0 ≤ k) (k1 : k < 12) (hd' : s.heap.get? d = some (baObj b)) (hb : b.size ≤ 1000) (h0 : 0 ≤ place) (hp1 : place ≤ 1000) (hh : A.handled = none)
    (hpre : k ≠ 0 ∨ (kLow k ≤ n ∧ n ≤ kHigh k) ∨ ¬ (place + kW k ≤ b.size))
    (q1 : place + kW k ≤ b.size → kLow k ≤ n ∧ n ≤ kHigh k → ∀ h' tk, h'.get? d = some (baObj (putAt k b place n)) → Heap.SameBut d s.heap h' → Q .none { s with heap := h', toks := tk })
    (q2 : place + kW k ≤ b.size → ¬ (kLow k ≤ n ∧ n ≤ kHigh k) → ∀ h₁ h' tk e, h₁.get? d = some (baObj (layAt b place.toNat (Array.replicate (kW k).toNat 0))) → Heap.SameBut d s.heap h₁ → Heap.NewExc h₁ h' e "struct.error" → E (.ref e) { s with heap := h', toks := tk })
    (q3 : ¬ (place + kW k ≤ b.size) → ∀ h' tk e, Heap.NewExc s.heap h' e "struct.error" → E (.ref e) { s with heap := h', toks := tk }) :
    wpAny (model prog w) A (call (.builtin "_struct.Struct.pack_into") [.ref (kSt k), .ref d, .int place tp, .int n tn]) Q E s := by
  obtain ⟨fb, t, hst, hp⟩ := kind_st X k0 k1
  have kw := kW_lo k0 k1
  have kw2 := kW_hi k0 k1
  by_cases hk : k = 0
  · subst hk
    rw [if_pos rfl] at hp
    refine call_pack_into_q hst hp hd' hb h0 hh hp1 (fun hr h' tk x1 x2 => q1 hr ?_ h' tk x1 x2) (fun hr => q3 hr)
    rcases hpre with z | z | z
    · exact absurd rfl z
    · exact z
    · exact absurd hr z
  · rw [if_neg hk] at hp
    have hw : ((kW k).toNat : Int) = kW k := Int.toNat_of_nonneg kw
    refine call_pack_into hst hp (kind_code k0 k1 hk) hd' hb h0 hh hp1 (by omega) (fun hr hf h' x1 x2 => q1 (by omega) hf h' _ ?_ x2) (fun hr hf => q2 (by omega) hf) (fun hr => q3 (by omega))
    unfold putAt dig
    rw [if_neg hk]
    exact x1
end

section
variable {prog : Program} {w : World} {A₀ A : Around} {s : Shared} {base h₀ : Heap} {outer : List Env} {L : Addr} {m : Str → Option Value} {env : Env} {news : List (Addr × Obj)} {K : Frag} {p : Program} {loose : List Str} {mean : ExcName → Option Value} {mg mb : Str → Option Value}

/-- a def entered, its end told as it is -/
theorem code_raw {R : Result → Shared → Prop} {name qual : Str} {params : Arguments} {body : List Stmt} {scope : Scope} {dV kV doc pm cdv ct oc : Value} {an od : Option Addr} {osl : Array (Option Value)} {f : Addr} {args : Args} {binds : List (Str × Value)}
    (B : Below A₀ base outer h₀) (F : Fr h₀ L s.heap m) (X₀ : K.In h₀) (N : News h₀ L s.heap news) (T : Top p loose mean mg mb h₀) (hA : A.frames = some (env :: outer)) (hf : env.frame = some L) (hke : env.scope.kind = .function)
    (ho : K.lookup f = some ⟨oc, od, .func (fnOf name qual params body scope dV kV doc pm an cdv ct), osl⟩) (hcd : codeIn K cdv qual = true) (hroom : A.depth < recursionLimit)
    (hbind : BindsTo s (fnOf name qual params body scope dV kV doc pm an cdv ct) args binds) (hloc : ∀ y ∈ binds, scope.names.lookup y.1 = some .local)
    (h : ∀ g L' h₁, Fr h₀ L g m → h₀.StaysIn g → Fr g L' h₁ (fun y => binds.reverse.lookup y) → News g L' h₁ news → Below A base (env :: outer) g → K.In g → Top p loose mean mg mb g →
      wpAny (model prog w) (A.deeper (envOf qual scope L' f cdv)) (execs body (envOf qual scope L' f cdv))
        (fun fl s' => R (.ok (.ret (match fl with | .ret v => v | _ => .none))) s')
        (fun e s' => wpAny (model prog w) (A.deeper (envOf qual scope L' f cdv)) (leaving (envOf qual scope L' f cdv) e) (fun _ s'' => R (.error e) s'') (fun e' s'' => R (.error e') s'') s')
        { s with heap := h₁, toks := s.toks + binds.length })
    (hco : scope.isCoroutine = false) (hgen : scope.isGenerator = false) (hk : scope.kind = .function)
    (hcell : ∀ x ∈ scope.names, x.2 ≠ .cell) : codeAny (model prog w) A (.call (.ref f) args) R s := by
  have X := X₀.keeps F.keep
  obtain ⟨FG, BG, st, _⟩ := groundX (R := R) B F N hA hf hke
  refine codeAny_call_def (fd := fnOf name qual params body scope dV kV doc pm an cdv ct) (body := body) (binds := binds) hroom (X _ _ ho) rfl (T.nolimit.keeps F.keep) (codeRec_of X hcd) rfl hbind hcell hloc (fun h₁ hns hk₁ => ?_) hco hgen hk
  exact h _ s.heap.objs.size h₁ FG st ⟨hns, fun b o e => hk₁ b o (of_hideAll _ e), Nat.le_of_eq (hideAll_size _ _)⟩
    (fun p hp => ⟨hk₁ _ _ (N p hp).1, Nat.ne_of_lt (Heap.lt_size (N p hp).1), hideAll_none _ (List.mem_map_of_mem hp)⟩) BG (X₀.keeps st) (T.keeps st)
end
end Mine
end
section
open PySem PySem.W PyProof.Rows PySem.Calls
set_option maxRecDepth 100000
namespace Mine
theorem fresh_KeL : True := by
  w_top off
  trivial
open PySem.Builtin PySem.Builtin.Bytes PySem.Builtin.Struct

theorem back_level {h₀ g h' : Heap} {L L' : Addr} {m m' : Str → Option Value} {n' : List (Addr × Obj)} (FG : Fr h₀ L g m) (st : h₀.StaysIn g) (F : Fr g L' h' m') (N : News g L' h' n') : Fr h₀ L h' m ∧ News h₀ L h' n' := by
  obtain ⟨oL, es, ep, hL, hLd, hLk, hLf⟩ := FG.ns
  refine ⟨⟨⟨oL, es, ep, F.keep _ _ hL, hLd, hLk, hLf⟩, fun b o e => F.keep _ _ (st b o e), FG.above⟩, fun p hp => ⟨(N p hp).1, fun q => ?_, kts_none st (N p hp).2.2⟩⟩
  have := (N p hp).2.2; rw [q, hL] at this; cases this

section
variable {prog : Program} {w : World} {A : Around} {E : Value → Shared → Prop} {s : Shared}
theorem wp_evalArgs_nil {f : Value} {Q : Args → Shared → Prop} (h : Q ⟨[], []⟩ s) : wpAny (model prog w) A (evalArgs f true [] []) Q E s := by
  unfold evalArgs
  show wpAny _ A (spliced [] >>= _) Q E s
  refine wpAny_bind (m := spliced []) (wpAny_pure (wpAny_bind (wpAny_pure ?_)))
  refine wpAny_holding ?_
  exact wpAny_bind (wpAny_pure (wpAny_bind (wpAny_pure (wpAny_pure h))))
theorem wp_callWith_fn {pos : Pos} {a : Addr} {o : Obj} {fd : FuncData} {args : List (Bool × Sem Value)} {Q : Value → Shared → Prop} (hplain : args.any (·.1) = false)
    (h : wpAny (model prog w) A (evalArgs (.ref a) true args []) (fun x s₁ => (s₁.heap.get? a = some o ∧ o.data = .func fd) ∧ wpAny (model prog w) A (PySem.call (.ref a) x.pos x.kw) Q E s₁) E s) :
    wpAny (model prog w) A (callWith pos (.ref a) [] args []) Q E s := by
  unfold callWith
  refine wpAny_bind (wpAny_holding (wpAny_mono h (fun x s₁ h₁ => ?_) fun _ _ x => x))
  refine wpAny_bind (wpAny_standAt ?_)
  have tail : ∀ {t : Sem Value}, wpAny (model prog w) A t Q E s₁ → wpAny (model prog w) A (t >>= fun r => holding [r] point >>= fun _ => pure r) Q E s₁ :=
    fun ht => wpAny_bind (wpAny_mono ht (fun r s₂ hr => wpAny_bind (wpAny_holding (wpAny_point (wpAny_pure hr)))) fun _ _ x => x)
  simp only [hplain, List.any_nil, Bool.or_false]
  refine wpAny_bind (m := keeperOf (.ref a)) ?_
  unfold keeperOf
  refine wpAny_bind (wpAny_load h₁.1.1 ?_)
  rw [h₁.1.2]
  refine wpAny_pure ?_
  refine wp_ite2 (fun _ => ?_) (fun _ => ?_)
  · exact tail h₁.2
  · exact tail (by unfold callMarked; exact wpAny_keep h₁.2)
end

local macro_rules | `(tactic| walk_at "call ref") => `(tactic| (k_here; (k_dflt (with_reducible rename (∀ (g : Heap) (Lt : Addr), _) => hcall); (refine hcall _ _ _ _ _ _ (by assumption) (by assumption) ?F ?N (by assumption) (by assumption) (by assumption) rfl rfl _ _ ?_ ?_); (case F => k_asm); (case N => k_asm))))
set_option maxHeartbeats 4000000 in
theorem told_call {w : World} {A₀ A : Around} {env : Env} {L : Addr} {base h₀ : Heap} {outer : List Env} {m mg mb : Str → Option Value} {p : Program} {loose : List Str} {mean : ExcName → Option Value} {news : List (Addr × Obj)}
    {s : Shared} {f : Addr} {fo : Obj} {fd : FuncData} {Q : Value → Shared → Prop} {E : Value → Shared → Prop} {ok : Value → List (Addr × Obj) → Prop} {ex : String → List (Addr × Obj) → Prop}
    (B : Below A₀ base outer h₀) (F : Fr h₀ L s.heap m) (X₀ : (hd.heap_39 w.params).In h₀) (XB : (hd.heap_39 w.params).In base)
    (N : News h₀ L s.heap news) (hfo : (f, fo) ∈ news) (hfd : fo.data = .func fd) (T : Top p loose mean mg mb h₀) (TB : Top p loose mean mg mb base) (hA : A.frames = some (env :: outer)) (hf : env.frame = some L) (hke : env.scope.kind = .function) (hdep : A.depth < recursionLimit)
    (hXs : ∀ X n, ex X n → X = "struct.error" ∨ X = "TypeError")
    (hcall : ∀ g Lt h₁ tk envT mt, Fr h₀ L g m → h₀.StaysIn g → Fr g Lt h₁ mt → News g Lt h₁ news → Below A base (env :: outer) g → (hd.heap_39 w.params).In g → Top p loose mean mg mb g → envT.frame = some Lt → envT.scope.kind = .function →
      ∀ (Q' : Value → Shared → Prop) (E' : Value → Shared → Prop), (∀ v h' tk n', Fr g Lt h' mt → News g Lt h' n' → ok v n' → Q' v { s with heap := h', toks := tk }) →
        (∀ e X G h' tk n', Fr g Lt G mt → Flies G n' (envT :: env :: outer) e X h' → ex X n' → E' (.ref e) { s with heap := h', toks := tk }) →
        wpAny (model lawProg w) (A.deeper envT) (PySem.call (.ref f) [] []) Q' E' { s with heap := h₁, toks := tk })
    (hok : ∀ v h' tk n', Fr h₀ L h' m → News h₀ L h' n' → ok v n' → Q v { s with heap := h', toks := tk })
    (hex : ∀ X h' tk g' n', KtsTurn (framesOf outer) h₀ g' → Fr g' L h' m → News g' L h' n' → Below A₀ base outer g' → ex X n' → ∀ t, Q (.str (if X = "struct.error" then ("refused" : Str) else ("type" : Str)) t) { s with heap := h', toks := tk }) 
    :
    wpAny (model lawProg w) A (PySem.call (.ref 255) [.ref f] []) Q E s := by
  refine wpAny_call ?_
  refine' code_raw ?k1 ?k2 ?k3 ?k4 ?k5 ?kA ?kF ?kK ?k6 ?k7 ?k8 ?k9 ?kB ?_ ?c2 ?c3 ?c4 ?c5
  case kA => exact hA
  case kF => exact hf
  case kK => exact hke
  case k1 => exact B
  case k2 => exact F
  case k3 => exact X₀
  case k4 => exact N
  case k5 => exact T
  case k6 => k_is
  case k7 => k_is
  case k8 => exact hdep
  case k9 => exact BindsTo.of_eq rfl
  case c5 => decide
  case kB => exact locs rfl
  case c2 => exact rfl
  case c3 => exact rfl
  case c4 => exact rfl
  intro g' L' h₁ FG st F' N' B' X' T'
  clear N F
  refine wpAny_execs_cons ?_
  refine wpAny_Try_except ?_
  k_steps
  refine wp_callWith_fn (o := fo) (fd := fd) rfl ?_
  refine wp_evalArgs_nil ⟨⟨(N' _ hfo).1, hfd⟩, ?_⟩
  refine hcall _ _ _ _ (envOf _ _ _ _ _) _ FG st F' N' B' X' T' rfl rfl _ _ ?_ ?_
  · intro v h' tk n' F₁ N₁ o₁
    obtain ⟨z1, z2⟩ := back_level FG st F₁ N₁
    exact hok v h' tk n' z1 z2 o₁
  · intro e X G h' tk n' FG₁ hfl hx
    obtain ⟨Bb, a0, hB, hN, hfl, hsm⟩ := hfl
    have hff := hfl.2.2.1
    obtain ⟨_, ⟨L1, _, hf1, hn1, _⟩, _, ⟨L2, _, hf2, hn2, _⟩, _⟩ := hff
    obtain rfl : L' = L1 := Option.some.inj hf1
    obtain rfl : L = L2 := Option.some.inj (hf.symm.trans hf2)
    refine wpAny_looks_onW (Around.frames_deeper B'.stack) rfl hfl fun h₄ hheld₄ hsm₄ => ?_
    refine wpAny_landsW hheld₄ fun h₅ hheld hsm₅ => ?_
    obtain ⟨g₅, T₅, F₅, K₅, N₅⟩ := fly_ground (env := envOf _ _ L' 255 _) B' FG₁ rfl hB hN hheld.1 (hsm.trans (hsm₄.trans hsm₅)) hn1
    obtain ⟨ob, hob, hobc⟩ := hheld.there
    have last : ∀ h₆ t tk, Bb.StaysIn h₆ → h₅.UpToSlots h₆ → Q (.str (if X = "struct.error" then ("refused" : Str) else ("type" : Str)) t) { s with heap := h₆, toks := tk } := fun h₆ t tk hfl₆ hsm₆ => by
      obtain ⟨g₆, T₆, F₆, K₆, N₆⟩ := fly_ground (env := env) B FG hf (fun b o q nm => hB b o (FG₁.keep _ _ q) fun hm => by
        rcases in_frames hm with z | z
        · obtain rfl : L' = b := Option.some.inj z
          rw [kts_self FG₁] at q; cases q
        · exact nm z) (fun q hq => ⟨(hN q hq).1, kts_none FG₁.keep (hN q hq).2⟩) hfl₆ (((Heap.UpToSlots.of_keeps FG₁.keep).trans (hsm.trans (hsm₄.trans hsm₅))).trans hsm₆) hn2
      exact hex X h₆ tk g₆ n' T₆ F₆ N₆ K₆ hx t
    rcases hXs X n' hx with rfl | rfl
    · refine wpAny_handleBy_builtin (X := "struct.error") (T := "struct.error") (b := true) (isSubtype_of_subB (by decide +kernel)) (isSubtype_of_subB (by decide +kernel)) (isSubtype_of_subB (by decide +kernel)) (name_K F₅ (XB.keeps K₅.stays) (topRead_of (TB.keeps K₅.stays)) (by k_is) ⟨rfl, ⟨ob, hob, hobc⟩, ?_⟩)
      rw [if_pos rfl]
      refine lands_againW hheld fun h₆ hfl₆ hsm₆ => ?_
      have l : ∀ t tk, Q (.str ("refused" : Str) t) { s with heap := h₆, toks := tk } := fun t tk => (if_pos (c := "struct.error" = "struct.error") (t := ("refused" : Str)) (e := ("type" : Str)) rfl) ▸ last h₆ t tk hfl₆.1 hsm₆
      clear last
      k_steps
      exact l _ _
    · refine wpAny_handleBy_builtin (X := "TypeError") (T := "struct.error") (b := false) (isSubtype_of_subB (by decide +kernel)) (isSubtype_of_subB (by decide +kernel)) (isSubtype_of_subB (by decide +kernel)) (name_K F₅ (XB.keeps K₅.stays) (topRead_of (TB.keeps K₅.stays)) (by k_is) ⟨rfl, ⟨ob, hob, hobc⟩, ?_⟩)
      rw [if_neg (by decide)]
      refine wpAny_handleBy_builtin (X := "TypeError") (T := "TypeError") (b := true) (isSubtype_of_subB (by decide +kernel)) (isSubtype_of_subB (by decide +kernel)) (isSubtype_of_subB (by decide +kernel)) (name_B F₅ (XB.keeps K₅.stays) (topRead_of (TB.keeps K₅.stays)) (by k_is) PyProof.Rows.Boot.«TypeError» (by decide) ⟨rfl, ⟨ob, hob, hobc⟩, ?_⟩)
      rw [if_pos rfl]
      refine lands_againW hheld fun h₆ hfl₆ hsm₆ => ?_
      have l : ∀ t tk, Q (.str ("type" : Str) t) { s with heap := h₆, toks := tk } := fun t tk => (if_neg (c := "TypeError" = "struct.error") (t := ("refused" : Str)) (e := ("type" : Str)) (by decide)) ▸ last h₆ t tk hfl₆.1 hsm₆
      clear last
      k_steps
      exact l _ _
end Mine
end
section
open PySem PySem.W PyProof.Rows PySem.Calls
set_option maxRecDepth 100000
namespace Mine
local macro_rules | `(tactic| walk_at "never 0") => `(tactic| fail)
local macro_rules | `(tactic| walk_at "never 1") => `(tactic| fail)
local macro_rules | `(tactic| walk_at "never 2") => `(tactic| fail)
local macro_rules | `(tactic| walk_at "never 3") => `(tactic| fail)
local macro_rules | `(tactic| walk_at "never 4") => `(tactic| fail)
local macro_rules | `(tactic| walk_at "never 5") => `(tactic| fail)
local macro_rules | `(tactic| walk_at "never 6") => `(tactic| fail)
local macro_rules | `(tactic| walk_at "never 7") => `(tactic| fail)
local macro_rules | `(tactic| walk_at "never 8") => `(tactic| fail)
local macro_rules | `(tactic| walk_at "never 9") => `(tactic| fail)
local macro_rules | `(tactic| walk_at "never 10") => `(tactic| fail)
local macro_rules | `(tactic| walk_at "never 11") => `(tactic| fail)
local macro_rules | `(tactic| walk_at "never 12") => `(tactic| fail)
local macro_rules | `(tactic| walk_at "never 13") => `(tactic| fail)
local macro_rules | `(tactic| walk_at "never 14") => `(tactic| fail)
local macro_rules | `(tactic| walk_at "never 15") => `(tactic| fail)
theorem fresh_KeM : True := by
  w_top off
  trivial
open PySem.Builtin PySem.Builtin.Bytes PySem.Builtin.Struct

/-- here the walk stands still -/
structure Stop (P : Prop) : Prop where
  go : P
theorem of_stop {P : Prop} (h : Stop P) : P := h.go

theorem same_level {g h₁ h' : Heap} {L : Addr} {m : Str → Option Value} {d : Addr} {o o' : Obj} {rest : List (Addr × Obj)} (F : Fr g L h₁ m) (N : News g L h₁ ((d, o) :: rest)) (hrest : ∀ p ∈ rest, p.1 ≠ d) (hd' : h'.get? d = some o') (x : Heap.SameBut d h₁ h') :
    Fr g L h' m ∧ News g L h' ((d, o') :: rest) := by
  have nd := N _ List.mem_cons_self
  have keep : ∀ b o, g.get? b = some o → h'.get? b = some o := fun b o e => (x.2 b (fun q => by rw [q, nd.2.2] at e; cases e)).trans (F.keep b o e)
  refine ⟨⟨?_, keep, F.above⟩, fun p hp => ?_⟩
  · obtain ⟨oL, es, ep, hL, r⟩ := F.ns
    exact ⟨oL, es, ep, (x.2 _ nd.2.1.symm).trans hL, r⟩
  · rcases List.mem_cons.mp hp with rfl | hp
    · exact ⟨hd', nd.2⟩
    · have np := N _ (List.mem_cons_of_mem _ hp)
      exact ⟨(x.2 _ (hrest _ hp)).trans np.1, np.2⟩

local macro_rules | `(tactic| walk_at "getMethod ref") => `(tactic| (k_here; k_dflt (refine' getMethod_st ?a st_slot_pi st_type_pi ?_; (case a => assumption); k_whole)))
local macro_rules | `(tactic| walk_at "call builtin:_struct.Struct.pack_into") => `(tactic| (k_here; k_dflt (show wpAny _ _ (PySem.call (.builtin "_struct.Struct.pack_into") [.ref _, .ref _, .int _ _, .int _ _] []) _ _ _; refine pk_call (by assumption) (by assumption) (by assumption) (by assumption) (by assumption) (by assumption) (by assumption) (by assumption) (by assumption) (of_stop ?_) (of_stop ?_) (of_stop ?_))))

set_option maxHeartbeats 4000000 in
theorem write_call {w : World} {A₀ A : Around} {env : Env} {L : Addr} {base h₀ : Heap} {outer : List Env} {m mg mb : Str → Option Value} {p : Program} {loose : List Str} {mean : ExcName → Option Value} {rest : List (Addr × Obj)}
    {s : Shared} {d : Addr} {b : Array UInt8} {k place n : Int} {tp tn : Tok} {Q : Value → Shared → Prop} {E : Value → Shared → Prop}
    (B : Below A₀ base outer h₀) (F : Fr h₀ L s.heap m) (X₀ : (hd.heap_39 w.params).In h₀) 
    (N : News h₀ L s.heap ((d, baObj b) :: rest)) (hrest : ∀ p ∈ rest, p.1 ≠ d) (T : Top p loose mean mg mb h₀) (hA : A.frames = some (env :: outer)) (hf : env.frame = some L) (hke : env.scope.kind = .function) (hdep : A.depth < recursionLimit) (hh : A.handled = none)
    (k0 : 0 ≤ k) (k1 : k < 12) (hb : b.size ≤ 1000) (h0 : 0 ≤ place) (hp1 : place ≤ 1000) (hpre : k ≠ 0 ∨ (kLow k ≤ n ∧ n ≤ kHigh k) ∨ ¬ (place + kW k ≤ b.size))
    (hok : place + kW k ≤ b.size → kLow k ≤ n ∧ n ≤ kHigh k → ∀ h' tk, Fr h₀ L h' m → News h₀ L h' ((d, baObj (putAt k b place n)) :: rest) → Q .none { s with heap := h', toks := tk })
    (hex : ¬ (place + kW k ≤ b.size ∧ kLow k ≤ n ∧ n ≤ kHigh k) → ∀ e g h' tk b', Fr h₀ L g m → Flies g ((d, baObj b') :: rest) (env :: outer) e "struct.error" h' → (b' = if place + kW k ≤ b.size then layAt b place.toNat (Array.replicate (kW k).toNat 0) else b) → E (.ref e) { s with heap := h', toks := tk }) :
    wpAny (model lawProg w) A (PySem.call (.ref 56) [.ref (kSt k), .ref d, .int place tp, .int n tn] []) Q E s := by
  refine wpAny_call ?_
  refine' code_raw ?k1 ?k2 ?k3 ?k4 ?k5 ?kA ?kF ?kK ?k6 ?k7 ?k8 ?k9 ?kB ?_ ?c2 ?c3 ?c4 ?c5
  case kA => exact hA
  case kF => exact hf
  case kK => exact hke
  case k1 => exact B
  case k2 => exact F
  case k3 => exact X₀
  case k4 => exact N
  case k5 => exact T
  case k6 => k_is
  case k7 => k_is
  case k8 => exact hdep
  case k9 => exact BindsTo.of_eq rfl
  case c5 => decide
  case kB => exact locs rfl
  case c2 => exact rfl
  case c3 => exact rfl
  case c4 => exact rfl
  intro g' L' h₁ FG st F' N' B' X' T'
  have X1 := X'.keeps F'.keep
  obtain ⟨fb, ft, hst, hp⟩ := kind_st X1 k0 k1
  have hd1 := (N' _ List.mem_cons_self).1
  clear N F
  k_steps
  · refine ⟨fun hr hn h' tk x1 x2 => ?_⟩
    obtain ⟨f2, n2⟩ := same_level F' N' hrest x1 x2
    obtain ⟨f3, n3⟩ := back_level FG st f2 n2
    k_steps
    exact hok hr hn _ _ f3 n3
  · refine ⟨fun hr hn h₁ h' tk e x1 x2 x3 => ?_⟩
    obtain ⟨f2, n2⟩ := same_level F' N' hrest x1 x2
    exact fly_first B' f2 n2 rfl rfl x3 fun h' hfl => hex (fun z => hn z.2) _ g' _ _ _ FG hfl (by rw [if_pos hr])
  · refine ⟨fun hr h' tk e x3 => ?_⟩
    exact fly_first B' F' N' rfl rfl x3 fun h' hfl => hex (fun z => hr z.1) _ g' _ _ _ FG hfl (by rw [if_neg hr])
end Mine
end
section
open PySem PySem.W PyProof.Rows PySem.Calls
set_option maxRecDepth 100000
namespace Mine
theorem fresh_KeN : True := by
  w_top off
  trivial
open PySem.Builtin PySem.Builtin.Bytes PySem.Builtin.Struct

section
variable {prog : Program} {w : World} {A : Around} {E : Value → Shared → Prop} {s : Shared}
def fmtK (k : Int) : Format := if k = 0 then fmtQ else fmtB (kC k) (kW k).toNat
theorem upk_call {P : Params} {v : Value} {b : Array UInt8} {k place : Int} {tp : Tok} {Q : Value → Shared → Prop} (X : (hd.heap_39 P).In s.heap) (k0 : 0 ≤ k) (k1 : k < 12) (hv : HasBytes s v b) (hb : b.size ≤ 1000) (h0 : 0 ≤ place) (hp1 : place ≤ 1000) (hh : A.handled = none)
    (q1 : place + kW k ≤ b.size → wpAny (model prog w) A.in1 (Struct.unpacked "_struct.Struct.unpack_from" (fmtK k) b place.toNat) Q E s)
    (q3 : ¬ (place + kW k ≤ b.size) → ∀ h' tk e, Heap.NewExc s.heap h' e "struct.error" → E (.ref e) { s with heap := h', toks := tk }) :
    wpAny (model prog w) A (call (.builtin "_struct.Struct.unpack_from") [.ref (kSt k), v, .int place tp]) Q E s := by
  obtain ⟨fb, t, hst, hp⟩ := kind_st X k0 k1
  have kw := kW_lo k0 k1
  have kw2 := kW_hi k0 k1
  have hw : ((kW k).toNat : Int) = kW k := Int.toNat_of_nonneg kw
  refine call_unpack_from (f := fmtK k) (k := (kW k).toNat) hst hp ?_ hv hb h0 hh hp1 (by omega) (fun hr => q1 (by omega)) (fun hr => q3 (by omega))
  unfold fmtK
  by_cases hk : k = 0
  · subst hk; rfl
  · rw [if_neg hk]; rfl
end

local macro_rules | `(tactic| walk_at "getMethod ref") => `(tactic| (k_here; k_dflt (refine' getMethod_st ?a st_slot_uf st_type_uf ?_; (case a => assumption); k_whole)))
local macro_rules | `(tactic| walk_at "call builtin:_struct.Struct.unpack_from") => `(tactic| (k_here; k_dflt (show wpAny _ _ (PySem.call (.builtin "_struct.Struct.unpack_from") [.ref _, _, .int _ _] []) _ _ _; refine upk_call (by assumption) (by assumption) (by assumption) (by assumption) (by assumption) (by assumption) (by assumption) (by assumption) (of_stop ?_) (of_stop ?_))))

set_option maxHeartbeats 4000000 in
theorem get_bad {w : World} {A₀ A : Around} {env : Env} {L : Addr} {base h₀ : Heap} {outer : List Env} {m mg mb : Str → Option Value} {p : Program} {loose : List Str} {mean : ExcName → Option Value} {rest : List (Addr × Obj)}
    {s : Shared} {d : Addr} {b : Array UInt8} {k place : Int} {tp : Tok} {Q : Value → Shared → Prop} {E : Value → Shared → Prop}
    (B : Below A₀ base outer h₀) (F : Fr h₀ L s.heap m) (X₀ : (hd.heap_39 w.params).In h₀) 
    (N : News h₀ L s.heap ((d, baObj b) :: rest)) (T : Top p loose mean mg mb h₀) (hA : A.frames = some (env :: outer)) (hf : env.frame = some L) (hke : env.scope.kind = .function) (hdep : A.depth < recursionLimit) (hh : A.handled = none)
    (k0 : 0 ≤ k) (k1 : k < 12) (hb : b.size ≤ 1000) (h0 : 0 ≤ place) (hp1 : place ≤ 1000) (hpre : ¬ (place + kW k ≤ b.size))
    (hex : ∀ e g h' tk, Fr h₀ L g m → Flies g ((d, baObj b) :: rest) (env :: outer) e "struct.error" h' → E (.ref e) { s with heap := h', toks := tk }) :
    wpAny (model lawProg w) A (PySem.call (.ref 49) [.ref (kSt k), .ref d, .int place tp] []) Q E s := by
  refine wpAny_call ?_
  refine' code_raw ?k1 ?k2 ?k3 ?k4 ?k5 ?kA ?kF ?kK ?k6 ?k7 ?k8 ?k9 ?kB ?_ ?c2 ?c3 ?c4 ?c5
  case kA => exact hA
  case kF => exact hf
  case kK => exact hke
  case k1 => exact B
  case k2 => exact F
  case k3 => exact X₀
  case k4 => exact N
  case k5 => exact T
  case k6 => k_is
  case k7 => k_is
  case k8 => exact hdep
  case k9 => exact BindsTo.of_eq rfl
  case c5 => decide
  case kB => exact locs rfl
  case c2 => exact rfl
  case c3 => exact rfl
  case c4 => exact rfl
  intro g' L' h₁ FG st F' N' B' X' T'
  have X1 := X'.keeps F'.keep
  obtain ⟨fb, ft, hst, hp⟩ := kind_st X1 k0 k1
  have hd1 : HasBytes { s with heap := h₁, toks := s.toks + 3 } (.ref d) b := Or.inr ⟨d, rfl, (N' _ List.mem_cons_self).1⟩
  clear N F
  k_steps
  · exact ⟨fun hr => absurd hr hpre⟩
  · refine ⟨fun hr h' tk e x3 => ?_⟩
    exact fly_first B' F' N' rfl rfl x3 fun h' hfl => hex _ g' _ _ FG hfl
end Mine
end
section
open PySem PySem.W PyProof.Rows PySem.Calls
set_option maxRecDepth 100000
namespace Mine
open PySem.W.KBw (bInts)
open PySem.Builtin PySem.Builtin.Bytes PySem.Builtin.Struct

theorem lay_list (p : Nat) : ∀ (l : List UInt8) (k : Nat) (out : Array UInt8), p + k + l.length ≤ out.size →
    ((l.zipIdx k).foldl (fun out (x : UInt8 × Nat) => out.setIfInBounds (p + x.2) x.1) out).toList = out.toList.take (p + k) ++ l ++ out.toList.drop (p + k + l.length)
  | [], k, out, _ => by simp
  | c :: l, k, out, h => by
    rw [List.zipIdx_cons, List.foldl_cons, lay_list p l (k + 1) _ (by simp at h ⊢; omega)]
    simp only [List.length_cons] at h
    have h1 : p + k < out.toList.length := by simp; omega
    rw [Array.toList_setIfInBounds]
    have e1 : List.take (p + (k + 1)) (out.toList.set (p + k) c) = out.toList.take (p + k) ++ [c] := by
      rw [show p + (k + 1) = p + k + 1 by omega, List.take_succ_eq_append_getElem (by simp; omega), List.take_set_of_le (Nat.le_refl _)]
      simp
    have e2 : List.drop (p + (k + 1) + l.length) (out.toList.set (p + k) c) = List.drop (p + k + (l.length + 1)) out.toList := by
      rw [List.drop_set_of_lt (by omega)]
      congr 1; omega
    rw [e1, e2]; simp

theorem lay_eq {b raw : Array UInt8} {p : Nat} (h : p + raw.size ≤ b.size) : (layAt b p raw).toList = b.toList.take p ++ raw.toList ++ b.toList.drop (p + raw.size) := by
  have := lay_list p raw.toList 0 b (by simpa using h)
  unfold layAt
  simpa using this

theorem ints_lay {b raw : Array UInt8} {p : Nat} (h : p + raw.size ≤ b.size) : bInts (layAt b p raw) = (bInts b).take p ++ bInts raw ++ (bInts b).drop (p + raw.size) := by
  unfold bInts
  rw [lay_eq h]
  simp [List.map_take, List.map_drop]

theorem lay_take {b raw : Array UInt8} {p : Nat} (h : p + raw.size ≤ b.size) : (bInts (layAt b p raw)).take p = (bInts b).take p := by
  have hl : p ≤ (bInts b).length := by rw [KBw.ints_length]; omega
  rw [ints_lay h, List.append_assoc, List.take_append_of_le_length (by rw [List.length_take]; omega), List.take_take, Nat.min_self]
theorem lay_drop {b raw : Array UInt8} {p : Nat} (h : p + raw.size ≤ b.size) : (bInts (layAt b p raw)).drop (p + raw.size) = (bInts b).drop (p + raw.size) := by
  have hl : p ≤ (bInts b).length := by rw [KBw.ints_length]; omega
  rw [ints_lay h]
  have e : ((bInts b).take p ++ bInts raw).length = p + raw.size := by rw [List.length_append, List.length_take, Nat.min_eq_left hl, KBw.ints_length]
  rw [List.drop_append_of_le_length (by omega), List.drop_eq_nil_of_le (by omega), List.nil_append]

theorem dig_size {k n : Int} (h0 : 0 ≤ k) (h1 : k < 12) : (dig k n).size = (kW k).toNat := by
  unfold dig
  by_cases hk : k = 0
  · subst hk; rfl
  · rw [if_neg hk]
    unfold intBytes Memoryview.toLittleEndian
    simp

theorem put_size {k n p : Int} {b : Array UInt8} : (putAt k b p n).size = b.size := by unfold putAt; rw [size_layAt, size_layAt]
/-- what a written number leaves -/
theorem put_ints {k n p : Int} {b : Array UInt8} (h0 : 0 ≤ k) (h1 : k < 12) (hp : 0 ≤ p) (h : p + kW k ≤ b.size) : bInts (putAt k b p n) = (bInts b).take p.toNat ++ bInts (dig k n) ++ (bInts b).drop (p + kW k).toNat := by
  have kw := kW_lo h0 h1
  have e : p.toNat + (kW k).toNat = (p + kW k).toNat := by omega
  have z : (Array.replicate (kW k).toNat (0 : UInt8)).size = (kW k).toNat := Array.size_replicate
  have a1 : p.toNat + (Array.replicate (kW k).toNat (0 : UInt8)).size ≤ b.size := by rw [z]; omega
  unfold putAt
  rw [ints_lay (by rw [size_layAt, dig_size h0 h1]; omega), lay_take a1, dig_size h0 h1, ← e]
  have := lay_drop a1
  rw [z] at this
  rw [this]

theorem put_at {k n p : Int} {b : Array UInt8} (h0 : 0 ≤ k) (h1 : k < 12) (hp : 0 ≤ p) (h : p + kW k ≤ b.size) : (putAt k b p n).extract p.toNat (p.toNat + (kW k).toNat) = dig k n := by
  have kw := kW_lo h0 h1
  have z : (Array.replicate (kW k).toNat (0 : UInt8)).size = (kW k).toNat := Array.size_replicate
  apply Array.toList_inj.mp
  unfold putAt
  rw [Array.toList_extract, lay_eq (by rw [size_layAt, dig_size h0 h1]; omega)]
  have hl : (List.take p.toNat (layAt b p.toNat (Array.replicate (kW k).toNat 0)).toList).length = p.toNat := by
    rw [List.length_take, Array.length_toList, size_layAt]; omega
  have hd := dig_size (n := n) h0 h1
  rw [List.extract_eq_take_drop, List.append_assoc, List.drop_append_of_le_length (by omega), List.drop_eq_nil_of_le (by omega), List.nil_append, List.take_append_of_le_length (by simp [hd]), List.take_of_length_le (by simp [hd])]

/-- the digits of a number to the base 256, the lowest first -/
def digs : Nat → Int → List Int
  | 0, _ => []
  | w + 1, r => r % 256 :: digs w (r / 256)

theorem le_map : ∀ (w N : Nat), (List.range w).map (fun k => (((N / 256 ^ k % 256).toUInt8.toNat : Nat) : Int)) = digs w (N : Int)
  | 0, _ => rfl
  | w + 1, N => by
    rw [List.range_succ_eq_map, List.map_cons, List.map_map]
    unfold digs
    congr 1
    · simp [Nat.toUInt8, UInt8.toNat_ofNat']
    · rw [show (N : Int) / 256 = ((N / 256 : Nat) : Int) by simp, ← le_map w (N / 256)]
      apply List.map_congr_left
      intro k _
      show (((N / 256 ^ (k + 1) % 256).toUInt8.toNat : Nat) : Int) = _
      rw [Nat.pow_succ', Nat.div_div_eq_div_mul]

theorem le_back : ∀ (w N : Nat), List.foldr (fun (c : UInt8) n => n * 256 + c.toNat) 0 ((List.range w).map fun k => (N / 256 ^ k % 256).toUInt8) = N % 256 ^ w
  | 0, N => by simp [Nat.mod_one]
  | w + 1, N => by
    rw [List.range_succ_eq_map, List.map_cons, List.map_map, List.foldr_cons]
    have e : List.map ((fun k => (N / 256 ^ k % 256).toUInt8) ∘ Nat.succ) (List.range w) = List.map (fun k => (N / 256 / 256 ^ k % 256).toUInt8) (List.range w) := by
      apply List.map_congr_left
      intro k _
      show (N / 256 ^ (k + 1) % 256).toUInt8 = _
      rw [Nat.pow_succ', Nat.div_div_eq_div_mul]
    rw [e, le_back w (N / 256)]
    have e2 : (N / 256 ^ 0 % 256).toUInt8.toNat = N % 256 := by simp [Nat.toUInt8, UInt8.toNat_ofNat']
    rw [e2, Nat.pow_succ', Nat.mod_mul]
    omega

theorem natOf_le (w N : Nat) : natOf false (Memoryview.toLittleEndian w N) = N % 256 ^ w := by
  unfold natOf Memoryview.littleEndian Memoryview.toLittleEndian
  rw [if_neg Bool.false_ne_true]
  simp only [List.foldr_toArray']
  exact le_back w N

theorem pow_8 (w : Nat) : (2 : Int) ^ (8 * w) = 256 ^ w := by rw [Int.pow_mul]; rfl

/-- the octets of a number within the bounds are the digits of its rest -/
theorem dig_ints {k n : Int} (h0 : 0 ≤ k) (h1 : k < 12) (hn : kLow k ≤ n ∧ n ≤ kHigh k) : bInts (dig k n) = digs (kW k).toNat (if n < 0 then n + 256 ^ (kW k).toNat else n) := by
  by_cases hk : k = 0
  · subst hk
    have a : 0 ≤ n := hn.1
    have b : n ≤ 1 := hn.2
    obtain rfl | rfl : n = 0 ∨ n = 1 := by omega
    · rfl
    · rfl
  · unfold dig
    rw [if_neg hk]
    unfold intBytes Memoryview.toLittleEndian bInts
    rw [if_neg Bool.false_ne_true, List.map_map, pow_8]
    refine (le_map _ _).trans ?_
    congr 1
    have hw : (0 : Int) < 256 ^ (kW k).toNat := Int.pow_pos (by decide)
    have hr : - 256 ^ (kW k).toNat ≤ n ∧ n < 256 ^ (kW k).toNat := by
      rcases kinds h0 h1 with rfl | rfl | rfl | rfl | rfl | rfl | rfl | rfl | rfl | rfl | rfl | rfl
      · exact absurd rfl hk
      all_goals
        have q1 := hn.1
        have q2 := hn.2
        simp only [kLow, kHigh, kW] at q1 q2 ⊢
        revert q1 q2
        simp
        omega
    rw [Int.toNat_of_nonneg (Int.emod_nonneg _ (by omega))]
    split
    · rw [← Int.add_emod_right, Int.emod_eq_of_lt (by omega) (by omega)]
    · rw [Int.emod_eq_of_lt (by omega) (by omega)]

/-- a number that was written is read again -/
theorem dig_back {k n : Int} (h0 : 0 ≤ k) (h1 : k < 12) (hk : k ≠ 0) (hn : kLow k ≤ n ∧ n ≤ kHigh k) : valOf (kC k) (kW k).toNat (natOf false (dig k n)) = n := by
  unfold dig
  rw [if_neg hk]
  unfold intBytes
  dsimp only
  rw [if_neg Bool.false_ne_true, natOf_le]
  rcases kinds h0 h1 with rfl | rfl | rfl | rfl | rfl | rfl | rfl | rfl | rfl | rfl | rfl | rfl
  · exact absurd rfl hk
  all_goals
    have q1 := hn.1
    have q2 := hn.2
    simp [kLow, kHigh, kW, kC, valOf, Char.isLower] at q1 q2 ⊢
    omega
theorem dig_back0 {n : Int} (hn : kLow 0 ≤ n ∧ n ≤ kHigh 0) : (natOf false (dig 0 n) != 0) = decide (n ≠ 0) := by
  have a : 0 ≤ n := hn.1
  have b : n ≤ 1 := hn.2
  obtain rfl | rfl : n = 0 ∨ n = 1 := by omega
  · rfl
  · rfl
end Mine
end
section
open PySem PySem.W PyProof.Rows PySem.Calls
set_option maxRecDepth 100000
namespace Mine
open PySem.Builtin PySem.Builtin.Bytes PySem.Builtin.Struct

section
variable {w : World} {A : Around} {E : Value → Shared → Prop} {s : Shared} {h₀ : Heap} {L : Addr} {m : Str → Option Value} {k : Int} {expr : Bool} {Q : Value → Shared → Prop}
set_option maxHeartbeats 4000000 in
theorem attr_min (F : Fr h₀ L s.heap m) (X₀ : (hd.heap_39 w.params).In h₀) (k0 : 0 < k) (k1 : k < 12) (h : ∀ t : Tok, Q (.int (kLow k) t) { s with toks := s.toks + 1 }) :
    wpAny (model lawProg w) A (getAttr (.ref (kA k)) ("min_val" : Str) expr) Q E s := by
  rcases kinds (Int.le_of_lt k0) k1 with rfl | rfl | rfl | rfl | rfl | rfl | rfl | rfl | rfl | rfl | rfl | rfl
  · omega
  all_goals exact cls_val F X₀ (by k_is) (by k_is) (by k_is) (by k_handed) (h _)
set_option maxHeartbeats 4000000 in
theorem attr_max (F : Fr h₀ L s.heap m) (X₀ : (hd.heap_39 w.params).In h₀) (k0 : 0 < k) (k1 : k < 12) (h : ∀ t : Tok, Q (.int (kHigh k) t) { s with toks := s.toks + 1 }) :
    wpAny (model lawProg w) A (getAttr (.ref (kA k)) ("max_val" : Str) expr) Q E s := by
  rcases kinds (Int.le_of_lt k0) k1 with rfl | rfl | rfl | rfl | rfl | rfl | rfl | rfl | rfl | rfl | rfl | rfl
  · omega
  all_goals exact cls_val F X₀ (by k_is) (by k_is) (by k_is) (by k_handed) (h _)
set_option maxHeartbeats 4000000 in
theorem attr_width (F : Fr h₀ L s.heap m) (X₀ : (hd.heap_39 w.params).In h₀) (k0 : 0 ≤ k) (k1 : k < 12) (h : ∀ t : Tok, Q (.int (kW k) t) { s with toks := s.toks + 1 }) :
    wpAny (model lawProg w) A (getAttr (.ref (kA k)) ("bytewidth" : Str) expr) Q E s := by
  rcases kinds k0 k1 with rfl | rfl | rfl | rfl | rfl | rfl | rfl | rfl | rfl | rfl | rfl | rfl
  all_goals exact cls_val F X₀ (by k_is) (by k_is) (by k_is) (by k_handed) (h _)
set_option maxHeartbeats 4000000 in
theorem attr_packer (F : Fr h₀ L s.heap m) (X₀ : (hd.heap_39 w.params).In h₀) (k0 : 0 ≤ k) (k1 : k < 12) (h : ∀ t : Tok, Q (.ref (kSt k)) { s with toks := s.toks + 1 }) :
    wpAny (model lawProg w) A (getAttr (.ref (kA k)) ("packer_type" : Str) expr) Q E s := by
  rcases kinds k0 k1 with rfl | rfl | rfl | rfl | rfl | rfl | rfl | rfl | rfl | rfl | rfl | rfl
  all_goals exact cls_val F X₀ (by k_is) (by k_is) (by k_is) (by k_handed) (h s.toks)
set_option maxHeartbeats 4000000 in
theorem attr_name (F : Fr h₀ L s.heap m) (X₀ : (hd.heap_39 w.params).In h₀) (k0 : 0 ≤ k) (k1 : k < 12) (h : ∀ (x : Str) (t : Tok), x.length ≤ 6 → Q (.str x t) { s with toks := s.toks + 1 }) :
    wpAny (model lawProg w) A (getAttr (.ref (kA k)) ("name" : Str) expr) Q E s := by
  rcases kinds k0 k1 with rfl | rfl | rfl | rfl | rfl | rfl | rfl | rfl | rfl | rfl | rfl | rfl
  all_goals (refine' cls_val F X₀ ?k3 ?k4 ?k5 ?k6 ?_; (case k3 => k_is); (case k4 => k_is); (case k5 => k_is); (case k6 => k_handed); exact h _ _ (by decide))
end
end Mine
end
section
open PySem PySem.W PyProof.Rows PySem.Calls
set_option maxRecDepth 100000
namespace Mine
local macro_rules | `(tactic| walk_at "never 0") => `(tactic| fail)
local macro_rules | `(tactic| walk_at "never 1") => `(tactic| fail)
local macro_rules | `(tactic| walk_at "never 2") => `(tactic| fail)
local macro_rules | `(tactic| walk_at "never 3") => `(tactic| fail)
local macro_rules | `(tactic| walk_at "never 4") => `(tactic| fail)
local macro_rules | `(tactic| walk_at "never 5") => `(tactic| fail)
local macro_rules | `(tactic| walk_at "never 6") => `(tactic| fail)
local macro_rules | `(tactic| walk_at "never 7") => `(tactic| fail)
local macro_rules | `(tactic| walk_at "never 8") => `(tactic| fail)
local macro_rules | `(tactic| walk_at "never 9") => `(tactic| fail)
local macro_rules | `(tactic| walk_at "never 10") => `(tactic| fail)
local macro_rules | `(tactic| walk_at "never 11") => `(tactic| fail)
local macro_rules | `(tactic| walk_at "never 12") => `(tactic| fail)
local macro_rules | `(tactic| walk_at "never 13") => `(tactic| fail)
local macro_rules | `(tactic| walk_at "never 14") => `(tactic| fail)
local macro_rules | `(tactic| walk_at "never 15") => `(tactic| fail)
theorem fresh_KeO : True := by
  w_top off
  trivial
open PySem.Builtin PySem.Builtin.Bytes PySem.Builtin.Struct

local macro_rules | `(tactic| walk_at "getAttr ref") => `(tactic| (k_here; (with_reducible show wpAny _ _ (getAttr (Value.ref (kA _)) ("min_val" : Str) _) _ _ _); k_dflt (refine' attr_min ?F ?X ?a ?b ?_; (case F => k_asm); (case X => k_asm); (case a => assumption); (case b => assumption); k_whole); intro t'))
local macro_rules | `(tactic| walk_at "getAttr ref") => `(tactic| (k_here; (with_reducible show wpAny _ _ (getAttr (Value.ref (kA _)) ("max_val" : Str) _) _ _ _); k_dflt (refine' attr_max ?F ?X ?a ?b ?_; (case F => k_asm); (case X => k_asm); (case a => assumption); (case b => assumption); k_whole); intro t'))
local macro_rules | `(tactic| walk_at "getAttr ref") => `(tactic| (k_here; (with_reducible show wpAny _ _ (getAttr (Value.ref (kA _)) ("name" : Str) _) _ _ _); k_dflt (refine' attr_name ?F ?X ?a ?b ?_; (case F => k_asm); (case X => k_asm); (case a => assumption); (case b => assumption); k_whole); intro x' t' lx'))
theorem new_of_made {h h' : Heap} {e : Addr} {X : String} {vs : List Value} (x : Heap.MadeExc h h' e X vs) : Heap.NewExc h h' e X := by
  obtain ⟨t, he, _⟩ := (Heap.MadeExc.of x).there
  exact ⟨(Heap.MadeExc.of x).keeps, (Heap.MadeExc.of x).new, _, _, he, rfl, rfl⟩

local macro_rules | `(tactic| walk_at "leaving ref") => `(tactic| (k_here; k_dflt (refine of_stop ?_)))
set_option maxHeartbeats 4000000 in
theorem enforce_call {w : World} {A₀ A : Around} {env : Env} {L : Addr} {base h₀ : Heap} {outer : List Env} {m mg mb : Str → Option Value} {p : Program} {loose : List Str} {mean : ExcName → Option Value} {news : List (Addr × Obj)}
    {s : Shared} {k n : Int} {tn : Tok} {Q : Value → Shared → Prop} {E : Value → Shared → Prop}
    (B : Below A₀ base outer h₀) (F : Fr h₀ L s.heap m) (X₀ : (hd.heap_39 w.params).In h₀) 
    (N : News h₀ L s.heap news) (T : Top p loose mean mg mb h₀) (hA : A.frames = some (env :: outer)) (hf : env.frame = some L) (hke : env.scope.kind = .function) (hdep : A.depth < recursionLimit) (hh : A.handled = none)
    (k0 : 0 < k) (k1 : k < 12) (hn0 : -1329227995784915872903807060280344576 ≤ n) (hn1 : n ≤ 1329227995784915872903807060280344576)
    (hok : kLow k ≤ n ∧ n ≤ kHigh k → ∀ h' tk, Fr h₀ L h' m → News h₀ L h' news → Q .none { s with heap := h', toks := tk })
    (hex : ¬ (kLow k ≤ n ∧ n ≤ kHigh k) → ∀ e g h' tk, Fr h₀ L g m → Flies g news (env :: outer) e "TypeError" h' → E (.ref e) { s with heap := h', toks := tk }) :
    wpAny (model lawProg w) A (PySem.call (.ref 241) [.int n tn, .ref (kA k)] []) Q E s := by
  refine wpAny_call ?_
  refine' code_raw ?k1 ?k2 ?k3 ?k4 ?k5 ?kA ?kF ?kK ?k6 ?k7 ?k8 ?k9 ?kB ?_ ?c2 ?c3 ?c4 ?c5
  case kA => exact hA
  case kF => exact hf
  case kK => exact hke
  case k1 => exact B
  case k2 => exact F
  case k3 => exact X₀
  case k4 => exact N
  case k5 => exact T
  case k6 => k_is
  case k7 => k_is
  case k8 => exact hdep
  case k9 => exact BindsTo.of_eq rfl
  case c5 => decide
  case kB => exact locs rfl
  case c2 => exact rfl
  case c3 => exact rfl
  case c4 => exact rfl
  intro g' L' h₁ FG st F' N' B' X' T'
  clear N F
  have k0' : 0 ≤ k := Int.le_of_lt k0
  k_steps
  · rename Fr g' _ _ _ => kF
    rename News g' _ _ _ => kN
    obtain ⟨f3, n3⟩ := back_level FG st kF kN
    refine hok ⟨?_, ?_⟩ _ _ f3 n3 <;> omega
  all_goals
    rename Fr g' _ _ _ => kF
    rename News g' _ _ _ => kN
    refine Raise_madeB PySem.F.excCall_TypeError PySem.F.excRaise_TypeError hh (name_B kF X' (topRead_of T') (by k_is) PyProof.Rows.Boot.«TypeError» (by decide) ⟨rfl, ?_⟩)
    k_steps
    refine ⟨?_⟩
    exact fly_first B' (by assumption) (by assumption) rfl rfl (new_of_made (by assumption)) fun h' hfl => hex (fun z => by omega) _ g' _ _ FG hfl
end Mine
end
section
open PySem PySem.W PyProof.Rows PySem.Calls
set_option maxRecDepth 100000
namespace Mine
open PySem.SeqAt in
section
variable {prog : Program} {w : World} {A : Around} {E : Value → Shared → Prop} {s : Shared} {Q : Value → Shared → Prop}
theorem gives_le_bool (a : Bool) (b : Int) (u : Tok) : Gives (Builtin.«int.__le__» ⟨[.bool a, .int b u], []⟩) (.val (.bool (decide ((if a then (1 : Int) else 0) ≤ b)))) := .of_eq rfl
theorem gives_ge_bool (a : Bool) (b : Int) (u : Tok) : Gives (Builtin.«int.__ge__» ⟨[.bool a, .int b u], []⟩) (.val (.bool (decide ((if a then (1 : Int) else 0) ≥ b)))) := .of_eq rfl
theorem le_bool_int {a : Bool} {b : Int} {u : Tok} (h : Q (.bool (decide ((if a then (1 : Int) else 0) ≤ b))) s) : wpAny (model prog w) A (compareOp .LtE (.bool a) (.int b u)) Q E s := by
  show wpAny _ _ (richCompare .LtE (.bool a) (.int b u)) Q E s
  exact rc_left_or (op := .LtE) (Ta := "bool") (Tb := "int") rfl (typeIs_int s b u) (by decide) F.sub_int_bool F.slot_bool_le
    (call_gives F.slot_bool_le rfl F.entry_int_le (F.args_int_le_2 _ _) (gives_le_bool a b u) ⟨nofun, h⟩) (.inl rfl)
theorem le_int_bool {a : Int} {b : Bool} {u : Tok} (h : Q (.bool (decide ((if b then (1 : Int) else 0) ≥ a))) s) : wpAny (model prog w) A (compareOp .LtE (.int a u) (.bool b)) Q E s := by
  show wpAny _ _ (richCompare .LtE (.int a u) (.bool b)) Q E s
  exact rc_sub_first_or (op := .LtE) (Ta := "int") (Tb := "bool") (typeIs_int s a u) rfl (by decide) F.sub_bool_int F.slot_bool_ge_refl
    (call_gives F.slot_bool_ge_refl rfl F.entry_int_ge (F.args_int_ge_2 _ _) (gives_ge_bool b a u) ⟨nofun, h⟩) (.inl rfl)
theorem le_false {b : Int} {u : Tok} (h : Q (.bool (decide (0 ≤ b))) s) : wpAny (model prog w) A (compareOp .LtE (.bool false) (.int b u)) Q E s := le_bool_int h
theorem le_true {a : Int} {u : Tok} (h : Q (.bool (decide (a ≤ 1))) s) : wpAny (model prog w) A (compareOp .LtE (.int a u) (.bool true)) Q E s := le_int_bool h
end
end Mine
end
section
open PySem PySem.W PyProof.Rows PySem.Calls
set_option maxRecDepth 100000
namespace Mine
theorem fresh_KeO2 : True := by
  w_top off
  trivial
open PySem.Builtin PySem.Builtin.Bytes PySem.Builtin.Struct

local macro_rules | `(tactic| walk_at "leaving ref") => `(tactic| (k_here; k_dflt (refine of_stop ?_)))
local macro_rules | `(tactic| walk_at "compareOp LtE bool int") => `(tactic| (k_here; k_dflt (refine Mine.le_false ?_)))
local macro_rules | `(tactic| walk_at "compareOp LtE int bool") => `(tactic| (k_here; k_dflt (refine Mine.le_true ?_)))
local macro_rules | `(tactic| walk_at "getAttr ref") => `(tactic| (k_here; (with_reducible show wpAny _ _ (getAttr (Value.ref 75) ("name" : Str) _) _ _ _); k_dflt (show wpAny _ _ (getAttr (Value.ref (kA 0)) ("name" : Str) _) _ _ _; refine' attr_name ?F ?X ?a ?b ?_; (case F => k_asm); (case X => k_asm); (case a => decide); (case b => decide); k_whole); intro x' t' lx'))
set_option maxHeartbeats 4000000 in
theorem enforce_call0 {w : World} {A₀ A : Around} {env : Env} {L : Addr} {base h₀ : Heap} {outer : List Env} {m mg mb : Str → Option Value} {p : Program} {loose : List Str} {mean : ExcName → Option Value} {news : List (Addr × Obj)}
    {s : Shared} {n : Int} {tn : Tok} {Q : Value → Shared → Prop} {E : Value → Shared → Prop}
    (B : Below A₀ base outer h₀) (F : Fr h₀ L s.heap m) (X₀ : (hd.heap_39 w.params).In h₀) 
    (N : News h₀ L s.heap news) (T : Top p loose mean mg mb h₀) (hA : A.frames = some (env :: outer)) (hf : env.frame = some L) (hke : env.scope.kind = .function) (hdep : A.depth < recursionLimit) (hh : A.handled = none)
    (hn0 : -1329227995784915872903807060280344576 ≤ n) (hn1 : n ≤ 1329227995784915872903807060280344576)
    (hok : 0 ≤ n ∧ n ≤ 1 → ∀ h' tk, Fr h₀ L h' m → News h₀ L h' news → Q .none { s with heap := h', toks := tk })
    (hex : ¬ (0 ≤ n ∧ n ≤ 1) → ∀ e g h' tk, Fr h₀ L g m → Flies g news (env :: outer) e "TypeError" h' → E (.ref e) { s with heap := h', toks := tk }) :
    wpAny (model lawProg w) A (PySem.call (.ref 241) [.int n tn, .ref 75] []) Q E s := by
  refine wpAny_call ?_
  refine' code_raw ?k1 ?k2 ?k3 ?k4 ?k5 ?kA ?kF ?kK ?k6 ?k7 ?k8 ?k9 ?kB ?_ ?c2 ?c3 ?c4 ?c5
  case kA => exact hA
  case kF => exact hf
  case kK => exact hke
  case k1 => exact B
  case k2 => exact F
  case k3 => exact X₀
  case k4 => exact N
  case k5 => exact T
  case k6 => k_is
  case k7 => k_is
  case k8 => exact hdep
  case k9 => exact BindsTo.of_eq rfl
  case c5 => decide
  case kB => exact locs rfl
  case c2 => exact rfl
  case c3 => exact rfl
  case c4 => exact rfl
  intro g' L' h₁ FG st F' N' B' X' T'
  clear N F
  k_steps
  · rename Fr g' _ _ _ => kF
    rename News g' _ _ _ => kN
    obtain ⟨f3, n3⟩ := back_level FG st kF kN
    refine hok ⟨?_, ?_⟩ _ _ f3 n3 <;> omega
  all_goals
    rename Fr g' _ _ _ => kF
    rename News g' _ _ _ => kN
    refine Raise_madeB PySem.F.excCall_TypeError PySem.F.excRaise_TypeError hh (name_B kF X' (topRead_of T') (by k_is) PyProof.Rows.Boot.«TypeError» (by decide) ⟨rfl, ?_⟩)
    k_steps
    refine ⟨?_⟩
    exact fly_first B' (by assumption) (by assumption) rfl rfl (new_of_made (by assumption)) fun h' hfl => hex (fun z => by omega) _ g' _ _ FG hfl
end Mine
end
section
open PySem PySem.W PyProof.Rows PySem.Calls
set_option maxRecDepth 100000
namespace Mine
local macro_rules | `(tactic| walk_at "never 0") => `(tactic| fail)
local macro_rules | `(tactic| walk_at "never 1") => `(tactic| fail)
local macro_rules | `(tactic| walk_at "never 2") => `(tactic| fail)
local macro_rules | `(tactic| walk_at "never 3") => `(tactic| fail)
local macro_rules | `(tactic| walk_at "never 4") => `(tactic| fail)
local macro_rules | `(tactic| walk_at "never 5") => `(tactic| fail)
local macro_rules | `(tactic| walk_at "never 6") => `(tactic| fail)
local macro_rules | `(tactic| walk_at "never 7") => `(tactic| fail)
local macro_rules | `(tactic| walk_at "never 8") => `(tactic| fail)
local macro_rules | `(tactic| walk_at "never 9") => `(tactic| fail)
local macro_rules | `(tactic| walk_at "never 10") => `(tactic| fail)
local macro_rules | `(tactic| walk_at "never 11") => `(tactic| fail)
local macro_rules | `(tactic| walk_at "never 12") => `(tactic| fail)
local macro_rules | `(tactic| walk_at "never 13") => `(tactic| fail)
local macro_rules | `(tactic| walk_at "never 14") => `(tactic| fail)
local macro_rules | `(tactic| walk_at "never 15") => `(tactic| fail)
theorem fresh_KeO3 : True := by
  w_top off
  trivial
open PySem.Builtin PySem.Builtin.Bytes PySem.Builtin.Struct

local macro_rules | `(tactic| walk_at "compareOp LtE bool int") => `(tactic| (k_here; k_dflt (refine Mine.le_false ?_)))
local macro_rules | `(tactic| walk_at "compareOp LtE int bool") => `(tactic| (k_here; k_dflt (refine Mine.le_true ?_)))
set_option maxHeartbeats 4000000 in
theorem valid_call0 {w : World} {A₀ A : Around} {env : Env} {L : Addr} {base h₀ : Heap} {outer : List Env} {m mg mb : Str → Option Value} {p : Program} {loose : List Str} {mean : ExcName → Option Value} {news : List (Addr × Obj)}
    {s : Shared} {n : Int} {tn : Tok} {Q : Value → Shared → Prop} {E : Value → Shared → Prop}
    (B : Below A₀ base outer h₀) (F : Fr h₀ L s.heap m) (X₀ : (hd.heap_39 w.params).In h₀) 
    (N : News h₀ L s.heap news) (T : Top p loose mean mg mb h₀) (hA : A.frames = some (env :: outer)) (hf : env.frame = some L) (hke : env.scope.kind = .function) (hdep : A.depth < recursionLimit) (hh : A.handled = none)
    
    (hok : ∀ b h' tk, (b = true ↔ 0 ≤ n ∧ n ≤ 1) → Fr h₀ L h' m → News h₀ L h' news → Q (.bool b) { s with heap := h', toks := tk }) :
    wpAny (model lawProg w) A (PySem.call (.ref 234) [.int n tn, .ref 75] []) Q E s := by
  refine wpAny_call ?_
  refine' code_raw ?k1 ?k2 ?k3 ?k4 ?k5 ?kA ?kF ?kK ?k6 ?k7 ?k8 ?k9 ?kB ?_ ?c2 ?c3 ?c4 ?c5
  case kA => exact hA
  case kF => exact hf
  case kK => exact hke
  case k1 => exact B
  case k2 => exact F
  case k3 => exact X₀
  case k4 => exact N
  case k5 => exact T
  case k6 => k_is
  case k7 => k_is
  case k8 => exact hdep
  case k9 => exact BindsTo.of_eq rfl
  case c5 => decide
  case kB => exact locs rfl
  case c2 => exact rfl
  case c3 => exact rfl
  case c4 => exact rfl
  intro g' L' h₁ FG st F' N' B' X' T'
  clear N F
  k_steps
  all_goals
    rename Fr g' _ _ _ => kF
    rename News g' _ _ _ => kN
    obtain ⟨f3, n3⟩ := back_level FG st kF kN
    refine hok _ _ _ ?_ f3 n3
    simp only [decide_eq_true_eq]
    omega
local macro_rules | `(tactic| walk_at "getAttr ref") => `(tactic| (k_here; (with_reducible show wpAny _ _ (getAttr (Value.ref (kA _)) ("min_val" : Str) _) _ _ _); k_dflt (refine' attr_min ?F ?X ?a ?b ?_; (case F => k_asm); (case X => k_asm); (case a => assumption); (case b => assumption); k_whole); intro t'))
local macro_rules | `(tactic| walk_at "getAttr ref") => `(tactic| (k_here; (with_reducible show wpAny _ _ (getAttr (Value.ref (kA _)) ("max_val" : Str) _) _ _ _); k_dflt (refine' attr_max ?F ?X ?a ?b ?_; (case F => k_asm); (case X => k_asm); (case a => assumption); (case b => assumption); k_whole); intro t'))
local macro_rules | `(tactic| walk_at "getAttr ref") => `(tactic| (k_here; (with_reducible show wpAny _ _ (getAttr (Value.ref (kA _)) ("name" : Str) _) _ _ _); k_dflt (refine' attr_name ?F ?X ?a ?b ?_; (case F => k_asm); (case X => k_asm); (case a => assumption); (case b => assumption); k_whole); intro x' t' lx'))
set_option maxHeartbeats 4000000 in
theorem valid_call {w : World} {A₀ A : Around} {env : Env} {L : Addr} {base h₀ : Heap} {outer : List Env} {m mg mb : Str → Option Value} {p : Program} {loose : List Str} {mean : ExcName → Option Value} {news : List (Addr × Obj)}
    {s : Shared} {k n : Int} {tn : Tok} {Q : Value → Shared → Prop} {E : Value → Shared → Prop}
    (B : Below A₀ base outer h₀) (F : Fr h₀ L s.heap m) (X₀ : (hd.heap_39 w.params).In h₀) 
    (N : News h₀ L s.heap news) (T : Top p loose mean mg mb h₀) (hA : A.frames = some (env :: outer)) (hf : env.frame = some L) (hke : env.scope.kind = .function) (hdep : A.depth < recursionLimit) (hh : A.handled = none)
    (k0 : 0 < k) (k1 : k < 12) 
    (hok : ∀ b h' tk, (b = true ↔ kLow k ≤ n ∧ n ≤ kHigh k) → Fr h₀ L h' m → News h₀ L h' news → Q (.bool b) { s with heap := h', toks := tk }) :
    wpAny (model lawProg w) A (PySem.call (.ref 234) [.int n tn, .ref (kA k)] []) Q E s := by
  refine wpAny_call ?_
  refine' code_raw ?k1 ?k2 ?k3 ?k4 ?k5 ?kA ?kF ?kK ?k6 ?k7 ?k8 ?k9 ?kB ?_ ?c2 ?c3 ?c4 ?c5
  case kA => exact hA
  case kF => exact hf
  case kK => exact hke
  case k1 => exact B
  case k2 => exact F
  case k3 => exact X₀
  case k4 => exact N
  case k5 => exact T
  case k6 => k_is
  case k7 => k_is
  case k8 => exact hdep
  case k9 => exact BindsTo.of_eq rfl
  case c5 => decide
  case kB => exact locs rfl
  case c2 => exact rfl
  case c3 => exact rfl
  case c4 => exact rfl
  intro g' L' h₁ FG st F' N' B' X' T'
  clear N F
  have k0' : 0 ≤ k := Int.le_of_lt k0
  k_steps
  all_goals
    rename Fr g' _ _ _ => kF
    rename News g' _ _ _ => kN
    obtain ⟨f3, n3⟩ := back_level FG st kF kN
    refine hok _ _ _ ?_ f3 n3
    simp only [decide_eq_true_eq]
    omega
end Mine
end
section
open PySem PySem.W PyProof.Rows PySem.Calls
set_option maxRecDepth 100000
namespace Mine

/-- the nested table of codes: each entry is a code object of the name qual that the ledger bears -/
def LamInv (ps : Array Value) (codes : List (Addr × Obj)) (qual : Str) : Prop :=
  TriplesOk ps.toList ∧ (∀ pos cv, codeAmong pos ps.toList = some cv → ∃ c' oc vs t, cv = .ref c' ∧ (c', oc) ∈ codes ∧ oc.data = .fields vs ∧ vs[1]? = some (.str qual t)) ∧ ∀ p ∈ codes, ∃ vs, p.2.data = .fields vs

theorem triples_append {i j : Int} {t u : Tok} {c : Value} : ∀ {l : List Value}, TriplesOk l → TriplesOk (l ++ [.int i t, .int j u, c])
  | [], _ => trivial
  | .int _ _ :: .int _ _ :: _ :: rest, h => triples_append (l := rest) h

theorem among_append {i j : Int} {t u : Tok} {c cv : Value} {pos : Pos} : ∀ {l : List Value}, TriplesOk l → codeAmong pos (l ++ [.int i t, .int j u, c]) = some cv → codeAmong pos l = some cv ∨ cv = c
  | [], _, h => by
    have h2 : (if (i == pos.line && j == pos.col) = true then some c else codeAmong pos []) = some cv := h
    by_cases q : (i == pos.line && j == pos.col) = true
    · rw [if_pos q] at h2; cases h2; exact .inr rfl
    · rw [if_neg q] at h2; cases h2
  | .int a _ :: .int b _ :: d :: rest, hl, h => by
    have h2 : (if (a == pos.line && b == pos.col) = true then some d else codeAmong pos (rest ++ [.int i t, .int j u, c])) = some cv := h
    show (if (a == pos.line && b == pos.col) = true then some d else codeAmong pos rest) = some cv ∨ cv = c
    by_cases q : (a == pos.line && b == pos.col) = true
    · rw [if_pos q] at h2 ⊢; exact .inl h2
    · rw [if_neg q] at h2 ⊢; exact among_append (l := rest) hl h2

theorem upd_mid {d : Addr} {o : Obj} {r : List (Addr × Obj)} (hr : ∀ p ∈ r, p.1 ≠ d) : ∀ {pre : List (Addr × Obj)}, (∀ p ∈ pre, p.1 ≠ d) → UpdF d o (pre ++ (d, o) :: r) (fun o' => pre ++ (d, o') :: r)
  | [], _ => .head hr
  | _ :: pre, h => .tail (h _ List.mem_cons_self) (upd_mid hr (pre := pre) fun p hp => h p (List.mem_cons_of_mem _ hp))

section
variable {M : Model} {A : Around} {E : Value → Shared → Prop} {s : Shared} {h₀ : Heap} {L a c : Addr} {m mg mb : Str → Option Value} {cn : Str} {cs : Scope} {ccd : Value} {cl : List (Str × Addr)} {pre codes : List (Addr × Obj)}
  {p : Program} {loose : List Str} {mean : ExcName → Option Value} {name qual : Str} {params : Arguments} {body : Expr} {scope : Scope} {ps : Array Value} {pos : Pos} {firstLine : Nat} {clos : List (Str × Addr)}

theorem lam_any {Q : Value → Shared → Prop} (F : Fr h₀ L s.heap m) (N : News h₀ L s.heap (pre ++ (257, tabObj ps) :: codes)) (hpre : ∀ p ∈ pre, p.1 ≠ 257) (hcodes : ∀ p ∈ codes, p.1 ≠ 257) (T : Top p loose mean mg mb h₀) (C : CodeHd h₀ c 257) (hcd : ccd = .ref c) (I : LamInv ps codes qual)
    (hcl : closureFor scope (envX cn cs L a ccd cl) = pure clos)
    (h : ∀ f c' oc vs t ctv h' tk ps' codes', Fr h₀ L h' m → News h₀ L h' ((f, kla_obj name qual params body scope clos ((mg "__name__").getD .none) c' ctv) :: (pre ++ (257, tabObj ps') :: codes')) → LamInv ps' codes' qual → (∀ p ∈ codes', p.1 ≠ 257) →
      (c', oc) ∈ codes' → oc.data = .fields vs → vs[1]? = some (.str qual t) → (∀ q ∈ pre, q.1 < f) → 257 < f → Q (.ref f) { s with heap := h', toks := tk }) :
    wpAny M A (makeFunction name qual params (.expr body) scope (envX cn cs L a ccd cl) [] [] [] pos firstLine) Q E s := by
  have ht := I.1
  cases hf : codeAmong pos ps.toList with
  | none =>
    refine kla_nest F N T C hcd (upd_mid hcodes hpre) ht hf hcl fun f c' oc vs t ctv h' tk F' N' d1 d2 l1 l2 => ?_
    refine h f c' oc vs t ctv h' tk (ps ++ #[rawInt pos.line, rawInt pos.col, .ref c']) ((c', oc) :: codes) F' (fun q hq => N' q ?_) ⟨?_, fun pos' cv hcv => ?_, fun q hq => ?_⟩ (fun q hq => ?_) List.mem_cons_self d1 d2 (fun q hq => Nat.lt_trans (l1 q (List.mem_append_left _ hq)) l2) (Nat.lt_trans (l1 (257, tabObj ps) (List.mem_append_right _ List.mem_cons_self)) l2)
    · rcases List.mem_cons.mp hq with rfl | hq
      · exact List.mem_cons_self
      · rcases List.mem_append.mp hq with hq | hq
        · exact List.mem_cons_of_mem _ (List.mem_cons_of_mem _ (List.mem_append_left _ hq))
        · rcases List.mem_cons.mp hq with rfl | hq
          · exact List.mem_cons_of_mem _ (List.mem_cons_of_mem _ (List.mem_append_right _ List.mem_cons_self))
          · rcases List.mem_cons.mp hq with rfl | hq
            · exact List.mem_cons_of_mem _ List.mem_cons_self
            · exact List.mem_cons_of_mem _ (List.mem_cons_of_mem _ (List.mem_append_right _ (List.mem_cons_of_mem _ hq)))
    · rw [Array.toList_append]; exact triples_append ht
    · rw [Array.toList_append] at hcv
      rcases among_append ht hcv with z | z
      · obtain ⟨c₂, oc₂, vs₂, t₂, e1, e2, e3⟩ := I.2.1 pos' cv z
        exact ⟨c₂, oc₂, vs₂, t₂, e1, List.mem_cons_of_mem _ e2, e3⟩
      · exact ⟨c', oc, vs, t, z, List.mem_cons_self, d1, d2⟩
    · rcases List.mem_cons.mp hq with rfl | hq
      · exact ⟨_, d1⟩
      · exact I.2.2 q hq
    · rcases List.mem_cons.mp hq with rfl | hq
      · exact (Nat.ne_of_lt (l1 (257, tabObj ps) (List.mem_append_right _ List.mem_cons_self))).symm
      · exact hcodes q hq
  | some cv =>
    obtain ⟨c', oc, vs, t, rfl, e2, e3, e4⟩ := I.2.1 pos cv hf
    refine kla_hit F N T C hcd (List.mem_append_right _ List.mem_cons_self) ht hf hcl fun f ctv h' tk F' N' l1 => ?_
    exact h f c' oc vs t ctv h' tk ps codes F' N' I hcodes e2 e3 e4 (fun q hq => l1 q (List.mem_append_left _ hq)) (l1 (257, tabObj ps) (List.mem_append_right _ List.mem_cons_self))
end
end Mine
end
section
open PySem PySem.W PyProof.Rows PySem.Calls
set_option maxRecDepth 100000
namespace Mine
theorem fresh_KeS : True := by
  w_top off
  trivial
local macro_rules | `(tactic| walk_at "eval Name") => `(tactic| (k_here; k_dflt (refine' nameX_L ?F ?v ?_ ?a ?b; (case F => k_asm); (case a => rfl); (case b => rfl); (case v => assumption); k_whole)))
local macro_rules | `(tactic| walk_at "getAttr ref") => `(tactic| (k_here; (with_reducible show wpAny _ _ (getAttr (Value.ref (kA _)) ("min_val" : Str) _) _ _ _); k_dflt (refine' attr_min ?F ?X ?a ?b ?_; (case F => k_asm); (case X => k_asm); (case a => assumption); (case b => assumption); k_whole); intro t'))
local macro_rules | `(tactic| walk_at "getAttr ref") => `(tactic| (k_here; (with_reducible show wpAny _ _ (getAttr (Value.ref (kA _)) ("max_val" : Str) _) _ _ _); k_dflt (refine' attr_max ?F ?X ?a ?b ?_; (case F => k_asm); (case X => k_asm); (case a => assumption); (case b => assumption); k_whole); intro t'))
local macro_rules | `(tactic| walk_at "getAttr ref") => `(tactic| (k_here; (with_reducible show wpAny _ _ (getAttr (Value.ref (kA _)) ("bytewidth" : Str) _) _ _ _); k_dflt (refine' attr_width ?F ?X ?a ?b ?_; (case F => k_asm); (case X => k_asm); (case a => assumption); (case b => assumption); k_whole); intro t'))

set_option maxHeartbeats 4000000 in
theorem segB1 {w : World} {env : Env} {L : Addr} {base g : Heap} {m mg mb : Str → Option Value} {p : Program} {loose : List Str} {mean : ExcName → Option Value}
    {s : Shared} {tail : List (Addr × Obj)} {oF : Obj} {kind : Int} {tw tl th : Tok} {Q : Flow → Shared → Prop} {E : Value → Shared → Prop}
    (B : Below (callerA.deeper env) base [env] g) (F : Fr g L s.heap m) (X₀ : (hd.heap_39 w.params).In g)
    (N : News g L s.heap ((L + 1 + 1 + 1 + 1, oF) :: tail))
    (T : Top p loose mean mg mb g) (dF : oF.data = .cell (some (.ref (kA kind)))) (hk0 : 0 < kind) (hk1 : kind < 12) (hmw : m "width" = some (.int (kW kind) tw)) (hml : m "low" = some (.int (kLow kind) tl)) (hmh : m "high" = some (.int (kHigh kind) th))
    (hQ : ∀ h' tk, Fr g L h' m → News g L h' ((L + 1 + 1 + 1 + 1, oF) :: tail) → Q .next {s with heap := h', toks := tk}) :
    wpAny (model lawProg w) ((callerA.deeper env).deeper (onceEnv L)) (execs ((onceBody.drop 7).take 1) (onceEnv L)) Q E s := by
  show wpAny _ (Around.deeper _ (envOfC _ (Scope.mk _ _ _ _ _) _ _ _)) (execs [_] (envOfC _ (Scope.mk _ _ _ _ _) _ _ _)) _ _ _
  have hk0' : 0 ≤ kind := Int.le_of_lt hk0
  k_steps
  all_goals first
    | (exfalso; rename_i hq; simp at hq; done)
    | (rename Fr g L _ _ => kF; rename News g L _ _ => kN; exact hQ _ _ kF kN)

local macro_rules | `(tactic| walk_at "compareOp NotEq bool int") => `(tactic| (k_here; k_dflt (refine PySem.EqBoolInt.ne_bool_int ?_)))
set_option maxHeartbeats 4000000 in
theorem segB1z {w : World} {env : Env} {L : Addr} {base g : Heap} {m mg mb : Str → Option Value} {p : Program} {loose : List Str} {mean : ExcName → Option Value}
    {s : Shared} {tail : List (Addr × Obj)} {oF : Obj} {tw tl th : Tok} {Q : Flow → Shared → Prop} {E : Value → Shared → Prop}
    (B : Below (callerA.deeper env) base [env] g) (F : Fr g L s.heap m) (X₀ : (hd.heap_39 w.params).In g)
    (N : News g L s.heap ((L + 1 + 1 + 1 + 1, oF) :: tail))
    (T : Top p loose mean mg mb g) (dF : oF.data = .cell (some (.ref 75))) (hmw : m "width" = some (.int (1) tw)) (hml : m "low" = some (.int (0) tl)) (hmh : m "high" = some (.int (1) th))
    (hQ : ∀ h' tk, Fr g L h' m → News g L h' ((L + 1 + 1 + 1 + 1, oF) :: tail) → Q .next {s with heap := h', toks := tk}) :
    wpAny (model lawProg w) ((callerA.deeper env).deeper (onceEnv L)) (execs ((onceBody.drop 7).take 1) (onceEnv L)) Q E s := by
  show wpAny _ (Around.deeper _ (envOfC _ (Scope.mk _ _ _ _ _) _ _ _)) (execs [_] (envOfC _ (Scope.mk _ _ _ _ _) _ _ _)) _ _ _
  k_steps
  all_goals first
    | (exfalso; rename_i hq; simp at hq; done)
    | (rename Fr g L _ _ => kF; rename News g L _ _ => kN; exact hQ _ _ kF kN)
end Mine
end
section
open PySem PySem.W PyProof.Rows PySem.Calls
set_option maxRecDepth 100000
namespace Mine
local macro_rules | `(tactic| walk_at "never 0") => `(tactic| fail)
local macro_rules | `(tactic| walk_at "never 1") => `(tactic| fail)
local macro_rules | `(tactic| walk_at "never 2") => `(tactic| fail)
local macro_rules | `(tactic| walk_at "never 3") => `(tactic| fail)
local macro_rules | `(tactic| walk_at "never 4") => `(tactic| fail)
local macro_rules | `(tactic| walk_at "never 5") => `(tactic| fail)
local macro_rules | `(tactic| walk_at "never 6") => `(tactic| fail)
local macro_rules | `(tactic| walk_at "never 7") => `(tactic| fail)
local macro_rules | `(tactic| walk_at "never 8") => `(tactic| fail)
local macro_rules | `(tactic| walk_at "never 9") => `(tactic| fail)
local macro_rules | `(tactic| walk_at "never 10") => `(tactic| fail)
local macro_rules | `(tactic| walk_at "never 11") => `(tactic| fail)
local macro_rules | `(tactic| walk_at "never 12") => `(tactic| fail)
local macro_rules | `(tactic| walk_at "never 13") => `(tactic| fail)
local macro_rules | `(tactic| walk_at "never 14") => `(tactic| fail)
local macro_rules | `(tactic| walk_at "never 15") => `(tactic| fail)
theorem fresh_KeT : True := by
  w_top off
  trivial

section
variable {w : World} {A₀ A : Around} {env : Env} {L : Addr} {base h₀ : Heap} {outer : List Env} {m mg mb : Str → Option Value} {p : Program} {loose : List Str} {mean : ExcName → Option Value} {news : List (Addr × Obj)}
    {s : Shared} {k n : Int} {tn : Tok} {Q : Value → Shared → Prop} {E : Value → Shared → Prop}
theorem valid_any (B : Below A₀ base outer h₀) (F : Fr h₀ L s.heap m) (X₀ : (hd.heap_39 w.params).In h₀) 
    (N : News h₀ L s.heap news) (T : Top p loose mean mg mb h₀) (hA : A.frames = some (env :: outer)) (hf : env.frame = some L) (hke : env.scope.kind = .function) (hdep : A.depth < recursionLimit) (hh : A.handled = none)
    (k0 : 0 ≤ k) (k1 : k < 12)
    (hok : ∀ b h' tk, (b = true ↔ kLow k ≤ n ∧ n ≤ kHigh k) → Fr h₀ L h' m → News h₀ L h' news → Q (.bool b) { s with heap := h', toks := tk }) :
    wpAny (model lawProg w) A (PySem.call (.ref 234) [.int n tn, .ref (kA k)] []) Q E s := by
  by_cases hk : k = 0
  · subst hk
    exact valid_call0 B F X₀ N T hA hf hke hdep hh hok
  · exact valid_call B F X₀ N T hA hf hke hdep hh (by omega) k1 hok
theorem enforce_any (B : Below A₀ base outer h₀) (F : Fr h₀ L s.heap m) (X₀ : (hd.heap_39 w.params).In h₀) 
    (N : News h₀ L s.heap news) (T : Top p loose mean mg mb h₀) (hA : A.frames = some (env :: outer)) (hf : env.frame = some L) (hke : env.scope.kind = .function) (hdep : A.depth < recursionLimit) (hh : A.handled = none)
    (k0 : 0 ≤ k) (k1 : k < 12) (hn0 : -1329227995784915872903807060280344576 ≤ n) (hn1 : n ≤ 1329227995784915872903807060280344576)
    (hok : kLow k ≤ n ∧ n ≤ kHigh k → ∀ h' tk, Fr h₀ L h' m → News h₀ L h' news → Q .none { s with heap := h', toks := tk })
    (hex : ¬ (kLow k ≤ n ∧ n ≤ kHigh k) → ∀ e g h' tk, Fr h₀ L g m → Flies g news (env :: outer) e "TypeError" h' → E (.ref e) { s with heap := h', toks := tk }) :
    wpAny (model lawProg w) A (PySem.call (.ref 241) [.int n tn, .ref (kA k)] []) Q E s := by
  by_cases hk : k = 0
  · subst hk
    exact enforce_call0 B F X₀ N T hA hf hke hdep hh hn0 hn1 hok hex
  · exact enforce_call B F X₀ N T hA hf hke hdep hh (by omega) k1 hn0 hn1 hok hex
end

section
variable {w : World} {A₀ A : Around} {env : Env} {L : Addr} {base h₀ : Heap} {outer : List Env} {m mg mb : Str → Option Value} {p : Program} {loose : List Str} {mean : ExcName → Option Value} {news : List (Addr × Obj)}
    {s : Shared} {f : Addr} {fo : Obj} {fd : FuncData} {Q : Value → Shared → Prop} {E : Value → Shared → Prop} {v₀ : Value} {X₁ : String} {Pok Pex : Prop}
theorem told_same (B : Below A₀ base outer h₀) (F : Fr h₀ L s.heap m) (X₀ : (hd.heap_39 w.params).In h₀) (XB : (hd.heap_39 w.params).In base)
    (N : News h₀ L s.heap news) (hfo : (f, fo) ∈ news) (hfd : fo.data = .func fd) (T : Top p loose mean mg mb h₀) (TB : Top p loose mean mg mb base) (hA : A.frames = some (env :: outer)) (hf : env.frame = some L) (hke : env.scope.kind = .function) (hdep : A.depth < recursionLimit)
    (hX : X₁ = "struct.error" ∨ X₁ = "TypeError")
    (hcall : ∀ g Lt h₁ tk envT mt, Fr h₀ L g m → h₀.StaysIn g → Fr g Lt h₁ mt → News g Lt h₁ news → Below A base (env :: outer) g → (hd.heap_39 w.params).In g → Top p loose mean mg mb g → envT.frame = some Lt → envT.scope.kind = .function →
      ∀ (Q' : Value → Shared → Prop) (E' : Value → Shared → Prop), (Pok → ∀ h' tk, Fr g Lt h' mt → News g Lt h' news → Q' v₀ { s with heap := h', toks := tk }) →
        (Pex → ∀ e G h' tk, Fr g Lt G mt → Flies G news (envT :: env :: outer) e X₁ h' → E' (.ref e) { s with heap := h', toks := tk }) →
        wpAny (model lawProg w) (A.deeper envT) (PySem.call (.ref f) [] []) Q' E' { s with heap := h₁, toks := tk })
    (hok : Pok → ∀ h' tk, Fr h₀ L h' m → News h₀ L h' news → Q v₀ { s with heap := h', toks := tk })
    (hex : Pex → ∀ h' tk g' t, KtsTurn (framesOf outer) h₀ g' → Fr g' L h' m → News g' L h' news → Below A₀ base outer g' → Q (.str (if X₁ = "struct.error" then ("refused" : Str) else ("type" : Str)) t) { s with heap := h', toks := tk }) :
    wpAny (model lawProg w) A (PySem.call (.ref 255) [.ref f] []) Q E s :=
  told_call (ok := fun v n' => v = v₀ ∧ Pok ∧ n' = news) (ex := fun X n' => X = X₁ ∧ Pex ∧ n' = news) B F X₀ XB N hfo hfd T TB hA hf hke hdep (fun X n h => by rcases h with ⟨rfl, _⟩; exact hX)
    (fun g Lt h₁ tk envT mt FG st F₂ N₂ B₂ X₂ T₂ e1 e2 Q' E' q1 q2 => hcall g Lt h₁ tk envT mt FG st F₂ N₂ B₂ X₂ T₂ e1 e2 Q' E'
      (fun hp h' tk f1 n1 => q1 v₀ h' tk news f1 n1 ⟨rfl, hp, rfl⟩) (fun hp e G h' tk f1 n1 => q2 e X₁ G h' tk news f1 n1 ⟨rfl, hp, rfl⟩))
    (fun v h' tk n' f1 n1 o => by rcases o with ⟨rfl, hp, rfl⟩; exact hok hp h' tk f1 n1)
    (fun X h' tk g' n' t1 f1 n1 b1 o t => by rcases o with ⟨rfl, hp, rfl⟩; exact hex hp h' tk g' t t1 f1 n1 b1)
end

local macro_rules | `(tactic| walk_at "eval Name") => `(tactic| (k_here; k_dflt (refine' nameX_L ?F ?v ?_ ?a ?b; (case F => k_asm); (case a => rfl); (case b => rfl); (case v => assumption); k_whole)))
local macro_rules | `(tactic| walk_at "call ref") => `(tactic| (k_here; (k_dflt ((show wpAny _ _ (PySem.call (Value.ref 234) [.int _ _, .ref (kA _)] []) _ _ _); refine' valid_any ?B ?F ?X ?N ?T ?kA ?kF ?kK ?kd ?hh ?k0 ?k1 ?_; (case kA => exact rfl); (case kF => exact rfl); (case kK => exact rfl); (case B => k_asm); (case F => k_asm); (case X => k_asm); (case N => k_asm); (case T => k_asm); (case kd => k_room); (case hh => exact rfl); (case k0 => assumption); (case k1 => assumption))); intro b' h' tk' hb' F' N'))
local macro_rules | `(tactic| walk_at "eval Lambda") => `(tactic| (k_here; k_dflt (refine' kla_eval ?d0 ?_; (case d0 => exact rfl)); (k_dflt (refine' lam_any ?F (show News _ _ _ ([_, _, _, _, _] ++ (257, tabObj _) :: _) from ?N) ?p ?c ?T ?C ?cd ?I ?cl ?_; (case F => k_asm); (case N => k_asm); (case T => k_asm); (case cd => exact rfl); (case C => k_asm); (case cl => exact rfl); (case p => assumption); (case c => assumption); (case I => assumption); k_whole)); intro f' c' oc' vs' t' ct' h' tk' ps' codes' F' N' I' hc' e1' e2' e3' l1' l2'; (simp only [List.cons_append, List.nil_append] at N')))
local macro_rules | `(tactic| walk_at "call ref") => `(tactic| (k_here; (k_dflt ((show wpAny _ _ (PySem.call (Value.ref 255) [.ref _] []) _ _ _); refine of_stop ?_))))

local macro_rules | `(tactic| walk_at "call ref") => `(tactic| (k_here; (k_dflt ((show wpAny _ _ (PySem.call (Value.ref 241) [.int _ _, .ref (kA _)] []) _ _ _); refine' enforce_any ?B ?F ?X ?N ?T ?kA ?kF ?kK ?kd ?hh ?k0 ?k1 ?n0 ?n1 (of_stop ?_) (of_stop ?_); (case kA => exact rfl); (case kF => exact rfl); (case kK => exact rfl); (case B => k_asm); (case F => k_asm); (case X => k_asm); (case N => k_asm); (case T => k_asm); (case kd => k_room); (case hh => exact rfl); (case k0 => assumption); (case k1 => assumption); (case n0 => assumption); (case n1 => assumption)))))

set_option maxHeartbeats 4000000 in
theorem segB2 {w : World} {env : Env} {L : Addr} {base g : Heap} {m mg mb : Str → Option Value} {p : Program} {loose : List Str} {mean : ExcName → Option Value}
    {s : Shared} {lo : Addr} {vs : Array Value} {nn : Nat} {ps : Array Value} {oF oD oP oN : Obj} {kind n : Int} {tn : Tok} {codes : List (Addr × Obj)} {b : Bool} {Q : Flow → Shared → Prop} {E : Value → Shared → Prop}
    (B : Below (callerA.deeper env) base [env] g) (F : Fr g L s.heap m) (X₀ : (hd.heap_39 w.params).In g) (XB : (hd.heap_39 w.params).In base)
    (N : News g L s.heap ((L + 1 + 1 + 1 + 1, oF) :: (L + 1 + 1 + 1, oD) :: (L + 1 + 1, oP) :: (L + 1, oN) :: (lo, listOf vs nn) :: (257, tabObj ps) :: codes))
    (T : Top p loose mean mg mb g) (TB : Top p loose mean mg mb base) (C : CodeHd g 261 257) (I : LamInv ps codes "_law_once.<locals>.<lambda>") (hcodes : ∀ p ∈ codes, p.1 ≠ 257)
    (hpre : ∀ p ∈ [(L + 1 + 1 + 1 + 1, oF), (L + 1 + 1 + 1, oD), (L + 1 + 1, oP), (L + 1, oN), (lo, listOf vs nn)], p.1 ≠ 257)
    (dF : oF.data = .cell (some (.ref (kA kind)))) (dN : oN.data = .cell (some (.int n tn))) (hk0 : 0 ≤ kind) (hk1 : kind < 12) (hmf : m "fits" = some (.bool b)) (hb : b = true ↔ kLow kind ≤ n ∧ n ≤ kHigh kind)
    (hn0 : -1329227995784915872903807060280344576 ≤ n) (hn1 : n ≤ 1329227995784915872903807060280344576)
    (hQ : ∀ g' h' tk ps' codes', KtsTurn (framesOf [env]) g g' → Fr g' L h' m → Below (callerA.deeper env) base [env] g' → News g' L h' ((L + 1 + 1 + 1 + 1, oF) :: (L + 1 + 1 + 1, oD) :: (L + 1 + 1, oP) :: (L + 1, oN) :: (lo, listOf vs nn) :: (257, tabObj ps') :: codes') →
      LamInv ps' codes' "_law_once.<locals>.<lambda>" → (∀ p ∈ codes', p.1 ≠ 257) → Q .next {s with heap := h', toks := tk}) :
    wpAny (model lawProg w) ((callerA.deeper env).deeper (onceEnv L)) (execs ((onceBody.drop 8).take 1) (onceEnv L)) Q E s := by
  show wpAny _ (Around.deeper _ (envOfC _ (Scope.mk _ _ _ _ _) _ _ _)) (execs [_] (envOfC _ (Scope.mk _ _ _ _ _) _ _ _)) _ _ _
  k_steps
  · exfalso; clear hQ hmf; rename_i b₁ _ _ hb₁ _ _ q; rw [Bool.eq_iff_iff.mpr (hb₁.trans hb.symm)] at q; simp at q
  rename_i f' c' oc' vs' t' ct' h' tk' ps' codes' F' N' I' hc' e1' e2' e3' l1' l2'
  refine ⟨?_⟩
  refine told_same (v₀ := .none) (X₁ := "TypeError") (Pok := kLow kind ≤ n ∧ n ≤ kHigh kind) (Pex := ¬ (kLow kind ≤ n ∧ n ≤ kHigh kind)) B F' X₀ XB N' List.mem_cons_self rfl T TB rfl rfl rfl (by k_room) (.inr rfl) ?hcall ?hok ?hex
  case hcall =>
    intro g₂ Lt h₁ tk envT mt FG st F₂ N₂ B₂ X₂ T₂ q1 q2 Q' E' r1 r2
    refine wpAny_call ?_
    refine' kla_code B₂ F₂ X₂ N₂ T₂ (Around.frames_deeper B₂.stack) q1 q2 List.mem_cons_self ⟨c', oc', vs', t', rfl, (N₂ (c', oc') (by (repeat (first | exact e1' | refine List.mem_cons_of_mem _ ?_)))).1, e2', e3'⟩ (by k_room) rfl (locs rfl) ?_ rfl rfl rfl (by decide)
    intro g₃ L₃ h₃ FG₃ F₃ N₃ B₃ X₃ T₃
    k_steps
    · exact ⟨fun hp h' tk f1 n1 => leaveK_ f1 n1 fun a b => r1 hp _ _ a b⟩
    · exact ⟨fun hp e G h' tk f1 hfl => fly_next B₃ f1 rfl hfl fun h' hfl' => r2 hp e g₃ h' _ FG₃ hfl'⟩
  case hok =>
    intro hp h₄ tk₄ F₄ N₄
    k_steps
    · exact hQ g _ _ ps' codes' KtsTurn.refl F₄ B (fun p hp => N₄ p (List.mem_cons_of_mem _ hp)) I' hc'
    · exfalso; have := hb.mpr hp; clear hQ; simp_all; done
  case hex =>
    intro hp h₄ tk₄ g₄ t₄ T₄ F₄ N₄ B₄
    have X₄ : (hd.heap_39 w.params).In g₄ := XB.keeps B₄.stays
    have P₄ := TB.keeps B₄.stays
    rw [if_neg (by decide)]
    k_steps
    · exfalso; apply hp; apply hb.mp; clear hQ; simp_all; done
    · exact hQ g₄ _ _ ps' codes' T₄ F₄ B₄ (fun p hp => N₄ p (List.mem_cons_of_mem _ hp)) I' hc'
end Mine
end
section
open PySem PySem.W PyProof.Rows PySem.Calls
set_option maxRecDepth 100000
namespace Mine
theorem fresh_KeU : True := by
  w_top off
  trivial

theorem any_stop {α : Type} {M : Model} {A : Around} {t : Sem α} {Q : α → Shared → Prop} {E : Value → Shared → Prop} {s : Shared} (h : wpAny M A t (fun a s => Stop (Q a s)) E s) : wpAny M A t Q E s :=
  wpAny_mono h (fun _ _ x => x.go) fun _ _ x => x

local macro_rules | `(tactic| walk_at "eval Name") => `(tactic| (k_here; k_dflt (refine' nameX_L ?F ?v ?_ ?a ?b; (case F => k_asm); (case a => rfl); (case b => rfl); (case v => assumption); k_whole)))
local macro_rules | `(tactic| k_all) => `(tactic| with_reducible assumption)

theorem evalArgs_one {M : Model} {A : Around} {E : Value → Shared → Prop} {s : Shared} {f : Value} {e : Expr} {env : Env} {pos : Pos} {Q : Args → Shared → Prop}
    (h : wpAny M A (spliced (backTo pos (starEach [e] env))) (fun vs s' => Q ⟨vs, []⟩ s') E s) (he : starEach [e] env = [(false, eval e env)] := by rfl) : wpAny M A (evalArgs f true (backTo pos (starEach [e] env)) []) Q E s := by
  rw [he] at h ⊢; exact evalArgs_plain h

/-- a new bytearray upon the ledger -/
theorem ba_onto {g h h' : Heap} {L : Addr} {m : Str → Option Value} {news : List (Addr × Obj)} {o : Obj} (F : Fr g L h m) (N : News g L h news) (g1 : h'.get? h.objs.size = some o) (g2 : ∀ b o, h.get? b = some o → h'.get? b = some o) :
    Fr g L h' m ∧ News g L h' ((h.objs.size, o) :: news) := by
  obtain ⟨oL, es, ep, hL, r⟩ := F.ns
  refine ⟨⟨⟨oL, es, ep, g2 _ _ hL, r⟩, fun b o e => g2 _ _ (F.keep b o e), F.above⟩, fun p hp => ?_⟩
  rcases List.mem_cons.mp hp with rfl | hp
  · refine ⟨g1, fun z => ?_, ?_⟩
    · have := Heap.lt_size hL; rw [← z] at this; exact absurd this (Nat.lt_irrefl _)
    · cases q : g.get? h.objs.size with
      | none => rfl
      | some o' => exact absurd (Heap.lt_size (F.keep _ _ q)) (Nat.lt_irrefl _)
  · exact ⟨g2 _ _ (N p hp).1, (N p hp).2⟩

set_option maxHeartbeats 4000000 in
theorem segC {w : World} {env : Env} {L : Addr} {base g : Heap} {m mg mb : Str → Option Value} {p : Program} {loose : List Str} {mean : ExcName → Option Value}
    {s : Shared} {lo : Addr} {vs : List Value} {octs : List Int} {nn : Nat} {ps : Array Value} {oF oD oP oN : Obj} {codes : List (Addr × Obj)} {Q : Flow → Shared → Prop} {E : Value → Shared → Prop}
    (B : Below (callerA.deeper env) base [env] g) (F : Fr g L s.heap m) (X₀ : (hd.heap_39 w.params).In g)
    (N : News g L s.heap ((L + 1 + 1 + 1 + 1, oF) :: (L + 1 + 1 + 1, oD) :: (L + 1 + 1, oP) :: (L + 1, oN) :: (lo, listOf vs.toArray nn) :: (257, tabObj ps) :: codes))
    (T : Top p loose mean mg mb g) (hcD : ∀ p ∈ codes, p.1 ≠ L + 1 + 1 + 1) (l1 : @LT.lt Nat _ lo L ∧ @LT.lt Nat _ 257 L) (dD : oD.data = .cell none) (hmo : m "octets" = some (.ref lo)) (hi : IntsAre vs octs) (hr : ∀ x ∈ octs, 0 ≤ x ∧ x < 256) (hz : octs.length ≤ 28)
    (hQ : ∀ h' tk oD' d, Fr g L h' m → News g L h' ((d, baObj (byteArr octs)) :: (L + 1 + 1 + 1 + 1, oF) :: (L + 1 + 1 + 1, oD') :: (L + 1 + 1, oP) :: (L + 1, oN) :: (lo, listOf vs.toArray nn) :: (257, tabObj ps) :: codes) →
      oD'.data = .cell (some (.ref d)) → @LT.lt Nat _ (L + 1 + 1 + 1 + 1) d → (∀ p ∈ codes, p.1 < d) → Q .next {s with heap := h', toks := tk}) :
    wpP (model lawProg w) ((callerA.deeper env).deeper (onceEnv L)) (execs ((onceBody.drop 9).take 1) (onceEnv L)) Q E s := by
  show wpP _ (Around.deeper _ (envOfC _ (Scope.mk _ _ _ _ _) _ _ _)) (execs [.Assign [.Name _ _] _ _] (envOfC _ (Scope.mk _ _ _ _ _) _ _ _)) _ _ _
  refine wpP_execs_cons ?_
  refine wpP_assign rfl ?_
  refine wpP_eval_call ?_
  refine any_stop ?_
  refine nameX_B F X₀ (topRead_of T) (by k_is) (PyProof.Rows.Boot.«bytearray») (by decide) ?_
  refine ⟨?_⟩
  refine wpP_callWith_type rfl ?_
  refine evalArgs_one ?_
  refine spliced_more ?_
  refine nameX_L F hmo ?_
  refine spliced_none ?_
  refine call_bytearray rfl (News.isList N (by k_mem)) hi hr (by omega) fun h' g1 g2 => ?_
  obtain ⟨F2, N2⟩ := ba_onto F N g1 g2
  have b1 : @LT.lt Nat _ (L + 1 + 1 + 1 + 1) s.heap.objs.size := Heap.lt_size (N _ (by k_mem)).1
  have b2 : ∀ p ∈ codes, p.1 < s.heap.objs.size := fun p hp => Heap.lt_size (N p (by (repeat (first | exact hp | refine List.Mem.tail _ ?_)))).1
  generalize s.heap.objs.size = d at F2 N2 b1 b2 ⊢
  clear F N
  refine any_stop ?_
  k_steps
  refine ⟨?_⟩
  refine wpP_of_any ?_
  k_steps
  rename Fr g L _ _ => kF; rename News g L _ _ => kN; rename _ = Data.cell _ => kd
  exact hQ _ _ _ _ kF kN kd b1 b2
end Mine
end
section
open PySem PySem.W PyProof.Rows PySem.Calls
set_option maxRecDepth 100000
namespace Mine
open PySem.W.KBw (bInts)

theorem news_swap {g h : Heap} {L : Addr} {a b : Addr × Obj} {r : List (Addr × Obj)} (N : News g L h (a :: b :: r)) : News g L h (b :: a :: r) := fun p hp => by
  rcases List.mem_cons.mp hp with rfl | hp
  · exact N _ (List.mem_cons_of_mem _ List.mem_cons_self)
  · rcases List.mem_cons.mp hp with rfl | hp
    · exact N _ List.mem_cons_self
    · exact N _ (List.mem_cons_of_mem _ (List.mem_cons_of_mem _ hp))

/-- the codes are no bytearray and no cell -/
theorem codes_ne {g h : Heap} {L d : Addr} {o : Obj} {news codes : List (Addr × Obj)} {ps : Array Value} {q : Str} (N : News g L h news) (hd : (d, o) ∈ news) (hsub : ∀ p ∈ codes, p ∈ news) (I : LamInv ps codes q)
    (ho : ∀ vs, o.data ≠ .fields vs) : ∀ p ∈ codes, p.1 ≠ d := fun p hp e => by
  obtain ⟨vs, hv⟩ := I.2.2 p hp
  have h1 := (N p (hsub p hp)).1
  rw [e, (N _ hd).1] at h1
  cases h1
  exact ho vs hv

/-- what a frame that has caught hands down -/
theorem back_turn {h₀ g g₂ h' : Heap} {L L' : Addr} {fs : List Addr} {m m' : Str → Option Value} {n' : List (Addr × Obj)} (FG : Fr h₀ L g m) (st : h₀.StaysIn g) (T : KtsTurn fs g g₂) (hfs : ∀ b ∈ fs, b = L) (F : Fr g₂ L' h' m') (N : News g₂ L' h' n') :
    Fr h₀ L h' m ∧ News h₀ L h' n' := by
  obtain ⟨oL, es, ep, hL, hLd, hLk, hLf⟩ := FG.ns
  obtain ⟨sl, hs⟩ := T.up hL
  refine ⟨⟨⟨{ oL with slots := sl }, es, ep, F.keep _ _ hs, hLd, hLk, hLf⟩, fun b o e => F.keep _ _ (T.other b o (st b o e) fun hm => ?_), FG.above⟩, fun p hp => ⟨(N p hp).1, fun q => ?_, ?_⟩⟩
  · have := hfs b hm; subst this
    rw [kts_self FG] at e; cases e
  · have := (N p hp).2.2; rw [q, hs] at this; cases this
  · cases q : h₀.get? p.1 with
    | none => rfl
    | some o =>
      obtain ⟨sl', hs'⟩ := T.up (st _ _ q)
      rw [(N p hp).2.2] at hs'; cases hs'

section
variable {w : World} {A₀ A : Around} {env : Env} {L : Addr} {base h₀ : Heap} {outer : List Env} {m mg mb : Str → Option Value} {p : Program} {loose : List Str} {mean : ExcName → Option Value} {news nOk nEx : List (Addr × Obj)}
    {s : Shared} {f : Addr} {fo : Obj} {fd : FuncData} {Q : Value → Shared → Prop} {E : Value → Shared → Prop} {v₀ : Value} {Pok Pex : Prop}
theorem told_to (B : Below A₀ base outer h₀) (F : Fr h₀ L s.heap m) (X₀ : (hd.heap_39 w.params).In h₀) (XB : (hd.heap_39 w.params).In base)
    (N : News h₀ L s.heap news) (hfo : (f, fo) ∈ news) (hfd : fo.data = .func fd) (T : Top p loose mean mg mb h₀) (TB : Top p loose mean mg mb base) (hA : A.frames = some (env :: outer)) (hf : env.frame = some L) (hke : env.scope.kind = .function) (hdep : A.depth < recursionLimit)
    (hcall : ∀ g Lt h₁ tk envT mt, Fr h₀ L g m → h₀.StaysIn g → Fr g Lt h₁ mt → News g Lt h₁ news → Below A base (env :: outer) g → (hd.heap_39 w.params).In g → Top p loose mean mg mb g → envT.frame = some Lt → envT.scope.kind = .function →
      ∀ (Q' : Value → Shared → Prop) (E' : Value → Shared → Prop), (Pok → ∀ h' tk, Fr g Lt h' mt → News g Lt h' nOk → Q' v₀ { s with heap := h', toks := tk }) →
        (Pex → ∀ e G h' tk, Fr g Lt G mt → Flies G nEx (envT :: env :: outer) e "struct.error" h' → E' (.ref e) { s with heap := h', toks := tk }) →
        wpAny (model lawProg w) (A.deeper envT) (PySem.call (.ref f) [] []) Q' E' { s with heap := h₁, toks := tk })
    (hok : Pok → ∀ h' tk, Fr h₀ L h' m → News h₀ L h' nOk → Q v₀ { s with heap := h', toks := tk })
    (hex : Pex → ∀ h' tk g' t, KtsTurn (framesOf outer) h₀ g' → Fr g' L h' m → News g' L h' nEx → Below A₀ base outer g' → (hd.heap_39 w.params).In g' → Top p loose mean mg mb g' → Q (.str ("refused" : Str) t) { s with heap := h', toks := tk }) :
    wpAny (model lawProg w) A (PySem.call (.ref 255) [.ref f] []) Q E s :=
  told_call (ok := fun v n' => v = v₀ ∧ Pok ∧ n' = nOk) (ex := fun X n' => X = "struct.error" ∧ Pex ∧ n' = nEx) B F X₀ XB N hfo hfd T TB hA hf hke hdep (fun X n h => .inl h.1)
    (fun g Lt h₁ tk envT mt FG st F₂ N₂ B₂ X₂ T₂ e1 e2 Q' E' q1 q2 => hcall g Lt h₁ tk envT mt FG st F₂ N₂ B₂ X₂ T₂ e1 e2 Q' E'
      (fun hp h' tk f1 n1 => q1 v₀ h' tk nOk f1 n1 ⟨rfl, hp, rfl⟩) (fun hp e G h' tk f1 n1 => q2 e "struct.error" G h' tk nEx f1 n1 ⟨rfl, hp, rfl⟩))
    (fun v h' tk n' f1 n1 o => by rcases o with ⟨rfl, hp, rfl⟩; exact hok hp h' tk f1 n1)
    (fun X h' tk g' n' t1 f1 n1 b1 o t => by
      rcases o with ⟨rfl, hp, rfl⟩
      rw [if_pos rfl]
      exact hex hp h' tk g' t t1 f1 n1 b1 (XB.keeps b1.stays) (TB.keeps b1.stays))
end

/-- a lambda of _law_once -/
theorem lam_once {w : World} {A : Around} {E : Value → Shared → Prop} {s : Shared} {h₀ : Heap} {L : Addr} {m mg mb : Str → Option Value} {pre codes : List (Addr × Obj)}
  {p : Program} {loose : List Str} {mean : ExcName → Option Value} {params : Arguments} {body : PySem.Expr} {scope : Scope} {ps : Array Value} {pos : Pos} {clos : List (Str × Addr)} {Q : Value → Shared → Prop} {en : Env}
  (hen : en = onceEnv L) (hd : defaultsOf params en = ([], []))
  (F : Fr h₀ L s.heap m) (N : News h₀ L s.heap (pre ++ (257, tabObj ps) :: codes)) (hpre : ∀ p ∈ pre, p.1 ≠ 257) (hcodes : ∀ p ∈ codes, p.1 ≠ 257) (T : Top p loose mean mg mb h₀) (C : CodeHd h₀ 261 257) (I : LamInv ps codes "_law_once.<locals>.<lambda>")
    (hcl : closureFor scope (onceEnv L) = pure clos)
    (h : ∀ f c' oc vs t ctv h' tk ps' codes', Fr h₀ L h' m → News h₀ L h' ((f, kla_obj "<lambda>" "_law_once.<locals>.<lambda>" params body scope clos ((mg "__name__").getD .none) c' ctv) :: (pre ++ (257, tabObj ps') :: codes')) → LamInv ps' codes' "_law_once.<locals>.<lambda>" → (∀ p ∈ codes', p.1 ≠ 257) →
      (c', oc) ∈ codes' → oc.data = .fields vs → vs[1]? = some (.str "_law_once.<locals>.<lambda>" t) → (∀ q ∈ pre, q.1 < f) → 257 < f → Q (.ref f) { s with heap := h', toks := tk }) :
    wpAny (model lawProg w) A (eval (.Lambda params body scope pos) en) Q E s := by
  subst hen
  refine kla_eval hd ?_
  exact lam_any F N hpre hcodes T C rfl I hcl h

section
variable {w : World} {A₀ A : Around} {env : Env} {L : Addr} {base h₀ : Heap} {outer : List Env} {m mg mb : Str → Option Value} {p : Program} {loose : List Str} {mean : ExcName → Option Value} {rest : List (Addr × Obj)}
    {s : Shared} {f d : Addr} {fo : Obj} {fd : FuncData} {Q : Value → Shared → Prop} {E : Value → Shared → Prop} {v₀ : Value} {Pok Pex : Prop} {b b₁ b₂ : Array UInt8}
theorem told_first (b₁ b₂ : Array UInt8) (v₀ : Value) (Pok Pex : Prop) (B : Below A₀ base outer h₀) (F : Fr h₀ L s.heap m) (X₀ : (hd.heap_39 w.params).In h₀) (XB : (hd.heap_39 w.params).In base)
    (N : News h₀ L s.heap ((f, fo) :: (d, baObj b) :: rest)) (hfd : fo.data = .func fd) (T : Top p loose mean mg mb h₀) (TB : Top p loose mean mg mb base) (hA : A.frames = some (env :: outer)) (hf : env.frame = some L) (hke : env.scope.kind = .function) (hdep : A.depth < recursionLimit)
    (hcall : ∀ g Lt h₁ tk envT mt, Fr h₀ L g m → h₀.StaysIn g → Fr g Lt h₁ mt → News g Lt h₁ ((d, baObj b) :: (f, fo) :: rest) → Below A base (env :: outer) g → (hd.heap_39 w.params).In g → Top p loose mean mg mb g → envT.frame = some Lt → envT.scope.kind = .function →
      ∀ (Q' : Value → Shared → Prop) (E' : Value → Shared → Prop), (Pok → ∀ h' tk, Fr g Lt h' mt → News g Lt h' ((d, baObj b₁) :: (f, fo) :: rest) → Q' v₀ { s with heap := h', toks := tk }) →
        (Pex → ∀ e G h' tk, Fr g Lt G mt → Flies G ((d, baObj b₂) :: (f, fo) :: rest) (envT :: env :: outer) e "struct.error" h' → E' (.ref e) { s with heap := h', toks := tk }) →
        wpAny (model lawProg w) (A.deeper envT) (PySem.call (.ref f) [] []) Q' E' { s with heap := h₁, toks := tk })
    (hok : Pok → ∀ h' tk, Fr h₀ L h' m → News h₀ L h' ((d, baObj b₁) :: rest) → Q v₀ { s with heap := h', toks := tk })
    (hex : Pex → ∀ h' tk g' t, KtsTurn (framesOf outer) h₀ g' → Fr g' L h' m → News g' L h' ((d, baObj b₂) :: rest) → Below A₀ base outer g' → (hd.heap_39 w.params).In g' → Top p loose mean mg mb g' → Q (.str ("refused" : Str) t) { s with heap := h', toks := tk }) :
    wpAny (model lawProg w) A (PySem.call (.ref 255) [.ref f] []) Q E s := by
  have drop : ∀ {g h : Heap} {a b : Addr × Obj}, News g L h (a :: b :: rest) → News g L h (a :: rest) := fun N p hp => by
    rcases List.mem_cons.mp hp with rfl | hp
    · exact N _ List.mem_cons_self
    · exact N _ (List.mem_cons_of_mem _ (List.mem_cons_of_mem _ hp))
  exact told_to B F X₀ XB (news_swap N) (List.mem_cons_of_mem _ List.mem_cons_self) hfd T TB hA hf hke hdep hcall (fun hp h' tk f1 n1 => hok hp h' tk f1 (drop n1)) (fun hp h' tk g' t t1 f1 n1 => hex hp h' tk g' t t1 f1 (drop n1))
end

-- list of a bytearray, upon the ledger
section
variable {prog : Program} {w : World} {A : Around} {E : Value → Shared → Prop} {s : Shared} {b : Array UInt8} {h₀ : Heap} {L d : Addr} {m : PySem.Str → Option Value} {news : List (Addr × Obj)} {Q : Value → Shared → Prop}
theorem balist_K (hh : A.handled = none) (F : Fr h₀ L s.heap m) (N : News h₀ L s.heap news) (hd : (d, baObj b) ∈ news) (hz : b.size ≤ 1000)
    (h : ∀ D h' tk vs c', Fr h₀ L h' m → News h₀ L h' ((D, listOf (List.toArray vs) c') :: news) → IntsAre vs (bInts b) → (∀ p ∈ news, p.1 < D) → Q (.ref D) { s with heap := h', toks := tk }) :
    wpAny (model prog w) A (call (.type "list") [.ref d]) Q E s := by
  refine call_list_ba hh (N _ hd).1 hz fun h' tk vs c' g2 g1 hi => ?_
  obtain ⟨F2, N2⟩ := ba_onto F N g1 g2
  exact h _ h' tk vs.toList c' F2 (by rw [Array.toArray_toList]; exact N2) hi fun p hp => Heap.lt_size (N p hp).1
end
end Mine
end
section
open PySem PySem.W PyProof.Rows PySem.Calls
set_option maxRecDepth 100000
namespace Mine
local macro_rules | `(tactic| walk_at "never 0") => `(tactic| fail)
local macro_rules | `(tactic| walk_at "never 1") => `(tactic| fail)
local macro_rules | `(tactic| walk_at "never 2") => `(tactic| fail)
local macro_rules | `(tactic| walk_at "never 3") => `(tactic| fail)
local macro_rules | `(tactic| walk_at "never 4") => `(tactic| fail)
local macro_rules | `(tactic| walk_at "never 5") => `(tactic| fail)
local macro_rules | `(tactic| walk_at "never 6") => `(tactic| fail)
local macro_rules | `(tactic| walk_at "never 7") => `(tactic| fail)
local macro_rules | `(tactic| walk_at "never 8") => `(tactic| fail)
local macro_rules | `(tactic| walk_at "never 9") => `(tactic| fail)
local macro_rules | `(tactic| walk_at "never 10") => `(tactic| fail)
local macro_rules | `(tactic| walk_at "never 11") => `(tactic| fail)
local macro_rules | `(tactic| walk_at "never 12") => `(tactic| fail)
local macro_rules | `(tactic| walk_at "never 13") => `(tactic| fail)
local macro_rules | `(tactic| walk_at "never 14") => `(tactic| fail)
local macro_rules | `(tactic| walk_at "never 15") => `(tactic| fail)
theorem fresh_KeW : True := by
  w_top off
  trivial
open PySem.W.KBw (bInts)
local macro_rules | `(tactic| k_all) => `(tactic| with_reducible assumption)
local macro_rules | `(tactic| walk_at "eval Name") => `(tactic| (k_here; k_dflt (refine' nameX_L ?F ?v ?_ ?a ?b; (case F => k_asm); (case a => rfl); (case b => rfl); (case v => assumption); k_whole)))
local macro_rules | `(tactic| walk_at "getAttr ref") => `(tactic| (k_here; (with_reducible show wpAny _ _ (getAttr (Value.ref (kA _)) ("packer_type" : Str) _) _ _ _); k_dflt (refine' attr_packer ?F ?X ?a ?b ?_; (case F => k_asm); (case X => k_asm); (case a => assumption); (case b => assumption); k_whole); intro t'))
local macro_rules | `(tactic| walk_at "eval Lambda") => `(tactic| (k_here; (k_dflt (refine' lam_once ?lmh ?lmd ?lmF (show News _ _ _ ([_, _, _, _, _, _] ++ (257, tabObj _) :: _) from ?lmN) ?lmp ?lmc ?lmT ?lmC ?lmI ?lml ?_; (case lmh => exact rfl); (case lmF => k_asm); (case lmN => k_asm); (case lmT => k_asm); (case lmd => exact rfl); (case lmC => k_asm); (case lml => exact rfl); (case lmp => k_all); (case lmc => assumption); (case lmI => assumption); k_whole)); intro f' c' oc' vs' t' ct' h' tk' ps' codes' F' N' I' hc' e1' e2' e3' l1' l2'; (simp only [List.cons_append, List.nil_append] at N')))
local macro_rules | `(tactic| walk_at "callWith ref") => `(tactic| (k_here; k_dflt (refine' callWith_K ?cw1 ?cw2 ?_; (case cw1 => k_asm); (case cw2 => k_is); k_whole)))
local macro_rules | `(tactic| walk_at "call ref") => `(tactic| (k_here; (k_dflt ((show wpAny _ _ (PySem.call (Value.ref 255) [.ref _] []) _ _ _); refine of_stop ?_))))
local macro_rules | `(tactic| walk_at "call ref") => `(tactic| (k_here; (k_dflt ((show wpAny _ _ (PySem.call (Value.ref 49) [.ref (kSt _), .ref _, .int _ _] []) _ _ _); refine of_stop ?_))))
local macro_rules | `(tactic| walk_at "call ref") => `(tactic| (k_here; (k_dflt ((show wpAny _ _ (PySem.call (Value.ref 56) [.ref (kSt _), .ref _, .int _ _, .int _ _] []) _ _ _); refine of_stop ?_))))
local macro_rules | `(tactic| walk_at "call type:list") => `(tactic| (k_here; (k_dflt ((show wpAny _ _ (PySem.call (Value.type "list") [.ref _] []) _ _ _); refine balist_K rfl (by k_asm) (by k_asm) (by k_mem) (by assumption) ?_)); intro D' h' tk' vs' cc' F' N' iD' lD'; (try k_lt lD')))

set_option maxHeartbeats 4000000 in
theorem segD {w : World} {env : Env} {L : Addr} {base g : Heap} {m mg mb : Str → Option Value} {p : Program} {loose : List Str} {mean : ExcName → Option Value}
    {s : Shared} {lo d : Addr} {vs : List Value} {octs : List Int} {nn : Nat} {ps : Array Value} {b : Array UInt8} {oF oD oP oN : Obj} {kind n place : Int} {tn tp tw : Tok} {codes : List (Addr × Obj)} {Q : Flow → Shared → Prop} {E : Value → Shared → Prop}
    (B : Below (callerA.deeper env) base [env] g) (F : Fr g L s.heap m) (X₀ : (hd.heap_39 w.params).In g) (XB : (hd.heap_39 w.params).In base)
    (N : News g L s.heap ((d, baObj b) :: (L + 1 + 1 + 1 + 1, oF) :: (L + 1 + 1 + 1, oD) :: (L + 1 + 1, oP) :: (L + 1, oN) :: (lo, listOf vs.toArray nn) :: (257, tabObj ps) :: codes))
    (T : Top p loose mean mg mb g) (TB : Top p loose mean mg mb base) (C : CodeHd g 261 257) (CB : CodeHd base 261 257) (I : LamInv ps codes "_law_once.<locals>.<lambda>") (hcodes : ∀ p ∈ codes, p.1 ≠ 257)
    (ld : @LT.lt Nat _ (L + 1 + 1 + 1 + 1) d) (l1 : @LT.lt Nat _ lo L ∧ @LT.lt Nat _ 257 L) (l2 : @Ne Nat lo 257)
    (dF : oF.data = .cell (some (.ref (kA kind)))) (dD : oD.data = .cell (some (.ref d))) (dP : oP.data = .cell (some (.int place tp))) (dN : oN.data = .cell (some (.int n tn))) (hk0 : 0 ≤ kind) (hk1 : kind < 12)
    (hmw : m "width" = some (.int (kW kind) tw)) (hmo : m "octets" = some (.ref lo)) (hi : IntsAre vs octs) (hz : octs.length ≤ 28) (hbs : b.size = octs.length) (hbi : bInts b = octs)
    (hp0 : 0 ≤ place) (hp1 : place ≤ octs.length)
    (hT : ∀ g' h' tk ps' codes' m', KtsTurn (framesOf [env]) g g' → Fr g' L h' m' → News g' L h' ((lo, listOf vs.toArray nn) :: (257, tabObj ps') :: codes') → LamInv ps' codes' "_law_once.<locals>.<lambda>" → (∀ p ∈ codes', p.1 ≠ 257) → Q (.ret (.bool true)) {s with heap := h', toks := tk})
    (hQ : place + kW kind ≤ octs.length → ∀ h' tk, Fr g L h' m → News g L h' ((d, baObj b) :: (L + 1 + 1 + 1 + 1, oF) :: (L + 1 + 1 + 1, oD) :: (L + 1 + 1, oP) :: (L + 1, oN) :: (lo, listOf vs.toArray nn) :: (257, tabObj ps) :: codes) → Q .next {s with heap := h', toks := tk}) :
    wpAny (model lawProg w) ((callerA.deeper env).deeper (onceEnv L)) (execs ((onceBody.drop 10).take 1) (onceEnv L)) Q E s := by
  show wpAny _ (Around.deeper _ (envOfC _ (Scope.mk _ _ _ _ _) _ _ _)) (execs [_] (envOfC _ (Scope.mk _ _ _ _ _) _ _ _)) _ _ _
  have kw0 : 0 ≤ kW kind := kW_lo hk0 hk1
  have kw1 : kW kind ≤ 8 := kW_hi hk0 hk1
  have hb1 : b.size ≤ 1000 := by omega
  k_steps
  · rename_i hfar f' c' oc' vs' t' ct' h' tk' ps' codes' F' N' I' hc' e1' e2' e3' l1' l2'
    refine ⟨?_⟩
    have lf : @LT.lt Nat _ d f' := l1' (d, baObj b) List.mem_cons_self
    refine told_first b b .none False True B F' X₀ XB N' rfl T TB rfl rfl rfl (by k_room) ?hcall (fun x => x.elim) ?hex
    case hcall =>
      intro g₂ Lt h₁ tk envT mt FG st F₂ N₂ B₂ X₂ T₂ q1 q2 Q' E' r1 r2
      refine wpAny_call ?_
      refine' kla_code B₂ F₂ X₂ N₂ T₂ (Around.frames_deeper B₂.stack) q1 q2 (List.mem_cons_of_mem _ List.mem_cons_self) ⟨c', oc', vs', t', rfl, (N₂ (c', oc') (by (repeat (first | exact e1' | refine List.mem_cons_of_mem _ ?_)))).1, e2', e3'⟩ (by k_room) rfl (locs rfl) ?_ rfl rfl rfl (by decide)
      intro g₃ L₃ h₃ FG₃ F₃ N₃ B₃ X₃ T₃
      clear N' F'
      k_steps
      refine ⟨?_⟩
      refine get_bad B₃ F₃ X₃ N₃ T₃ rfl rfl rfl (by k_room) rfl hk0 hk1 hb1 hp0 (by omega) (by omega) fun e g₄ h₄ tk₄ F₄ hfl => ?_
      exact fly_next B₃ F₄ rfl hfl fun h₅ hfl' => r2 True.intro e g₃ h₅ _ FG₃ hfl'
    case hex =>
      intro _ h₄ tk₄ g₄ t₄ T₄ F₄ N₄ B₄ X₄ P₄
      have C₄ : CodeHd g₄ 261 257 := CB.keeps B₄.stays
      clear N' F' B C T X₀ N F I hcodes l1' l2' lf e1' e2' e3'
      k_steps
      clear I' hc'
      rename_i f' c' oc' vs' t' ct' h' tk' ps' codes' F' N' I' hc' e1' e2' e3' l1' l2'
      refine ⟨?_⟩
      have lf : @LT.lt Nat _ d f' := l1' (d, baObj b) List.mem_cons_self
      have hcd : ∀ p ∈ codes', p.1 ≠ d := codes_ne N' (List.mem_cons_of_mem _ List.mem_cons_self) (fun p hp => by (repeat (first | exact hp | refine List.mem_cons_of_mem _ ?_))) I' (fun _ z => by cases z)
      refine told_first b b .none False True B₄ F' X₄ XB N' rfl P₄ TB rfl rfl rfl (by k_room) ?hcall (fun x => x.elim) ?hex
      case hcall =>
        intro g₂ Lt h₁ tk envT mt FG st F₂ N₂ B₂ X₂ T₂ q1 q2 Q' E' r1 r2
        refine wpAny_call ?_
        refine' kla_code B₂ F₂ X₂ N₂ T₂ (Around.frames_deeper B₂.stack) q1 q2 (List.mem_cons_of_mem _ List.mem_cons_self) ⟨c', oc', vs', t', rfl, (N₂ (c', oc') (by (repeat (first | exact e1' | refine List.mem_cons_of_mem _ ?_)))).1, e2', e3'⟩ (by k_room) rfl (locs rfl) ?_ rfl rfl rfl (by decide)
        intro g₃ L₃ h₃ FG₃ F₃ N₃ B₃ X₃ T₃
        clear N' F'
        k_steps
        refine ⟨?_⟩
        refine write_call B₃ F₃ X₃ N₃ (by k_all) T₃ rfl rfl rfl (by k_room) rfl hk0 hk1 hb1 hp0 (by omega) (.inr (.inr (by omega))) (fun hr => absurd hr (by omega)) fun _ e g₄ h₄ tk₄ b' F₄ hfl hb' => ?_
        rw [if_neg (by omega)] at hb'
        subst hb'
        exact fly_next B₃ F₄ rfl hfl fun h₅ hfl' => r2 True.intro e g₃ h₅ _ FG₃ hfl'
      case hex =>
        intro _ h₅ tk₅ g₅ t₅ T₅ F₅ N₅ B₅ X₅ P₅
        clear N' F' B₄ C₄ P₄ X₄ F₄ N₄ l1' lf e1' e2' e3'
        k_steps
        rename News g₅ L _ _ => kN; rename Fr g₅ L _ _ => kF
        rw [show decide (bInts b = octs) = true from decide_eq_true hbi]
        exact hT g₅ _ _ ps' codes' _ (T₄.trans T₅) kF (fun p hp => kN p (by (repeat (first | exact hp | refine List.mem_cons_of_mem _ ?_)))) I' hc'
  · rename_i hfar
    exact hQ (by omega) _ _ F N
end Mine
end
section
open PySem PySem.W PyProof.Rows PySem.Calls
set_option maxRecDepth 100000
namespace Mine
theorem fresh_KeY : True := by
  w_top off
  trivial
open PySem.W.KBw (bInts)
open PySem.Builtin PySem.Builtin.Bytes PySem.Builtin.Struct
theorem clip_nn {n : Nat} {i : Int} (h : 0 ≤ i) : clipAt n i = min i.toNat n := by
  unfold clipAt; omega
section
variable {prog : Program} {w : World} {A : Around} {E : Value → Shared → Prop} {s : Shared} {value slice : PySem.Expr} {b : Array UInt8} {h₀ : Heap} {L d : Addr} {m : PySem.Str → Option Value} {news : List (Addr × Obj)} {ks : List Int} {i : Int} {ti : Tok} {Q : Value → Shared → Prop}
theorem baslice_take (hF : Fr h₀ L s.heap m) (hN : News h₀ L s.heap news) (hd : (d, baObj b) ∈ news) (hz : b.size ≤ 1000) (hk : bInts b = ks) (h0 : 0 ≤ i)
    (h : ∀ D h' bq, Fr h₀ L h' m → News h₀ L h' ((D, baObj bq) :: news) → bq.size ≤ 1000 → bInts bq = ks.take i.toNat → (∀ p ∈ news, p.1 < D) → Q (.ref D) { s with heap := h' })
    (hs : subscripted slice false (.ref d) (.ref s.heap.objs.size) = operate [.ref s.heap.objs.size, .ref d] (getItem (.ref d) (.ref s.heap.objs.size)) := by with_unfolding_all rfl)
    (ht : ∀ r, letTemporaryGo value (.ref d) r = pure () := by intro _; with_unfolding_all rfl) :
    wpAny (model prog w) A (subscriptTail value slice (.ref d) (.ref s.heap.objs.size)) Q E { s with heap := s.heap.push { cls := .type "slice", data := .fields #[.none, .int i ti, .none] } } := by
  refine baslice_K hF hN hd (.none) (.int _ _) hz (fun D h' F' N' l => h D h' _ F' N' (Nat.le_trans (KBc.size_picked_le _ _ _) hz) ?_ l) hs ht
  rw [KBc.ints_picked hk]
  show List.take (clipAt ks.length i - 0) (ks.drop 0) = _
  rw [clip_nn h0, Nat.sub_zero, List.drop_zero]
  rcases Nat.le_total i.toNat ks.length with z | z
  · rw [Nat.min_eq_left z]
  · rw [Nat.min_eq_right z, List.take_of_length_le (Nat.le_refl _), List.take_of_length_le z]
theorem baslice_drop (hF : Fr h₀ L s.heap m) (hN : News h₀ L s.heap news) (hd : (d, baObj b) ∈ news) (hz : b.size ≤ 1000) (hk : bInts b = ks) (h0 : 0 ≤ i)
    (h : ∀ D h' bq, Fr h₀ L h' m → News h₀ L h' ((D, baObj bq) :: news) → bq.size ≤ 1000 → bInts bq = ks.drop i.toNat → (∀ p ∈ news, p.1 < D) → Q (.ref D) { s with heap := h' })
    (hs : subscripted slice false (.ref d) (.ref s.heap.objs.size) = operate [.ref s.heap.objs.size, .ref d] (getItem (.ref d) (.ref s.heap.objs.size)) := by with_unfolding_all rfl)
    (ht : ∀ r, letTemporaryGo value (.ref d) r = pure () := by intro _; with_unfolding_all rfl) :
    wpAny (model prog w) A (subscriptTail value slice (.ref d) (.ref s.heap.objs.size)) Q E { s with heap := s.heap.push { cls := .type "slice", data := .fields #[.int i ti, .none, .none] } } := by
  refine baslice_K hF hN hd (.int _ _) (.none) hz (fun D h' F' N' l => h D h' _ F' N' (Nat.le_trans (KBc.size_picked_le _ _ _) hz) ?_ l) hs ht
  rw [KBc.ints_picked hk]
  show List.take (ks.length - clipAt ks.length i) (ks.drop (clipAt ks.length i)) = _
  rw [clip_nn h0, List.take_of_length_le (by rw [List.length_drop]; exact Nat.le_refl _)]
  rcases Nat.le_total i.toNat ks.length with z | z
  · rw [Nat.min_eq_left z]
  · rw [Nat.min_eq_right z, List.drop_eq_nil_of_le (Nat.le_refl _), List.drop_eq_nil_of_le z]
end

local macro_rules | `(tactic| k_all) => `(tactic| with_reducible assumption)
local macro_rules | `(tactic| walk_at "eval Name") => `(tactic| (k_here; k_dflt (refine' nameX_L ?F ?v ?_ ?a ?b; (case F => k_asm); (case a => rfl); (case b => rfl); (case v => assumption); k_whole)))
local macro_rules | `(tactic| walk_at "getAttr ref") => `(tactic| (k_here; (with_reducible show wpAny _ _ (getAttr (Value.ref (kA _)) ("packer_type" : Str) _) _ _ _); k_dflt (refine' attr_packer ?F ?X ?a ?b ?_; (case F => k_asm); (case X => k_asm); (case a => assumption); (case b => assumption); k_whole); intro t'))
local macro_rules | `(tactic| walk_at "eval Lambda") => `(tactic| (k_here; (k_dflt (refine' lam_once ?lmh ?lmd ?lmF (show News _ _ _ ([_, _, _, _, _, _] ++ (257, tabObj _) :: _) from ?lmN) ?lmp ?lmc ?lmT ?lmC ?lmI ?lml ?_; (case lmh => exact rfl); (case lmF => k_asm); (case lmN => k_asm); (case lmT => k_asm); (case lmd => exact rfl); (case lmC => k_asm); (case lml => exact rfl); (case lmp => k_all); (case lmc => assumption); (case lmI => assumption); k_whole)); intro f' c' oc' vs' t' ct' h' tk' ps' codes' F' N' I' hc' e1' e2' e3' l1' l2'; (simp only [List.cons_append, List.nil_append] at N')))
local macro_rules | `(tactic| walk_at "callWith ref") => `(tactic| (k_here; k_dflt (refine' callWith_K ?cw1 ?cw2 ?_; (case cw1 => k_asm); (case cw2 => k_is); k_whole)))
local macro_rules | `(tactic| walk_at "call ref") => `(tactic| (k_here; (k_dflt ((show wpAny _ _ (PySem.call (Value.ref 255) [.ref _] []) _ _ _); refine of_stop ?_))))
local macro_rules | `(tactic| walk_at "call ref") => `(tactic| (k_here; (k_dflt ((show wpAny _ _ (PySem.call (Value.ref 49) [.ref (kSt _), .ref _, .int _ _] []) _ _ _); refine of_stop ?_))))
local macro_rules | `(tactic| walk_at "call ref") => `(tactic| (k_here; (k_dflt ((show wpAny _ _ (PySem.call (Value.ref 56) [.ref (kSt _), .ref _, .int _ _, .int _ _] []) _ _ _); refine of_stop ?_))))
local macro_rules | `(tactic| walk_at "call type:list") => `(tactic| (k_here; (k_dflt ((show wpAny _ _ (PySem.call (Value.type "list") [.ref _] []) _ _ _); refine balist_K rfl (by k_asm) (by k_asm) (by k_mem) (by assumption) ?_)); intro D' h' tk' vs' cc' F' N' iD' lD'; (try k_lt lD')))
local macro_rules | `(tactic| walk_at "subscriptTail") => `(tactic| (k_here; (with_reducible show wpAny _ _ (subscriptTail _ (Expr.Slice _ _ none _) (Value.ref _) (Value.ref _)) _ _ _); (k_dflt (first | refine baslice_take (s := ⟨_, _, _, _, _⟩) (by k_asm) (by k_asm) (by k_mem) (by assumption) (by assumption) (by assumption) ?_ | refine baslice_drop (s := ⟨_, _, _, _, _⟩) (by k_asm) (by k_asm) (by k_mem) (by assumption) (by assumption) (by assumption) ?_)); intro D' h' bq' F' N' zD' kD' lD'; (try k_lt lD')))

set_option maxHeartbeats 4000000 in
theorem segE {w : World} {env : Env} {L : Addr} {base g : Heap} {m mg mb : Str → Option Value} {p : Program} {loose : List Str} {mean : ExcName → Option Value}
    {s : Shared} {lo d : Addr} {vs : List Value} {octs : List Int} {nn : Nat} {ps : Array Value} {b : Array UInt8} {oF oD oP oN : Obj} {kind n place : Int} {tn tp tw tk : Tok} {fb : Bool} {codes : List (Addr × Obj)} {Q : Flow → Shared → Prop} {E : Value → Shared → Prop}
    (B : Below (callerA.deeper env) base [env] g) (F : Fr g L s.heap m) (X₀ : (hd.heap_39 w.params).In g) (XB : (hd.heap_39 w.params).In base)
    (N : News g L s.heap ((d, baObj b) :: (L + 1 + 1 + 1 + 1, oF) :: (L + 1 + 1 + 1, oD) :: (L + 1 + 1, oP) :: (L + 1, oN) :: (lo, listOf vs.toArray nn) :: (257, tabObj ps) :: codes))
    (T : Top p loose mean mg mb g) (TB : Top p loose mean mg mb base) (C : CodeHd g 261 257) (CB : CodeHd base 261 257) (I : LamInv ps codes "_law_once.<locals>.<lambda>") (hcodes : ∀ p ∈ codes, p.1 ≠ 257)
    (ld : @LT.lt Nat _ (L + 1 + 1 + 1 + 1) d) (l1 : @LT.lt Nat _ lo L ∧ @LT.lt Nat _ 257 L) (l2 : @Ne Nat lo 257)
    (dF : oF.data = .cell (some (.ref (kA kind)))) (dD : oD.data = .cell (some (.ref d))) (dP : oP.data = .cell (some (.int place tp))) (dN : oN.data = .cell (some (.int n tn))) (hk0 : 0 ≤ kind) (hk1 : kind < 12)
    (hmw : m "width" = some (.int (kW kind) tw)) (hmo : m "octets" = some (.ref lo)) (hmk : m "kind" = some (.int kind tk)) (hmf : m "fits" = some (.bool fb)) (hb : fb = true ↔ kLow kind ≤ n ∧ n ≤ kHigh kind) (hi : IntsAre vs octs) (hz : octs.length ≤ 28) (hbs : b.size = octs.length) (hbi : bInts b = octs)
    (hp0 : 0 ≤ place) (hp1 : place + kW kind ≤ octs.length)
    (hT : ∀ g' h' tk ps' codes' m', KtsTurn (framesOf [env]) g g' → Fr g' L h' m' → News g' L h' ((lo, listOf vs.toArray nn) :: (257, tabObj ps') :: codes') → LamInv ps' codes' "_law_once.<locals>.<lambda>" → (∀ p ∈ codes', p.1 ≠ 257) → Q (.ret (.bool true)) {s with heap := h', toks := tk})
    (hQ : kLow kind ≤ n ∧ n ≤ kHigh kind → ∀ h' tk, Fr g L h' m → News g L h' ((d, baObj b) :: (L + 1 + 1 + 1 + 1, oF) :: (L + 1 + 1 + 1, oD) :: (L + 1 + 1, oP) :: (L + 1, oN) :: (lo, listOf vs.toArray nn) :: (257, tabObj ps) :: codes) → Q .next {s with heap := h', toks := tk}) :
    wpAny (model lawProg w) ((callerA.deeper env).deeper (onceEnv L)) (execs ((onceBody.drop 11).take 1) (onceEnv L)) Q E s := by
  show wpAny _ (Around.deeper _ (envOfC _ (Scope.mk _ _ _ _ _) _ _ _)) (execs [_] (envOfC _ (Scope.mk _ _ _ _ _) _ _ _)) _ _ _
  have kw0 : 0 ≤ kW kind := kW_lo hk0 hk1
  have kw1 : kW kind ≤ 8 := kW_hi hk0 hk1
  have hb1 : b.size ≤ 1000 := by omega
  k_steps
  · rename_i hf
    exact hQ (hb.mp hf) s.heap s.toks F N
  · exact hT g _ _ ps codes m KtsTurn.refl F (fun p hp => N p (by (repeat (first | exact hp | refine List.mem_cons_of_mem _ ?_)))) I hcodes
  · rename_i hf hk f' c' oc' vs' t' ct' h' tk' ps' codes' F' N' I' hc' e1' e2' e3' l1' l2'
    clear I hcodes
    refine ⟨?_⟩
    have hnf : ¬ (kLow kind ≤ n ∧ n ≤ kHigh kind) := fun z => by rw [hb.mpr z] at hf; cases hf
    have hk' : kind ≠ 0 := hk
    have lf : @LT.lt Nat _ d f' := l1' (d, baObj b) List.mem_cons_self
    have hcd : ∀ p ∈ codes', p.1 ≠ d := codes_ne N' (List.mem_cons_of_mem _ List.mem_cons_self) (fun p hp => by (repeat (first | exact hp | refine List.mem_cons_of_mem _ ?_))) I' (fun _ z => by cases z)
    refine told_first b (layAt b place.toNat (Array.replicate (kW kind).toNat 0)) .none False True B F' X₀ XB N' rfl T TB rfl rfl rfl (by k_room) ?hcall (fun x => x.elim) ?hex
    case hcall =>
      intro g₂ Lt h₁ tk envT mt FG st F₂ N₂ B₂ X₂ T₂ q1 q2 Q' E' r1 r2
      refine wpAny_call ?_
      refine' kla_code B₂ F₂ X₂ N₂ T₂ (Around.frames_deeper B₂.stack) q1 q2 (List.mem_cons_of_mem _ List.mem_cons_self) ⟨c', oc', vs', t', rfl, (N₂ (c', oc') (by (repeat (first | exact e1' | refine List.mem_cons_of_mem _ ?_)))).1, e2', e3'⟩ (by k_room) rfl (locs rfl) ?_ rfl rfl rfl (by decide)
      intro g₃ L₃ h₃ FG₃ F₃ N₃ B₃ X₃ T₃
      clear N' F'
      k_steps
      refine ⟨?_⟩
      refine write_call B₃ F₃ X₃ N₃ (by k_all) T₃ rfl rfl rfl (by k_room) rfl hk0 hk1 hb1 hp0 (by omega) (.inl hk') (fun _ hr => absurd hr hnf) fun _ e g₄ h₄ tk₄ b' F₄ hfl hb' => ?_
      rw [if_pos (by omega)] at hb'
      subst hb'
      exact fly_next B₃ F₄ rfl hfl fun h₅ hfl' => r2 True.intro e g₃ h₅ _ FG₃ hfl'
    case hex =>
      intro _ h₅ tk₅ g₅ t₅ T₅ F₅ N₅ B₅ X₅ P₅
      have hb2 : (layAt b place.toNat (Array.replicate (kW kind).toNat 0)).size ≤ 1000 := by rw [size_layAt]; exact hb1
      have hw1 : 0 ≤ place + kW kind := by omega
      clear N' F' B C T X₀ F N l1' lf e1' e2' e3'
      generalize hbq : layAt b place.toNat (Array.replicate (kW kind).toNat 0) = bq at *
      have hkt : (bInts bq).take place.toNat = octs.take place.toNat := by
        rw [← hbq, lay_take (by rw [Array.size_replicate]; omega), hbi]
      have hkd : (bInts bq).drop (place + kW kind).toNat = octs.drop (place + kW kind).toNat := by
        have e : (place + kW kind).toNat = place.toNat + (Array.replicate (kW kind).toNat (0 : UInt8)).size := by rw [Array.size_replicate]; omega
        rw [← hbq, e, lay_drop (by rw [Array.size_replicate]; omega), hbi]
      obtain ⟨ks2, hk2⟩ : ∃ ks, bInts bq = ks := ⟨_, rfl⟩
      rw [hk2] at hkt hkd
      k_steps
      · rename News g₅ L _ _ => kN; rename Fr g₅ L _ _ => kF; rename bInts _ = List.drop _ _ => hkk
        rw [decide_eq_true (hkk.trans hkd)]
        exact hT g₅ _ _ ps' codes' _ T₅ kF (fun p hp => kN p (by (repeat (first | exact hp | refine List.mem_cons_of_mem _ ?_)))) I' hc'
      · rename ¬ (bInts _ = _) => hne; rename bInts _ = List.take _ _ => hkk
        exact absurd (hkk.trans hkt) hne
end Mine
end
section
open PySem PySem.W PyProof.Rows PySem.Calls
set_option maxRecDepth 100000
namespace Mine
local macro_rules | `(tactic| walk_at "never 0") => `(tactic| fail)
local macro_rules | `(tactic| walk_at "never 1") => `(tactic| fail)
local macro_rules | `(tactic| walk_at "never 2") => `(tactic| fail)
local macro_rules | `(tactic| walk_at "never 3") => `(tactic| fail)
local macro_rules | `(tactic| walk_at "never 4") => `(tactic| fail)
local macro_rules | `(tactic| walk_at "never 5") => `(tactic| fail)
local macro_rules | `(tactic| walk_at "never 6") => `(tactic| fail)
local macro_rules | `(tactic| walk_at "never 7") => `(tactic| fail)
local macro_rules | `(tactic| walk_at "never 8") => `(tactic| fail)
local macro_rules | `(tactic| walk_at "never 9") => `(tactic| fail)
local macro_rules | `(tactic| walk_at "never 10") => `(tactic| fail)
local macro_rules | `(tactic| walk_at "never 11") => `(tactic| fail)
local macro_rules | `(tactic| walk_at "never 12") => `(tactic| fail)
local macro_rules | `(tactic| walk_at "never 13") => `(tactic| fail)
local macro_rules | `(tactic| walk_at "never 14") => `(tactic| fail)
local macro_rules | `(tactic| walk_at "never 15") => `(tactic| fail)
theorem fresh_KeZ : True := by
  w_top off
  trivial
open PySem.W.KBw (bInts)
open PySem.Builtin PySem.Builtin.Bytes PySem.Builtin.Struct
local macro_rules | `(tactic| k_all) => `(tactic| with_reducible assumption)
local macro_rules | `(tactic| walk_at "eval Name") => `(tactic| (k_here; k_dflt (refine' nameX_L ?F ?v ?_ ?a ?b; (case F => k_asm); (case a => rfl); (case b => rfl); (case v => assumption); k_whole)))
local macro_rules | `(tactic| walk_at "getAttr ref") => `(tactic| (k_here; (with_reducible show wpAny _ _ (getAttr (Value.ref (kA _)) ("packer_type" : Str) _) _ _ _); k_dflt (refine' attr_packer ?F ?X ?a ?b ?_; (case F => k_asm); (case X => k_asm); (case a => assumption); (case b => assumption); k_whole); intro t'))
local macro_rules | `(tactic| walk_at "eval Lambda") => `(tactic| (k_here; (k_dflt (refine' lam_once ?lmh ?lmd ?lmF (show News _ _ _ ([_, _, _, _, _, _] ++ (257, tabObj _) :: _) from ?lmN) ?lmp ?lmc ?lmT ?lmC ?lmI ?lml ?_; (case lmh => exact rfl); (case lmF => k_asm); (case lmN => k_asm); (case lmT => k_asm); (case lmd => exact rfl); (case lmC => k_asm); (case lml => exact rfl); (case lmp => k_all); (case lmc => assumption); (case lmI => assumption); k_whole)); intro f' c' oc' vs' t' ct' h' tk' ps' codes' F' N' I' hc' e1' e2' e3' l1' l2'; (simp only [List.cons_append, List.nil_append] at N')))
local macro_rules | `(tactic| walk_at "callWith ref") => `(tactic| (k_here; k_dflt (refine' callWith_K ?cw1 ?cw2 ?_; (case cw1 => k_asm); (case cw2 => k_is); k_whole)))
local macro_rules | `(tactic| walk_at "call ref") => `(tactic| (k_here; (k_dflt ((show wpAny _ _ (PySem.call (Value.ref 255) [.ref _] []) _ _ _); refine of_stop ?_))))
local macro_rules | `(tactic| walk_at "call ref") => `(tactic| (k_here; (k_dflt ((show wpAny _ _ (PySem.call (Value.ref 49) [.ref (kSt _), .ref _, .int _ _] []) _ _ _); refine of_stop ?_))))
local macro_rules | `(tactic| walk_at "call ref") => `(tactic| (k_here; (k_dflt ((show wpAny _ _ (PySem.call (Value.ref 56) [.ref (kSt _), .ref _, .int _ _, .int _ _] []) _ _ _); refine of_stop ?_))))
local macro_rules | `(tactic| walk_at "call type:list") => `(tactic| (k_here; (k_dflt ((show wpAny _ _ (PySem.call (Value.type "list") [.ref _] []) _ _ _); refine balist_K rfl (by k_asm) (by k_asm) (by k_mem) (by assumption) ?_)); intro D' h' tk' vs' cc' F' N' iD' lD'; (try k_lt lD')))
local macro_rules | `(tactic| walk_at "subscriptTail") => `(tactic| (k_here; (with_reducible show wpAny _ _ (subscriptTail _ (Expr.Slice _ _ none _) (Value.ref _) (Value.ref _)) _ _ _); (k_dflt (first | refine baslice_take (s := ⟨_, _, _, _, _⟩) (by k_asm) (by k_asm) (by k_mem) (by assumption) (by assumption) (by assumption) ?_ | refine baslice_drop (s := ⟨_, _, _, _, _⟩) (by k_asm) (by k_asm) (by k_mem) (by assumption) (by assumption) (by assumption) ?_)); intro D' h' bq' F' N' zD' kD' lD'; (try k_lt lD')))

set_option maxHeartbeats 4000000 in
theorem segF {w : World} {env : Env} {L : Addr} {base g : Heap} {m mg mb : Str → Option Value} {p : Program} {loose : List Str} {mean : ExcName → Option Value}
    {s : Shared} {lo d : Addr} {vs : List Value} {octs : List Int} {nn : Nat} {ps : Array Value} {b : Array UInt8} {oF oD oP oN : Obj} {kind n place : Int} {tn tp : Tok} {codes : List (Addr × Obj)} {Q : Flow → Shared → Prop} {E : Value → Shared → Prop}
    (B : Below (callerA.deeper env) base [env] g) (F : Fr g L s.heap m) (X₀ : (hd.heap_39 w.params).In g) (XB : (hd.heap_39 w.params).In base)
    (N : News g L s.heap ((d, baObj b) :: (L + 1 + 1 + 1 + 1, oF) :: (L + 1 + 1 + 1, oD) :: (L + 1 + 1, oP) :: (L + 1, oN) :: (lo, listOf vs.toArray nn) :: (257, tabObj ps) :: codes))
    (T : Top p loose mean mg mb g) (TB : Top p loose mean mg mb base) (C : CodeHd g 261 257) (I : LamInv ps codes "_law_once.<locals>.<lambda>") (hcodes : ∀ p ∈ codes, p.1 ≠ 257)
    (ld : @LT.lt Nat _ (L + 1 + 1 + 1 + 1) d) (l1 : @LT.lt Nat _ lo L ∧ @LT.lt Nat _ 257 L) (l2 : @Ne Nat lo 257)
    (dF : oF.data = .cell (some (.ref (kA kind)))) (dD : oD.data = .cell (some (.ref d))) (dP : oP.data = .cell (some (.int place tp))) (dN : oN.data = .cell (some (.int n tn))) (hk0 : 0 ≤ kind) (hk1 : kind < 12)
    (hn : kLow kind ≤ n ∧ n ≤ kHigh kind) (hz : octs.length ≤ 28) (hbs : b.size = octs.length)
    (hp0 : 0 ≤ place) (hp1 : place + kW kind ≤ octs.length)
    (hQ : ∀ h' tk ps' codes', Fr g L h' m → News g L h' ((d, baObj (putAt kind b place n)) :: (L + 1 + 1 + 1 + 1, oF) :: (L + 1 + 1 + 1, oD) :: (L + 1 + 1, oP) :: (L + 1, oN) :: (lo, listOf vs.toArray nn) :: (257, tabObj ps') :: codes') → LamInv ps' codes' "_law_once.<locals>.<lambda>" → (∀ p ∈ codes', p.1 ≠ 257) → Q .next {s with heap := h', toks := tk}) :
    wpAny (model lawProg w) ((callerA.deeper env).deeper (onceEnv L)) (execs ((onceBody.drop 12).take 1) (onceEnv L)) Q E s := by
  show wpAny _ (Around.deeper _ (envOfC _ (Scope.mk _ _ _ _ _) _ _ _)) (execs [_] (envOfC _ (Scope.mk _ _ _ _ _) _ _ _)) _ _ _
  have kw0 : 0 ≤ kW kind := kW_lo hk0 hk1
  have kw1 : kW kind ≤ 8 := kW_hi hk0 hk1
  have hb1 : b.size ≤ 1000 := by omega
  k_steps
  · rename_i f' c' oc' vs' t' ct' h' tk' ps' codes' F' N' I' hc' e1' e2' e3' l1' l2'
    clear I hcodes
    refine ⟨?_⟩
    have lf : @LT.lt Nat _ d f' := l1' (d, baObj b) List.mem_cons_self
    have hcd : ∀ p ∈ codes', p.1 ≠ d := codes_ne N' (List.mem_cons_of_mem _ List.mem_cons_self) (fun p hp => by (repeat (first | exact hp | refine List.mem_cons_of_mem _ ?_))) I' (fun _ z => by cases z)
    refine told_first (putAt kind b place n) b .none True False B F' X₀ XB N' rfl T TB rfl rfl rfl (by k_room) ?hcall ?hok (fun x => x.elim)
    case hcall =>
      intro g₂ Lt h₁ tk envT mt FG st F₂ N₂ B₂ X₂ T₂ q1 q2 Q' E' r1 r2
      refine wpAny_call ?_
      refine' kla_code B₂ F₂ X₂ N₂ T₂ (Around.frames_deeper B₂.stack) q1 q2 (List.mem_cons_of_mem _ List.mem_cons_self) ⟨c', oc', vs', t', rfl, (N₂ (c', oc') (by (repeat (first | exact e1' | refine List.mem_cons_of_mem _ ?_)))).1, e2', e3'⟩ (by k_room) rfl (locs rfl) ?_ rfl rfl rfl (by decide)
      intro g₃ L₃ h₃ FG₃ F₃ N₃ B₃ X₃ T₃
      clear N' F'
      k_steps
      refine ⟨?_⟩
      refine write_call B₃ F₃ X₃ N₃ (by k_all) T₃ rfl rfl rfl (by k_room) rfl hk0 hk1 hb1 hp0 (by omega) (.inr (.inl hn)) (fun _ _ h₄ tk₄ f1 n1 => leaveK_ f1 n1 fun a b => r1 True.intro _ _ a b) fun hr => absurd ⟨by omega, hn⟩ hr
    case hok =>
      intro _ h₅ tk₅ F₅ N₅
      clear N' F' F N l1' lf e1' e2' e3'
      generalize putAt kind b place n = bq at *
      k_steps
      rename News g L _ _ => kN; rename Fr g L _ _ => kF
      exact hQ _ _ ps' codes' kF kN I' hc'
end Mine
end
section
open PySem PySem.W PyProof.Rows PySem.Calls
set_option maxRecDepth 100000
namespace Mine
theorem fresh_KaA : True := by
  w_top off
  trivial
open PySem.W.KBw (bInts)
theorem allLt_ne {d : Addr} {l : List (Addr × Obj)} (h : AllLt d l) : ∀ p ∈ l, p.1 ≠ d := by
  induction l with
  | nil => intro p hp; cases hp
  | cons a l ih =>
    intro p hp
    rcases List.mem_cons.mp hp with rfl | hp
    · exact Nat.ne_of_lt h.1
    · exact ih h.2 p hp
local macro_rules | `(tactic| k_all) => `(tactic| (refine allLt_ne ?_; (repeat' (first | with_reducible assumption | (with_reducible rename _ ∧ _ => hq'; revert hq'; rintro ⟨-, hq'⟩)))))
local macro_rules | `(tactic| k_all) => `(tactic| with_reducible assumption)
local macro_rules | `(tactic| walk_at "eval Name") => `(tactic| (k_here; k_dflt (refine' nameX_L ?F ?v ?_ ?a ?b; (case F => k_asm); (case a => rfl); (case b => rfl); (case v => assumption); k_whole)))

set_option maxHeartbeats 4000000 in
theorem segG1 {w : World} {env : Env} {L : Addr} {base g : Heap} {m mg mb : Str → Option Value} {p : Program} {loose : List Str} {mean : ExcName → Option Value}
    {s : Shared} {lo d : Addr} {vs : List Value} {octs : List Int} {nn : Nat} {ps : Array Value} {b : Array UInt8} {oF oD oP oN : Obj} {W n place : Int} {tn tp tw th : Tok} {codes : List (Addr × Obj)} {Q : Flow → Shared → Prop} {E : Value → Shared → Prop}
    (B : Below (callerA.deeper env) base [env] g) (F : Fr g L s.heap m) (X₀ : (hd.heap_39 w.params).In g)
    (N : News g L s.heap ((d, baObj b) :: (L + 1 + 1 + 1 + 1, oF) :: (L + 1 + 1 + 1, oD) :: (L + 1 + 1, oP) :: (L + 1, oN) :: (lo, listOf vs.toArray nn) :: (257, tabObj ps) :: codes))
    (T : Top p loose mean mg mb g)
    (dP : oP.data = .cell (some (.int place tp))) (dN : oN.data = .cell (some (.int n tn)))
    (hmh : m "whole" = some (.int (256 ^ W.toNat) th)) (hmo : m "octets" = some (.ref lo)) (hi : IntsAre vs octs) (hz : octs.length ≤ 28)
    (hp0 : 0 ≤ place) (hp1 : place ≤ octs.length)
    (hQ : ∀ h' tk D ws c m', Fr g L h' m' → News g L h' ((D, listOf (List.toArray ws) c) :: (d, baObj b) :: (L + 1 + 1 + 1 + 1, oF) :: (L + 1 + 1 + 1, oD) :: (L + 1 + 1, oP) :: (L + 1, oN) :: (lo, listOf vs.toArray nn) :: (257, tabObj ps) :: codes) →
      IntsAre ws (octs.take place.toNat) → AllLt D ((d, baObj b) :: (L + 1 + 1 + 1 + 1, oF) :: (L + 1 + 1 + 1, oD) :: (L + 1 + 1, oP) :: (L + 1, oN) :: (lo, listOf vs.toArray nn) :: (257, tabObj ps) :: codes) →
      m' "due" = some (.ref D) → (∃ t, m' "rest" = some (.int (if n < 0 then n + 256 ^ W.toNat else n) t)) → m' "width" = m "width" → m' "octets" = m "octets" → m' "kind" = m "kind" → Q .next {s with heap := h', toks := tk}) :
    wpAny (model lawProg w) ((callerA.deeper env).deeper (onceEnv L)) (execs ((onceBody.drop 13).take 2) (onceEnv L)) Q E s := by
  show wpAny _ (Around.deeper _ (envOfC _ (Scope.mk _ _ _ _ _) _ _ _)) (execs [_, _] (envOfC _ (Scope.mk _ _ _ _ _) _ _ _)) _ _ _
  k_steps
  all_goals
    rename Fr g L _ _ => kF; rename News g L _ _ => kN; rename IntsAre _ (List.take _ _) => kI; rename _ ∧ _ => kL
    refine hQ _ _ _ _ _ _ kF kN kI kL rfl ⟨_, int_eq ?_⟩ rfl rfl rfl
    first | rw [if_pos (by assumption)] | rw [if_neg (by assumption)]
end Mine
end
section
open PySem PySem.W PyProof.Rows PySem.Calls
set_option maxRecDepth 100000
namespace Mine
local macro_rules | `(tactic| walk_at "never 0") => `(tactic| fail)
local macro_rules | `(tactic| walk_at "never 1") => `(tactic| fail)
local macro_rules | `(tactic| walk_at "never 2") => `(tactic| fail)
local macro_rules | `(tactic| walk_at "never 3") => `(tactic| fail)
local macro_rules | `(tactic| walk_at "never 4") => `(tactic| fail)
local macro_rules | `(tactic| walk_at "never 5") => `(tactic| fail)
local macro_rules | `(tactic| walk_at "never 6") => `(tactic| fail)
local macro_rules | `(tactic| walk_at "never 7") => `(tactic| fail)
local macro_rules | `(tactic| walk_at "never 8") => `(tactic| fail)
local macro_rules | `(tactic| walk_at "never 9") => `(tactic| fail)
local macro_rules | `(tactic| walk_at "never 10") => `(tactic| fail)
local macro_rules | `(tactic| walk_at "never 11") => `(tactic| fail)
local macro_rules | `(tactic| walk_at "never 12") => `(tactic| fail)
local macro_rules | `(tactic| walk_at "never 13") => `(tactic| fail)
local macro_rules | `(tactic| walk_at "never 14") => `(tactic| fail)
local macro_rules | `(tactic| walk_at "never 15") => `(tactic| fail)
theorem fresh_KaB : True := by
  w_top off
  trivial
open PySem.W.KBw (bInts)
open Sem (wp)

section
variable {prog : Program} {w : World} {A : Around} {s : Shared} {env : Env} {h₀ : Heap}
/-- a for over an iterator; its turns end by going on; what holds between the turns is told of the heap -/
theorem codeAny_forLoop {R : Result → Shared → Prop} {x : Str} {px : Pos} {body : List Stmt} {I : Addr} {n : Nat} {P : Nat → Value → Prop} {St : Nat → Heap → Prop} (W : Walks prog w A I [I] [I] n P St)
    (J : Nat → Heap → Prop) (Jk : ∀ i h h', J i h → (∀ b o, b ≠ I → h.get? b = some o → h'.get? b = some o) → J i h')
    (turn : ∀ i v h tk, i < n → P i v → J i h → St (i + 1) h → wpAny (model prog w) A (storeName env x v) (fun _ s₁ => wpAny (model prog w) A (execs body env)
      (fun f s' => f = .next ∧ ∃ h' tk', s' = { s with heap := h', toks := tk' } ∧ J (i + 1) h' ∧ St (i + 1) h') (fun _ _ => False) s₁) (fun _ _ => False) { s with heap := h, toks := tk })
    (done : ∀ h tk, J n h → R (.ok .next) { s with heap := h, toks := tk }) :
    ∀ (k i : Nat) (h : Heap) (tk : Nat), n - i = k → i ≤ n → J i h → St i h → codeAny (model prog w) A (.forLoop (.Name x px) (.ref I) body [] env) R { s with heap := h, toks := tk } := by
  intro k
  induction k with
  | zero =>
    intro i h tk hk hi hJ hst
    have hin : i = n := by omega
    subst hin
    refine codeAny_of_tree ?_
    show wpAny _ A ((forTurn (.Name x px) (.ref I) body [] env).onRaise (fun x => do noteFrame x env; theTreesLotGoes x)) _ _ _
    refine wpAny_onRaise ?_
    unfold forTurn
    refine wpAny_bind (wpAny_standAt ?_)
    refine wpAny_bind (wpAny_onRaise (W.done _ _ _ hst fun h' tk' hk' => ?_))
    exact wpAny_pure ⟨rfl, codeAny_block (wpAny_execs_nil (done h' tk' (Jk _ _ _ hJ fun b o hb e => hk' b o (by simpa using hb) e)))⟩
  | succ k ih =>
    intro i h tk hk hi hJ hst
    have hlt : i < n := by omega
    refine codeAny_of_tree ?_
    show wpAny _ A ((forTurn (.Name x px) (.ref I) body [] env).onRaise (fun x => do noteFrame x env; theTreesLotGoes x)) _ _ _
    refine wpAny_onRaise ?_
    unfold forTurn
    refine wpAny_bind (wpAny_standAt ?_)
    refine wpAny_bind (wpAny_onRaise (W.item i _ _ _ hlt hst fun v h' tk' hP hst' hk' => ?_))
    refine wpAny_bind (wpAny_pure ?_)
    have ht := turn i v h' tk' hlt hP (Jk _ _ _ hJ fun b o hb e => hk' b o (by simpa using hb) e) hst'
    refine wpAny_bind (wpAny_assign_Name (wpAny_mono ht (fun _ s₁ h₁ => ?_) fun _ _ x => x.elim))
    refine wpAny_bind (wpAny_mono h₁ (fun f s' hf => ?_) fun _ _ x => x.elim)
    obtain ⟨rfl, h'', tk'', rfl, hJ', hst''⟩ := hf
    exact wpAny_pure ⟨rfl, ih (i + 1) h'' tk'' (by omega) hlt hJ' hst''⟩

theorem wpAny_for_range {x : Str} {px pos : Pos} {iter : Expr} {body : List Stmt} {Q : Flow → Shared → Prop} {E : Value → Shared → Prop}
    (hs : ∀ x, foldedSetIterable iter env x = pure x)
    (h : wpAny (model prog w) A (eval iter env) (fun xv s₁ => wpAny (model prog w) A (pyIter xv) (fun it s₂ => codeAny (model prog w) A (.forLoop (.Name x px) it body [] env) (fun r s' => match r with | .ok f => Q f s' | .error _ => False) s₂) E s₁) E s) :
    wpAny (model prog w) A (exec (.For (.Name x px) iter body [] pos) env) Q E s := by
  rw [exec_For]
  refine wpAny_bind (wpAny_standAt ?_)
  refine wpAny_bind (wpAny_mono h (fun xv s₁ h₁ => ?_) fun _ _ x => x)
  refine wpAny_bind (wpAny_of_eq (hs xv) ?_)
  refine wpAny_bind (wpAny_standAt ?_)
  refine wpAny_bind (wpAny_holding (wpAny_mono h₁ (fun it s₂ h₂ => ?_) fun _ _ x => x))
  unfold runOwn
  refine wpAny_onRaise (wpAny_run (codeAny_mono h₂ fun r s' hr => ?_))
  cases r with
  | ok f => exact hr
  | error e => exact hr.elim
end

theorem news_push_list {g h : Heap} {L I D : Addr} {o : Obj} {ws : List Value} {v : Value} {c : Nat} {rest : List (Addr × Obj)} (N : News g L h ((I, o) :: (D, listOf (ws.toArray.push v) c) :: rest)) : News g L h ((D, listOf (List.toArray (ws ++ [v])) c) :: rest) := by
  rw [← List.push_toArray]
  exact fun p hp => N p (List.mem_cons_of_mem _ hp)
theorem ints_snoc {x : Int} {t : Tok} : ∀ {vs : List Value} {ns : List Int}, IntsAre vs ns → IntsAre (vs ++ [.int x t]) (ns ++ [x])
  | _, _, .nil => .cons _ _ .nil
  | _, _, .cons _ _ h => .cons _ _ (ints_snoc h)
theorem digs_snoc : ∀ (i : Nat) (r : Int), digs (i + 1) r = digs i r ++ [r / 256 ^ i % 256]
  | 0, r => by simp [digs]
  | i + 1, r => by
    rw [digs, digs_snoc i (r / 256), digs, List.cons_append]
    congr 3
    rw [Int.pow_succ', Int.ediv_ediv_of_nonneg (by decide)]

local macro_rules | `(tactic| k_all) => `(tactic| (refine allLt_ne ?_; (repeat' (first | with_reducible assumption | (with_reducible rename _ ∧ _ => hq'; revert hq'; rintro ⟨-, hq'⟩)))))
local macro_rules | `(tactic| k_all) => `(tactic| with_reducible assumption)
local macro_rules | `(tactic| walk_at "eval Name") => `(tactic| (k_here; k_dflt (refine' nameX_L ?F ?v ?_ ?a ?b; (case F => k_asm); (case a => rfl); (case b => rfl); (case v => assumption); k_whole)))

set_option maxHeartbeats 4000000 in
theorem segG2 {w : World} {env : Env} {L : Addr} {base g : Heap} {m mg mb : Str → Option Value} {p : Program} {loose : List Str} {mean : ExcName → Option Value}
    {s : Shared} {D : Addr} {ws : List Value} {xs : List Int} {c : Nat} {W r : Int} {tr tw : Tok} {rest : List (Addr × Obj)} {Q : Flow → Shared → Prop} {E : Value → Shared → Prop}
    (B : Below (callerA.deeper env) base [env] g) (F : Fr g L s.heap m) (X₀ : (hd.heap_39 w.params).In g)
    (N : News g L s.heap ((D, listOf (List.toArray ws) c) :: rest))
    (T : Top p loose mean mg mb g) (hl : AllLt D rest)
    (hi : IntsAre ws xs) (hz : xs.length ≤ 28) (hmr : m "rest" = some (.int r tr)) (hmd : m "due" = some (.ref D))
    (hmw : m "width" = some (.int W tw)) (hW0 : 0 ≤ W) (hW1 : W ≤ 8)
    (hQ : ∀ h' tk ws' c' m', Fr g L h' m' → News g L h' ((D, listOf (List.toArray ws') c') :: rest) → IntsAre ws' (xs ++ digs W.toNat r) → m' "due" = some (.ref D) → m' "width" = m "width" → m' "octets" = m "octets" → m' "kind" = m "kind" → Q .next {s with heap := h', toks := tk}) :
    wpAny (model lawProg w) ((callerA.deeper env).deeper (onceEnv L)) (execs ((onceBody.drop 15).take 1) (onceEnv L)) Q E s := by
  show wpAny _ (Around.deeper _ (envOfC _ (Scope.mk _ _ _ _ _) _ _ _)) (execs [.For (.Name _ _) (.Call (.Name _ _) [.Name _ _] [] _) [_, _] [] _] (envOfC _ (Scope.mk _ _ _ _ _) _ _ _)) _ _ _
  refine wpAny_execs_cons ?_
  refine wpAny_for_range (fun _ => rfl) ?_
  refine Call_ ?_
  refine nameX_B F X₀ (topRead_of T) (by k_is) (PyProof.Rows.Boot.«range») (by decide) ?_
  refine PyProof.Rows.callWith_type1 ?_
  refine spliced_more ?_
  refine nameX_L F hmw ?_
  refine spliced_none ?_
  refine call_range_1 ?_
  refine wpAny_pyIter_range (IsRange.new _ _ _ _ _ _ _) (small_one (by decide) (by decide) (by omega) (by omega)) ?_
  have F1 := F.push ({ cls := .type "range", data := .fields #[.int 0 s.toks, .int W tw, .int 1 (s.toks + 1)] } : Obj)
  have N1 := News.pushKeep (o := ({ cls := .type "range", data := .fields #[.int 0 s.toks, .int W tw, .int 1 (s.toks + 1)] } : Obj)) N
  have F2 := F1.push ({ cls := .type "range_iterator", data := .fields #[rawInt 0, rawInt (Builtin.Range.rangeSize 0 W 1), rawInt 1] } : Obj)
  have N2 := N1.push F1 ({ cls := .type "range_iterator", data := .fields #[rawInt 0, rawInt (Builtin.Range.rangeSize 0 W 1), rawInt 1] } : Obj)
  have hlt : ∀ p ∈ ((D, listOf (List.toArray ws) c) :: rest), p.1 < (s.heap.push ({ cls := .type "range", data := .fields #[.int 0 s.toks, .int W tw, .int 1 (s.toks + 1)] } : Obj)).objs.size := fun p hp => Heap.lt_size (N1 p hp).1
  have hW2 : Builtin.Range.rangeSize 0 W 1 = W := by rw [rangeSize_one]; split <;> omega
  rw [hW2] at F2 N2
  show codeAny (model lawProg w) _ (.forLoop _ (.ref (s.heap.push ({ cls := .type "range", data := .fields #[.int 0 s.toks, .int W tw, .int 1 (s.toks + 1)] } : Obj)).objs.size) _ _ _) _ { s with heap := (s.heap.push ({ cls := .type "range", data := .fields #[.int 0 s.toks, .int W tw, .int 1 (s.toks + 1)] } : Obj)).push ({ cls := .type "range_iterator", data := .fields #[rawInt 0, rawInt (Builtin.Range.rangeSize 0 W 1), rawInt 1] } : Obj), toks := _ }
  rw [hW2]
  generalize (s.heap.push ({ cls := .type "range", data := .fields #[.int 0 s.toks, .int W tw, .int 1 (s.toks + 1)] } : Obj)).push ({ cls := .type "range_iterator", data := .fields #[rawInt 0, rawInt W, rawInt 1] } : Obj) = h2 at F2 N2 ⊢
  generalize (s.heap.push ({ cls := .type "range", data := .fields #[.int 0 s.toks, .int W tw, .int 1 (s.toks + 1)] } : Obj)).objs.size = I at N2 hlt ⊢
  have nI := N2 _ List.mem_cons_self
  have lI : AllLt I ((D, listOf (List.toArray ws) c) :: rest) := allLt_of hlt
  have lD : @LT.lt Nat _ D I := lI.1
  have lR : AllLt I rest := lI.2
  clear N1 F1 N F hlt lI
  refine codeAny_forLoop (I := I) (n := W.toNat) (Walks.range rfl I 0 1 W.toNat) (fun i h => ∃ m' ws' c' t, Fr g L h m' ∧ News g L h ((D, listOf (List.toArray ws') c') :: rest) ∧ IntsAre ws' (xs ++ digs i r) ∧ m' "rest" = some (.int (r / 256 ^ i) t) ∧ m' "due" = some (.ref D) ∧
    m' "width" = m "width" ∧ m' "octets" = m "octets" ∧ m' "kind" = m "kind") ?_ ?_ ?_ W.toNat 0 _ _ rfl (Nat.zero_le _) ⟨m, ws, c, tr, F2, fun p hp => N2 p (List.mem_cons_of_mem _ hp), by rw [digs, List.append_nil]; exact hi, by rw [Int.pow_zero, Int.ediv_one]; exact hmr, hmd, rfl, rfl, rfl⟩ ?_
  · rintro i h h' ⟨m', ws', c', t, f1, n1, r1⟩ hk
    obtain ⟨oL, es, ep, hL, rr⟩ := f1.ns
    refine ⟨m', ws', c', t, ⟨⟨oL, es, ep, hk _ _ nI.2.1.symm hL, rr⟩, fun b o e => hk b o (fun q => by rw [q, nI.2.2] at e; cases e) (f1.keep b o e), f1.above⟩, fun p hp => ⟨hk _ _ ?_ (n1 p hp).1, (n1 p hp).2⟩, r1⟩
    rcases List.mem_cons.mp hp with rfl | hp
    · exact Nat.ne_of_lt lD
    · exact allLt_ne lR p hp
  · rintro i v h tk hi' ⟨tv, rfl⟩ ⟨m', ws', c', t, f1, n1, i1, mr, md, e1, e2, e3⟩ hst
    have mw : m' "width" = some (.int W tw) := e1.trans hmw
    have N3 : News g L h ((I, ({ cls := .type "range_iterator", data := .fields #[rawInt (0 + ((i + 1 : Nat) : Int) * 1), rawInt ((W.toNat : Int) - ((i + 1 : Nat) : Int)), rawInt 1] } : Obj)) :: (D, listOf (List.toArray ws') c') :: rest) := fun p hp => by
      rcases List.mem_cons.mp hp with rfl | hp
      · exact ⟨hst, nI.2⟩
      · exact n1 p hp
    have hlen : (xs ++ digs i r).length ≤ 36 := by
      have : ∀ (i : Nat) (r : Int), (digs i r).length = i := by
        intro i; induction i with
        | zero => intro r; rfl
        | succ i ih => intro r; simp [digs, ih]
      rw [List.length_append, this]; omega
    refine wpAny_mono (Q := fun _ s₁ => wpAny _ _ _ (fun f s' => Stop _) (fun _ _ => False) s₁) ?_ (fun _ _ z => wpAny_mono z (fun _ _ z => z.go) fun _ _ z => z) fun _ _ z => z
    generalize hys : xs ++ digs i r = ys at i1 hlen
    generalize hri : r / 256 ^ i = ri at mr
    clear n1 N2 F2
    k_steps
    rename Fr g L _ _ => kF; rename News g L _ _ => kN
    have kN2 := news_push_list kN
    refine ⟨rfl, _, _, rfl, ⟨_, _, _, _, kF, kN2, ?_, int_eq ?_, md, e1, e2, e3⟩, (kN _ List.mem_cons_self).1⟩
    · rw [digs_snoc, ← List.append_assoc, hys, hri, ← Int.fmod_eq_emod_of_nonneg _ (by decide)]
      exact ints_snoc i1
    · rw [← hri, Int.fdiv_eq_ediv_of_nonneg _ (by decide), Int.pow_succ, Int.ediv_ediv_of_nonneg (Int.le_of_lt (Int.pow_pos (by decide)))]
  · rintro h tk ⟨m', ws', c', t, f1, n1, i1, mr, md, e1, e2, e3⟩
    exact wpAny_execs_nil (hQ h tk ws' c' m' f1 n1 i1 md e1 e2 e3)
  · show h2.get? I = some _
    rw [nI.1, Int.toNat_of_nonneg hW0]
    simp
end Mine
end
section
open PySem PySem.W PyProof.Rows PySem.Calls
set_option maxRecDepth 100000
namespace Mine
theorem fresh_KaC : True := by
  w_top off
  trivial
open PySem.Builtin PySem.Builtin.Bytes PySem.Builtin.Struct

theorem meta_int : typeOf (.type "int") = pure (.type "type") := by kernel_rfl
theorem meta_bool : typeOf (.type "bool") = pure (.type "type") := by kernel_rfl
theorem type_no_get : typeLookup (.type "type") "__get__" = pure none := by rw [typeLookup_type, builtinLookup_eq_fast]; kernel_rfl

section
variable {prog : Program} {w : World} {A : Around} {E : Value → Shared → Prop} {s : Shared} {K : Frag} {C : Addr} {mc : Value} {name : Str} {T : String} {expr : Bool} {Q : Value → Shared → Prop}
/-- a class's attribute that is a built-in class -/
theorem cls_ty (X : K.In s.heap) (hr : readsIn K C mc = true) (hm : findIn K mc name = some none) (hc : findIn K (.ref C) name = some (some (.type T))) (hty : typeOf (.type T) = pure (.type "type"))
    (h : Q (.type T) { s with toks := s.toks + 1 }) : wpAny (model prog w) A (getAttr (.ref C) name expr) Q E s := by
  simp only [readsIn, Bool.and_eq_true, beq_iff_eq] at hr
  obtain ⟨⟨⟨⟨q1, q2⟩, q3⟩, q4⟩, q5⟩ := hr
  obtain ⟨hk, q4⟩ := Option.isSome_iff_exists.mp q4
  have ht := looks_typeIn (M := model prog w) X q2
  have ho := looks_opaque (M := model prog w) (C := C) X q1
  have hb := looks_hook (M := model prog w) X q4
  refine wpAny_bind (wpAny_mkText (wpAny_holding (wpAny_bind (ht _ _ _ _ (fun _ _ e => e) (wpAny_bind (looks_findIn X q3 _ _ _ _ (fun _ _ e => e) ?_))))))
  dsimp only
  have nb : (Value.builtin "type.__getattribute__" == Value.builtin "object.__getattribute__") = false := by decide +kernel
  rw [nb, Bool.and_false, if_neg Bool.false_ne_true]
  refine wpAny_bind (hb _ _ _ _ (fun _ _ e => e) (wpAny_bind (wpAny_attempt (wpAny_holding ?_))))
  unfold callGetattribute
  rw [show (expr && onTheHeap (Value.builtin "type.__getattribute__")) = false from Bool.and_false _, if_neg Bool.false_ne_true]
  unfold boundAndCalled
  rw [KF.slot_tga.bind]
  refine wpAny_bind (wpAny_pure ?_)
  show wpAny _ _ (call (.builtin "type.__getattribute__") [.ref C, .str name s.toks]) _ _ _
  refine wpAny_call (codeAny_call_builtin KF.slot_tga.plain KF.entry_tga ?_)
  refine @check_slot (model prog w) _ _ { s with toks := s.toks + 1 } "type.__getattribute__" "type" "__getattribute__" (.ref C) [.str name s.toks] [] _ (by decide +kernel) (by decide +kernel) (ht.andThen (looks_subIn X q5)) (KF.args_tga (.ref C) (.str name s.toks)) ?_
  have L1 := looks_findIn (M := model prog w) X hm
  have L2 := looks_findIn (M := model prog w) X hc
  obtain ⟨hh, g, d, t, os⟩ := s
  dsimp only at *
  unfold Builtin.«type.__getattribute__»
  refine wpAny_bind (wpAny_pure (wpAny_bind (ho.at (wpAny_bind (ht.at (wpAny_bind (L1.at ?_)))))))
  refine wpAny_bind (wpAny_pure ?_)
  refine wpAny_bind (L2.at ?_)
  dsimp only
  rw [if_neg (show ¬ (Builtin.heldUnderItsOwnName name (.type T) = true) from Bool.false_ne_true)]
  refine wpAny_bind (wpAny_of_eq hty ?_)
  rw [if_neg (by decide)]
  refine wpAny_bind ?_
  show wpAny _ _ (typeOf (.type T) >>= fun t => typeLookup t "__get__") _ _ _
  refine wpAny_bind (wpAny_of_eq hty (wpAny_of_eq type_no_get ?_))
  dsimp only
  exact wpAny_bind (wpAny_pure (wpAny_pure (by exact wpAny_pure h)))
end

section
variable {w : World} {A : Around} {E : Value → Shared → Prop} {s : Shared} {h₀ : Heap} {L : Addr} {m : Str → Option Value} {k : Int} {expr : Bool} {Q : Value → Shared → Prop}
set_option maxHeartbeats 4000000 in
theorem attr_py (F : Fr h₀ L s.heap m) (X₀ : (hd.heap_39 w.params).In h₀) (k0 : 0 < k) (k1 : k < 12) (h : ∀ t : Nat, Q (.type "int") { s with toks := t }) :
    wpAny (model lawProg w) A (getAttr (.ref (kA k)) ("py_type" : Str) expr) Q E s := by
  have X := X₀.keeps F.keep
  rcases kinds (Int.le_of_lt k0) k1 with rfl | rfl | rfl | rfl | rfl | rfl | rfl | rfl | rfl | rfl | rfl | rfl
  · omega
  all_goals exact cls_ty (mc := .type "type") X (by k_is) (by k_is) (by k_is) meta_int (h _)
set_option maxHeartbeats 4000000 in
theorem attr_py0 (F : Fr h₀ L s.heap m) (X₀ : (hd.heap_39 w.params).In h₀) (h : ∀ t : Nat, Q (.type "bool") { s with toks := t }) :
    wpAny (model lawProg w) A (getAttr (.ref (kA 0)) ("py_type" : Str) expr) Q E s :=
  cls_ty (mc := .type "type") (X₀.keeps F.keep) (by k_is) (by k_is) (by k_is) meta_bool (h _)
end

local macro_rules | `(tactic| walk_at "getMethod ref") => `(tactic| (k_here; k_dflt (refine' getMethod_st ?a st_slot_uf st_type_uf ?_; (case a => assumption); k_whole)))
local macro_rules | `(tactic| walk_at "call builtin:_struct.Struct.unpack_from") => `(tactic| (k_here; k_dflt (show wpAny _ _ (PySem.call (.builtin "_struct.Struct.unpack_from") [.ref _, _, .int _ _] []) _ _ _; refine upk_call (by assumption) (by assumption) (by assumption) (by assumption) (by assumption) (by assumption) (by assumption) (by assumption) (of_stop ?_) (of_stop ?_))))

set_option maxHeartbeats 4000000 in
theorem get_good {w : World} {A₀ A : Around} {env : Env} {L : Addr} {base h₀ : Heap} {outer : List Env} {m mg mb : Str → Option Value} {p : Program} {loose : List Str} {mean : ExcName → Option Value} {news : List (Addr × Obj)}
    {s : Shared} {b : Array UInt8} {k place : Int} {tb tp : Tok} {Q : Value → Shared → Prop} {E : Value → Shared → Prop}
    (B : Below A₀ base outer h₀) (F : Fr h₀ L s.heap m) (X₀ : (hd.heap_39 w.params).In h₀) 
    (N : News h₀ L s.heap news) (T : Top p loose mean mg mb h₀) (hA : A.frames = some (env :: outer)) (hf : env.frame = some L) (hke : env.scope.kind = .function) (hdep : A.depth < recursionLimit) (hh : A.handled = none)
    (k0 : 0 ≤ k) (k1 : k < 12) (hb : b.size ≤ 1000) (h0 : 0 ≤ place) (hp1 : place ≤ 1000) (hpre : place + kW k ≤ b.size)
    (hi : k ≠ 0 → ∀ h' tk t, Fr h₀ L h' m → News h₀ L h' news → Q (.int (valOf (kC k) (kW k).toNat (natOf false (b.extract place.toNat (place.toNat + (kW k).toNat)))) t) { s with heap := h', toks := tk })
    (hq : k = 0 → ∀ h' tk, Fr h₀ L h' m → News h₀ L h' news → Q (.bool (natOf false (b.extract place.toNat (place.toNat + 1)) != 0)) { s with heap := h', toks := tk }) :
    wpAny (model lawProg w) A (PySem.call (.ref 49) [.ref (kSt k), .bytes b tb, .int place tp] []) Q E s := by
  refine wpAny_call ?_
  refine' code_raw ?k1 ?k2 ?k3 ?k4 ?k5 ?kA ?kF ?kK ?k6 ?k7 ?k8 ?k9 ?kB ?_ ?c2 ?c3 ?c4 ?c5
  case kA => exact hA
  case kF => exact hf
  case kK => exact hke
  case k1 => exact B
  case k2 => exact F
  case k3 => exact X₀
  case k4 => exact N
  case k5 => exact T
  case k6 => k_is
  case k7 => k_is
  case k8 => exact hdep
  case k9 => exact BindsTo.of_eq rfl
  case c5 => decide
  case kB => exact locs rfl
  case c2 => exact rfl
  case c3 => exact rfl
  case c4 => exact rfl
  intro g' L' h₁ FG st F' N' B' X' T'
  have X1 := X'.keeps F'.keep
  obtain ⟨fb, ft, hst, hp⟩ := kind_st X1 k0 k1
  have hd1 : HasBytes { s with heap := h₁, toks := s.toks + 3 } (.bytes b tb) b := Or.inl ⟨tb, rfl⟩
  clear N F
  k_steps
  · refine ⟨fun hr => ?_⟩
    by_cases hk : k = 0
    · subst hk
      refine wp_unpacked_q ?_
      have N2 := N'.push F' ({ cls := .type "tuple", data := .seq #[.bool (natOf false (b.extract place.toNat (place.toNat + 1)) != 0)] } : Obj)
      have F2 := F'.push ({ cls := .type "tuple", data := .seq #[.bool (natOf false (b.extract place.toNat (place.toNat + 1)) != 0)] } : Obj)
      generalize (natOf false (b.extract place.toNat (place.toNat + 1)) != 0) = q at *
      dsimp only at N2 F2 ⊢
      generalize h₁.push ({ cls := .type "tuple", data := .seq #[.bool q] } : Obj) = h₂ at N2 F2 ⊢
      generalize h₁.objs.size = d2 at N2 ⊢
      clear N' F'
      k_steps
      obtain ⟨f3, n3⟩ := back_level FG st F2 N2
      exact hq rfl _ _ f3 fun p hp => n3 p (List.mem_cons_of_mem _ hp)
    · unfold fmtK
      rw [if_neg hk]
      refine wp_unpacked (kind_code k0 k1 hk) fun tk tv => ?_
      have hi := hi hk
      have N2 := N'.push F' ({ cls := .type "tuple", data := .seq #[.int (valOf (kC k) (kW k).toNat (natOf false (b.extract place.toNat (place.toNat + (kW k).toNat)))) tv] } : Obj)
      have F2 := F'.push ({ cls := .type "tuple", data := .seq #[.int (valOf (kC k) (kW k).toNat (natOf false (b.extract place.toNat (place.toNat + (kW k).toNat)))) tv] } : Obj)
      generalize valOf (kC k) (kW k).toNat (natOf false (b.extract place.toNat (place.toNat + (kW k).toNat))) = q at *
      dsimp only at N2 F2 ⊢
      generalize h₁.push ({ cls := .type "tuple", data := .seq #[.int q tv] } : Obj) = h₂ at N2 F2 ⊢
      generalize h₁.objs.size = d2 at N2 ⊢
      clear N' F'
      k_steps
      obtain ⟨f3, n3⟩ := back_level FG st F2 N2
      exact hi _ _ _ f3 fun p hp => n3 p (List.mem_cons_of_mem _ hp)
  · exact ⟨fun hr => absurd hpre hr⟩
end Mine
end
section
open PySem PySem.W PyProof.Rows PySem.Calls
set_option maxRecDepth 100000
namespace Mine
local macro_rules | `(tactic| walk_at "never 0") => `(tactic| fail)
local macro_rules | `(tactic| walk_at "never 1") => `(tactic| fail)
local macro_rules | `(tactic| walk_at "never 2") => `(tactic| fail)
local macro_rules | `(tactic| walk_at "never 3") => `(tactic| fail)
local macro_rules | `(tactic| walk_at "never 4") => `(tactic| fail)
local macro_rules | `(tactic| walk_at "never 5") => `(tactic| fail)
local macro_rules | `(tactic| walk_at "never 6") => `(tactic| fail)
local macro_rules | `(tactic| walk_at "never 7") => `(tactic| fail)
local macro_rules | `(tactic| walk_at "never 8") => `(tactic| fail)
local macro_rules | `(tactic| walk_at "never 9") => `(tactic| fail)
local macro_rules | `(tactic| walk_at "never 10") => `(tactic| fail)
local macro_rules | `(tactic| walk_at "never 11") => `(tactic| fail)
local macro_rules | `(tactic| walk_at "never 12") => `(tactic| fail)
local macro_rules | `(tactic| walk_at "never 13") => `(tactic| fail)
local macro_rules | `(tactic| walk_at "never 14") => `(tactic| fail)
local macro_rules | `(tactic| walk_at "never 15") => `(tactic| fail)
theorem fresh_KaD : True := by
  w_top off
  trivial
open PySem.W.KBw (bInts)
open PySem.Builtin PySem.Builtin.Bytes PySem.Builtin.Struct
local macro_rules | `(tactic| k_all) => `(tactic| (refine allLt_ne ?_; (repeat' (first | with_reducible assumption | (with_reducible rename _ ∧ _ => hq'; revert hq'; rintro ⟨-, hq'⟩)))))
local macro_rules | `(tactic| k_all) => `(tactic| with_reducible assumption)
local macro_rules | `(tactic| walk_at "eval Name") => `(tactic| (k_here; k_dflt (refine' nameX_L ?F ?v ?_ ?a ?b; (case F => k_asm); (case a => rfl); (case b => rfl); (case v => assumption); k_whole)))
local macro_rules | `(tactic| walk_at "call type:list") => `(tactic| (k_here; (k_dflt ((show wpAny _ _ (PySem.call (Value.type "list") [.ref _] []) _ _ _); refine balist_K rfl (by k_asm) (by k_asm) (by k_mem) (by assumption) ?_)); intro D' h' tk' vs' cc' F' N' iD' lD'; (try k_lt lD')))

set_option maxHeartbeats 4000000 in
theorem segH1 {w : World} {env : Env} {L : Addr} {base g : Heap} {m mg mb : Str → Option Value} {p : Program} {loose : List Str} {mean : ExcName → Option Value}
    {s : Shared} {lo d D : Addr} {ws vs : List Value} {xs octs : List Int} {c nn : Nat} {ps : Array Value} {b : Array UInt8} {oF oD oP oN : Obj} {W place : Int} {tp tw : Tok} {codes : List (Addr × Obj)} {Q : Flow → Shared → Prop} {E : Value → Shared → Prop}
    (B : Below (callerA.deeper env) base [env] g) (F : Fr g L s.heap m) (X₀ : (hd.heap_39 w.params).In g)
    (N : News g L s.heap ((D, listOf ws.toArray c) :: (d, baObj b) :: (L + 1 + 1 + 1 + 1, oF) :: (L + 1 + 1 + 1, oD) :: (L + 1 + 1, oP) :: (L + 1, oN) :: (lo, listOf vs.toArray nn) :: (257, tabObj ps) :: codes))
    (T : Top p loose mean mg mb g)
    (dD : oD.data = .cell (some (.ref d))) (dP : oP.data = .cell (some (.int place tp)))
    (hmd : m "due" = some (.ref D)) (hmw : m "width" = some (.int W tw)) (hmo : m "octets" = some (.ref lo)) (hi : IntsAre vs octs) (hiw : IntsAre ws xs) (hz : octs.length ≤ 28) (hzx : xs.length ≤ 36) (hb : b.size ≤ 1000) (hp0 : 0 ≤ place) (hw0 : 0 ≤ W) (hp1 : place + W ≤ octs.length)
    (hbi : bInts b = xs ++ octs.drop (place + W).toNat)
    (hQ : ∀ h' tk, Fr g L h' m → News g L h' ((D, listOf ws.toArray c) :: (d, baObj b) :: (L + 1 + 1 + 1 + 1, oF) :: (L + 1 + 1 + 1, oD) :: (L + 1 + 1, oP) :: (L + 1, oN) :: (lo, listOf vs.toArray nn) :: (257, tabObj ps) :: codes) → Q .next {s with heap := h', toks := tk}) :
    wpAny (model lawProg w) ((callerA.deeper env).deeper (onceEnv L)) (execs ((onceBody.drop 16).take 1) (onceEnv L)) Q E s := by
  show wpAny _ (Around.deeper _ (envOfC _ (Scope.mk _ _ _ _ _) _ _ _)) (execs [_] (envOfC _ (Scope.mk _ _ _ _ _) _ _ _)) _ _ _
  have hw1 : 0 ≤ place + W := by omega
  k_steps
  rename Fr g L _ _ => kF; rename News g L _ _ => kN
  exact hQ _ _ kF (fun p hp => kN p (by (repeat (first | exact hp | refine List.mem_cons_of_mem _ ?_))))
end Mine
end
section
open PySem PySem.W PyProof.Rows PySem.Calls
set_option maxRecDepth 100000
namespace Mine
theorem fresh_KaE : True := by
  w_top off
  trivial
open PySem.W.KBw (bInts)
open PySem.Builtin PySem.Builtin.Bytes PySem.Builtin.Struct
section
variable {w : World} {A : Around} {E : Value → Shared → Prop} {s : Shared} {h₀ : Heap} {L : Addr} {m : Str → Option Value} {k : Int} {pl : Sem Bool} {Q : Value × List Value → Shared → Prop}
set_option maxHeartbeats 4000000 in
theorem meth_py (F : Fr h₀ L s.heap m) (X₀ : (hd.heap_39 w.params).In h₀) (k0 : 0 < k) (k1 : k < 12) (h : ∀ t : Nat, Q (.type "int", []) { s with toks := t }) :
    wpAny (model lawProg w) A (getMethod (.ref (kA k)) ("py_type" : Str) pl) Q E s := by
  have X := X₀.keeps F.keep
  have z := attr_py (A := A) (E := E) (expr := false) F X₀ k0 k1 (Q := fun v s' => Q (v, []) s') h
  revert z
  rcases kinds (Int.le_of_lt k0) k1 with rfl | rfl | rfl | rfl | rfl | rfl | rfl | rfl | rfl | rfl | rfl | rfl
  · omega
  all_goals (intro z; exact method_cls X (by k_is) z)
theorem meth_py0 (F : Fr h₀ L s.heap m) (X₀ : (hd.heap_39 w.params).In h₀) (h : ∀ t : Nat, Q (.type "bool", []) { s with toks := t }) :
    wpAny (model lawProg w) A (getMethod (.ref (kA 0)) ("py_type" : Str) pl) Q E s :=
  method_cls (X₀.keeps F.keep) (by k_is) (attr_py0 F X₀ h)
end

local macro_rules | `(tactic| k_all) => `(tactic| (refine allLt_ne ?_; (repeat' (first | with_reducible assumption | (with_reducible rename _ ∧ _ => hq'; revert hq'; rintro ⟨-, hq'⟩)))))
local macro_rules | `(tactic| k_all) => `(tactic| with_reducible assumption)
local macro_rules | `(tactic| walk_at "eval Name") => `(tactic| (k_here; k_dflt (refine' nameX_L ?F ?v ?_ ?a ?b; (case F => k_asm); (case a => rfl); (case b => rfl); (case v => assumption); k_whole)))
local macro_rules | `(tactic| walk_at "getAttr ref") => `(tactic| (k_here; (with_reducible show wpAny _ _ (getAttr (Value.ref (kA _)) ("packer_type" : Str) _) _ _ _); k_dflt (refine' attr_packer ?F ?X ?a ?b ?_; (case F => k_asm); (case X => k_asm); (case a => assumption); (case b => assumption); k_whole); intro t'))
local macro_rules | `(tactic| walk_at "getMethod ref") => `(tactic| (k_here; k_dflt (refine' meth_py ?F ?X ?a ?b ?_; (case F => k_asm); (case X => k_asm); (case a => assumption); (case b => assumption); k_whole); intro t'))
local macro_rules | `(tactic| walk_at "callWith ref") => `(tactic| (k_here; k_dflt (refine' callWith_K ?cw1 ?cw2 ?_; (case cw1 => k_asm); (case cw2 => k_is); k_whole)))
local macro_rules | `(tactic| walk_at "callWith type:bytes") => `(tactic| (k_here; refine PyProof.Rows.callWith_type1 ?_))
local macro_rules | `(tactic| walk_at "call type:bytes") => `(tactic| (k_here; (k_dflt ((show wpAny _ _ (PySem.call (Value.type "bytes") [.ref _] []) _ _ _); refine call_bytes_ba (News.get (by k_asm) (by k_mem)) (by assumption) ?_)); intro tb' tk'))
local macro_rules | `(tactic| walk_at "call ref") => `(tactic| (k_here; (k_dflt ((show wpAny _ _ (PySem.call (Value.ref 49) [.ref (kSt _), .bytes _ _, .int _ _] []) _ _ _); refine of_stop ?_))))

set_option maxHeartbeats 4000000 in
theorem segH2 {w : World} {env : Env} {L : Addr} {base g : Heap} {m mg mb : Str → Option Value} {p : Program} {loose : List Str} {mean : ExcName → Option Value}
    {s : Shared} {d : Addr} {b : Array UInt8} {oF oD oP oN : Obj} {kind n place : Int} {tp tn tk : Tok} {rest : List (Addr × Obj)} {Q : Flow → Shared → Prop} {E : Value → Shared → Prop}
    (B : Below (callerA.deeper env) base [env] g) (F : Fr g L s.heap m) (X₀ : (hd.heap_39 w.params).In g)
    (N : News g L s.heap ((d, baObj b) :: (L + 1 + 1 + 1 + 1, oF) :: (L + 1 + 1 + 1, oD) :: (L + 1 + 1, oP) :: (L + 1, oN) :: rest))
    (T : Top p loose mean mg mb g)
    (dF : oF.data = .cell (some (.ref (kA kind)))) (dD : oD.data = .cell (some (.ref d))) (dP : oP.data = .cell (some (.int place tp))) (dN : oN.data = .cell (some (.int n tn))) (hk0 : 0 < kind) (hk1 : kind < 12)
    (hmk : m "kind" = some (.int kind tk)) (hb : b.size ≤ 1000) (hp0 : 0 ≤ place) (hp1 : place + kW kind ≤ b.size)
    (hv : valOf (kC kind) (kW kind).toNat (natOf false (b.extract place.toNat (place.toNat + (kW kind).toNat))) = n)
    (hT : ∀ h' tk m', Fr g L h' m' → News g L h' ((d, baObj b) :: (L + 1 + 1 + 1 + 1, oF) :: (L + 1 + 1 + 1, oD) :: (L + 1 + 1, oP) :: (L + 1, oN) :: rest) → Q (.ret (.bool true)) {s with heap := h', toks := tk}) :
    wpAny (model lawProg w) ((callerA.deeper env).deeper (onceEnv L)) (execs (onceBody.drop 17) (onceEnv L)) Q E s := by
  show wpAny _ (Around.deeper _ (envOfC _ (Scope.mk _ _ _ _ _) _ _ _)) (execs [_, _] (envOfC _ (Scope.mk _ _ _ _ _) _ _ _)) _ _ _
  have hk0' : 0 ≤ kind := Int.le_of_lt hk0
  have kw0 : 0 ≤ kW kind := kW_lo hk0' hk1
  have kw1 : kW kind ≤ 8 := kW_hi hk0' hk1
  k_steps
  · refine ⟨get_good B (by assumption) X₀ (by assumption) T rfl rfl rfl (by k_room) rfl hk0' hk1 hb hp0 (by omega) hp1 (fun _ h₁ tk₁ t₁ F₁ N₁ => ?_) (fun z => by omega)⟩
    rw [hv]
    clear F N
    k_steps
    · rename Fr g L _ _ => kF; rename News g L _ _ => kN
      have e : (kind == 0) = false := by simp; omega
      rw [e]
      exact hT _ _ _ kF kN
    · rename n ≠ n => hne
      exact absurd rfl hne
local macro_rules | `(tactic| walk_at "getMethod ref") => `(tactic| (k_here; k_dflt (refine' meth_py0 ?F ?X ?_; (case F => k_asm); (case X => k_asm); k_whole); intro t'))
local macro_rules | `(tactic| walk_at "compareOp Eq bool int") => `(tactic| (k_here; k_dflt (refine PySem.EqBoolInt.eq_bool_int ?_)))
set_option maxHeartbeats 4000000 in
theorem segH2z {w : World} {env : Env} {L : Addr} {base g : Heap} {m mg mb : Str → Option Value} {p : Program} {loose : List Str} {mean : ExcName → Option Value}
    {s : Shared} {d : Addr} {b : Array UInt8} {oF oD oP oN : Obj} {n place : Int} {tp tn tk : Tok} {rest : List (Addr × Obj)} {Q : Flow → Shared → Prop} {E : Value → Shared → Prop}
    (B : Below (callerA.deeper env) base [env] g) (F : Fr g L s.heap m) (X₀ : (hd.heap_39 w.params).In g)
    (N : News g L s.heap ((d, baObj b) :: (L + 1 + 1 + 1 + 1, oF) :: (L + 1 + 1 + 1, oD) :: (L + 1 + 1, oP) :: (L + 1, oN) :: rest))
    (T : Top p loose mean mg mb g)
    (dF : oF.data = .cell (some (.ref (kA 0)))) (dD : oD.data = .cell (some (.ref d))) (dP : oP.data = .cell (some (.int place tp))) (dN : oN.data = .cell (some (.int n tn))) (hn : kLow 0 ≤ n ∧ n ≤ kHigh 0)
    (hmk : m "kind" = some (.int 0 tk)) (hb : b.size ≤ 1000) (hp0 : 0 ≤ place) (hp1 : place + kW 0 ≤ b.size)
    (hv : (natOf false (b.extract place.toNat (place.toNat + 1)) != 0) = decide (n ≠ 0))
    (hT : ∀ h' tk m', Fr g L h' m' → News g L h' ((d, baObj b) :: (L + 1 + 1 + 1 + 1, oF) :: (L + 1 + 1 + 1, oD) :: (L + 1 + 1, oP) :: (L + 1, oN) :: rest) → Q (.ret (.bool true)) {s with heap := h', toks := tk}) :
    wpAny (model lawProg w) ((callerA.deeper env).deeper (onceEnv L)) (execs (onceBody.drop 17) (onceEnv L)) Q E s := by
  show wpAny _ (Around.deeper _ (envOfC _ (Scope.mk _ _ _ _ _) _ _ _)) (execs [_, _] (envOfC _ (Scope.mk _ _ _ _ _) _ _ _)) _ _ _
  have h00 : (0 : Int) ≤ 0 := by decide
  have h012 : (0 : Int) < 12 := by decide
  have kw1 : kW 0 = 1 := rfl
  k_steps
  · refine ⟨get_good B (by assumption) X₀ (by assumption) T rfl rfl rfl (by k_room) rfl h00 h012 hb hp0 (by omega) hp1 (fun z => absurd rfl z) (fun _ h₁ tk₁ F₁ N₁ => ?_)⟩
    rw [hv]
    clear F N
    have n0 : 0 ≤ n := hn.1
    have n1 : n ≤ 1 := hn.2
    obtain rfl | rfl : n = 0 ∨ n = 1 := by omega
    · rw [show decide ((0 : Int) ≠ 0) = false from rfl]
      k_steps
      rename Fr g L _ _ => kF; rename News g L _ _ => kN
      exact hT _ _ _ kF kN
    · rw [show decide ((1 : Int) ≠ 0) = true from rfl]
      k_steps
      rename Fr g L _ _ => kF; rename News g L _ _ => kN
      exact hT _ _ _ kF kN
end Mine
end
section
open PySem PySem.W PyProof.Rows PySem.Calls
set_option maxRecDepth 100000
namespace Mine
open PySem.W.KBw (bInts)

section
variable {prog : Program} {w : World} {A₀ A : Around} {s : Shared} {base h₀ : Heap} {outer : List Env} {L : Addr} {m : Str → Option Value} {env : Env} {news : List (Addr × Obj)}
  {R : Result → Shared → Prop} {name qual : Str} {params : Arguments} {body : List Stmt} {scope : Scope} {dV kV doc pm cdv ct : Value} {an : Option Addr} {fo : Obj} {f : Addr} {args : Args} {binds : List (Str × Value)}
/-- a def with cells, entered on a clean stack, its end told as it is -/
theorem codeP_raw (B : Below A₀ base outer h₀) (F : Fr h₀ L s.heap m) (N : News h₀ L s.heap news) (hlim : h₀.NoLimit) (hA : A.frames = some (env :: outer)) (hf : env.frame = some L) (hke : env.scope.kind = .function)
    (ho : s.heap.get? f = some fo) (hd : fo.data = .func (fnX name qual params body scope [] dV kV doc pm an cdv ct)) (hcd : s.heap.CodeRec cdv qual) (hroom : A.depth < recursionLimit)
    (hbind : BindsTo s (fnX name qual params body scope [] dV kV doc pm an cdv ct) args binds)
    (hkind : ∀ n, ∀ x ∈ binds, scope.names.lookup x.1 = some .local ∨ (scope.names.lookup x.1 = some .cell ∧ ((cellsFrom n scope.names []).lookup x.1).isSome = true))
    (hnd : ((cellsFrom 0 scope.names []).map (·.1)).Nodup)
    (h : ∀ g L' h₁ tk cells, Fr h₀ L g m → Fr g L' h₁ (bindL (envOfC qual scope L' f cdv).kindOf binds fun _ => none) → News g L' h₁ (cells ++ news) →
      CellsAre (bindC (envOfC qual scope L' f cdv).kindOf binds fun _ => none) (cellsFrom (L' + 1) scope.names []) cells → Below A base (env :: outer) g → h₀.StaysIn g → (∀ p ∈ news, p.1 < L') →
      (∀ b o, s.heap.get? b = some o → b ∉ news.map (·.1) → g.get? b = some o) →
      wpP (model prog w) (A.deeper (envOfC qual scope L' f cdv)) (execs body (envOfC qual scope L' f cdv))
        (fun fl s' => R (.ok (.ret (match fl with | .ret v => v | _ => .none))) s') (fun _ _ => False) { s with heap := h₁, toks := tk })
    (hco : scope.isCoroutine = false := by rfl) (hgen : scope.isGenerator = false := by rfl) (hk : scope.kind = .function := by rfl) : codeP (model prog w) A (.call (.ref f) args) R s := by
  obtain ⟨FG, BG, st, _⟩ := groundX (R := R) B F N hA hf hke
  refine codeP_call_function hroom ho hd hco hgen rfl hcd (hbind _ _ _ _ ?_)
  refine wpAny_newFunctionEnv_cells hk (hkind _) fun env' he s' x => ?_
  subst he
  refine ⟨(hlim.keeps F.keep).keeps x.toInCall.keep, codeP_func ?_⟩
  obtain ⟨h₁, tk, rfl, _⟩ := x.done
  have hk₁ := x.toInCall.keep
  obtain ⟨cells, NC, Y⟩ := Cl.news (h₀ := s.heap) (Nat.le_refl _) fun n c hm => ⟨x.cell n c (lookup_of_mem_nodup (cellsFrom_names scope.names 0 (s.heap.objs.size + 1) [] [] rfl ▸ hnd) hm), x.above n c hm⟩
  refine h _ s.heap.objs.size h₁ tk cells FG ⟨x.toInCall.ns, fun b o e => hk₁ b o (of_hideAll _ e), Nat.le_of_eq (hideAll_size _ _)⟩ (fun p hp => ?_) Y BG st (fun p hp => Heap.lt_size (N p hp).1) fun b o e nm => hideAll_get _ e nm
  rcases List.mem_append.mp hp with hp | hp
  · refine ⟨(NC p hp).1, (NC p hp).2.1, ?_⟩
    cases q : (hideAll s.heap (news.map (·.1))).get? p.1 with
    | none => rfl
    | some o => have := of_hideAll _ q; rw [(NC p hp).2.2] at this; cases this
  · exact ⟨hk₁ _ _ (N p hp).1, Nat.ne_of_lt (Heap.lt_size (N p hp).1), hideAll_none _ (List.mem_map_of_mem hp)⟩
end

theorem cutP {prog : Program} {w : World} {A : Around} {E : Value → Shared → Prop} {s : Shared} {env : Env} {l : List Stmt} {Q : Flow → Shared → Prop} (k j : Nat)
    (h : wpP (model prog w) A (execs ((l.drop k).take j) env) (fun f s' => match f with | .next => wpP (model prog w) A (execs (l.drop (k + j)) env) Q E s' | f => Q f s') E s) : wpP (model prog w) A (execs (l.drop k) env) Q E s := by
  rw [show l.drop k = (l.drop k).take j ++ l.drop (k + j) by rw [← List.drop_drop, List.take_append_drop]]
  exact wpP_execs_append h
theorem cutA {prog : Program} {w : World} {A : Around} {E : Value → Shared → Prop} {s : Shared} {env : Env} {l : List Stmt} {Q : Flow → Shared → Prop} (k j : Nat)
    (h : wpAny (model prog w) A (execs ((l.drop k).take j) env) (fun f s' => match f with | .next => wpAny (model prog w) A (execs (l.drop (k + j)) env) Q E s' | f => Q f s') E s) : wpAny (model prog w) A (execs (l.drop k) env) Q E s := by
  rw [show l.drop k = (l.drop k).take j ++ l.drop (k + j) by rw [← List.drop_drop, List.take_append_drop]]
  exact wpAny_execs_append h

theorem ba_size (octs : List Int) : (byteArr octs).size = octs.length := by unfold byteArr; simp
theorem ba_ints {octs : List Int} (hr : ∀ x ∈ octs, 0 ≤ x ∧ x < 256) : bInts (byteArr octs) = octs := by
  unfold bInts byteArr
  rw [List.map_map]
  conv => rhs; rw [← List.map_id octs]
  apply List.map_congr_left
  intro x hx
  obtain ⟨a, b⟩ := hr x hx
  show ((x.toNat.toUInt8.toNat : Nat) : Int) = x
  simp [Nat.toUInt8, UInt8.toNat_ofNat']
  omega
theorem digs_len : ∀ (i : Nat) (r : Int), (digs i r).length = i
  | 0, _ => rfl
  | i + 1, r => by simp [digs, digs_len i]
set_option maxHeartbeats 4000000 in
theorem once_body {w : World} {env : Env} {L : Addr} {base g : Heap} {m mg mb : Str → Option Value} {p : Program} {loose : List Str} {mean : ExcName → Option Value}
    {s : Shared} {lo : Addr} {vs : List Value} {octs : List Int} {nn : Nat} {ps : Array Value} {oF oD oP oN : Obj} {kind n place : Int} {t1 tn tp : Tok} {codes : List (Addr × Obj)} {Q : Flow → Shared → Prop}
    (B : Below (callerA.deeper env) base [env] g) (F : Fr g L s.heap m) (XB : (hd.heap_39 w.params).In base)
    (N : News g L s.heap ((L + 1 + 1 + 1 + 1, oF) :: (L + 1 + 1 + 1, oD) :: (L + 1 + 1, oP) :: (L + 1, oN) :: (lo, listOf vs.toArray nn) :: (257, tabObj ps) :: codes))
    (TB : Top p loose mean mg mb base) (CB : CodeHd base 261 257) (I : LamInv ps codes "_law_once.<locals>.<lambda>") (hcodes : ∀ p ∈ codes, p.1 ≠ 257) (hcl : ∀ p ∈ codes, p.1 < L)
    (l1 : @LT.lt Nat _ lo L ∧ @LT.lt Nat _ 257 L) (l2 : @Ne Nat lo 257) (dF : oF.data = .cell none) (dD : oD.data = .cell none) (dP : oP.data = .cell (some (.int place tp))) (dN : oN.data = .cell (some (.int n tn)))
    (hk0 : 0 ≤ kind) (hk1 : kind < 12) (hmk : m "kind" = some (.int kind t1)) (hmo : m "octets" = some (.ref lo)) (hi : IntsAre vs octs) (hr : ∀ x ∈ octs, 0 ≤ x ∧ x < 256) (hz : octs.length ≤ 28) (hp0 : 0 ≤ place) (hp1 : place ≤ octs.length)
    (hn0 : -1329227995784915872903807060280344576 ≤ n) (hn1 : n ≤ 1329227995784915872903807060280344576)
    (hT : ∀ g' h' tk ps' codes' m', KtsTurn (framesOf [env]) g g' → Fr g' L h' m' → News g' L h' ((lo, listOf vs.toArray nn) :: (257, tabObj ps') :: codes') → LamInv ps' codes' "_law_once.<locals>.<lambda>" → (∀ p ∈ codes', p.1 ≠ 257) → Q (.ret (.bool true)) {s with heap := h', toks := tk}) :
    wpP (model lawProg w) ((callerA.deeper env).deeper (onceEnv L)) (execs onceBody (onceEnv L)) Q (fun _ _ => False) s := by
  have X₀ : (hd.heap_39 w.params).In g := XB.keeps B.stays
  have T := TB.keeps B.stays
  have ncell : ∀ {d : Addr}, @LE.le Nat _ L d → ∀ p ∈ codes, p.1 ≠ d := fun hd p hp e => absurd (hcl p hp) (by rw [e]; exact Nat.not_lt.mpr hd)
  -- statements 0 to 6
  show wpP _ _ (execs (onceBody.drop 0) (onceEnv L)) _ _ _
  refine cutP 0 7 (wpP_of_any ?_)
  refine segA1 (mean := mean) B F X₀ N (ncell (by omega)) T l1 l2 dF dN hk0 hk1 hmk ?_
  intro h₁ tk₁ oF₁ m₁ F₁ mo mk ⟨tw, mw⟩ ⟨tv, mv⟩ ⟨tl, ml⟩ ⟨th, mh⟩ ⟨fb, mf, hfb⟩ N₁ dF₁
  rw [hmo] at mo
  rw [hmk] at mk
  -- 7
  show wpP _ _ (execs (onceBody.drop 7) (onceEnv L)) Q _ _
  refine cutP 7 1 (wpP_of_any ?_)
  have step7 : ∀ {E : Value → Shared → Prop} {Q' : Flow → Shared → Prop}, (∀ h' tk, Fr g L h' m₁ → News g L h' ((L + 1 + 1 + 1 + 1, oF₁) :: (L + 1 + 1 + 1, oD) :: (L + 1 + 1, oP) :: (L + 1, oN) :: (lo, listOf vs.toArray nn) :: (257, tabObj ps) :: codes) → Q' .next {s with heap := h', toks := tk}) →
      wpAny (model lawProg w) ((callerA.deeper env).deeper (onceEnv L)) (execs ((onceBody.drop 7).take 1) (onceEnv L)) Q' E { s with heap := h₁, toks := tk₁ } := fun {E Q'} hq => by
    by_cases hk : kind = 0
    · subst hk
      exact segB1z (mean := mean) (s := { s with heap := h₁, toks := tk₁ }) B F₁ X₀ N₁ T dF₁ mw ml mh hq
    · exact segB1 (mean := mean) (s := { s with heap := h₁, toks := tk₁ }) B F₁ X₀ N₁ T dF₁ (by omega) hk1 mw ml mh hq
  refine step7 ?_
  clear step7
  intro h₂ tk₂ F₂ N₂
  clear F₁ N₁
  -- 8
  show wpP _ _ (execs (onceBody.drop 8) (onceEnv L)) Q _ _
  refine cutP 8 1 (wpP_of_any ?_)
  have hpre : ∀ p ∈ [(L + 1 + 1 + 1 + 1, oF₁), (L + 1 + 1 + 1, oD), (L + 1 + 1, oP), (L + 1, oN), (lo, listOf vs.toArray nn)], p.1 ≠ 257 := by k_all
  refine segB2 (mean := mean) (s := { s with heap := h₂, toks := tk₂ }) B F₂ X₀ XB N₂ T TB (CB.keeps B.stays) I hcodes hpre dF₁ dN hk0 hk1 mf hfb hn0 hn1 ?_
  intro g₃ h₃ tk₃ ps₃ codes₃ T₃ F₃ B₃ N₃ I₃ hc₃
  clear F₂ N₂ I hcodes hcl ncell
  have X₃ : (hd.heap_39 w.params).In g₃ := XB.keeps B₃.stays
  have P₃ := TB.keeps B₃.stays
  have C₃ : CodeHd g₃ 261 257 := CB.keeps B₃.stays
  -- 9
  show wpP _ _ (execs (onceBody.drop 9) (onceEnv L)) Q _ _
  refine cutP 9 1 ?_
  refine segC (mean := mean) (s := { s with heap := h₃, toks := tk₃ }) B₃ F₃ X₃ N₃ P₃ (codes_ne N₃ (o := oD) (by k_mem) (fun p hp => by (repeat (first | exact hp | refine List.mem_cons_of_mem _ ?_))) I₃ (fun _ z => by rw [dD] at z; cases z)) l1 dD mo hi hr hz ?_
  intro h₄ tk₄ oD₄ d F₄ N₄ dD₄ ld _
  clear F₃ N₃
  have hbs := ba_size octs
  have hbi := ba_ints hr
  generalize byteArr octs = b at hbs hbi N₄
  -- 10
  show wpP _ _ (execs (onceBody.drop 10) (onceEnv L)) Q _ _
  refine wpP_of_any (cutA 10 1 ?_)
  refine segD (mean := mean) (s := { s with heap := h₄, toks := tk₄ }) B₃ F₄ X₃ XB N₄ P₃ TB C₃ CB I₃ hc₃ ld l1 l2 dF₁ dD₄ dP dN hk0 hk1 mw mo hi hz hbs hbi hp0 hp1 (fun g' h' tk ps' codes' m' Tn F' N' I' hc' => hT g' h' tk ps' codes' m' (T₃.trans Tn) F' N' I' hc') ?_
  intro hpk h₅ tk₅ F₅ N₅
  clear F₄ N₄
  -- 11
  show wpAny _ _ (execs (onceBody.drop 11) (onceEnv L)) Q _ _
  refine cutA 11 1 ?_
  refine segE (mean := mean) (s := { s with heap := h₅, toks := tk₅ }) B₃ F₅ X₃ XB N₅ P₃ TB C₃ CB I₃ hc₃ ld l1 l2 dF₁ dD₄ dP dN hk0 hk1 mw mo mk mf hfb hi hz hbs hbi hp0 hpk (fun g' h' tk ps' codes' m' Tn F' N' I' hc' => hT g' h' tk ps' codes' m' (T₃.trans Tn) F' N' I' hc') ?_
  intro hnn h₆ tk₆ F₆ N₆
  clear F₅ N₅
  -- 12
  show wpAny _ _ (execs (onceBody.drop 12) (onceEnv L)) Q _ _
  refine cutA 12 1 ?_
  refine segF (mean := mean) (s := { s with heap := h₆, toks := tk₆ }) B₃ F₆ X₃ XB N₆ P₃ TB C₃ I₃ hc₃ ld l1 l2 dF₁ dD₄ dP dN hk0 hk1 hnn hz hbs hp0 hpk ?_
  intro h₇ tk₇ ps₇ codes₇ F₇ N₇ I₇ hc₇
  clear F₆ N₆ I₃ hc₃
  -- 13 14
  show wpAny _ _ (execs (onceBody.drop 13) (onceEnv L)) Q _ _
  refine cutA 13 2 ?_
  refine segG1 (mean := mean) (tw := tw) (W := kW kind) (s := { s with heap := h₇, toks := tk₇ }) B₃ F₇ X₃ N₇ P₃ dP dN mv mo hi hz hp0 hp1 ?_
  intro h₈ tk₈ D ws c m₈ F₈ N₈ iw aD md ⟨tr, mr⟩ e1 e2 e3
  clear F₇ N₇
  have kw0 : 0 ≤ kW kind := kW_lo hk0 hk1
  have kw1 : kW kind ≤ 8 := kW_hi hk0 hk1
  have hzx : (octs.take place.toNat).length ≤ 28 := by rw [List.length_take]; omega
  -- 15
  show wpAny _ _ (execs (onceBody.drop 15) (onceEnv L)) Q _ _
  refine cutA 15 1 ?_
  refine segG2 (mean := mean) (s := { s with heap := h₈, toks := tk₈ }) B₃ F₈ X₃ N₈ P₃ aD iw hzx mr md (e1.trans mw) kw0 kw1 ?_
  intro h₉ tk₉ ws' c' m₉ F₉ N₉ iw' md' f1 f2 f3
  clear F₈ N₈
  have hb2 : (putAt kind b place n).size = octs.length := put_size.trans hbs
  have hb3 : bInts (putAt kind b place n) = (octs.take place.toNat ++ digs (kW kind).toNat (if n < 0 then n + 256 ^ (kW kind).toNat else n)) ++ octs.drop (place + kW kind).toNat := by
    rw [put_ints hk0 hk1 hp0 (by omega), dig_ints hk0 hk1 hnn, hbi]
  have hat := put_at (n := n) hk0 hk1 hp0 (show place + kW kind ≤ b.size by omega)
  generalize putAt kind b place n = b2 at N₉ hb2 hb3 hat
  -- 16
  show wpAny _ _ (execs (onceBody.drop 16) (onceEnv L)) Q _ _
  refine cutA 16 1 ?_
  refine segH1 (mean := mean) (s := { s with heap := h₉, toks := tk₉ }) B₃ F₉ X₃ N₉ P₃ dD₄ dP md' (f1.trans (e1.trans mw)) ((f2.trans e2).trans mo) hi iw' hz (by rw [List.length_append, digs_len]; omega) (by omega) hp0 kw0 hpk hb3 ?_
  intro h₀ tk₀ F₀ N₀
  clear F₉ N₉
  -- 17 18
  show wpAny _ _ (execs (onceBody.drop 17) (onceEnv L)) Q _ _
  have last : ∀ h' tk m', Fr g₃ L h' m' → News g₃ L h' ((d, baObj b2) :: (L + 1 + 1 + 1 + 1, oF₁) :: (L + 1 + 1 + 1, oD₄) :: (L + 1 + 1, oP) :: (L + 1, oN) :: (lo, listOf vs.toArray nn) :: (257, tabObj ps₇) :: codes₇) → Q (.ret (.bool true)) {s with heap := h', toks := tk} := fun h' tk m' F' N' =>
    hT g₃ h' tk ps₇ codes₇ m' T₃ F' (fun p hp => N' p (by (repeat (first | exact hp | refine List.mem_cons_of_mem _ ?_)))) I₇ hc₇
  have mk' := (f3.trans e3).trans mk
  by_cases hk : kind = 0
  · subst hk
    exact segH2z (mean := mean) (s := { s with heap := h₀, toks := tk₀ }) B₃ F₀ X₃ (fun p hp => N₀ p (List.mem_cons_of_mem _ hp)) P₃ dF₁ dD₄ dP dN hnn mk' (by omega) hp0 (by omega) ((congrArg (fun x => Builtin.Struct.natOf false x != 0) hat).trans (dig_back0 hnn)) last
  · exact segH2 (mean := mean) (s := { s with heap := h₀, toks := tk₀ }) B₃ F₀ X₃ (fun p hp => N₀ p (List.mem_cons_of_mem _ hp)) P₃ dF₁ dD₄ dP dN (by omega) hk1 mk' (by omega) hp0 (by omega) ((congrArg (fun x => valOf (kC kind) (kW kind).toNat (Builtin.Struct.natOf false x)) hat).trans (dig_back hk0 hk1 hk hnn)) last
end Mine
end
section
open PySem PySem.W PyProof.Rows PySem.Calls
set_option maxRecDepth 100000
namespace Mine
open PySem.W.KBw (bInts)

theorem in_get {K : Frag} {h : Heap} {a : Addr} {o : Obj} (X : K.In h) (e : K.lookup a = some o) : h.get? a = some o := X a o e
set_option maxHeartbeats 4000000 in
theorem once_call {w : World} {env : Env} {L : Addr} {base h₀ : Heap} {m mg mb : Str → Option Value} {p : Program} {loose : List Str} {mean : ExcName → Option Value}
    {s : Shared} {lo : Addr} {vs : List Value} {octs : List Int} {nn : Nat} {ps : Array Value} {kind n place : Int} {t1 tn tp : Tok} {codes : List (Addr × Obj)} {Q : Value → Shared → Prop} {E : Value → Shared → Prop}
    (B : Below callerA base [] h₀) (F : Fr h₀ L s.heap m) (XB : (hd.heap_39 w.params).In base)
    (N : News h₀ L s.heap ((lo, listOf vs.toArray nn) :: (257, tabObj ps) :: codes))
    (TB : Top p loose mean mg mb base) (CB : CodeHd base 261 257) (I : LamInv ps codes "_law_once.<locals>.<lambda>") (hcodes : ∀ p ∈ codes, p.1 ≠ 257)
    (hf : env.frame = some L) (hke : env.scope.kind = .function) (l2 : @Ne Nat lo 257)
    (hk0 : 0 ≤ kind) (hk1 : kind < 12) (hi : IntsAre vs octs) (hr : ∀ x ∈ octs, 0 ≤ x ∧ x < 256) (hz : octs.length ≤ 28) (hp0 : 0 ≤ place) (hp1 : place ≤ octs.length)
    (hn0 : -1329227995784915872903807060280344576 ≤ n) (hn1 : n ≤ 1329227995784915872903807060280344576)
    (hQ : ∀ h' tk ps' codes', Fr h₀ L h' m → News h₀ L h' ((lo, listOf vs.toArray nn) :: (257, tabObj ps') :: codes') → LamInv ps' codes' "_law_once.<locals>.<lambda>" → (∀ p ∈ codes', p.1 ≠ 257) →
      (∀ b o, s.heap.get? b = some o → b ≠ L → b ≠ lo → b ≠ 257 → (∀ p ∈ codes, p.1 ≠ b) → h'.get? b = some o ∧ ∀ p ∈ codes', p.1 ≠ b) → Q (.bool true) {s with heap := h', toks := tk}) :
    wpP (model lawProg w) (callerA.deeper env) (PySem.call (.ref 262) [.ref lo, .int kind t1, .int n tn, .int place tp]) Q E s := by
  have X₀ : (hd.heap_39 w.params).In h₀ := XB.keeps B.stays
  have T := TB.keeps B.stays
  refine wpP_call ?_
  refine' codeP_raw B F N T.nolimit rfl hf hke (in_get (X₀.keeps F.keep) ?ko) ?kd (codeRec_of (X₀.keeps F.keep) ?kc) ?kr (BindsTo.of_eq ?kb) (kindsX ?kk) ?kn ?_ ?c1 ?c2 ?c3
  case ko => k_is
  case kd => exact rfl
  case kc => k_is
  case kr => k_room
  case kb => exact rfl
  case kk => exact rfl
  case kn => decide +kernel
  case c1 => exact rfl
  case c2 => exact rfl
  case c3 => exact rfl
  intro g L' h₁ tk cells FG F' N' Y BG st lN hg
  (have hY := CellsAre.four Y; obtain ⟨o1, o2, o3, o4, hE, d1', d2', d3', d4'⟩ := hY; subst hE; clear Y)
  simp only [List.cons_append, List.nil_append] at N'
  have lL : @LT.lt Nat _ lo L' ∧ @LT.lt Nat _ 257 L' := ⟨lN (lo, listOf vs.toArray nn) List.mem_cons_self, lN (257, tabObj ps) (List.mem_cons_of_mem _ List.mem_cons_self)⟩
  have hfr : ∀ b ∈ framesOf [env], b = L := fun b hb => by
    rcases in_frames hb with z | z
    · exact Option.some.inj (z.symm.trans hf)
    · exact absurd z List.not_mem_nil
  refine once_body (mean := mean) (s := { s with heap := h₁, toks := tk }) (t1 := t1) BG F' XB N' TB CB I hcodes (fun p hp => lN p (List.mem_cons_of_mem _ (List.mem_cons_of_mem _ hp))) lL l2 d1' d2' d3' d4' hk0 hk1 rfl rfl hi hr hz hp0 hp1 hn0 hn1 ?_
  intro g' h' tk' ps' codes' m' Tn Fg Ng I' hc'
  obtain ⟨f3, n3⟩ := back_turn FG st Tn hfr Fg Ng
  refine hQ h' tk' ps' codes' f3 n3 I' hc' fun b o e e1 e2 e3 e4 => ?_
  have hgb : g.get? b = some o := hg b o e fun hm => by
    obtain ⟨q, hq, hqe⟩ := List.mem_map.mp hm
    rcases List.mem_cons.mp hq with rfl | hq
    · exact e2 hqe.symm
    · rcases List.mem_cons.mp hq with rfl | hq
      · exact e3 hqe.symm
      · exact e4 q hq hqe
  have hgb' := Tn.other b o hgb fun hm => e1 (hfr b hm)
  refine ⟨Fg.keep _ _ hgb', fun q hq hqe => ?_⟩
  have := (Ng q (List.mem_cons_of_mem _ (List.mem_cons_of_mem _ hq))).2.2
  rw [hqe, hgb'] at this
  cases this
end Mine
end
section
open PySem PySem.W PyProof.Rows PySem.Calls
set_option maxRecDepth 100000
namespace Mine
local macro_rules | `(tactic| walk_at "never 0") => `(tactic| fail)
local macro_rules | `(tactic| walk_at "never 1") => `(tactic| fail)
local macro_rules | `(tactic| walk_at "never 2") => `(tactic| fail)
local macro_rules | `(tactic| walk_at "never 3") => `(tactic| fail)
local macro_rules | `(tactic| walk_at "never 4") => `(tactic| fail)
local macro_rules | `(tactic| walk_at "never 5") => `(tactic| fail)
local macro_rules | `(tactic| walk_at "never 6") => `(tactic| fail)
local macro_rules | `(tactic| walk_at "never 7") => `(tactic| fail)
local macro_rules | `(tactic| walk_at "never 8") => `(tactic| fail)
local macro_rules | `(tactic| walk_at "never 9") => `(tactic| fail)
local macro_rules | `(tactic| walk_at "never 10") => `(tactic| fail)
local macro_rules | `(tactic| walk_at "never 11") => `(tactic| fail)
local macro_rules | `(tactic| walk_at "never 12") => `(tactic| fail)
local macro_rules | `(tactic| walk_at "never 13") => `(tactic| fail)
local macro_rules | `(tactic| walk_at "never 14") => `(tactic| fail)
local macro_rules | `(tactic| walk_at "never 15") => `(tactic| fail)
theorem fresh_KaH : True := by
  w_top off
  trivial
open PySem.W.KBw (bInts)
def lawBody : List Stmt := match lawProg.main.body[33]? with | some (Stmt.FunctionDef _ _ b _ _ _ _ _ _ _) => b | _ => []
def lawScope : Scope := match lawProg.main.body[33]? with | some (Stmt.FunctionDef _ _ _ _ _ _ sc _ _ _) => sc | _ => default
abbrev lawEnv (L fa : Addr) (cd : Value) : Env := envOf "law" lawScope L fa cd

theorem drop_mid {g h : Heap} {L : Addr} {a b : Addr × Obj} {r : List (Addr × Obj)} (N : News g L h (a :: b :: r)) : News g L h (a :: r) := fun p hp => by
  rcases List.mem_cons.mp hp with rfl | hp
  · exact N _ List.mem_cons_self
  · exact N p (List.mem_cons_of_mem _ (List.mem_cons_of_mem _ hp))
local macro_rules | `(tactic| walk_at "eval Name") => `(tactic| (k_here; k_dflt (refine' ld ?ldf ?ldm ?_; (case ldf => k_asm); (case ldm => assumption); k_whole)))
set_option maxHeartbeats 4000000 in
theorem segL0 {w : World} {L fa : Addr} {cd : Value} {base : Heap} {m mg mb : Str → Option Value} {p : Program} {loose : List Str} {mean : ExcName → Option Value}
    {s : Shared} {ls : Addr} {items : List Value} {ns : List Int} {Q : Flow → Shared → Prop}
    (B : Below callerA base [] base) (F : Fr base L s.heap m) (X₀ : (hd.heap_39 w.params).In base)
    (N : News base L s.heap [(257, tabObj #[])])
    (T : Top p loose mean mg mb base) (C : CodeHd base 261 257) (l1 : @LT.lt Nat _ 257 L) (hl : base.IsList ls items.toArray) (hi : IntsAre items ns) (hz : ns.length ≤ 63) (hms : m "script" = some (.ref ls))
    (hQ : ∀ h' tk m' lo ys c, Fr base L h' m' → News base L h' [(lo, listOf (List.toArray ys) c), (257, tabObj #[])] → IntsAre ys ((ns.take 20).map fun k' => k'.fmod 256) → @Ne Nat lo 257 → m' "octets" = some (.ref lo) → m' "script" = m "script" → Q .next {s with heap := h', toks := tk}) :
    wpAny (model lawProg w) (callerA.deeper (lawEnv L fa cd)) (execs (lawBody.take 1) (lawEnv L fa cd)) Q (fun _ _ => False) s := by
  show wpAny _ (Around.deeper _ (envOf _ (Scope.mk _ _ _ _ _) _ _ _)) (execs [_] (envOf _ (Scope.mk _ _ _ _ _) _ _ _)) _ _ _
  k_steps
  rename Fr base L _ _ => kF; rename News base L _ _ => kN; rename IntsAre _ (List.map _ _) => kI; rename _ ∧ _ => kL
  exact hQ _ _ _ _ _ _ kF (drop_mid kN) kI (Ne.symm kL.2) rfl rfl
end Mine
end
section
open PySem PySem.W PyProof.Rows PySem.Calls
set_option maxRecDepth 100000
namespace Mine
theorem fresh_KaI : True := by
  w_top off
  trivial
open PySem.W.KBw (bInts)
def loopBody : List Stmt := match lawBody[1]? with | some (Stmt.For _ _ b _ _) => b | _ => []

local macro_rules | `(tactic| k_all) => `(tactic| with_reducible assumption)
local macro_rules | `(tactic| walk_at "eval Name") => `(tactic| (k_here; k_dflt (refine' ld ?ldf ?ldm ?_; (case ldf => k_asm); (case ldm => assumption); k_whole)))
local macro_rules | `(tactic| walk_at "subscriptTail") => `(tactic| (k_here; (with_reducible show wpAny _ _ (subscriptTail _ _ (Value.ref _) (Value.int _ _)) _ _ _); (with_reducible rename (∀ k : Int, k < 12 → 0 ≤ k → ∃ D t1 t2, _) => hv'); (obtain ⟨D', t1', t2', e1', e2'⟩ := hv' _ (by assumption) (by assumption)); (with_unfolding_all refine' item_list ?k1 ?k2 ?k3 e1' ?_ ?k6 ?k7; (case k1 => assumption); (case k2 => assumption); (case k3 => omega); (case k6 => with_unfolding_all rfl); (case k7 => intro _; with_unfolding_all rfl); k_whole)))
local macro_rules | `(tactic| walk_at "call ref") => `(tactic| (k_here; (k_dflt ((show wpAny _ _ (PySem.call (Value.ref 248) [] []) _ _ _); refine' widths_call ?B ?F ?X ?N ?T ?kA ?kF ?kK ?kd ?_; (case kA => exact rfl); (case kF => exact rfl); (case kK => exact rfl); (case B => k_asm); (case F => k_asm); (case X => k_asm); (case N => k_asm); (case T => k_asm); (case kd => k_room))); intro l' h' tk' vs' F' N' hl' hv'))

set_option maxHeartbeats 4000000 in
theorem segL1 {w : World} {L fa : Addr} {cd : Value} {base : Heap} {m mg mb : Str → Option Value} {p : Program} {loose : List Str} {mean : ExcName → Option Value}
    {s : Shared} {ls lo : Addr} {items ws : List Value} {ns octs : List Int} {c : Nat} {k : Int} {tk : Tok} {rest : List (Addr × Obj)} {Q : Flow → Shared → Prop} {E : Value → Shared → Prop}
    (B : Below callerA base [] base) (F : Fr base L s.heap m) (X₀ : (hd.heap_39 w.params).In base)
    (N : News base L s.heap ((lo, listOf ws.toArray c) :: rest))
    (T : Top p loose mean mg mb base) (hl : base.IsList ls items.toArray) (hi : IntsAre items ns) (hz : ns.length ≤ 63) (hms : m "script" = some (.ref ls)) (hmo : m "octets" = some (.ref lo)) (hiw : IntsAre ws octs) (hzo : octs.length ≤ 20)
    (hmk : m "k" = some (.int k tk)) (hk0 : 0 ≤ k) (hk1 : k < ns.length)
    (hQ : ∀ h' tk m' kd pl nu t1 t2 t3, Fr base L h' m' → News base L h' ((lo, listOf ws.toArray c) :: rest) → m' "kind" = some (.int kd t1) → (0 ≤ kd ∧ kd < 12) → m' "place" = some (.int pl t2) → (0 ≤ pl ∧ pl ≤ octs.length) → m' "number" = some (.int nu t3) → (0 ≤ nu ∧ nu < 1329227995784915872903807060280344576) →
      m' "script" = m "script" → m' "octets" = m "octets" → Q .next {s with heap := h', toks := tk}) :
    wpAny (model lawProg w) (callerA.deeper (lawEnv L fa cd)) (execs (loopBody.take 3) (lawEnv L fa cd)) Q E s := by
  show wpAny _ (Around.deeper _ (envOf _ (Scope.mk _ _ _ _ _) _ _ _)) (execs [_, _, _] (envOf _ (Scope.mk _ _ _ _ _) _ _ _)) _ _ _
  k_steps
  all_goals
    rename Fr base L _ _ => kF; rename News base L _ _ => kN
    refine hQ _ _ _ _ _ _ _ _ _ kF kN rfl ⟨Int.fmod_nonneg_of_pos _ (by decide), Int.fmod_lt_of_pos _ (by decide)⟩ rfl ⟨Int.fmod_nonneg_of_pos _ (by omega), ?_⟩ rfl ⟨Int.fmod_nonneg_of_pos _ (by decide), Int.fmod_lt_of_pos _ (by decide)⟩ rfl rfl
    exact Int.lt_add_one_iff.mp (Int.fmod_lt_of_pos _ (by omega))
end Mine
end
section
open PySem PySem.W PyProof.Rows PySem.Calls
set_option maxRecDepth 100000
namespace Mine
local macro_rules | `(tactic| walk_at "never 0") => `(tactic| fail)
local macro_rules | `(tactic| walk_at "never 1") => `(tactic| fail)
local macro_rules | `(tactic| walk_at "never 2") => `(tactic| fail)
local macro_rules | `(tactic| walk_at "never 3") => `(tactic| fail)
local macro_rules | `(tactic| walk_at "never 4") => `(tactic| fail)
local macro_rules | `(tactic| walk_at "never 5") => `(tactic| fail)
local macro_rules | `(tactic| walk_at "never 6") => `(tactic| fail)
local macro_rules | `(tactic| walk_at "never 7") => `(tactic| fail)
local macro_rules | `(tactic| walk_at "never 8") => `(tactic| fail)
local macro_rules | `(tactic| walk_at "never 9") => `(tactic| fail)
local macro_rules | `(tactic| walk_at "never 10") => `(tactic| fail)
local macro_rules | `(tactic| walk_at "never 11") => `(tactic| fail)
local macro_rules | `(tactic| walk_at "never 12") => `(tactic| fail)
local macro_rules | `(tactic| walk_at "never 13") => `(tactic| fail)
local macro_rules | `(tactic| walk_at "never 14") => `(tactic| fail)
local macro_rules | `(tactic| walk_at "never 15") => `(tactic| fail)
theorem fresh_KaJ : True := by
  w_top off
  trivial
open PySem.W.KBw (bInts)

local macro_rules | `(tactic| k_all) => `(tactic| with_reducible assumption)
local macro_rules | `(tactic| walk_at "eval Name") => `(tactic| (k_here; k_dflt (refine' ld ?ldf ?ldm ?_; (case ldf => k_asm); (case ldm => assumption); k_whole)))
local macro_rules | `(tactic| walk_at "subscriptTail") => `(tactic| (k_here; (with_reducible show wpAny _ _ (subscriptTail _ _ (Value.ref _) (Value.int _ _)) _ _ _); (with_reducible rename (∀ k : Int, k < 12 → 0 ≤ k → ∃ D t1 t2, _) => hv'); (obtain ⟨D', t1', t2', e1', e2'⟩ := hv' _ (by assumption) (by assumption)); (with_unfolding_all refine' item_list ?k1 ?k2 ?k3 e1' ?_ ?k6 ?k7; (case k1 => assumption); (case k2 => assumption); (case k3 => omega); (case k6 => with_unfolding_all rfl); (case k7 => intro _; with_unfolding_all rfl); k_whole)))
local macro_rules | `(tactic| walk_at "call ref") => `(tactic| (k_here; (k_dflt ((show wpAny _ _ (PySem.call (Value.ref 248) [] []) _ _ _); refine' widths_call ?B ?F ?X ?N ?T ?kA ?kF ?kK ?kd ?_; (case kA => exact rfl); (case kF => exact rfl); (case kK => exact rfl); (case B => k_asm); (case F => k_asm); (case X => k_asm); (case N => k_asm); (case T => k_asm); (case kd => k_room))); intro l' h' tk' vs' F' N' hl' hv'))

theorem menu_bound {q H : Int} (q0 : 0 ≤ q) (q1 : q < 166153499473114484112975882535043072) (H0 : 1 ≤ H) (H1 : H ≤ 9223372036854775808) (i : Nat) :
    -1329227995784915872903807060280344576 ≤ [q.fmod H, 0 - 1 - q.fmod H, H - 1, H, 0 - H, 0 - H - 1, 2 * H - 1 + q.fmod 3, q].getD i 0 ∧ [q.fmod H, 0 - 1 - q.fmod H, H - 1, H, 0 - H, 0 - H - 1, 2 * H - 1 + q.fmod 3, q].getD i 0 ≤ 1329227995784915872903807060280344576 := by
  have a := Int.fmod_nonneg_of_pos q (show 0 < H by omega)
  have b := Int.fmod_lt_of_pos q (show 0 < H by omega)
  have c := Int.fmod_nonneg_of_pos q (show (0 : Int) < 3 by decide)
  have d := Int.fmod_lt_of_pos q (show (0 : Int) < 3 by decide)
  generalize q.fmod H = r at *
  generalize q.fmod 3 = t at *
  match i with
  | 0 | 1 | 2 | 3 | 4 | 5 | 6 | 7 => simp only [List.getD_cons_succ, List.getD_cons_zero]; omega
  | i + 8 => simp only [List.getD_cons_succ, List.getD_nil]; omega
theorem half_bound {W : Int} (h0 : 1 ≤ W) (h1 : W ≤ 8) : 1 ≤ (128 : Int) * 256 ^ (W - 1).toNat ∧ (128 : Int) * 256 ^ (W - 1).toNat ≤ 9223372036854775808 := by
  obtain rfl | rfl | rfl | rfl | rfl | rfl | rfl | rfl : W = 1 ∨ W = 2 ∨ W = 3 ∨ W = 4 ∨ W = 5 ∨ W = 6 ∨ W = 7 ∨ W = 8 := by omega
  all_goals decide
theorem eighth {nu : Int} (h0 : 0 ≤ nu) (h1 : nu < 1329227995784915872903807060280344576) : 0 ≤ nu.fdiv 8 ∧ nu.fdiv 8 < 166153499473114484112975882535043072 := by
  rw [Int.fdiv_eq_ediv_of_nonneg _ (by decide)]; omega
set_option maxHeartbeats 4000000 in
theorem segL2 {w : World} {L fa : Addr} {cd : Value} {base : Heap} {m mg mb : Str → Option Value} {p : Program} {loose : List Str} {mean : ExcName → Option Value}
    {s : Shared} {lo : Addr} {ws : List Value} {c : Nat} {kd nu : Int} {t1 t3 : Tok} {rest : List (Addr × Obj)} {Q : Flow → Shared → Prop} {E : Value → Shared → Prop}
    (B : Below callerA base [] base) (F : Fr base L s.heap m) (X₀ : (hd.heap_39 w.params).In base)
    (N : News base L s.heap ((lo, listOf ws.toArray c) :: rest))
    (T : Top p loose mean mg mb base)
    (hmk : m "kind" = some (.int kd t1)) (hk0 : 0 ≤ kd) (hk1 : kd < 12) (hmn : m "number" = some (.int nu t3)) (hn0 : 0 ≤ nu) (hn1 : nu < 1329227995784915872903807060280344576)
    (hQ : ∀ h' tk m' n tn, Fr base L h' m' → News base L h' ((lo, listOf ws.toArray c) :: rest) → m' "n" = some (.int n tn) → (-1329227995784915872903807060280344576 ≤ n ∧ n ≤ 1329227995784915872903807060280344576) → m' "kind" = m "kind" → m' "place" = m "place" → m' "script" = m "script" → m' "octets" = m "octets" → Q .next {s with heap := h', toks := tk}) :
    wpAny (model lawProg w) (callerA.deeper (lawEnv L fa cd)) (execs ((loopBody.drop 3).take 5) (lawEnv L fa cd)) Q E s := by
  show wpAny _ (Around.deeper _ (envOf _ (Scope.mk _ _ _ _ _) _ _ _)) (execs [_, _, _, _, _] (envOf _ (Scope.mk _ _ _ _ _) _ _ _)) _ _ _
  have kw0 : 1 ≤ kW kd := by rcases kinds hk0 hk1 with rfl | rfl | rfl | rfl | rfl | rfl | rfl | rfl | rfl | rfl | rfl | rfl <;> decide
  have kw1 : kW kd ≤ 8 := kW_hi hk0 hk1
  k_steps
  all_goals
    rename Fr base L _ _ => kF; rename News base L _ _ => kN
    refine hQ _ _ _ _ _ kF (fun p hp => kN p (by (repeat (first | exact hp | refine List.mem_cons_of_mem _ ?_)))) rfl ?_ rfl rfl rfl rfl
    first
      | exact menu_bound (eighth hn0 hn1).1 (eighth hn0 hn1).2 (half_bound kw0 kw1).1 (half_bound kw0 kw1).2 _
      | (have a := Int.fmod_nonneg_of_pos nu (show (0 : Int) < 2 by decide); have b := Int.fmod_lt_of_pos nu (show (0 : Int) < 2 by decide); clear hQ kF kN; omega)
end Mine
end
section
open PySem PySem.W PyProof.Rows PySem.Calls
set_option maxRecDepth 100000
namespace Mine
theorem fresh_KaK : True := by
  w_top off
  trivial
open PySem.W.KBw (bInts)

theorem evalArgs_more {M : Model} {A : Around} {E : Value → Shared → Prop} {s : Shared} {f : Value} {e : Expr} {rest : List Expr} {env : Env} {pos : Pos} {Q : Args → Shared → Prop}
    (h : wpAny M A (spliced (backTo pos (starEach (e :: rest) env))) (fun vs s' => Q ⟨vs, []⟩ s') E s) (he : starEach (e :: rest) env = (false, eval e env) :: starEach rest env := by rfl) : wpAny M A (evalArgs f true (backTo pos (starEach (e :: rest) env)) []) Q E s := by
  rw [he] at h ⊢; exact evalArgs_plain h

theorem func_at {K : Frag} {h : Heap} {a : Addr} {o : Obj} {fd : FuncData} (X : K.In h) (e : K.lookup a = some o) (hd : o.data = .func fd) : ∃ o fd, h.get? a = some o ∧ o.data = .func fd := ⟨o, fd, X a o e, hd⟩
local macro_rules | `(tactic| k_all) => `(tactic| with_reducible assumption)
local macro_rules | `(tactic| walk_at "eval Name") => `(tactic| (k_here; k_dflt (refine' ld ?ldf ?ldm ?_; (case ldf => k_asm); (case ldm => assumption); k_whole)))

set_option maxHeartbeats 4000000 in
/-- «if not _law_once(octets, kind, n, place): return False» -/
theorem segL3 {w : World} {L fa : Addr} {cd : Value} {base : Heap} {m mg mb : Str → Option Value} {p : Program} {loose : List Str} {mean : ExcName → Option Value}
    {s : Shared} {lo : Addr} {ws : List Value} {octs : List Int} {c : Nat} {ps : Array Value} {kd pl n : Int} {t1 t2 t3 : Tok} {codes : List (Addr × Obj)} {Q : Flow → Shared → Prop} {E : Value → Shared → Prop}
    (B : Below callerA base [] base) (F : Fr base L s.heap m) (X₀ : (hd.heap_39 w.params).In base)
    (N : News base L s.heap ((lo, listOf ws.toArray c) :: (257, tabObj ps) :: codes))
    (T : Top p loose mean mg mb base) (CB : CodeHd base 261 257) (I : LamInv ps codes "_law_once.<locals>.<lambda>") (hcodes : ∀ p ∈ codes, p.1 ≠ 257) (l2 : @Ne Nat lo 257)
    (hmo : m "octets" = some (.ref lo)) (hmk : m "kind" = some (.int kd t1)) (hmp : m "place" = some (.int pl t2)) (hmn : m "n" = some (.int n t3))
    (hk0 : 0 ≤ kd) (hk1 : kd < 12) (hi : IntsAre ws octs) (hr : ∀ x ∈ octs, 0 ≤ x ∧ x < 256) (hz : octs.length ≤ 28) (hp0 : 0 ≤ pl) (hp1 : pl ≤ octs.length)
    (hn0 : -1329227995784915872903807060280344576 ≤ n) (hn1 : n ≤ 1329227995784915872903807060280344576)
    (hQ : ∀ h' tk ps' codes', Fr base L h' m → News base L h' ((lo, listOf ws.toArray c) :: (257, tabObj ps') :: codes') → LamInv ps' codes' "_law_once.<locals>.<lambda>" → (∀ p ∈ codes', p.1 ≠ 257) →
      (∀ b o, s.heap.get? b = some o → b ≠ L → b ≠ lo → b ≠ 257 → (∀ p ∈ codes, p.1 ≠ b) → h'.get? b = some o ∧ ∀ p ∈ codes', p.1 ≠ b) → Q .next {s with heap := h', toks := tk}) :
    wpP (model lawProg w) (callerA.deeper (lawEnv L fa cd)) (execs (loopBody.drop 8) (lawEnv L fa cd)) Q E s := by
  show wpP _ (Around.deeper _ (envOf _ (Scope.mk _ _ _ _ _) _ _ _)) (execs [.If (.UnaryOp .Not (.Call (.Name _ _) [_, _, _, _] [] _) _) _ [] _] (envOf _ (Scope.mk _ _ _ _ _) _ _ _)) _ _ _
  refine wpP_execs_cons ?_
  refine wpP_if_not rfl ?_
  refine wpP_eval_call ?_
  refine any_stop ?_
  k_steps
  refine ⟨?_⟩
  have hfn : ∃ fo fd, s.heap.get? 262 = some fo ∧ fo.data = .func fd := by
    refine' func_at (X₀.keeps F.keep) ?fe ?fd
    case fe => k_is
    case fd => exact rfl
  obtain ⟨fo, fd, hfo, hfd⟩ := hfn
  refine wpP_callWith_fn (o := fo) (fd := fd) rfl ?_
  refine evalArgs_more ?_
  refine any_stop ?_
  k_steps
  refine ⟨⟨hfo, hfd⟩, ?_⟩
  refine once_call (mean := mean) B F X₀ N T CB I hcodes rfl rfl l2 hk0 hk1 hi hr hz hp0 hp1 hn0 hn1 fun h' tk ps' codes' f1 n1 I' hc' ho => ?_
  refine ⟨rfl, wpP_of_any (wpAny_execs_nil ?_)⟩
  exact wpP_of_any (wpAny_execs_nil (hQ h' tk ps' codes' f1 n1 I' hc' ho))
end Mine
end
section
open PySem PySem.W PyProof.Rows PySem.Calls
set_option maxRecDepth 100000
namespace Mine
local macro_rules | `(tactic| walk_at "never 0") => `(tactic| fail)
local macro_rules | `(tactic| walk_at "never 1") => `(tactic| fail)
local macro_rules | `(tactic| walk_at "never 2") => `(tactic| fail)
local macro_rules | `(tactic| walk_at "never 3") => `(tactic| fail)
local macro_rules | `(tactic| walk_at "never 4") => `(tactic| fail)
local macro_rules | `(tactic| walk_at "never 5") => `(tactic| fail)
local macro_rules | `(tactic| walk_at "never 6") => `(tactic| fail)
local macro_rules | `(tactic| walk_at "never 7") => `(tactic| fail)
local macro_rules | `(tactic| walk_at "never 8") => `(tactic| fail)
local macro_rules | `(tactic| walk_at "never 9") => `(tactic| fail)
local macro_rules | `(tactic| walk_at "never 10") => `(tactic| fail)
local macro_rules | `(tactic| walk_at "never 11") => `(tactic| fail)
local macro_rules | `(tactic| walk_at "never 12") => `(tactic| fail)
local macro_rules | `(tactic| walk_at "never 13") => `(tactic| fail)
local macro_rules | `(tactic| walk_at "never 14") => `(tactic| fail)
local macro_rules | `(tactic| walk_at "never 15") => `(tactic| fail)
theorem fresh_KaL : True := by
  w_top off
  trivial
open PySem.W.KBw (bInts)

local macro_rules | `(tactic| k_all) => `(tactic| with_reducible assumption)
local macro_rules | `(tactic| walk_at "eval Name") => `(tactic| (k_here; k_dflt (refine' ld ?ldf ?ldm ?_; (case ldf => k_asm); (case ldm => assumption); k_whole)))
local macro_rules | `(tactic| walk_at "call type:range") => `(tactic| (k_here; k_dflt (refine of_stop ?_)))

theorem lam_nil {q : Str} : LamInv #[] [] q := ⟨trivial, fun _ _ z => (nomatch z), fun _ z => absurd z List.not_mem_nil⟩
theorem small3 : ∀ n : Fin 25, Builtin.Range.small 0 (n.val : Int) 3 = true ∧ Builtin.Range.rangeSize 0 (n.val : Int) 3 = (((n.val + 2) / 3 : Nat) : Int) := by decide
theorem range3 {b : Int} (h0 : 0 ≤ b) (h1 : b ≤ 24) : Builtin.Range.small 0 b 3 = true ∧ Builtin.Range.rangeSize 0 b 3 = (((b.toNat + 2) / 3 : Nat) : Int) := by
  have := small3 ⟨b.toNat, by omega⟩
  simpa [Int.toNat_of_nonneg h0] using this
set_option maxHeartbeats 4000000 in
theorem segL4 {w : World} {L fa : Addr} {cd : Value} {base : Heap} {m mg mb : Str → Option Value} {p : Program} {loose : List Str} {mean : ExcName → Option Value}
    {s : Shared} {ls lo : Addr} {items ws : List Value} {ns octs : List Int} {c : Nat} {Q : Flow → Shared → Prop} {E : Value → Shared → Prop}
    (B : Below callerA base [] base) (F : Fr base L s.heap m) (X₀ : (hd.heap_39 w.params).In base)
    (N : News base L s.heap [(lo, listOf ws.toArray c), (257, tabObj #[])])
    (T : Top p loose mean mg mb base) (CB : CodeHd base 261 257) (l2 : @Ne Nat lo 257) (hl : base.IsList ls items.toArray) (hi : IntsAre items ns) (hz : ns.length ≤ 63) (hms : m "script" = some (.ref ls))
    (hmo : m "octets" = some (.ref lo)) (hiw : IntsAre ws octs) (hr : ∀ x ∈ octs, 0 ≤ x ∧ x < 256) (hzo : octs.length ≤ 20)
    (hQ : ∀ h' tk m' ps codes, Fr base L h' m' → News base L h' ((lo, listOf ws.toArray c) :: (257, tabObj ps) :: codes) → LamInv ps codes "_law_once.<locals>.<lambda>" → (∀ p ∈ codes, p.1 ≠ 257) → m' "octets" = some (.ref lo) → Q .next {s with heap := h', toks := tk}) :
    wpP (model lawProg w) (callerA.deeper (lawEnv L fa cd)) (execs ((lawBody.drop 1).take 1) (lawEnv L fa cd)) Q E s := by
  show wpP _ (Around.deeper _ (envOf _ (Scope.mk _ _ _ _ _) _ _ _)) (execs [.For (.Name _ _) _ loopBody [] _] (envOf _ (Scope.mk _ _ _ _ _) _ _ _)) _ _ _
  refine wpP_execs_cons ?_
  refine wpP_for_range (fun _ => rfl) ?_
  refine any_stop ?_
  k_steps
  rename_i h1 tk1 F1 N1
  refine ⟨?_⟩
  generalize hb : (if 24 < (ns.length : Int) then (24 : Int) else ns.length) = b
  generalize (if 24 < (ns.length : Int) then s.toks + 1 + 1 + 1 else s.toks + 1 + 1) = tb
  have hb0 : 0 ≤ b := by split at hb <;> omega
  have hb1 : b ≤ 24 := by split at hb <;> omega
  have hb2 : b ≤ ns.length := by split at hb <;> omega
  clear hb
  obtain ⟨hsm, hsz⟩ := range3 hb0 hb1
  refine call_range_3 (by decide) ?_ (Or.inl (PyProof.noPylong_small (by omega)))
  refine ⟨?_⟩
  refine wpAny_pyIter_range (IsRange.new _ _ _ _ _ _ _) hsm ?_
  have F2 := F1.push ({ cls := .type "range", data := .fields #[.int 0 s.toks, .int b tb, .int 3 tk1] } : Obj)
  have N2 := News.pushKeep (o := ({ cls := .type "range", data := .fields #[.int 0 s.toks, .int b tb, .int 3 tk1] } : Obj)) N1
  have F3 := F2.push ({ cls := .type "range_iterator", data := .fields #[rawInt 0, rawInt (Builtin.Range.rangeSize 0 b 3), rawInt 3] } : Obj)
  have N3 := N2.push F2 ({ cls := .type "range_iterator", data := .fields #[rawInt 0, rawInt (Builtin.Range.rangeSize 0 b 3), rawInt 3] } : Obj)
  have hlt : ∀ p ∈ [(lo, listOf ws.toArray c), (257, tabObj #[])], p.1 < (h1.push ({ cls := .type "range", data := .fields #[.int 0 s.toks, .int b tb, .int 3 tk1] } : Obj)).objs.size := fun p hp => Heap.lt_size (N2 p hp).1
  rw [hsz] at F3 N3
  show codeP (model lawProg w) _ (.forLoop _ (.ref (h1.push ({ cls := .type "range", data := .fields #[.int 0 s.toks, .int b tb, .int 3 tk1] } : Obj)).objs.size) _ _ _) _ { s with heap := (h1.push ({ cls := .type "range", data := .fields #[.int 0 s.toks, .int b tb, .int 3 tk1] } : Obj)).push ({ cls := .type "range_iterator", data := .fields #[rawInt 0, rawInt (Builtin.Range.rangeSize 0 b 3), rawInt 3] } : Obj), toks := _ }
  rw [hsz]
  generalize hnn : (b.toNat + 2) / 3 = nt at F3 N3 ⊢
  generalize (h1.push ({ cls := .type "range", data := .fields #[.int 0 s.toks, .int b tb, .int 3 tk1] } : Obj)).push ({ cls := .type "range_iterator", data := .fields #[rawInt 0, rawInt (nt : Int), rawInt 3] } : Obj) = h2 at F3 N3 ⊢
  generalize (h1.push ({ cls := .type "range", data := .fields #[.int 0 s.toks, .int b tb, .int 3 tk1] } : Obj)).objs.size = It at N3 hlt ⊢
  have nI := N3 _ List.mem_cons_self
  have l1 : @LT.lt Nat _ lo It := hlt _ List.mem_cons_self
  have l3 : @LT.lt Nat _ 257 It := hlt _ (List.mem_cons_of_mem _ List.mem_cons_self)
  clear N2 F2 N1 F1 hlt
  refine codeP_forLoop (I := It) (n := nt) (Walks.range rfl It 0 3 nt) (fun i h => ∃ m' ps codes, Fr base L h m' ∧ News base L h ((lo, listOf ws.toArray c) :: (257, tabObj ps) :: codes) ∧ LamInv ps codes "_law_once.<locals>.<lambda>" ∧ (∀ p ∈ codes, p.1 ≠ 257) ∧ (∀ p ∈ codes, p.1 ≠ It) ∧
    m' "script" = some (.ref ls) ∧ m' "octets" = some (.ref lo)) ?_ ?_ ?_ nt 0 _ _ rfl (Nat.zero_le _) ⟨m, #[], [], F3, fun p hp => N3 p (List.mem_cons_of_mem _ hp), lam_nil, fun _ z => absurd z List.not_mem_nil, fun _ z => absurd z List.not_mem_nil, hms, hmo⟩ ?_
  · rintro i h h' ⟨m', ps, codes, f1, n1, I1, c1, c2, r1⟩ hk
    obtain ⟨oL, es, ep, hL, rr⟩ := f1.ns
    refine ⟨m', ps, codes, ⟨⟨oL, es, ep, hk _ _ nI.2.1.symm hL, rr⟩, fun b o e => hk b o (fun q => by rw [q, nI.2.2] at e; cases e) (f1.keep b o e), f1.above⟩, fun p hp => ⟨hk _ _ ?_ (n1 p hp).1, (n1 p hp).2⟩, I1, c1, c2, r1⟩
    rcases List.mem_cons.mp hp with rfl | hp
    · exact Nat.ne_of_lt l1
    · rcases List.mem_cons.mp hp with rfl | hp
      · exact Nat.ne_of_lt l3
      · exact c2 p hp
  · rintro i v h tk hi' ⟨tv, rfl⟩ ⟨m', ps, codes, f1, n1, I1, c1, c2, ms, mo⟩ hst
    have N4 : News base L h ((lo, listOf ws.toArray c) :: (It, ({ cls := .type "range_iterator", data := .fields #[rawInt (0 + ((i + 1 : Nat) : Int) * 3), rawInt ((nt : Int) - ((i + 1 : Nat) : Int)), rawInt 3] } : Obj)) :: (257, tabObj ps) :: codes) := fun p hp => by
      rcases List.mem_cons.mp hp with rfl | hp
      · exact n1 _ List.mem_cons_self
      · rcases List.mem_cons.mp hp with rfl | hp
        · exact ⟨hst, nI.2⟩
        · exact n1 p (List.mem_cons_of_mem _ hp)
    generalize hit : ({ cls := .type "range_iterator", data := .fields #[rawInt (0 + ((i + 1 : Nat) : Int) * 3), rawInt ((nt : Int) - ((i + 1 : Nat) : Int)), rawInt 3] } : Obj) = it at N4
    clear n1
    have hkk : 0 + (i : Int) * 3 < ns.length := by omega
    have hk0 : 0 ≤ 0 + (i : Int) * 3 := by omega
    generalize 0 + (i : Int) * 3 = k at hkk hk0
    refine any_stop ?_
    k_steps
    refine ⟨?_⟩
    rename Fr base L _ _ => F5; rename News base L _ _ => N5
    show wpP _ _ (execs (loopBody.drop 0) (lawEnv L fa cd)) _ _ _
    refine cutP 0 3 (wpP_of_any ?_)
    refine segL1 (mean := mean) B F5 X₀ N5 T hl hi hz ms mo hiw hzo rfl hk0 hkk ?_
    intro h6 tk6 m6 kd pl nu t1 t2 t3 F6 N6 mk ⟨k0, k1⟩ mp ⟨p0, p1⟩ mn ⟨n0, n1⟩ ms6 mo6
    clear F5 N5
    show wpP _ _ (execs (loopBody.drop 3) (lawEnv L fa cd)) _ _ _
    refine cutP 3 5 (wpP_of_any ?_)
    refine segL2 (mean := mean) (s := { s with heap := h6, toks := tk6 }) B F6 X₀ N6 T mk k0 k1 mn n0 n1 ?_
    intro h7 tk7 m7 n tn F7 N7 mn7 ⟨b0, b1⟩ e1 e2 e3 e4
    clear F6 N6
    show wpP _ _ (execs (loopBody.drop 8) (lawEnv L fa cd)) _ _ _
    have N8 : News base L h7 ((lo, listOf ws.toArray c) :: (257, tabObj ps) :: codes) := fun p hp => by
      rcases List.mem_cons.mp hp with rfl | hp
      · exact N7 _ List.mem_cons_self
      · exact N7 p (List.mem_cons_of_mem _ (List.mem_cons_of_mem _ hp))
    have hIt := (N7 (It, it) (List.mem_cons_of_mem _ List.mem_cons_self)).1
    clear N7
    refine segL3 (mean := mean) (s := { s with heap := h7, toks := tk7 }) B F7 X₀ N8 T CB I1 c1 l2 ((e4.trans mo6).trans mo) (e1.trans mk) (e2.trans mp) mn7 k0 k1 hiw hr (by omega) p0 p1 b0 b1 ?_
    intro h9 tk9 ps9 codes9 F9 N9 I9 c9 hoth
    obtain ⟨gI, cI⟩ := hoth It it hIt nI.2.1 (Ne.symm (Nat.ne_of_lt l1)) (Ne.symm (Nat.ne_of_lt l3)) c2
    exact ⟨rfl, h9, tk9, rfl, ⟨m7, ps9, codes9, F9, N9, I9, c9, cI, (e3.trans ms6).trans ms, (e4.trans mo6).trans mo⟩, by show h9.get? It = some _; rw [gI, ← hit]⟩
  · rintro h tk ⟨m', ps, codes, f1, n1, I1, c1, c2, ms, mo⟩
    exact wpP_of_any (wpAny_execs_nil (hQ h tk m' ps codes f1 n1 I1 c1 mo))
  · show h2.get? It = some _
    rw [nI.1]
    simp
end Mine
end
section
open PySem PySem.W PyProof.Rows PySem.Calls
set_option maxRecDepth 100000
namespace Mine
theorem fresh_KaM : True := by
  w_top off
  trivial
open PySem.W.KBw (bInts)

theorem func_look {K : Frag} {a : Addr} {o : Obj} {fd : FuncData} (e : K.lookup a = some o) (hd : o.data = .func fd) : ∃ o fd, K.lookup a = some o ∧ o.data = .func fd := ⟨o, fd, e, hd⟩
local macro_rules | `(tactic| k_all) => `(tactic| with_reducible assumption)
local macro_rules | `(tactic| walk_at "eval Name") => `(tactic| (k_here; k_dflt (refine' ld ?ldf ?ldm ?_; (case ldf => k_asm); (case ldm => assumption); k_whole)))

set_option maxHeartbeats 4000000 in
theorem segL5 {w : World} {L fa : Addr} {cd : Value} {base : Heap} {m mg mb : Str → Option Value} {p : Program} {loose : List Str} {mean : ExcName → Option Value}
    {s : Shared} {lo : Addr} {ws : List Value} {octs : List Int} {c : Nat} {ps : Array Value} {codes : List (Addr × Obj)} {Q : Flow → Shared → Prop} {E : Value → Shared → Prop}
    (B : Below callerA base [] base) (F : Fr base L s.heap m) (X₀ : (hd.heap_39 w.params).In base)
    (N : News base L s.heap ((lo, listOf ws.toArray c) :: (257, tabObj ps) :: codes))
    (T : Top p loose mean mg mb base) (CB : CodeHd base 261 257) (I : LamInv ps codes "_law_once.<locals>.<lambda>") (hcodes : ∀ p ∈ codes, p.1 ≠ 257)
    (hmo : m "octets" = some (.ref lo)) (hiw : IntsAre ws octs) (hr : ∀ x ∈ octs, 0 ≤ x ∧ x < 256) (hzo : octs.length ≤ 20)
    (hQ : ∀ h' tk ps codes, Fr base L h' m → News base L h' ((257, tabObj ps) :: codes) → Q (.ret (.bool true)) {s with heap := h', toks := tk}) :
    wpP (model lawProg w) (callerA.deeper (lawEnv L fa cd)) (execs (lawBody.drop 2) (lawEnv L fa cd)) Q E s := by
  show wpP _ (Around.deeper _ (envOf _ (Scope.mk _ _ _ _ _) _ _ _)) (execs [.Return (some (.Call (.Name _ _) [_, _, _, _] [] _)) _] (envOf _ (Scope.mk _ _ _ _ _) _ _ _)) _ _ _
  refine wpP_execs_cons ?_
  refine wpP_return ?_
  refine wpP_eval_call ?_
  refine any_stop ?_
  k_steps
  refine ⟨?_⟩
  have hfn : ∃ fo fd, (hd.heap_39 w.params).lookup 262 = some fo ∧ fo.data = .func fd := by
    refine' func_look ?fe ?fd
    case fe => k_is
    case fd => exact rfl
  obtain ⟨fo, fd, hfo, hfd⟩ := hfn
  refine wpP_callWith_fn (o := fo) (fd := fd) rfl ?_
  refine evalArgs_more ?_
  refine any_stop ?_
  k_steps
  rename_i l' h1 la D ws2 h2 F2 N2 i2 lb
  refine ⟨⟨(X₀.keeps F2.keep) _ _ hfo, hfd⟩, ?_⟩
  have hl8 : (octs ++ [1, 2, 3, 4, 5, 6, 7, 8]).length = octs.length + 8 := by rw [List.length_append]; rfl
  have hr8 : ∀ x ∈ octs ++ [1, 2, 3, 4, 5, 6, 7, 8], 0 ≤ x ∧ x < 256 := fun x hx => by
    rcases List.mem_append.mp hx with hx | hx
    · exact hr x hx
    · simp only [List.mem_cons, List.not_mem_nil, or_false] at hx; omega
  refine once_call (mean := mean) (s := ⟨h2, _, _, _, _⟩) B F2 X₀ (vs := ws2) (nn := 0) (ps := ps) (codes := codes) (fun p hp => ?_) T CB I hcodes rfl rfl (Ne.symm (Nat.ne_of_lt lb.2.2.1)) (by decide) (by decide) i2 hr8 (by omega) (by omega) (by omega) (by omega) (by omega) fun h' tk ps' codes' f1 n1 I' hc' ho => ?_
  · rcases List.mem_cons.mp hp with rfl | hp
    · exact N2 _ List.mem_cons_self
    · exact N2 p (List.mem_cons_of_mem _ (List.mem_cons_of_mem _ (List.mem_cons_of_mem _ hp)))
  · exact hQ h' tk ps' codes' f1 fun p hp => n1 p (List.mem_cons_of_mem _ hp)
end Mine
end
open PySem PySem.W PyProof.Rows PySem.Calls
set_option maxRecDepth 100000
namespace Mine
section
variable {prog : Program} {w : World} {A : Around} {s : Shared}
theorem codeP_def {R : Result → Shared → Prop} {a : Addr} {o : Obj} {fd : FuncData} {body : List Stmt} {args : Args} {binds : List (Str × Value)}
    (hroom : A.depth < recursionLimit) (ho : s.heap.get? a = some o) (hdata : o.data = .func fd) (hlim : s.heap.NoLimit) (hcd : s.heap.CodeRec fd.code fd.qualname)
    (hbody : fd.body = .stmts body) (hbind : BindsTo s fd args binds)
    (hcell : ∀ x ∈ fd.scope.names, x.2 ≠ .cell) (hloc : ∀ x ∈ binds, fd.scope.names.lookup x.1 = some .local)
    (h : ∀ h₁, h₁.Ns s.heap.objs.size (fun x => binds.reverse.lookup x) → (∀ b o, s.heap.get? b = some o → h₁.get? b = some o) →
      wpP (model prog w) (A.deeper (callEnv fd s.heap.objs.size a)) (execs body (callEnv fd s.heap.objs.size a)) (fun f s' => R (.ok (.ret (match f with | .ret v => v | _ => .none))) s') (fun _ _ => False)
        { s with heap := h₁, toks := s.toks + binds.length })
    (hco : fd.scope.isCoroutine = false := by rfl) (hgen : fd.scope.isGenerator = false := by rfl) (hk : fd.scope.kind = .function := by rfl) :
    codeP (model prog w) A (.call (.ref a) args) R s := by
  refine codeP_call_function hroom ho hdata hco hgen hbody hcd (hbind _ _ _ _ ?_)
  exact wpAny_newFunctionEnv hcell hloc (fun h₁ hns hsb => ⟨hlim.fresh _ hsb, codeP_func (h h₁ hns fun b o e => hsb.extBut b o (Nat.ne_of_lt (Heap.lt_size e)) (Heap.get?_push_of_some _ e))⟩) hk
end

/-- True is a good answer, where all that stood stands, but for the tables of codes, which have grown -/
theorem good_true {c : ClaimW} {cl : Str → Option Addr} {mean : ExcName → Option Value} {args : List WData} {s₁ s' : Shared} {tabs : List (Addr × Addr)} (hT : TabsAt tabs s₁.heap) (hr : ∀ a x, c.raises a x = false) (hp : c.post args (.bool true) args = true)
    (hk : ∀ b o, (ghostOf s₁.heap tabs).get? b = some o → s'.heap.get? b = some o) (hgr : GrownAll tabs s'.heap) (hos : s'.os = s₁.os) (hg : s'.gens = #[]) : GoodWG c cl mean args s₁ (.ok (.ret (.bool true))) s' := by
  refine ⟨.inl ⟨.bool true, .bool true, [], rfl, hr args, .bool true, hp, fun _ => ⟨List.nodup_nil, fun _ z => absurd z List.not_mem_nil⟩⟩, ⟨fun b o e => ?_, fun b o e => ?_⟩, hos, .of_eq hg⟩
  all_goals by_cases hb : b ∈ tabs.map (·.2)
  · obtain ⟨q, hq, rfl⟩ := List.mem_map.mp hb
    have e2 := (hT q hq).2
    rw [e] at e2
    obtain rfl := Option.some.inj e2
    obtain ⟨ps, hps⟩ := hgr.get q hq
    exact .inr (.inl ⟨((hT q hq).1.tab (hT q hq).2).isCodeTable, rfl, #[], ps, rfl, by rw [Array.empty_append]; exact hps⟩)
  · exact .inl (hk b o (ghost_ne e hb))
  · obtain ⟨q, hq, rfl⟩ := List.mem_map.mp hb
    obtain ⟨ps, hps⟩ := hgr.get q hq
    exact ⟨_, hps⟩
  · exact ⟨o, hk b o (ghost_ne e hb)⟩

theorem law_nocell : ∀ x ∈ lawScope.names, x.2 ≠ .cell := by decide +kernel

theorem law_body {w : World} {L fa : Addr} {cd : Value} {base : Heap} {m mg mb : Str → Option Value} {p : Program} {loose : List Str} {mean : ExcName → Option Value}
    {s : Shared} {ls : Addr} {items : List Value} {ns : List Int} {Q : Flow → Shared → Prop}
    (B : Below callerA base [] base) (F : Fr base L s.heap m) (X₀ : (hd.heap_39 w.params).In base)
    (N : News base L s.heap [(257, tabObj #[])])
    (T : Top p loose mean mg mb base) (C : CodeHd base 261 257) (l1 : @LT.lt Nat _ 257 L) (hl : base.IsList ls items.toArray) (hi : IntsAre items ns) (hz : ns.length ≤ 63) (hms : m "script" = some (.ref ls))
    (hQ : ∀ h' tk m' ps codes, Fr base L h' m' → News base L h' ((257, tabObj ps) :: codes) → Q (.ret (.bool true)) {s with heap := h', toks := tk}) :
    wpP (model lawProg w) (callerA.deeper (lawEnv L fa cd)) (execs lawBody (lawEnv L fa cd)) Q (fun _ _ => False) s := by
  show wpP _ _ (execs (lawBody.drop 0) (lawEnv L fa cd)) _ _ _
  refine cutP 0 1 (wpP_of_any ?_)
  refine segL0 (mean := mean) B F X₀ N T C l1 hl hi hz hms ?_
  intro h₁ tk₁ m₁ lo ys c F₁ N₁ I₁ n₁ mo ms
  have hr : ∀ x ∈ (ns.take 20).map (fun k' => k'.fmod 256), 0 ≤ x ∧ x < 256 := fun x hx => by
    obtain ⟨y, _, rfl⟩ := List.mem_map.mp hx
    exact ⟨Int.fmod_nonneg_of_pos _ (by decide), Int.fmod_lt_of_pos _ (by decide)⟩
  have hzo : ((ns.take 20).map fun k' => k'.fmod 256).length ≤ 20 := by rw [List.length_map, List.length_take]; omega
  generalize (ns.take 20).map (fun k' => k'.fmod 256) = octs at I₁ hr hzo
  show wpP _ _ (execs (lawBody.drop 1) (lawEnv L fa cd)) _ _ _
  refine cutP 1 1 ?_
  refine segL4 (mean := mean) (s := { s with heap := h₁, toks := tk₁ }) B F₁ X₀ N₁ T C n₁ hl hi hz (ms.trans hms) mo I₁ hr hzo ?_
  intro h₂ tk₂ m₂ ps codes F₂ N₂ I₂ c₂ mo₂
  show wpP _ _ (execs (lawBody.drop 2) (lawEnv L fa cd)) _ _ _
  exact segL5 (mean := mean) (s := { s with heap := h₂, toks := tk₂ }) B F₂ X₀ N₂ T C I₂ c₂ mo₂ I₁ hr hzo fun h' tk ps codes f n => hQ h' tk m₂ ps codes f n
end Mine
set_option maxHeartbeats 8000000 in
theorem PySem.Challenge.cw_ke0005_01_holds : PySem.Challenge.rw_ke0005_01.Holds := by
  refine Mine.hd1 ?_
  k_fill
  intro w s₀ s₁ mg mb G Y fa o pm cd doc dV kV ho hd hcd hD hmg hg args vals as hpre hlay hrd hwl hlo
  have KX := km_in_of Y
  km_tabs Y
  have X := (Ground.X G).1
  have V := (Ground.X G).2
  refine Ground.open G ?_
  intro T B D TE TW
  try (refine guard_noD D (by decide +kernel) ?_; clear D)
  km_lay T hmg ho hd cd
  clear hmg
  wrow_args hpre hlay hrd hwl hlo
  rename s₁.heap.IsList _ _ => hL; rename IntsAre _ _ => hI; rename ¬ ((63 : Int) < _) => hz
  have he := Dflts.none hD rfl
  subst he
  have he := Dflts.noKw hD
  subst he
  have X' := ghost_K hT9 KX (by kernel_rfl)
  have T' := ghost_top hT9 T
  have C' := (ghost_code hT9).1
  have L' := ghost_list hT9 hL
  refine ⟨?_, Mine.good_true hT9 (fun _ _ => rfl) ?hpost (fun b o e => of_hideAll _ e) ⟨⟨#[], hT8 257 (List.Mem.head _)⟩, trivial⟩ rfl hg⟩
  case hpost => kc_post
  refine Mine.wpP_call ?_
  refine Mine.codeP_def (by decide) ho hd T.nolimit hcd rfl (BindsTo.of_eq rfl) Mine.law_nocell (locs rfl) ?_
  intro h₁ hns hkeep
  have F0 : Fr s₁.heap s₁.heap.objs.size h₁ _ := ⟨hns, hkeep, Nat.le_refl _⟩
  have F' := ghost_fr hT9 F0
  have N' := ghost_news hT9 F0 News.nil
  have l1 := ghost_lt hT9 F0 (257, tabObj #[]) (List.Mem.head _)
  refine Mine.law_body (mean := ExcName.means s₀.heap) (s := ⟨h₁, _, _, _, _⟩) (below_caller _) F' X' N' T' C' l1 L' hI (by omega) rfl fun h' tk m' ps codes f n => ?_
  refine Mine.good_true hT9 (fun _ _ => rfl) ?hpost f.keep ⟨⟨ps, (n _ List.mem_cons_self).1⟩, trivial⟩ rfl hg
  case hpost => kc_post
